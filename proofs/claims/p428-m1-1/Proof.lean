import JvmDerived
import JvmDerived.Pilot.@@N@@Statement
import JvmDerived.Pilot.@@N@@Code
set_option linter.unusedVariables false
set_option linter.unusedSimpArgs false
namespace Jvm.RoadKit
open Sem ClassFile Op Lib Jvm.Stand Jvm.Free Jvm.LawKit
section New
variable {p : Program} {l : Launch} {e : Env} {R : Room} {s : State} {m : MethodId} {args : Array Value} {below : List Frame} {meth : Method} {c : Code} {T : State} {locs : List Loc} {cells slots : Nat}
theorem retI (X : Stand p l e R s m args below meth c T locs cells slots) (hx : p.tables.exec = Jvm.exec) {pc : Nat} {Ls : Array Slot} {z : Int32} {rest : List Value} (hret : meth.sig.returnType = some .int) (hd : decode c.code pc = .ok (.ireturn, 1)) {fs : List Frame}
    (hl : ∀ (f : JFrame) (acts : List Action), f.method = m → f.locked = none → f.entered = [] → (doReturn e (T.setTop f) acts (some (.int z))).1 = T.setFrames fs) : Steps p.tables e below (T.setTop (mkF m pc Ls (.int z :: rest))) (T.setFrames fs) := by
  have hm' : T.vm.method? m = some meth := X.method'
  have hn : narrow .int (.int z) = .int z := rfl
  show Steps p.tables e below (T.setTop { method := m, pc := pc, locals := Ls, stack := _ :: rest, locked := none }) _
  jvm_step X.here [X.here.top, hx, hd, hm', hret, hn]
  first | (intro acts; rw [hl _ acts rfl rfl rfl]) | rw [hl _ _ rfl rfl rfl]
  exact Steps.refl _
theorem own_retL (X : Stand p l e R s m args below meth c T locs cells slots) (hx : p.tables.exec = Jvm.exec) {pc : Nat} {Ls : Array Slot} {z : Int64} {rest : List Value} (hret : meth.sig.returnType = some .long) (hd : decode c.code pc = .ok (.lreturn, 1)) {fs : List Frame}
    (hl : ∀ (f : JFrame) (acts : List Action), f.method = m → f.locked = none → f.entered = [] → (doReturn e (T.setTop f) acts (some (.long z))).1 = T.setFrames fs) : Steps p.tables e below (T.setTop (mkF m pc Ls (.long z :: rest))) (T.setFrames fs) := by
  have hm' : T.vm.method? m = some meth := X.method'
  show Steps p.tables e below (T.setTop { method := m, pc := pc, locals := Ls, stack := _ :: rest, locked := none }) _
  jvm_step X.here [X.here.top, hx, hd, hm', hret, narrow]
  first | (intro acts; rw [hl _ acts rfl rfl rfl]) | rw [hl _ _ rfl rfl rfl]
  exact Steps.refl _
theorem own_retD (X : Stand p l e R s m args below meth c T locs cells slots) (hx : p.tables.exec = Jvm.exec) {pc : Nat} {Ls : Array Slot} {z : UInt64} {rest : List Value} (hret : meth.sig.returnType = some .double) (hd : decode c.code pc = .ok (.dreturn, 1)) {fs : List Frame}
    (hl : ∀ (f : JFrame) (acts : List Action), f.method = m → f.locked = none → f.entered = [] → (doReturn e (T.setTop f) acts (some (.double z))).1 = T.setFrames fs) : Steps p.tables e below (T.setTop (mkF m pc Ls (.double z :: rest))) (T.setFrames fs) := by
  have hm' : T.vm.method? m = some meth := X.method'
  show Steps p.tables e below (T.setTop { method := m, pc := pc, locals := Ls, stack := _ :: rest, locked := none }) _
  jvm_step X.here [X.here.top, hx, hd, hm', hret, narrow]
  first | (intro acts; rw [hl _ acts rfl rfl rfl]) | rw [hl _ _ rfl rfl rfl]
  exact Steps.refl _
theorem own_abs (X : Stand p l e R s m args below meth c T locs cells slots) {n0 : Nat} (N : Fr n0 locs) : ∃ LL, Stand p l e R s m args below meth c T LL cells slots ∧ Fr n0 LL := ⟨_, X, N⟩
/-- from A the run ends as K says -/
abbrev own_Fin (p : Program) (e : Env) (below : List Frame) (K : Outcome → State → Prop) (A : State) : Prop := ∃ s₂ o, Steps p.tables e below A s₂ ∧ s₂.status = .running ∧ Ended s₂ below o ∧ K o s₂
theorem own_go {K : Outcome → State → Prop} {A B : State} (h : ∀ t, Steps p.tables e below B t → Steps p.tables e below A t) (k : own_Fin p e below K B) : own_Fin p e below K A := by
  obtain ⟨s₂, o, hs, r⟩ := k
  exact ⟨s₂, o, h _ hs, r⟩
end New
end Jvm.RoadKit

namespace Jvm.RoadKit
open Sem ClassFile Op Lib Jvm.Stand Jvm.Free Jvm.LawKit
/-- an array of known length whose components are what g says -/
def own_Ag {α : Type} (mk : α → Value) (Z : State) (h : Heap) (a : Addr) (ty : FieldType) (n : Int32) (g : Nat → α) : Prop := ∃ c : Cell, Arr Z h a c ty ∧ c.slots.size = n.toNatClampNeg ∧ ¬ n < 0 ∧ ∀ i, i < c.slots.size → c.slots[i]? = some (mk (g i))
section Ag
variable {α : Type} {mk : α → Value} {Z : State} {h h' : Heap} {a b : Addr} {ty : FieldType} {n : Int32} {g : Nat → α} {sl : Nat} {v : Value} {ws : List Addr}
theorem own_Ag.lt (F : own_Ag mk Z h a ty n g) : a < h.size := by obtain ⟨c, A, -⟩ := F; exact A.lt
theorem own_Ag.ext (F : own_Ag mk Z h a ty n g) (E : Ext h h') : own_Ag mk Z h' a ty n g := by obtain ⟨c, A, r⟩ := F; exact ⟨c, A.ext E, r⟩
theorem own_Ag.other (F : own_Ag mk Z h b ty n g) (W : Wr h h' a sl v) (q : b ≠ a) : own_Ag mk Z h' b ty n g := by obtain ⟨c, A, r⟩ := F; exact ⟨c, A.other W q, r⟩
theorem own_Ag.keep (F : own_Ag mk Z h a ty n g) (K : Keep h h' ws) (q : a ∉ ws) : own_Ag mk Z h' a ty n g := by obtain ⟨c, A, r⟩ := F; exact ⟨c, ⟨K.2.1 a c A.1 q, A.2⟩, r⟩
theorem own_Ag.set {x : α} (F : own_Ag mk Z h a ty n g) (W : Wr h h' a sl (mk x)) : own_Ag mk Z h' a ty n (fun i => if i = sl then x else g i) := by
  obtain ⟨c, A, S, q, H⟩ := F
  obtain ⟨cw, w1, w2, w3, w4⟩ := id W
  have hc : cw = c := Option.some.inj (w1.symm.trans A.1)
  subst hc
  have hs : (cw.setSlot sl (mk x)).slots.size = cw.slots.size := by simp [Cell.setSlot]
  refine ⟨cw.setSlot sl (mk x), A.same W, hs.trans S, q, fun i hi => ?_⟩
  by_cases e : i = sl
  · subst e; simp [Cell.setSlot, w3]
  · simp only [if_neg e]
    rw [← H i (hs ▸ hi)]
    exact Array.getElem?_setIfInBounds_ne (Ne.symm e)
theorem own_Ag.setk {x : α} {j : Int32} (F : own_Ag mk Z h a ty n g) (W : Wr h h' a j.toNatClampNeg (mk x)) (k : Nat) (e : j.toNatClampNeg = k) : own_Ag mk Z h' a ty n (fun i => if i = k then x else g i) := by subst e; exact F.set W
theorem own_Ag.get (F : own_Ag mk Z h a ty n g) {j : Int32} (h1 : ¬ j < 0) (h2 : j < n) : ∃ cl : Cell, Arr Z h a cl ty ∧ ¬ (j < 0 ∨ cl.slots.size ≤ j.toNatClampNeg) ∧ cl.slots[j.toNatClampNeg]? = some (mk (g j.toNatClampNeg)) ∧ cl.slots.size = n.toNatClampNeg ∧ ¬ n < 0 := by
  obtain ⟨c, A, S, q, H⟩ := F
  have i := inb_of S ⟨h1, h2⟩
  exact ⟨c, A, i, H _ (Nat.lt_of_not_le fun y => i (Or.inr y)), S, q⟩
theorem own_Ag.len (F : own_Ag mk Z h a ty n g) : ∃ cl : Cell, Arr Z h a cl ty ∧ cl.slots.size = n.toNatClampNeg ∧ ¬ n < 0 := by
  obtain ⟨c, A, S, q, H⟩ := F
  exact ⟨c, A, S, q⟩
theorem own_Ag.new {k : ClassId} {d : α} (F : Arv Z h a k ty n [] (mk d)) : own_Ag mk Z h a ty n (fun _ => d) := by
  obtain ⟨c, A, -, S, q, H, -⟩ := F
  exact ⟨c, A, S, q, fun i hi => by simpa using H i hi⟩
theorem own_Ag.eqv {g' : Nat → α} (F : own_Ag mk Z h a ty n g) (e : ∀ i, i < n.toNatClampNeg → g' i = g i) : own_Ag mk Z h a ty n g' := by
  obtain ⟨c, A, S, q, H⟩ := F
  exact ⟨c, A, S, q, fun i hi => by rw [e i (S ▸ hi)]; exact H i hi⟩
theorem own_Ag.nestat (F : own_Ag mk Z h a ty n g) : ∀ cell : Cell, h[a]? = some cell → cell.vm.isStatics = false := by obtain ⟨c, A, -⟩ := F; exact A.nostat
end Ag
end Jvm.RoadKit

namespace Jvm.Pilot.@@N@@
open Jvm Jvm.ClassFile Sem Op Lib Jvm.Free Jvm.Stand Jvm.LawKit Jvm.RoadKit Bundle Jvm.Pilot.@@N@@.Jvm.D
theorem own_z0 : (0 : Int32).toInt = 0 := by decide
/-- the exact dot product of the first n places -/
def own_dot (ga gb : Nat → Int64) (p q : Nat) : Nat → Int
  | 0 => 0
  | n + 1 => own_dot ga gb p q n + (ga (p + n)).toInt * (gb (q + n)).toInt
def own_sm (g : Nat → Int64) : Prop := ∀ i, -16777216 ≤ (g i).toInt ∧ (g i).toInt ≤ 16777216
theorem own_prod {x y : Int} (hx : -16777216 ≤ x ∧ x ≤ 16777216) (hy : -16777216 ≤ y ∧ y ≤ 16777216) : -281474976710656 ≤ x * y ∧ x * y ≤ 281474976710656 := by
  have h : (x * y).natAbs ≤ 16777216 * 16777216 := by rw [Int.natAbs_mul]; exact Nat.mul_le_mul (by omega) (by omega)
  omega
theorem own_dotb {ga gb : Nat → Int64} (ha : own_sm ga) (hb : own_sm gb) (p q : Nat) : ∀ n : Nat, -(281474976710656 * (n : Int)) ≤ own_dot ga gb p q n ∧ own_dot ga gb p q n ≤ 281474976710656 * (n : Int)
  | 0 => by simp [own_dot]
  | n + 1 => by
    have h := own_dotb ha hb p q n
    have h2 := own_prod (ha (p + n)) (hb (q + n))
    simp only [own_dot]
    omega
theorem own_hi (q : Int64) : -16777216 ≤ ((q >>> ((39 : Int32) &&& 0x3f).toInt64)).toInt ∧ ((q >>> ((39 : Int32) &&& 0x3f).toInt64)).toInt ≤ 16777216 := by
  have h := c_lshr q 39 39 (by decide)
  have r := rng64 q
  omega
theorem own_lo (q : Int64) : -16777216 ≤ (((q <<< ((25 : Int32) &&& 0x3f).toInt64) >>> ((39 : Int32) &&& 0x3f).toInt64)).toInt ∧ (((q <<< ((25 : Int32) &&& 0x3f).toInt64) >>> ((39 : Int32) &&& 0x3f).toInt64)).toInt ≤ 16777216 := by
  have h := c_lshr (q <<< ((25 : Int32) &&& 0x3f).toInt64) 39 39 (by decide)
  have r := rng64 (q <<< ((25 : Int32) &&& 0x3f).toInt64)
  omega
theorem own_f2d {n : Int64} (h : -16777216 ≤ n.toInt ∧ n.toInt ≤ 16777216) : FP.f2d (FP.l2f n) = FP.l2d n := by
  have hn : n.toInt.natAbs ≤ 2 ^ 24 := by omega
  have h0 : FP.Core.fIsNaN (FP.l2f n) = false := by
    rw [← Bool.not_eq_true, FP.Core.fIsNaN_iff]
    exact FP.Core.FInt_ne_nan (FP.Core.l2f_int hn)
  exact (FP.f2d_core h0).trans (FP.Core.f2d_l2f hn)
theorem own_l2d {n : Int64} (h : -9007199254740992 ≤ n.toInt ∧ n.toInt ≤ 9007199254740992) : FP.Core.DInt n.toInt (FP.l2d n) := FP.Core.l2d_int (by omega)
theorem own_d0 {ga gb : Nat → Int64} {p q : Nat} : FP.Core.DInt (own_dot ga gb p q (0 : Int32).toNatClampNeg) (0 : UInt64) := by
  have h := own_l2d (n := 0) (by decide)
  rw [l2d_zero] at h
  exact h
theorem own_cmp {i : Int} {x y : UInt64} (hx : FP.Core.DInt i x) (hy : FP.Core.DInt i y) : cmpValue (FP.dcmp x y) .l = 0 := by
  have h : FP.dcmp x y = some (compare i i) := FP.Core.dcmp_int hx hy
  rw [h, show compare i i = .eq from by simp]
  rfl
theorem own_nn {i : Int} {x : UInt64} (h : FP.Core.DInt i x) : Jvm.Free.Fl.NoNaN64 x := Jvm.Free.Fl.noNaN64_no.mpr ((FP.Core.notNaN_iff x).mpr (FP.Core.DInt_ne_nan h))
theorem own_idx {p i : Int32} {n : Int32} (hp : 0 ≤ p.toInt) (hi : 0 ≤ i.toInt) (h : i < n) (hn : p.toInt + n.toInt ≤ 4) : ¬ (p + i) < 0 ∧ (p + i) < (4 : Int32) ∧ (p + i).toNatClampNeg = p.toNatClampNeg + i.toNatClampNeg := by
  rw [Int32.lt_iff_toInt_lt] at h
  have a := c_iadd p i
  have b := rng32 (p + i)
  have k0 : (0 : Int32).toInt = 0 := by decide
  have k4 : (4 : Int32).toInt = 4 := by decide
  have e : (p + i).toInt = p.toInt + i.toInt := by omega
  have q1 : ¬ p < 0 := by rw [Int32.lt_iff_toInt_lt]; omega
  have q2 : ¬ i < 0 := by rw [Int32.lt_iff_toInt_lt]; omega
  have q3 : ¬ (p + i) < 0 := by rw [Int32.lt_iff_toInt_lt]; omega
  have n1 := nat_of q1
  have n2 := nat_of q2
  have n3 := nat_of q3
  refine ⟨q3, by rw [Int32.lt_iff_toInt_lt]; omega, by omega⟩
theorem d1_0 : decode jdk_29_method_65_code 0 = .ok (.iload_n 0, 1) := by decide +kernel
theorem d1_1 : decode jdk_29_method_65_code 1 = .ok (.iload_n 1, 1) := by decide +kernel
theorem d1_2 : decode jdk_29_method_65_code 2 = .ok (.if_icmp .lt 7, 3) := by decide +kernel
theorem d1_5 : decode jdk_29_method_65_code 5 = .ok (.iload_n 0, 1) := by decide +kernel
theorem d1_6 : decode jdk_29_method_65_code 6 = .ok (.goto 4, 3) := by decide +kernel
theorem d1_9 : decode jdk_29_method_65_code 9 = .ok (.iload_n 1, 1) := by decide +kernel
theorem d1_10 : decode jdk_29_method_65_code 10 = .ok (.ireturn, 1) := by decide +kernel
theorem ef_rm1 (m : MethodId) (x0 : Int32) (x1 : Int32) : entryFrame m #[(.int x0), (.int x1)] 2 = mkF m 0 #[.val (.int x0), .val (.int x1)] [] := by first | (simp [entryFrame, mkF, argsToLocals, Value.category]; done) | rfl
def Q1 (Z : State) (p1 : Int32) (p2 : Int32) (h0 : Heap) (n0 : Nat) (v : Option Value) (h : Heap) (L : List Loc) : Prop := ∃ r : Int32, v = some (.int r) ∧ Fr n0 L ∧ h = h0 ∧ r = (if p1 < p2 then p2 else p1)
set_option maxRecDepth 65536 in
set_option maxHeartbeats 40000000 in
theorem rm1 (l : Launch) (Z : State) (a0 : Array Value) (hw : ∀ d ∈ tables_1, d.before a0 Z = true) (ws : List Jvm.Cond) (p1 : Int32) (p2 : Int32) (h0 : Heap) (n0 : Nat) (Z0 : n0 ≤ h0.size) :
    MetFree l (⟨"java/lang/Math", "max", "(II)I"⟩ : MethodName) (head1 (Jvm.Cond.code (⟨"java/lang/Math", "max", "(II)I"⟩ : MethodName) jdk_29_method_65_code 2 (some .int) :: ws) ({ frames := 0, cells := 0, slots := 0, locals := 0 } : Room)) (fun a U => a = #[(.int p1), (.int p2)] ∧ Z.Warmed39 U.vm ∧ U.heap = h0) (fun _ _ _ _ _ => True) (fun _ U o U' => ∃ v L, o = .returned v ∧ Q1 Z p1 p2 h0 n0 v U'.heap L ∧ FrameEnd U o U' L ({ frames := 0, cells := 0, slots := 0, locals := 0 } : Room).cells ({ frames := 0, cells := 0, slots := 0, locals := 0 } : Room).slots) := by
  refine MetFree.of_bodySF (Jvm.Free.JP.mathPlain rfl (by decide +kernel)) hisR ?_
  intro p e s m args below meth c s₁ Bd hml0 hP hK
  obtain ⟨rfl, hZ, hh⟩ := hP
  have hx := Bd.exec
  have hby := Bd.bytes
  have hml : c.maxLocals = 2 := hml0
  have hown : s.vm.findClass "java/lang/Math" = some m.cls := findClass_of_methodNamed Bd.named
  have hnm := (name_of_methodNamed Bd.named Bd.method).1
  have X0 : Stand p l e ({ frames := 0, cells := 0, slots := 0, locals := 0 } : Room) s m #[(.int p1), (.int p2)] below meth c s₁ [] 0 0 := Stand.of_body Bd
  have e0 : s₁.heap = h0 := by rw [← hh, Bd.state]; rfl
  have N0 := Fr.nil n0
  have pre0 : ∀ t, Steps p.tables e below (s₁.setTop (mkF m 0 #[.val (.int p1), .val (.int p2)] [])) t → Steps p.tables e below (s₁.setTop (entryFrame m #[(.int p1), (.int p2)] 2)) t := fun t k => castTop (ef_rm1 m p1 p2) k
  show own_Fin p e below _ _
  refine own_go pre0 ?_
  refine own_go (B := s₁.setTop (mkF m 2 #[.val (.int p1), .val (.int p2)] [(.int p2), (.int p1)])) (fun t k => ?_) ?_
  · show Steps p.tables e below (s₁.setTop (mkF m 0 #[.val (.int p1), .val (.int p2)] [])) t
    refine XS.iloadN X0.here hx rfl (hb hby d1_0) rfl ?_
    show Steps p.tables e below (s₁.setTop (mkF m 1 #[.val (.int p1), .val (.int p2)] [(.int p1)])) t
    refine XS.iloadN X0.here hx rfl (hb hby d1_1) rfl ?_
    exact k
  by_cases hc2_1 : p1 < p2
  · refine own_go (B := s₁.setTop (mkF m 9 #[.val (.int p1), .val (.int p2)] [])) (fun t k => ?_) ?_
    · show Steps p.tables e below (s₁.setTop (mkF m 2 #[.val (.int p1), .val (.int p2)] [(.int p2), (.int p1)])) t
      refine XS.icmpYes X0.here hx rfl (pc0 := 2) (pc' := 9) rfl (hb hby d1_2) rfl (tlt hc2_1).1 (by decide) (by decide) ?_
      exact k
    refine own_go (B := s₁.setTop (mkF m 10 #[.val (.int p1), .val (.int p2)] [(.int p2)])) (fun t k => ?_) ?_
    · show Steps p.tables e below (s₁.setTop (mkF m 9 #[.val (.int p1), .val (.int p2)] [])) t
      refine XS.iloadN X0.here hx rfl (hb hby d1_9) rfl ?_
      exact k
    obtain ⟨fs, hr, hrun, hended, hW, hsame⟩ := X0.leave (v := some (.int p2)) (fun h => by rw [Bd.returns] at h; cases h)
    refine ⟨_, _, ?_, hrun, hended, _, _, rfl, ?_, ⟨_, rfl⟩, hW, hsame.mono (by decide) (by decide)⟩
    · show Steps p.tables e below (s₁.setTop (mkF m 10 #[.val (.int p1), .val (.int p2)] [(.int p2)])) _
      exact retI X0 hx Bd.returns (hb hby d1_10) hr
    · show Q1 Z p1 p2 h0 n0 _ s₁.heap _
      rw [e0]
      exact ⟨_, rfl, N0, rfl, by rw [if_pos hc2_1]⟩
  · refine own_go (B := s₁.setTop (mkF m 5 #[.val (.int p1), .val (.int p2)] [])) (fun t k => ?_) ?_
    · show Steps p.tables e below (s₁.setTop (mkF m 2 #[.val (.int p1), .val (.int p2)] [(.int p2), (.int p1)])) t
      refine XS.icmpNo X0.here hx rfl (hb hby d1_2) rfl (flt hc2_1).1 ?_
      exact k
    refine own_go (B := s₁.setTop (mkF m 10 #[.val (.int p1), .val (.int p2)] [(.int p1)])) (fun t k => ?_) ?_
    · show Steps p.tables e below (s₁.setTop (mkF m 5 #[.val (.int p1), .val (.int p2)] [])) t
      refine XS.iloadN X0.here hx rfl (hb hby d1_5) rfl ?_
      show Steps p.tables e below (s₁.setTop (mkF m 6 #[.val (.int p1), .val (.int p2)] [(.int p1)])) t
      refine XS.goto X0.here hx rfl (pc0 := 6) (pc' := 10) rfl (hb hby d1_6) (by decide) (by decide) ?_
      exact k
    obtain ⟨fs, hr, hrun, hended, hW, hsame⟩ := X0.leave (v := some (.int p1)) (fun h => by rw [Bd.returns] at h; cases h)
    refine ⟨_, _, ?_, hrun, hended, _, _, rfl, ?_, ⟨_, rfl⟩, hW, hsame.mono (by decide) (by decide)⟩
    · show Steps p.tables e below (s₁.setTop (mkF m 10 #[.val (.int p1), .val (.int p2)] [(.int p1)])) _
      exact retI X0 hx Bd.returns (hb hby d1_10) hr
    · show Q1 Z p1 p2 h0 n0 _ s₁.heap _
      rw [e0]
      exact ⟨_, rfl, N0, rfl, by rw [if_neg hc2_1]⟩
theorem d2_0 : decode method_3_code 0 = .ok (.lload_n 0, 1) := by decide +kernel
theorem d2_1 : decode method_3_code 1 = .ok (.bipush 39, 2) := by decide +kernel
theorem d2_3 : decode method_3_code 3 = .ok (.lshr, 1) := by decide +kernel
theorem d2_4 : decode method_3_code 4 = .ok (.lreturn, 1) := by decide +kernel
theorem pn_rm2 : plainName "com/example/eager_recall/eagerrecall/vectors/ExactSumsDotPinLaw" = true := by first | (simp [plainName, overriddenIn]; done) | decide +kernel
theorem ef_rm2 (m : MethodId) (x0 : Int64) : entryFrame m #[(.long x0)] 2 = mkF m 0 #[.val (.long x0), .second] [] := by first | (simp [entryFrame, mkF, argsToLocals, Value.category]; done) | rfl
def Q2 (Z : State) (q1 : Int64) (h0 : Heap) (n0 : Nat) (v : Option Value) (h : Heap) (L : List Loc) : Prop := v = some (.long (q1 >>> ((39 : Int32) &&& 0x3f).toInt64)) ∧ Fr n0 L ∧ h = h0
set_option maxRecDepth 65536 in
set_option maxHeartbeats 40000000 in
theorem rm2 (l : Launch) (Z : State) (a0 : Array Value) (hw : ∀ d ∈ tables_1, d.before a0 Z = true) (ws : List Jvm.Cond) (q1 : Int64) (h0 : Heap) (n0 : Nat) (Z0 : n0 ≤ h0.size) :
    MetFree l (⟨"com/example/eager_recall/eagerrecall/vectors/ExactSumsDotPinLaw", "hi", "(J)J"⟩ : MethodName) (head1 (Jvm.Cond.code (⟨"com/example/eager_recall/eagerrecall/vectors/ExactSumsDotPinLaw", "hi", "(J)J"⟩ : MethodName) method_3_code 2 (some .long) :: ws) ({ frames := 0, cells := 0, slots := 0, locals := 0 } : Room)) (fun a U => a = #[(.long q1)] ∧ Z.Warmed39 U.vm ∧ U.heap = h0) (fun _ _ _ _ _ => True) (fun _ U o U' => ∃ v L, o = .returned v ∧ Q2 Z q1 h0 n0 v U'.heap L ∧ FrameEnd U o U' L ({ frames := 0, cells := 0, slots := 0, locals := 0 } : Room).cells ({ frames := 0, cells := 0, slots := 0, locals := 0 } : Room).slots) := by
  refine MetFree.of_bodySF (plainFor_of_name pn_rm2) hisR ?_
  intro p e s m args below meth c s₁ Bd hml0 hP hK
  obtain ⟨rfl, hZ, hh⟩ := hP
  have hx := Bd.exec
  have hby := Bd.bytes
  have hml : c.maxLocals = 2 := hml0
  have hown : s.vm.findClass "com/example/eager_recall/eagerrecall/vectors/ExactSumsDotPinLaw" = some m.cls := findClass_of_methodNamed Bd.named
  have hnm := (name_of_methodNamed Bd.named Bd.method).1
  have X0 : Stand p l e ({ frames := 0, cells := 0, slots := 0, locals := 0 } : Room) s m #[(.long q1)] below meth c s₁ [] 0 0 := Stand.of_body Bd
  have e0 : s₁.heap = h0 := by rw [← hh, Bd.state]; rfl
  have N0 := Fr.nil n0
  have pre0 : ∀ t, Steps p.tables e below (s₁.setTop (mkF m 0 #[.val (.long q1), .second] [])) t → Steps p.tables e below (s₁.setTop (entryFrame m #[(.long q1)] 2)) t := fun t k => castTop (ef_rm2 m q1) k
  show own_Fin p e below _ _
  refine own_go pre0 ?_
  refine own_go (B := s₁.setTop (mkF m 4 #[.val (.long q1), .second] [(.long (q1 >>> ((39 : Int32) &&& 0x3f).toInt64))])) (fun t k => ?_) ?_
  · show Steps p.tables e below (s₁.setTop (mkF m 0 #[.val (.long q1), .second] [])) t
    refine XS.lloadN X0.here hx rfl (hb hby d2_0) rfl ?_
    show Steps p.tables e below (s₁.setTop (mkF m 1 #[.val (.long q1), .second] [(.long q1)])) t
    refine XS.bipush X0.here hx rfl (hb hby d2_1) ?_
    show Steps p.tables e below (s₁.setTop (mkF m 3 #[.val (.long q1), .second] [(.int (39 : Int32)), (.long q1)])) t
    refine XS.lshr X0.here hx rfl (hb hby d2_3) rfl ?_
    exact k
  obtain ⟨fs, hr, hrun, hended, hW, hsame⟩ := X0.leave (v := some (.long (q1 >>> ((39 : Int32) &&& 0x3f).toInt64))) (fun h => by rw [Bd.returns] at h; cases h)
  refine ⟨_, _, ?_, hrun, hended, _, _, rfl, ?_, ⟨_, rfl⟩, hW, hsame.mono (by decide) (by decide)⟩
  · show Steps p.tables e below (s₁.setTop (mkF m 4 #[.val (.long q1), .second] [(.long (q1 >>> ((39 : Int32) &&& 0x3f).toInt64))])) _
    exact own_retL X0 hx Bd.returns (hb hby d2_4) hr
  · show Q2 Z q1 h0 n0 _ s₁.heap _
    rw [e0]
    exact ⟨rfl, N0, rfl⟩
theorem d3_0 : decode method_4_code 0 = .ok (.lload_n 0, 1) := by decide +kernel
theorem d3_1 : decode method_4_code 1 = .ok (.bipush 25, 2) := by decide +kernel
theorem d3_3 : decode method_4_code 3 = .ok (.lshl, 1) := by decide +kernel
theorem d3_4 : decode method_4_code 4 = .ok (.bipush 39, 2) := by decide +kernel
theorem d3_6 : decode method_4_code 6 = .ok (.lshr, 1) := by decide +kernel
theorem d3_7 : decode method_4_code 7 = .ok (.lreturn, 1) := by decide +kernel
theorem pn_rm3 : plainName "com/example/eager_recall/eagerrecall/vectors/ExactSumsDotPinLaw" = true := by first | (simp [plainName, overriddenIn]; done) | decide +kernel
theorem ef_rm3 (m : MethodId) (x0 : Int64) : entryFrame m #[(.long x0)] 2 = mkF m 0 #[.val (.long x0), .second] [] := by first | (simp [entryFrame, mkF, argsToLocals, Value.category]; done) | rfl
def Q3 (Z : State) (q1 : Int64) (h0 : Heap) (n0 : Nat) (v : Option Value) (h : Heap) (L : List Loc) : Prop := v = some (.long ((q1 <<< ((25 : Int32) &&& 0x3f).toInt64) >>> ((39 : Int32) &&& 0x3f).toInt64)) ∧ Fr n0 L ∧ h = h0
set_option maxRecDepth 65536 in
set_option maxHeartbeats 40000000 in
theorem rm3 (l : Launch) (Z : State) (a0 : Array Value) (hw : ∀ d ∈ tables_1, d.before a0 Z = true) (ws : List Jvm.Cond) (q1 : Int64) (h0 : Heap) (n0 : Nat) (Z0 : n0 ≤ h0.size) :
    MetFree l (⟨"com/example/eager_recall/eagerrecall/vectors/ExactSumsDotPinLaw", "lo", "(J)J"⟩ : MethodName) (head1 (Jvm.Cond.code (⟨"com/example/eager_recall/eagerrecall/vectors/ExactSumsDotPinLaw", "lo", "(J)J"⟩ : MethodName) method_4_code 2 (some .long) :: ws) ({ frames := 0, cells := 0, slots := 0, locals := 0 } : Room)) (fun a U => a = #[(.long q1)] ∧ Z.Warmed39 U.vm ∧ U.heap = h0) (fun _ _ _ _ _ => True) (fun _ U o U' => ∃ v L, o = .returned v ∧ Q3 Z q1 h0 n0 v U'.heap L ∧ FrameEnd U o U' L ({ frames := 0, cells := 0, slots := 0, locals := 0 } : Room).cells ({ frames := 0, cells := 0, slots := 0, locals := 0 } : Room).slots) := by
  refine MetFree.of_bodySF (plainFor_of_name pn_rm3) hisR ?_
  intro p e s m args below meth c s₁ Bd hml0 hP hK
  obtain ⟨rfl, hZ, hh⟩ := hP
  have hx := Bd.exec
  have hby := Bd.bytes
  have hml : c.maxLocals = 2 := hml0
  have hown : s.vm.findClass "com/example/eager_recall/eagerrecall/vectors/ExactSumsDotPinLaw" = some m.cls := findClass_of_methodNamed Bd.named
  have hnm := (name_of_methodNamed Bd.named Bd.method).1
  have X0 : Stand p l e ({ frames := 0, cells := 0, slots := 0, locals := 0 } : Room) s m #[(.long q1)] below meth c s₁ [] 0 0 := Stand.of_body Bd
  have e0 : s₁.heap = h0 := by rw [← hh, Bd.state]; rfl
  have N0 := Fr.nil n0
  have pre0 : ∀ t, Steps p.tables e below (s₁.setTop (mkF m 0 #[.val (.long q1), .second] [])) t → Steps p.tables e below (s₁.setTop (entryFrame m #[(.long q1)] 2)) t := fun t k => castTop (ef_rm3 m q1) k
  show own_Fin p e below _ _
  refine own_go pre0 ?_
  refine own_go (B := s₁.setTop (mkF m 7 #[.val (.long q1), .second] [(.long ((q1 <<< ((25 : Int32) &&& 0x3f).toInt64) >>> ((39 : Int32) &&& 0x3f).toInt64))])) (fun t k => ?_) ?_
  · show Steps p.tables e below (s₁.setTop (mkF m 0 #[.val (.long q1), .second] [])) t
    refine XS.lloadN X0.here hx rfl (hb hby d3_0) rfl ?_
    show Steps p.tables e below (s₁.setTop (mkF m 1 #[.val (.long q1), .second] [(.long q1)])) t
    refine XS.bipush X0.here hx rfl (hb hby d3_1) ?_
    show Steps p.tables e below (s₁.setTop (mkF m 3 #[.val (.long q1), .second] [(.int (25 : Int32)), (.long q1)])) t
    refine XS.lshl X0.here hx rfl (hb hby d3_3) rfl ?_
    show Steps p.tables e below (s₁.setTop (mkF m 4 #[.val (.long q1), .second] [(.long (q1 <<< ((25 : Int32) &&& 0x3f).toInt64))])) t
    refine XS.bipush X0.here hx rfl (hb hby d3_4) ?_
    show Steps p.tables e below (s₁.setTop (mkF m 6 #[.val (.long q1), .second] [(.int (39 : Int32)), (.long (q1 <<< ((25 : Int32) &&& 0x3f).toInt64))])) t
    refine XS.lshr X0.here hx rfl (hb hby d3_6) rfl ?_
    exact k
  obtain ⟨fs, hr, hrun, hended, hW, hsame⟩ := X0.leave (v := some (.long ((q1 <<< ((25 : Int32) &&& 0x3f).toInt64) >>> ((39 : Int32) &&& 0x3f).toInt64))) (fun h => by rw [Bd.returns] at h; cases h)
  refine ⟨_, _, ?_, hrun, hended, _, _, rfl, ?_, ⟨_, rfl⟩, hW, hsame.mono (by decide) (by decide)⟩
  · show Steps p.tables e below (s₁.setTop (mkF m 7 #[.val (.long q1), .second] [(.long ((q1 <<< ((25 : Int32) &&& 0x3f).toInt64) >>> ((39 : Int32) &&& 0x3f).toInt64))])) _
    exact own_retL X0 hx Bd.returns (hb hby d3_7) hr
  · show Q3 Z q1 h0 n0 _ s₁.heap _
    rw [e0]
    exact ⟨rfl, N0, rfl⟩
theorem d4_0 : decode method_5_code 0 = .ok (.iload 4, 2) := by decide +kernel
theorem d4_2 : decode method_5_code 2 = .ok (.iload 5, 2) := by decide +kernel
theorem d4_4 : decode method_5_code 4 = .ok (.if_icmp .lt 5, 3) := by decide +kernel
theorem d4_7 : decode method_5_code 7 = .ok (.lconst 0, 1) := by decide +kernel
theorem d4_8 : decode method_5_code 8 = .ok (.lreturn, 1) := by decide +kernel
theorem d4_9 : decode method_5_code 9 = .ok (.aload_n 0, 1) := by decide +kernel
theorem d4_10 : decode method_5_code 10 = .ok (.iload_n 1, 1) := by decide +kernel
theorem d4_11 : decode method_5_code 11 = .ok (.iload 4, 2) := by decide +kernel
theorem d4_13 : decode method_5_code 13 = .ok (.iadd, 1) := by decide +kernel
theorem d4_14 : decode method_5_code 14 = .ok (.laload, 1) := by decide +kernel
theorem d4_15 : decode method_5_code 15 = .ok (.aload_n 2, 1) := by decide +kernel
theorem d4_16 : decode method_5_code 16 = .ok (.iload_n 3, 1) := by decide +kernel
theorem d4_17 : decode method_5_code 17 = .ok (.iload 4, 2) := by decide +kernel
theorem d4_19 : decode method_5_code 19 = .ok (.iadd, 1) := by decide +kernel
theorem d4_20 : decode method_5_code 20 = .ok (.laload, 1) := by decide +kernel
theorem d4_21 : decode method_5_code 21 = .ok (.lmul, 1) := by decide +kernel
theorem d4_22 : decode method_5_code 22 = .ok (.lreturn, 1) := by decide +kernel
theorem pn_rm4 : plainName "com/example/eager_recall/eagerrecall/vectors/ExactSumsDotPinLaw" = true := by first | (simp [plainName, overriddenIn]; done) | decide +kernel
theorem ef_rm4 (m : MethodId) (x0 : Addr) (x1 : Int32) (x2 : Addr) (x3 : Int32) (x4 : Int32) (x5 : Int32) : entryFrame m #[(.ref x0), (.int x1), (.ref x2), (.int x3), (.int x4), (.int x5)] 6 = mkF m 0 #[.val (.ref x0), .val (.int x1), .val (.ref x2), .val (.int x3), .val (.int x4), .val (.int x5)] [] := by first | (simp [entryFrame, mkF, argsToLocals, Value.category]; done) | rfl
def Q4 (Z : State) (a1 : Addr) (p2 : Int32) (a3 : Addr) (p4 : Int32) (p5 : Int32) (p6 : Int32) (ga : Nat → Int64) (gb : Nat → Int64) (h0 : Heap) (n0 : Nat) (v : Option Value) (h : Heap) (L : List Loc) : Prop := ∃ r : Int64, v = some (.long r) ∧ Fr n0 L ∧ h = h0 ∧ r = (if p5 < p6 then ga (p2 + p5).toNatClampNeg * gb (p4 + p5).toNatClampNeg else 0)
set_option maxRecDepth 65536 in
set_option maxHeartbeats 40000000 in
theorem rm4 (l : Launch) (Z : State) (a0 : Array Value) (hw : ∀ d ∈ tables_1, d.before a0 Z = true) (ws : List Jvm.Cond) (a1 : Addr) (p2 : Int32) (a3 : Addr) (p4 : Int32) (p5 : Int32) (p6 : Int32) (ga : Nat → Int64) (gb : Nat → Int64) (h0 : Heap) (n0 : Nat) (Z0 : n0 ≤ h0.size) (A1 : own_Ag Value.long Z h0 a1 .long (4 : Int32) ga) (A3 : own_Ag Value.long Z h0 a3 .long (4 : Int32) gb) (hp2 : 0 ≤ p2.toInt) (hp4 : 0 ≤ p4.toInt) (hi0 : 0 ≤ p5.toInt) (hn2 : p2.toInt + p6.toInt ≤ 4) (hn4 : p4.toInt + p6.toInt ≤ 4) :
    MetFree l (⟨"com/example/eager_recall/eagerrecall/vectors/ExactSumsDotPinLaw", "term", "([JI[JIII)J"⟩ : MethodName) (head1 (Jvm.Cond.code (⟨"com/example/eager_recall/eagerrecall/vectors/ExactSumsDotPinLaw", "term", "([JI[JIII)J"⟩ : MethodName) method_5_code 6 (some .long) :: ws) ({ frames := 0, cells := 0, slots := 0, locals := 0 } : Room)) (fun a U => a = #[(.ref a1), (.int p2), (.ref a3), (.int p4), (.int p5), (.int p6)] ∧ Z.Warmed39 U.vm ∧ U.heap = h0) (fun _ _ _ _ _ => True) (fun _ U o U' => ∃ v L, o = .returned v ∧ Q4 Z a1 p2 a3 p4 p5 p6 ga gb h0 n0 v U'.heap L ∧ FrameEnd U o U' L ({ frames := 0, cells := 0, slots := 0, locals := 0 } : Room).cells ({ frames := 0, cells := 0, slots := 0, locals := 0 } : Room).slots) := by
  refine MetFree.of_bodySF (plainFor_of_name pn_rm4) hisR ?_
  intro p e s m args below meth c s₁ Bd hml0 hP hK
  obtain ⟨rfl, hZ, hh⟩ := hP
  have hx := Bd.exec
  have hby := Bd.bytes
  have hml : c.maxLocals = 6 := hml0
  have hown : s.vm.findClass "com/example/eager_recall/eagerrecall/vectors/ExactSumsDotPinLaw" = some m.cls := findClass_of_methodNamed Bd.named
  have hnm := (name_of_methodNamed Bd.named Bd.method).1
  have X0 : Stand p l e ({ frames := 0, cells := 0, slots := 0, locals := 0 } : Room) s m #[(.ref a1), (.int p2), (.ref a3), (.int p4), (.int p5), (.int p6)] below meth c s₁ [] 0 0 := Stand.of_body Bd
  have e0 : s₁.heap = h0 := by rw [← hh, Bd.state]; rfl
  have N0 := Fr.nil n0
  have pre0 : ∀ t, Steps p.tables e below (s₁.setTop (mkF m 0 #[.val (.ref a1), .val (.int p2), .val (.ref a3), .val (.int p4), .val (.int p5), .val (.int p6)] [])) t → Steps p.tables e below (s₁.setTop (entryFrame m #[(.ref a1), (.int p2), (.ref a3), (.int p4), (.int p5), (.int p6)] 6)) t := fun t k => castTop (ef_rm4 m a1 p2 a3 p4 p5 p6) k
  show own_Fin p e below _ _
  refine own_go pre0 ?_
  refine own_go (B := s₁.setTop (mkF m 4 #[.val (.ref a1), .val (.int p2), .val (.ref a3), .val (.int p4), .val (.int p5), .val (.int p6)] [(.int p6), (.int p5)])) (fun t k => ?_) ?_
  · show Steps p.tables e below (s₁.setTop (mkF m 0 #[.val (.ref a1), .val (.int p2), .val (.ref a3), .val (.int p4), .val (.int p5), .val (.int p6)] [])) t
    refine XS.iload X0.here hx rfl (hb hby d4_0) rfl ?_
    show Steps p.tables e below (s₁.setTop (mkF m 2 #[.val (.ref a1), .val (.int p2), .val (.ref a3), .val (.int p4), .val (.int p5), .val (.int p6)] [(.int p5)])) t
    refine XS.iload X0.here hx rfl (hb hby d4_2) rfl ?_
    exact k
  by_cases hc4_1 : p5 < p6
  · refine own_go (B := s₁.setTop (mkF m 9 #[.val (.ref a1), .val (.int p2), .val (.ref a3), .val (.int p4), .val (.int p5), .val (.int p6)] [])) (fun t k => ?_) ?_
    · show Steps p.tables e below (s₁.setTop (mkF m 4 #[.val (.ref a1), .val (.int p2), .val (.ref a3), .val (.int p4), .val (.int p5), .val (.int p6)] [(.int p6), (.int p5)])) t
      refine XS.icmpYes X0.here hx rfl (pc0 := 4) (pc' := 9) rfl (hb hby d4_4) rfl (tlt hc4_1).1 (by decide) (by decide) ?_
      exact k
    refine own_go (B := s₁.setTop (mkF m 14 #[.val (.ref a1), .val (.int p2), .val (.ref a3), .val (.int p4), .val (.int p5), .val (.int p6)] [(.int (p2 + p5)), (.ref a1)])) (fun t k => ?_) ?_
    · show Steps p.tables e below (s₁.setTop (mkF m 9 #[.val (.ref a1), .val (.int p2), .val (.ref a3), .val (.int p4), .val (.int p5), .val (.int p6)] [])) t
      refine XS.aloadN X0.here hx rfl (hb hby d4_9) rfl rfl ?_
      show Steps p.tables e below (s₁.setTop (mkF m 10 #[.val (.ref a1), .val (.int p2), .val (.ref a3), .val (.int p4), .val (.int p5), .val (.int p6)] [(.ref a1)])) t
      refine XS.iloadN X0.here hx rfl (hb hby d4_10) rfl ?_
      show Steps p.tables e below (s₁.setTop (mkF m 11 #[.val (.ref a1), .val (.int p2), .val (.ref a3), .val (.int p4), .val (.int p5), .val (.int p6)] [(.int p2), (.ref a1)])) t
      refine XS.iload X0.here hx rfl (hb hby d4_11) rfl ?_
      show Steps p.tables e below (s₁.setTop (mkF m 13 #[.val (.ref a1), .val (.int p2), .val (.ref a3), .val (.int p4), .val (.int p5), .val (.int p6)] [(.int p5), (.int p2), (.ref a1)])) t
      refine XS.iadd X0.here hx rfl (hb hby d4_13) rfl ?_
      exact k
    obtain ⟨cl2, Ar2, hin2, hat2, -, -⟩ := A1.get (j := (p2 + p5)) (own_idx hp2 hi0 hc4_1 hn2).1 (own_idx hp2 hi0 hc4_1 hn2).2.1
    refine own_go (X0.laload hx (j := (p2 + p5)) (v := (.long (ga ((p2 + p5)).toNatClampNeg))) (by rw [e0]; exact Ar2.1) (State.isArrayOf_alike hZ.alike Ar2.2.1) Ar2.2.2 hin2 hat2 (g := (mkF m 14 #[.val (.ref a1), .val (.int p2), .val (.ref a3), .val (.int p4), .val (.int p5), .val (.int p6)] [(.int (p2 + p5)), (.ref a1)])) rfl rfl (hb hby d4_14)) ?_
    refine own_go (B := s₁.setTop (mkF m 20 #[.val (.ref a1), .val (.int p2), .val (.ref a3), .val (.int p4), .val (.int p5), .val (.int p6)] [(.int (p4 + p5)), (.ref a3), (.long (ga ((p2 + p5)).toNatClampNeg))])) (fun t k => ?_) ?_
    · show Steps p.tables e below (s₁.setTop (mkF m 15 #[.val (.ref a1), .val (.int p2), .val (.ref a3), .val (.int p4), .val (.int p5), .val (.int p6)] [(.long (ga ((p2 + p5)).toNatClampNeg))])) t
      refine XS.aloadN X0.here hx rfl (hb hby d4_15) rfl rfl ?_
      show Steps p.tables e below (s₁.setTop (mkF m 16 #[.val (.ref a1), .val (.int p2), .val (.ref a3), .val (.int p4), .val (.int p5), .val (.int p6)] [(.ref a3), (.long (ga ((p2 + p5)).toNatClampNeg))])) t
      refine XS.iloadN X0.here hx rfl (hb hby d4_16) rfl ?_
      show Steps p.tables e below (s₁.setTop (mkF m 17 #[.val (.ref a1), .val (.int p2), .val (.ref a3), .val (.int p4), .val (.int p5), .val (.int p6)] [(.int p4), (.ref a3), (.long (ga ((p2 + p5)).toNatClampNeg))])) t
      refine XS.iload X0.here hx rfl (hb hby d4_17) rfl ?_
      show Steps p.tables e below (s₁.setTop (mkF m 19 #[.val (.ref a1), .val (.int p2), .val (.ref a3), .val (.int p4), .val (.int p5), .val (.int p6)] [(.int p5), (.int p4), (.ref a3), (.long (ga ((p2 + p5)).toNatClampNeg))])) t
      refine XS.iadd X0.here hx rfl (hb hby d4_19) rfl ?_
      exact k
    obtain ⟨cl3, Ar3, hin3, hat3, -, -⟩ := A3.get (j := (p4 + p5)) (own_idx hp4 hi0 hc4_1 hn4).1 (own_idx hp4 hi0 hc4_1 hn4).2.1
    refine own_go (X0.laload hx (j := (p4 + p5)) (v := (.long (gb ((p4 + p5)).toNatClampNeg))) (by rw [e0]; exact Ar3.1) (State.isArrayOf_alike hZ.alike Ar3.2.1) Ar3.2.2 hin3 hat3 (g := (mkF m 20 #[.val (.ref a1), .val (.int p2), .val (.ref a3), .val (.int p4), .val (.int p5), .val (.int p6)] [(.int (p4 + p5)), (.ref a3), (.long (ga ((p2 + p5)).toNatClampNeg))])) rfl rfl (hb hby d4_20)) ?_
    refine own_go (B := s₁.setTop (mkF m 22 #[.val (.ref a1), .val (.int p2), .val (.ref a3), .val (.int p4), .val (.int p5), .val (.int p6)] [(.long ((ga ((p2 + p5)).toNatClampNeg) * (gb ((p4 + p5)).toNatClampNeg)))])) (fun t k => ?_) ?_
    · show Steps p.tables e below (s₁.setTop (mkF m 21 #[.val (.ref a1), .val (.int p2), .val (.ref a3), .val (.int p4), .val (.int p5), .val (.int p6)] [(.long (gb ((p4 + p5)).toNatClampNeg)), (.long (ga ((p2 + p5)).toNatClampNeg))])) t
      refine XS.lmul X0.here hx rfl (hb hby d4_21) rfl ?_
      exact k
    obtain ⟨fs, hr, hrun, hended, hW, hsame⟩ := X0.leave (v := some (.long ((ga ((p2 + p5)).toNatClampNeg) * (gb ((p4 + p5)).toNatClampNeg)))) (fun h => by rw [Bd.returns] at h; cases h)
    refine ⟨_, _, ?_, hrun, hended, _, _, rfl, ?_, ⟨_, rfl⟩, hW, hsame.mono (by decide) (by decide)⟩
    · show Steps p.tables e below (s₁.setTop (mkF m 22 #[.val (.ref a1), .val (.int p2), .val (.ref a3), .val (.int p4), .val (.int p5), .val (.int p6)] [(.long ((ga ((p2 + p5)).toNatClampNeg) * (gb ((p4 + p5)).toNatClampNeg)))])) _
      exact own_retL X0 hx Bd.returns (hb hby d4_22) hr
    · show Q4 Z a1 p2 a3 p4 p5 p6 ga gb h0 n0 _ s₁.heap _
      rw [e0]
      exact ⟨_, rfl, N0, rfl, by rw [if_pos hc4_1]⟩
  · refine own_go (B := s₁.setTop (mkF m 7 #[.val (.ref a1), .val (.int p2), .val (.ref a3), .val (.int p4), .val (.int p5), .val (.int p6)] [])) (fun t k => ?_) ?_
    · show Steps p.tables e below (s₁.setTop (mkF m 4 #[.val (.ref a1), .val (.int p2), .val (.ref a3), .val (.int p4), .val (.int p5), .val (.int p6)] [(.int p6), (.int p5)])) t
      refine XS.icmpNo X0.here hx rfl (hb hby d4_4) rfl (flt hc4_1).1 ?_
      exact k
    refine own_go (B := s₁.setTop (mkF m 8 #[.val (.ref a1), .val (.int p2), .val (.ref a3), .val (.int p4), .val (.int p5), .val (.int p6)] [(.long (0 : Int64))])) (fun t k => ?_) ?_
    · show Steps p.tables e below (s₁.setTop (mkF m 7 #[.val (.ref a1), .val (.int p2), .val (.ref a3), .val (.int p4), .val (.int p5), .val (.int p6)] [])) t
      refine XS.lconst X0.here hx rfl (hb hby d4_7) ?_
      exact k
    obtain ⟨fs, hr, hrun, hended, hW, hsame⟩ := X0.leave (v := some (.long (0 : Int64))) (fun h => by rw [Bd.returns] at h; cases h)
    refine ⟨_, _, ?_, hrun, hended, _, _, rfl, ?_, ⟨_, rfl⟩, hW, hsame.mono (by decide) (by decide)⟩
    · show Steps p.tables e below (s₁.setTop (mkF m 8 #[.val (.ref a1), .val (.int p2), .val (.ref a3), .val (.int p4), .val (.int p5), .val (.int p6)] [(.long (0 : Int64))])) _
      exact own_retL X0 hx Bd.returns (hb hby d4_8) hr
    · show Q4 Z a1 p2 a3 p4 p5 p6 ga gb h0 n0 _ s₁.heap _
      rw [e0]
      exact ⟨_, rfl, N0, rfl, by rw [if_neg hc4_1]⟩
theorem d5_0 : decode prog_94_method_2_code 0 = .ok (.dconst 0, 1) := by decide +kernel
theorem d5_1 : decode prog_94_method_2_code 1 = .ok (.dstore 5, 2) := by decide +kernel
theorem d5_3 : decode prog_94_method_2_code 3 = .ok (.iconst 0, 1) := by decide +kernel
theorem d5_4 : decode prog_94_method_2_code 4 = .ok (.istore 7, 2) := by decide +kernel
theorem d5_6 : decode prog_94_method_2_code 6 = .ok (.iload 7, 2) := by decide +kernel
theorem d5_8 : decode prog_94_method_2_code 8 = .ok (.iload 4, 2) := by decide +kernel
theorem d5_10 : decode prog_94_method_2_code 10 = .ok (.if_icmp .ge 29, 3) := by decide +kernel
theorem d5_13 : decode prog_94_method_2_code 13 = .ok (.dload 5, 2) := by decide +kernel
theorem d5_15 : decode prog_94_method_2_code 15 = .ok (.aload_n 0, 1) := by decide +kernel
theorem d5_16 : decode prog_94_method_2_code 16 = .ok (.iload_n 1, 1) := by decide +kernel
theorem d5_17 : decode prog_94_method_2_code 17 = .ok (.iload 7, 2) := by decide +kernel
theorem d5_19 : decode prog_94_method_2_code 19 = .ok (.iadd, 1) := by decide +kernel
theorem d5_20 : decode prog_94_method_2_code 20 = .ok (.faload, 1) := by decide +kernel
theorem d5_21 : decode prog_94_method_2_code 21 = .ok (.f2d, 1) := by decide +kernel
theorem d5_22 : decode prog_94_method_2_code 22 = .ok (.aload_n 2, 1) := by decide +kernel
theorem d5_23 : decode prog_94_method_2_code 23 = .ok (.iload_n 3, 1) := by decide +kernel
theorem d5_24 : decode prog_94_method_2_code 24 = .ok (.iload 7, 2) := by decide +kernel
theorem d5_26 : decode prog_94_method_2_code 26 = .ok (.iadd, 1) := by decide +kernel
theorem d5_27 : decode prog_94_method_2_code 27 = .ok (.faload, 1) := by decide +kernel
theorem d5_28 : decode prog_94_method_2_code 28 = .ok (.f2d, 1) := by decide +kernel
theorem d5_29 : decode prog_94_method_2_code 29 = .ok (.dmul, 1) := by decide +kernel
theorem d5_30 : decode prog_94_method_2_code 30 = .ok (.dadd, 1) := by decide +kernel
theorem d5_31 : decode prog_94_method_2_code 31 = .ok (.dstore 5, 2) := by decide +kernel
theorem d5_33 : decode prog_94_method_2_code 33 = .ok (.iinc 7 1, 3) := by decide +kernel
theorem d5_36 : decode prog_94_method_2_code 36 = .ok (.goto (-30), 3) := by decide +kernel
theorem d5_39 : decode prog_94_method_2_code 39 = .ok (.dload 5, 2) := by decide +kernel
theorem d5_41 : decode prog_94_method_2_code 41 = .ok (.dreturn, 1) := by decide +kernel
theorem pn_rm5 : plainName "com/example/eager_recall/eagerrecall/vectors/ExactSums" = true := by first | (simp [plainName, overriddenIn]; done) | decide +kernel
theorem ef_rm5 (m : MethodId) (x0 : Addr) (x1 : Int32) (x2 : Addr) (x3 : Int32) (x4 : Int32) : entryFrame m #[(.ref x0), (.int x1), (.ref x2), (.int x3), (.int x4)] 8 = mkF m 0 #[.val (.ref x0), .val (.int x1), .val (.ref x2), .val (.int x3), .val (.int x4), .unset, .unset, .unset] [] := by first | (simp [entryFrame, mkF, argsToLocals, Value.category]; done) | rfl
def Q5 (Z : State) (a1 : Addr) (p2 : Int32) (a3 : Addr) (p4 : Int32) (p5 : Int32) (ga : Nat → Int64) (gb : Nat → Int64) (h0 : Heap) (n0 : Nat) (v : Option Value) (h : Heap) (L : List Loc) : Prop := ∃ d : UInt64, v = some (.double d) ∧ Fr n0 L ∧ h = h0 ∧ FP.Core.DInt (own_dot ga gb p2.toNatClampNeg p4.toNatClampNeg p5.toNatClampNeg) d
set_option maxRecDepth 65536 in
set_option maxHeartbeats 40000000 in
theorem rm5 (l : Launch) (Z : State) (a0 : Array Value) (hw : ∀ d ∈ tables_1, d.before a0 Z = true) (ws : List Jvm.Cond) (a1 : Addr) (p2 : Int32) (a3 : Addr) (p4 : Int32) (p5 : Int32) (ga : Nat → Int64) (gb : Nat → Int64) (h0 : Heap) (n0 : Nat) (Z0 : n0 ≤ h0.size) (A1 : own_Ag Value.float Z h0 a1 .float (4 : Int32) (fun i => FP.l2f (ga i))) (A3 : own_Ag Value.float Z h0 a3 .float (4 : Int32) (fun i => FP.l2f (gb i))) (hga : own_sm ga) (hgb : own_sm gb) (hp2 : 0 ≤ p2.toInt) (hp4 : 0 ≤ p4.toInt) (hp5 : 0 ≤ p5.toInt) (hn2 : p2.toInt + p5.toInt ≤ 4) (hn4 : p4.toInt + p5.toInt ≤ 4) :
    MetFree l (⟨"com/example/eager_recall/eagerrecall/vectors/ExactSums", "dot", "([FI[FII)D"⟩ : MethodName) (head1 (Jvm.Cond.code (⟨"com/example/eager_recall/eagerrecall/vectors/ExactSums", "dot", "([FI[FII)D"⟩ : MethodName) prog_94_method_2_code 8 (some .double) :: ws) ({ frames := 0, cells := 0, slots := 0, locals := 0 } : Room)) (fun a U => a = #[(.ref a1), (.int p2), (.ref a3), (.int p4), (.int p5)] ∧ Z.Warmed39 U.vm ∧ U.heap = h0) (fun _ _ _ _ _ => True) (fun _ U o U' => ∃ v L, o = .returned v ∧ Q5 Z a1 p2 a3 p4 p5 ga gb h0 n0 v U'.heap L ∧ FrameEnd U o U' L ({ frames := 0, cells := 0, slots := 0, locals := 0 } : Room).cells ({ frames := 0, cells := 0, slots := 0, locals := 0 } : Room).slots) := by
  refine MetFree.of_bodySF (plainFor_of_name pn_rm5) hisR ?_
  intro p e s m args below meth c s₁ Bd hml0 hP hK
  obtain ⟨rfl, hZ, hh⟩ := hP
  have hx := Bd.exec
  have hby := Bd.bytes
  have hml : c.maxLocals = 8 := hml0
  have hown : s.vm.findClass "com/example/eager_recall/eagerrecall/vectors/ExactSums" = some m.cls := findClass_of_methodNamed Bd.named
  have hnm := (name_of_methodNamed Bd.named Bd.method).1
  have X0 : Stand p l e ({ frames := 0, cells := 0, slots := 0, locals := 0 } : Room) s m #[(.ref a1), (.int p2), (.ref a3), (.int p4), (.int p5)] below meth c s₁ [] 0 0 := Stand.of_body Bd
  have e0 : s₁.heap = h0 := by rw [← hh, Bd.state]; rfl
  have N0 := Fr.nil n0
  have pre0 : ∀ t, Steps p.tables e below (s₁.setTop (mkF m 0 #[.val (.ref a1), .val (.int p2), .val (.ref a3), .val (.int p4), .val (.int p5), .unset, .unset, .unset] [])) t → Steps p.tables e below (s₁.setTop (entryFrame m #[(.ref a1), (.int p2), (.ref a3), (.int p4), (.int p5)] 8)) t := fun t k => castTop (ef_rm5 m a1 p2 a3 p4 p5) k
  show own_Fin p e below _ _
  refine own_go pre0 ?_
  have loop : ∀ (k : Nat) (i : Int32) (ds : UInt64) (T : State) (locs : List Loc), i.toInt + k = p5.toInt → 0 ≤ i.toInt → Stand p l e ({ frames := 0, cells := 0, slots := 0, locals := 0 } : Room) s m #[(.ref a1), (.int p2), (.ref a3), (.int p4), (.int p5)] below meth c T locs 0 0 → T.heap = h0 → Fr n0 locs → FP.Core.DInt (own_dot ga gb p2.toNatClampNeg p4.toNatClampNeg i.toNatClampNeg) ds → own_Fin p e below (fun o U' => ∃ v L, o = .returned v ∧ Q5 Z a1 p2 a3 p4 p5 ga gb h0 n0 v U'.heap L ∧ FrameEnd s o U' L ({ frames := 0, cells := 0, slots := 0, locals := 0 } : Room).cells ({ frames := 0, cells := 0, slots := 0, locals := 0 } : Room).slots) (T.setTop (mkF m 6 #[.val (.ref a1), .val (.int p2), .val (.ref a3), .val (.int p4), .val (.int p5), .val (.double ds), .second, .val (.int i)] [])) := by
    intro k
    induction k with
    | zero =>
      intro i ds T locs hk hi X eT N hd
      have hic : i = p5 := Int32.toInt_inj.mp (by omega)
      refine own_go (B := T.setTop (mkF m 41 #[.val (.ref a1), .val (.int p2), .val (.ref a3), .val (.int p4), .val (.int p5), .val (.double ds), .second, .val (.int i)] [(.double ds)])) (fun t k => ?_) ?_
      · show Steps p.tables e below (T.setTop (mkF m 6 #[.val (.ref a1), .val (.int p2), .val (.ref a3), .val (.int p4), .val (.int p5), .val (.double ds), .second, .val (.int i)] [])) t
        refine XS.iload X.here hx rfl (hb hby d5_6) rfl ?_
        show Steps p.tables e below (T.setTop (mkF m 8 #[.val (.ref a1), .val (.int p2), .val (.ref a3), .val (.int p4), .val (.int p5), .val (.double ds), .second, .val (.int i)] [(.int i)])) t
        refine XS.iload X.here hx rfl (hb hby d5_8) rfl ?_
        show Steps p.tables e below (T.setTop (mkF m 10 #[.val (.ref a1), .val (.int p2), .val (.ref a3), .val (.int p4), .val (.int p5), .val (.double ds), .second, .val (.int i)] [(.int p5), (.int i)])) t
        refine XS.icmpYes X.here hx rfl (pc0 := 10) (pc' := 39) rfl (hb hby d5_10) rfl (flt (by rw [hic]; exact Int32.lt_irrefl : ¬ (i < p5))).2.1 (by decide) (by decide) ?_
        show Steps p.tables e below (T.setTop (mkF m 39 #[.val (.ref a1), .val (.int p2), .val (.ref a3), .val (.int p4), .val (.int p5), .val (.double ds), .second, .val (.int i)] [])) t
        refine XS.dload X.here hx rfl (hb hby d5_39) rfl ?_
        exact k
      obtain ⟨fs, hr, hrun, hended, hW, hsame⟩ := X.leave (v := some (.double ds)) (fun h => by rw [Bd.returns] at h; cases h)
      refine ⟨_, _, ?_, hrun, hended, _, _, rfl, ?_, ⟨_, rfl⟩, hW, hsame.mono (by decide) (by decide)⟩
      · show Steps p.tables e below (T.setTop (mkF m 41 #[.val (.ref a1), .val (.int p2), .val (.ref a3), .val (.int p4), .val (.int p5), .val (.double ds), .second, .val (.int i)] [(.double ds)])) _
        exact own_retD X hx Bd.returns (hb hby d5_41) hr
      · show Q5 Z a1 p2 a3 p4 p5 ga gb h0 n0 _ T.heap _
        rw [eT]
        exact ⟨_, rfl, N, rfl, hic ▸ hd⟩
    | succ k ih =>
      intro i ds T locs hk hi X eT N hd
      have hlt : i < p5 := by rw [Int32.lt_iff_toInt_lt]; omega
      have hi0 : ¬ i < 0 := by rw [Int32.lt_iff_toInt_lt]; have := own_z0; omega
      have hnat := nat_of hi0
      have hx2 := own_idx hp2 hi hlt hn2
      have hx4 := own_idx hp4 hi hlt hn4
      have hva := hga (p2 + i).toNatClampNeg
      have hvb := hgb (p4 + i).toNatClampNeg
      have hpr := own_prod hva hvb
      have hsb := own_dotb hga hgb p2.toNatClampNeg p4.toNatClampNeg i.toNatClampNeg
      have e1 := own_f2d hva
      have e2 := own_f2d hvb
      have d1 : FP.Core.DInt _ (FP.f2d (FP.l2f (ga (p2 + i).toNatClampNeg))) := e1 ▸ own_l2d (by omega)
      have d2 : FP.Core.DInt _ (FP.f2d (FP.l2f (gb (p4 + i).toNatClampNeg))) := e2 ▸ own_l2d (by omega)
      have d3 : FP.Core.DInt _ (FP.dmul (FP.f2d (FP.l2f (ga (p2 + i).toNatClampNeg))) (FP.f2d (FP.l2f (gb (p4 + i).toNatClampNeg)))) := FP.Core.dmul_int d1 d2 (by omega)
      have d4 : FP.Core.DInt _ (FP.dadd ds (FP.dmul (FP.f2d (FP.l2f (ga (p2 + i).toNatClampNeg))) (FP.f2d (FP.l2f (gb (p4 + i).toNatClampNeg))))) := FP.Core.dadd_int hd d3 (by have := rng32 p5; omega)
      refine own_go (B := T.setTop (mkF m 20 #[.val (.ref a1), .val (.int p2), .val (.ref a3), .val (.int p4), .val (.int p5), .val (.double ds), .second, .val (.int i)] [(.int (p2 + i)), (.ref a1), (.double ds)])) (fun t k => ?_) ?_
      · show Steps p.tables e below (T.setTop (mkF m 6 #[.val (.ref a1), .val (.int p2), .val (.ref a3), .val (.int p4), .val (.int p5), .val (.double ds), .second, .val (.int i)] [])) t
        refine XS.iload X.here hx rfl (hb hby d5_6) rfl ?_
        show Steps p.tables e below (T.setTop (mkF m 8 #[.val (.ref a1), .val (.int p2), .val (.ref a3), .val (.int p4), .val (.int p5), .val (.double ds), .second, .val (.int i)] [(.int i)])) t
        refine XS.iload X.here hx rfl (hb hby d5_8) rfl ?_
        show Steps p.tables e below (T.setTop (mkF m 10 #[.val (.ref a1), .val (.int p2), .val (.ref a3), .val (.int p4), .val (.int p5), .val (.double ds), .second, .val (.int i)] [(.int p5), (.int i)])) t
        refine XS.icmpNo X.here hx rfl (hb hby d5_10) rfl (tlt (hlt : i < p5)).2.1 ?_
        show Steps p.tables e below (T.setTop (mkF m 13 #[.val (.ref a1), .val (.int p2), .val (.ref a3), .val (.int p4), .val (.int p5), .val (.double ds), .second, .val (.int i)] [])) t
        refine XS.dload X.here hx rfl (hb hby d5_13) rfl ?_
        show Steps p.tables e below (T.setTop (mkF m 15 #[.val (.ref a1), .val (.int p2), .val (.ref a3), .val (.int p4), .val (.int p5), .val (.double ds), .second, .val (.int i)] [(.double ds)])) t
        refine XS.aloadN X.here hx rfl (hb hby d5_15) rfl rfl ?_
        show Steps p.tables e below (T.setTop (mkF m 16 #[.val (.ref a1), .val (.int p2), .val (.ref a3), .val (.int p4), .val (.int p5), .val (.double ds), .second, .val (.int i)] [(.ref a1), (.double ds)])) t
        refine XS.iloadN X.here hx rfl (hb hby d5_16) rfl ?_
        show Steps p.tables e below (T.setTop (mkF m 17 #[.val (.ref a1), .val (.int p2), .val (.ref a3), .val (.int p4), .val (.int p5), .val (.double ds), .second, .val (.int i)] [(.int p2), (.ref a1), (.double ds)])) t
        refine XS.iload X.here hx rfl (hb hby d5_17) rfl ?_
        show Steps p.tables e below (T.setTop (mkF m 19 #[.val (.ref a1), .val (.int p2), .val (.ref a3), .val (.int p4), .val (.int p5), .val (.double ds), .second, .val (.int i)] [(.int i), (.int p2), (.ref a1), (.double ds)])) t
        refine XS.iadd X.here hx rfl (hb hby d5_19) rfl ?_
        exact k
      obtain ⟨cl1, Ar1, hin1, hat1, -, -⟩ := A1.get (j := (p2 + i)) hx2.1 hx2.2.1
      refine own_go (X.faload hx (j := (p2 + i)) (v := (.float ((fun i => FP.l2f (ga i)) ((p2 + i)).toNatClampNeg))) (by rw [eT]; exact Ar1.1) (State.isArrayOf_alike hZ.alike Ar1.2.1) Ar1.2.2 hin1 hat1 (g := (mkF m 20 #[.val (.ref a1), .val (.int p2), .val (.ref a3), .val (.int p4), .val (.int p5), .val (.double ds), .second, .val (.int i)] [(.int (p2 + i)), (.ref a1), (.double ds)])) rfl rfl (hb hby d5_20)) ?_
      refine own_go (B := T.setTop (mkF m 27 #[.val (.ref a1), .val (.int p2), .val (.ref a3), .val (.int p4), .val (.int p5), .val (.double ds), .second, .val (.int i)] [(.int (p4 + i)), (.ref a3), (.double (FP.f2d ((fun i => FP.l2f (ga i)) ((p2 + i)).toNatClampNeg))), (.double ds)])) (fun t k => ?_) ?_
      · show Steps p.tables e below (T.setTop (mkF m 21 #[.val (.ref a1), .val (.int p2), .val (.ref a3), .val (.int p4), .val (.int p5), .val (.double ds), .second, .val (.int i)] [(.float ((fun i => FP.l2f (ga i)) ((p2 + i)).toNatClampNeg)), (.double ds)])) t
        refine XS.f2dS X.here hx rfl (hb hby d5_21) rfl (own_nn d1) rfl ?_
        show Steps p.tables e below (T.setTop (mkF m 22 #[.val (.ref a1), .val (.int p2), .val (.ref a3), .val (.int p4), .val (.int p5), .val (.double ds), .second, .val (.int i)] [(.double (FP.f2d ((fun i => FP.l2f (ga i)) ((p2 + i)).toNatClampNeg))), (.double ds)])) t
        refine XS.aloadN X.here hx rfl (hb hby d5_22) rfl rfl ?_
        show Steps p.tables e below (T.setTop (mkF m 23 #[.val (.ref a1), .val (.int p2), .val (.ref a3), .val (.int p4), .val (.int p5), .val (.double ds), .second, .val (.int i)] [(.ref a3), (.double (FP.f2d ((fun i => FP.l2f (ga i)) ((p2 + i)).toNatClampNeg))), (.double ds)])) t
        refine XS.iloadN X.here hx rfl (hb hby d5_23) rfl ?_
        show Steps p.tables e below (T.setTop (mkF m 24 #[.val (.ref a1), .val (.int p2), .val (.ref a3), .val (.int p4), .val (.int p5), .val (.double ds), .second, .val (.int i)] [(.int p4), (.ref a3), (.double (FP.f2d ((fun i => FP.l2f (ga i)) ((p2 + i)).toNatClampNeg))), (.double ds)])) t
        refine XS.iload X.here hx rfl (hb hby d5_24) rfl ?_
        show Steps p.tables e below (T.setTop (mkF m 26 #[.val (.ref a1), .val (.int p2), .val (.ref a3), .val (.int p4), .val (.int p5), .val (.double ds), .second, .val (.int i)] [(.int i), (.int p4), (.ref a3), (.double (FP.f2d ((fun i => FP.l2f (ga i)) ((p2 + i)).toNatClampNeg))), (.double ds)])) t
        refine XS.iadd X.here hx rfl (hb hby d5_26) rfl ?_
        exact k
      obtain ⟨cl2, Ar2, hin2, hat2, -, -⟩ := A3.get (j := (p4 + i)) hx4.1 hx4.2.1
      refine own_go (X.faload hx (j := (p4 + i)) (v := (.float ((fun i => FP.l2f (gb i)) ((p4 + i)).toNatClampNeg))) (by rw [eT]; exact Ar2.1) (State.isArrayOf_alike hZ.alike Ar2.2.1) Ar2.2.2 hin2 hat2 (g := (mkF m 27 #[.val (.ref a1), .val (.int p2), .val (.ref a3), .val (.int p4), .val (.int p5), .val (.double ds), .second, .val (.int i)] [(.int (p4 + i)), (.ref a3), (.double (FP.f2d ((fun i => FP.l2f (ga i)) ((p2 + i)).toNatClampNeg))), (.double ds)])) rfl rfl (hb hby d5_27)) ?_
      refine own_go (B := T.setTop (mkF m 6 #[.val (.ref a1), .val (.int p2), .val (.ref a3), .val (.int p4), .val (.int p5), .val (.double (FP.dadd ds (FP.dmul (FP.f2d ((fun i => FP.l2f (ga i)) ((p2 + i)).toNatClampNeg)) (FP.f2d ((fun i => FP.l2f (gb i)) ((p4 + i)).toNatClampNeg))))), .second, .val (.int (i + (1 : Int32)))] [])) (fun t k => ?_) ?_
      · show Steps p.tables e below (T.setTop (mkF m 28 #[.val (.ref a1), .val (.int p2), .val (.ref a3), .val (.int p4), .val (.int p5), .val (.double ds), .second, .val (.int i)] [(.float ((fun i => FP.l2f (gb i)) ((p4 + i)).toNatClampNeg)), (.double (FP.f2d ((fun i => FP.l2f (ga i)) ((p2 + i)).toNatClampNeg))), (.double ds)])) t
        refine XS.f2dS X.here hx rfl (hb hby d5_28) rfl (own_nn d2) rfl ?_
        show Steps p.tables e below (T.setTop (mkF m 29 #[.val (.ref a1), .val (.int p2), .val (.ref a3), .val (.int p4), .val (.int p5), .val (.double ds), .second, .val (.int i)] [(.double (FP.f2d ((fun i => FP.l2f (gb i)) ((p4 + i)).toNatClampNeg))), (.double (FP.f2d ((fun i => FP.l2f (ga i)) ((p2 + i)).toNatClampNeg))), (.double ds)])) t
        refine XS.dmulS X.here hx rfl (hb hby d5_29) rfl (own_nn d3) rfl ?_
        show Steps p.tables e below (T.setTop (mkF m 30 #[.val (.ref a1), .val (.int p2), .val (.ref a3), .val (.int p4), .val (.int p5), .val (.double ds), .second, .val (.int i)] [(.double (FP.dmul (FP.f2d ((fun i => FP.l2f (ga i)) ((p2 + i)).toNatClampNeg)) (FP.f2d ((fun i => FP.l2f (gb i)) ((p4 + i)).toNatClampNeg)))), (.double ds)])) t
        refine XS.daddS X.here hx rfl (hb hby d5_30) rfl (own_nn d4) rfl ?_
        show Steps p.tables e below (T.setTop (mkF m 31 #[.val (.ref a1), .val (.int p2), .val (.ref a3), .val (.int p4), .val (.int p5), .val (.double ds), .second, .val (.int i)] [(.double (FP.dadd ds (FP.dmul (FP.f2d ((fun i => FP.l2f (ga i)) ((p2 + i)).toNatClampNeg)) (FP.f2d ((fun i => FP.l2f (gb i)) ((p4 + i)).toNatClampNeg)))))])) t
        refine XS.dstore X.here hx rfl (hb hby d5_31) rfl (l' := #[.val (.ref a1), .val (.int p2), .val (.ref a3), .val (.int p4), .val (.int p5), .val (.double (FP.dadd ds (FP.dmul (FP.f2d ((fun i => FP.l2f (ga i)) ((p2 + i)).toNatClampNeg)) (FP.f2d ((fun i => FP.l2f (gb i)) ((p4 + i)).toNatClampNeg))))), .second, .val (.int i)]) rfl ?_
        show Steps p.tables e below (T.setTop (mkF m 33 #[.val (.ref a1), .val (.int p2), .val (.ref a3), .val (.int p4), .val (.int p5), .val (.double (FP.dadd ds (FP.dmul (FP.f2d ((fun i => FP.l2f (ga i)) ((p2 + i)).toNatClampNeg)) (FP.f2d ((fun i => FP.l2f (gb i)) ((p4 + i)).toNatClampNeg))))), .second, .val (.int i)] [])) t
        refine XS.iinc X.here hx rfl (hb hby d5_33) rfl (l' := #[.val (.ref a1), .val (.int p2), .val (.ref a3), .val (.int p4), .val (.int p5), .val (.double (FP.dadd ds (FP.dmul (FP.f2d ((fun i => FP.l2f (ga i)) ((p2 + i)).toNatClampNeg)) (FP.f2d ((fun i => FP.l2f (gb i)) ((p4 + i)).toNatClampNeg))))), .second, .val (.int (i + (1 : Int32)))]) rfl ?_
        show Steps p.tables e below (T.setTop (mkF m 36 #[.val (.ref a1), .val (.int p2), .val (.ref a3), .val (.int p4), .val (.int p5), .val (.double (FP.dadd ds (FP.dmul (FP.f2d ((fun i => FP.l2f (ga i)) ((p2 + i)).toNatClampNeg)) (FP.f2d ((fun i => FP.l2f (gb i)) ((p4 + i)).toNatClampNeg))))), .second, .val (.int (i + (1 : Int32)))] [])) t
        refine XS.goto X.here hx rfl (pc0 := 36) (pc' := 6) rfl (hb hby d5_36) (by decide) (by decide) ?_
        exact k
      have k1 : (1 : Int32).toInt = 1 := by decide
      have ha := c_iadd i 1
      have hb := rng32 (i + 1)
      have hrc := rng32 p5
      have hi1 : (i + 1).toInt = i.toInt + 1 := by omega
      have hn1 : (i + 1).toNatClampNeg = i.toNatClampNeg + 1 := by
        have q : ¬ (i + 1) < 0 := by rw [Int32.lt_iff_toInt_lt]; have := own_z0; omega
        have := nat_of q
        omega
      refine ih _ _ _ _ (by omega) (by omega) X eT N ?_
      rw [hn1]
      simp only [own_dot]
      rw [← hx2.2.2, ← hx4.2.2]
      exact d4
  refine own_go (B := s₁.setTop (mkF m 6 #[.val (.ref a1), .val (.int p2), .val (.ref a3), .val (.int p4), .val (.int p5), .val (.double (0 : UInt64)), .second, .val (.int (0 : Int32))] [])) (fun t k => ?_) ?_
  · show Steps p.tables e below (s₁.setTop (mkF m 0 #[.val (.ref a1), .val (.int p2), .val (.ref a3), .val (.int p4), .val (.int p5), .unset, .unset, .unset] [])) t
    refine XS.dconst0 X0.here hx rfl (v := (0 : UInt64)) (hb hby d5_0) (by decide +kernel) ?_
    show Steps p.tables e below (s₁.setTop (mkF m 1 #[.val (.ref a1), .val (.int p2), .val (.ref a3), .val (.int p4), .val (.int p5), .unset, .unset, .unset] [(.double (0 : UInt64))])) t
    refine XS.dstore X0.here hx rfl (hb hby d5_1) rfl (l' := #[.val (.ref a1), .val (.int p2), .val (.ref a3), .val (.int p4), .val (.int p5), .val (.double (0 : UInt64)), .second, .unset]) rfl ?_
    show Steps p.tables e below (s₁.setTop (mkF m 3 #[.val (.ref a1), .val (.int p2), .val (.ref a3), .val (.int p4), .val (.int p5), .val (.double (0 : UInt64)), .second, .unset] [])) t
    refine XS.iconst X0.here hx rfl (hb hby d5_3) ?_
    show Steps p.tables e below (s₁.setTop (mkF m 4 #[.val (.ref a1), .val (.int p2), .val (.ref a3), .val (.int p4), .val (.int p5), .val (.double (0 : UInt64)), .second, .unset] [(.int (0 : Int32))])) t
    refine XS.istore X0.here hx rfl (hb hby d5_4) rfl (l' := #[.val (.ref a1), .val (.int p2), .val (.ref a3), .val (.int p4), .val (.int p5), .val (.double (0 : UInt64)), .second, .val (.int (0 : Int32))]) rfl ?_
    exact k
  exact loop p5.toNatClampNeg 0 _ _ _ (by have := nat_of (j := p5) (by rw [Int32.lt_iff_toInt_lt]; have := own_z0; omega); have z := own_z0; omega) (by decide) X0 e0 N0 own_d0
theorem own_from (c : Int32) : (0 ≤ (c &&& (3 : Int32)).toInt ∧ (c &&& (3 : Int32)).toInt ≤ 3) := by
  have h := c_mask c 3 2 (by decide) (by decide)
  omega
theorem own_room {a b r : Int32} (ha : 0 ≤ a.toInt ∧ a.toInt ≤ 3) (hb : 0 ≤ b.toInt ∧ b.toInt ≤ 3) (hr : r = (if a < b then b else a)) : 1 ≤ ((4 : Int32) - r).toInt ∧ ((4 : Int32) - r).toInt + a.toInt ≤ 4 ∧ ((4 : Int32) - r).toInt + b.toInt ≤ 4 := by
  have k : (4 : Int32).toInt = 4 := by decide
  have h := c_isub 4 r
  have h2 := rng32 ((4 : Int32) - r)
  have hr' : r.toInt = (if a.toInt < b.toInt then b.toInt else a.toInt) := by rw [hr]; simp only [Int32.lt_iff_toInt_lt]; split <;> rfl
  split at hr' <;> omega
theorem own_len {x m n : Int32} (hm : 1 ≤ m.toInt ∧ m.toInt ≤ 4) (h : n = (x &&& (7 : Int32)) % (m + (1 : Int32))) : 0 ≤ n.toInt ∧ n.toInt ≤ m.toInt := by
  subst h
  have k : (1 : Int32).toInt = 1 := by decide
  have a := c_mask x 7 3 (by decide) (by decide)
  have b := c_iadd m 1
  have c := rng32 (m + 1)
  have d := (c_iremV (x &&& 7) (m + 1)).1 (by omega) (by omega)
  omega
theorem own_nz {m : Int32} (hm : 1 ≤ m.toInt ∧ m.toInt ≤ 4) : m + (1 : Int32) ≠ 0 := fun e => by
  have k : (1 : Int32).toInt = 1 := by decide
  have b := c_iadd m 1
  have c := rng32 (m + 1)
  have e' := congrArg Int32.toInt e
  have k0 : (0 : Int32).toInt = 0 := by decide
  omega
theorem own_add {p i : Int32} (hp : 0 ≤ p.toInt ∧ p.toInt ≤ 4) {k : Nat} (hi : i.toInt = k) (hk : k ≤ 4) : (p + i).toNatClampNeg = p.toNatClampNeg + k := by
  have a := c_iadd p i
  have b := rng32 (p + i)
  have k0 : (0 : Int32).toInt = 0 := by decide
  have q1 : ¬ p < 0 := by rw [Int32.lt_iff_toInt_lt]; omega
  have q3 : ¬ (p + i) < 0 := by rw [Int32.lt_iff_toInt_lt]; omega
  have n1 := nat_of q1
  have n3 := nat_of q3
  omega
theorem own_mul {x y : Int64} (hx : -16777216 ≤ x.toInt ∧ x.toInt ≤ 16777216) (hy : -16777216 ≤ y.toInt ∧ y.toInt ≤ 16777216) : (x * y).toInt = x.toInt * y.toInt := by
  have a := c_lmul x y
  have b := rng64 (x * y)
  have c := own_prod hx hy
  omega
theorem own_term {ga gb : Nat → Int64} (ha : own_sm ga) (hb : own_sm gb) {p q n i : Int32} (hp : 0 ≤ p.toInt ∧ p.toInt ≤ 4) (hq : 0 ≤ q.toInt ∧ q.toInt ≤ 4) {k : Nat} (hi : i.toInt = k) (hk : k ≤ 4) {r : Int64}
    (hr : r = (if i < n then ga (p + i).toNatClampNeg * gb (q + i).toNatClampNeg else 0)) : r.toInt = (if (k : Int) < n.toInt then (ga (p.toNatClampNeg + k)).toInt * (gb (q.toNatClampNeg + k)).toInt else 0) := by
  rw [hr, own_add hp hi hk, own_add hq hi hk]
  simp only [Int32.lt_iff_toInt_lt, hi]
  split
  · exact own_mul (ha _) (hb _)
  · decide
theorem own_sum {ga gb : Nat → Int64} (ha : own_sm ga) (hb : own_sm gb) {p q n : Int32} (hp : 0 ≤ p.toInt ∧ p.toInt ≤ 4) (hq : 0 ≤ q.toInt ∧ q.toInt ≤ 4) (hn : 0 ≤ n.toInt ∧ n.toInt ≤ 4) {r0 r1 r2 r3 x : Int64}
    (h0 : r0 = (if (0 : Int32) < n then ga (p + (0 : Int32)).toNatClampNeg * gb (q + (0 : Int32)).toNatClampNeg else 0)) (h1 : r1 = (if (1 : Int32) < n then ga (p + (1 : Int32)).toNatClampNeg * gb (q + (1 : Int32)).toNatClampNeg else 0))
    (h2 : r2 = (if (2 : Int32) < n then ga (p + (2 : Int32)).toNatClampNeg * gb (q + (2 : Int32)).toNatClampNeg else 0)) (h3 : r3 = (if (3 : Int32) < n then ga (p + (3 : Int32)).toNatClampNeg * gb (q + (3 : Int32)).toNatClampNeg else 0))
    (hx : x = ((r0 + r1) + r2) + r3) : x.toInt = own_dot ga gb p.toNatClampNeg q.toNatClampNeg n.toNatClampNeg ∧ -9007199254740992 ≤ x.toInt ∧ x.toInt ≤ 9007199254740992 := by
  have t0 := own_term ha hb hp hq (k := 0) (by decide) (by decide) h0
  have t1 := own_term ha hb hp hq (k := 1) (by decide) (by decide) h1
  have t2 := own_term ha hb hp hq (k := 2) (by decide) (by decide) h2
  have t3 := own_term ha hb hp hq (k := 3) (by decide) (by decide) h3
  have b0 := own_prod (ha (p.toNatClampNeg + 0)) (hb (q.toNatClampNeg + 0))
  have b1 := own_prod (ha (p.toNatClampNeg + 1)) (hb (q.toNatClampNeg + 1))
  have b2 := own_prod (ha (p.toNatClampNeg + 2)) (hb (q.toNatClampNeg + 2))
  have b3 := own_prod (ha (p.toNatClampNeg + 3)) (hb (q.toNatClampNeg + 3))
  have q3 : ¬ n < 0 := by rw [Int32.lt_iff_toInt_lt]; have := own_z0; omega
  have n3 := nat_of q3
  have s1 := c_ladd r0 r1
  have s2 := c_ladd (r0 + r1) r2
  have s3 := c_ladd ((r0 + r1) + r2) r3
  have u1 := rng64 (r0 + r1)
  have u2 := rng64 ((r0 + r1) + r2)
  have u3 := rng64 (((r0 + r1) + r2) + r3)
  subst hx
  have e : n.toNatClampNeg = 0 ∨ n.toNatClampNeg = 1 ∨ n.toNatClampNeg = 2 ∨ n.toNatClampNeg = 3 ∨ n.toNatClampNeg = 4 := by omega
  have dd : own_dot ga gb p.toNatClampNeg q.toNatClampNeg n.toNatClampNeg = (if (0 : Int) < n.toInt then (ga (p.toNatClampNeg + 0)).toInt * (gb (q.toNatClampNeg + 0)).toInt else 0) + (if (1 : Int) < n.toInt then (ga (p.toNatClampNeg + 1)).toInt * (gb (q.toNatClampNeg + 1)).toInt else 0) + (if (2 : Int) < n.toInt then (ga (p.toNatClampNeg + 2)).toInt * (gb (q.toNatClampNeg + 2)).toInt else 0) + (if (3 : Int) < n.toInt then (ga (p.toNatClampNeg + 3)).toInt * (gb (q.toNatClampNeg + 3)).toInt else 0) := by
    rcases e with e | e | e | e | e <;> rw [e, show n.toInt = _ from n3, e] <;> simp [own_dot]
  rw [dd]
  generalize (ga (p.toNatClampNeg + 0)).toInt * (gb (q.toNatClampNeg + 0)).toInt = m0 at *
  generalize (ga (p.toNatClampNeg + 1)).toInt * (gb (q.toNatClampNeg + 1)).toInt = m1 at *
  generalize (ga (p.toNatClampNeg + 2)).toInt * (gb (q.toNatClampNeg + 2)).toInt = m2 at *
  generalize (ga (p.toNatClampNeg + 3)).toInt * (gb (q.toNatClampNeg + 3)).toInt = m3 at *
  have u0 : -281474976710656 ≤ r0.toInt ∧ r0.toInt ≤ 281474976710656 := by rw [t0]; split <;> omega
  have v1 : -281474976710656 ≤ r1.toInt ∧ r1.toInt ≤ 281474976710656 := by rw [t1]; split <;> omega
  have v2 : -281474976710656 ≤ r2.toInt ∧ r2.toInt ≤ 281474976710656 := by rw [t2]; split <;> omega
  have v3 : -281474976710656 ≤ r3.toInt ∧ r3.toInt ≤ 281474976710656 := by rw [t3]; split <;> omega
  have ex : (r0 + r1 + r2 + r3).toInt = r0.toInt + r1.toInt + r2.toInt + r3.toInt := by
    clear t0 t1 t2 t3 dd
    omega
  refine ⟨?_, by omega, by omega⟩
  rw [ex, t0, t1, t2, t3]
  rfl
theorem pn_rm0 : plainName "com/example/eager_recall/eagerrecall/vectors/ExactSumsDotPinLaw" = true := by first | (simp [plainName, overriddenIn]; done) | decide +kernel
theorem pd_rm0_0 : parseMethodDescriptor "(II)I" = some ⟨[.int, .int], some .int⟩ := by decide +kernel
theorem pd_rm0_1 : parseMethodDescriptor "(J)J" = some ⟨[.long], some .long⟩ := by decide +kernel
theorem pd_rm0_2 : parseMethodDescriptor "([JI[JIII)J" = some ⟨[(.array .long), .int, (.array .long), .int, .int, .int], some .long⟩ := by decide +kernel
theorem pd_rm0_3 : parseMethodDescriptor "([FI[FII)D" = some ⟨[(.array .float), .int, (.array .float), .int, .int], some .double⟩ := by decide +kernel
theorem ef_rm0 (m : MethodId) (x0 : Int64) (x1 : Int64) (x2 : Int64) (x3 : Int64) (x4 : Int32) : entryFrame m #[(.long x0), (.long x1), (.long x2), (.long x3), (.int x4)] maxLocals = mkF m 0 #[.val (.long x0), .second, .val (.long x1), .second, .val (.long x2), .second, .val (.long x3), .second, .val (.int x4), .unset, .unset, .unset, .unset, .unset, .unset, .unset, .unset, .unset, .unset, .unset, .unset] [] := by first | (simp [entryFrame, mkF, argsToLocals, Value.category, maxLocals]; done) | rfl
def Q0 (Z : State) (q1 : Int64) (q2 : Int64) (q3 : Int64) (q4 : Int64) (p5 : Int32) (h0 : Heap) (n0 : Nat) (v : Option Value) (h : Heap) (L : List Loc) : Prop := v = some (.int (1 : Int32)) ∧ Fr n0 L
set_option maxRecDepth 65536 in
set_option maxHeartbeats 40000000 in
theorem rm0 (l : Launch) (Z : State) (a0 : Array Value) (hw : ∀ d ∈ tables_1, d.before a0 Z = true) (ws : List Jvm.Cond) (q1 : Int64) (q2 : Int64) (q3 : Int64) (q4 : Int64) (p5 : Int32) (h0 : Heap) (n0 : Nat) (Z0 : n0 ≤ h0.size) :
    MetFree l x (head1 (Jvm.Cond.code x code maxLocals ret :: ws) room_1) (fun a U => a = #[(.long q1), (.long q2), (.long q3), (.long q4), (.int p5)] ∧ Z.Warmed39 U.vm ∧ U.heap = h0) (fun _ _ _ _ _ => True) (fun _ U o U' => ∃ v L, o = .returned v ∧ Q0 Z q1 q2 q3 q4 p5 h0 n0 v U'.heap L ∧ FrameEnd U o U' L room_1.cells room_1.slots) := by
  refine MetFree.of_bodySF (plainFor_of_name pn_rm0) hisR ?_
  intro p e s m args below meth c s₁ Bd hml0 hP hK
  obtain ⟨rfl, hZ, hh⟩ := hP
  have hx := Bd.exec
  have hby := Bd.bytes
  have hml : c.maxLocals = 21 := hml0
  have hown : s.vm.findClass "com/example/eager_recall/eagerrecall/vectors/ExactSumsDotPinLaw" = some m.cls := findClass_of_methodNamed Bd.named
  have hnm := (name_of_methodNamed Bd.named Bd.method).1
  have X0 : Stand p l e room_1 s m #[(.long q1), (.long q2), (.long q3), (.long q4), (.int p5)] below meth c s₁ [] 0 0 := Stand.of_body Bd
  have e0 : s₁.heap = h0 := by rw [← hh, Bd.state]; rfl
  have N0 := Fr.nil n0
  have pre0 : ∀ t, Steps p.tables e below (s₁.setTop (mkF m 0 #[.val (.long q1), .second, .val (.long q2), .second, .val (.long q3), .second, .val (.long q4), .second, .val (.int p5), .unset, .unset, .unset, .unset, .unset, .unset, .unset, .unset, .unset, .unset, .unset, .unset] [])) t → Steps p.tables e below (s₁.setTop (entryFrame m #[(.long q1), (.long q2), (.long q3), (.long q4), (.int p5)] maxLocals)) t := fun t k => castTop (ef_rm0 m q1 q2 q3 q4 p5) k
  show own_Fin p e below _ _
  refine own_go pre0 ?_
  refine own_go (B := s₁.setTop (mkF m 14 #[.val (.long q1), .second, .val (.long q2), .second, .val (.long q3), .second, .val (.long q4), .second, .val (.int p5), .val (.int (p5 &&& (3 : Int32))), .val (.int (((p5.toUInt32 >>> ((2 : Int32) &&& 31).toUInt32).toInt32) &&& (3 : Int32))), .unset, .unset, .unset, .unset, .unset, .unset, .unset, .unset, .unset, .unset] [])) (fun t k => ?_) ?_
  · show Steps p.tables e below (s₁.setTop (mkF m 0 #[.val (.long q1), .second, .val (.long q2), .second, .val (.long q3), .second, .val (.long q4), .second, .val (.int p5), .unset, .unset, .unset, .unset, .unset, .unset, .unset, .unset, .unset, .unset, .unset, .unset] [])) t
    refine XS.iload X0.here hx rfl (hb hby at_0) rfl ?_
    show Steps p.tables e below (s₁.setTop (mkF m 2 #[.val (.long q1), .second, .val (.long q2), .second, .val (.long q3), .second, .val (.long q4), .second, .val (.int p5), .unset, .unset, .unset, .unset, .unset, .unset, .unset, .unset, .unset, .unset, .unset, .unset] [(.int p5)])) t
    refine XS.iconst X0.here hx rfl (hb hby at_2) ?_
    show Steps p.tables e below (s₁.setTop (mkF m 3 #[.val (.long q1), .second, .val (.long q2), .second, .val (.long q3), .second, .val (.long q4), .second, .val (.int p5), .unset, .unset, .unset, .unset, .unset, .unset, .unset, .unset, .unset, .unset, .unset, .unset] [(.int (3 : Int32)), (.int p5)])) t
    refine XS.iand X0.here hx rfl (hb hby at_3) rfl ?_
    show Steps p.tables e below (s₁.setTop (mkF m 4 #[.val (.long q1), .second, .val (.long q2), .second, .val (.long q3), .second, .val (.long q4), .second, .val (.int p5), .unset, .unset, .unset, .unset, .unset, .unset, .unset, .unset, .unset, .unset, .unset, .unset] [(.int (p5 &&& (3 : Int32)))])) t
    refine XS.istore X0.here hx rfl (hb hby at_4) rfl (l' := #[.val (.long q1), .second, .val (.long q2), .second, .val (.long q3), .second, .val (.long q4), .second, .val (.int p5), .val (.int (p5 &&& (3 : Int32))), .unset, .unset, .unset, .unset, .unset, .unset, .unset, .unset, .unset, .unset, .unset]) rfl ?_
    show Steps p.tables e below (s₁.setTop (mkF m 6 #[.val (.long q1), .second, .val (.long q2), .second, .val (.long q3), .second, .val (.long q4), .second, .val (.int p5), .val (.int (p5 &&& (3 : Int32))), .unset, .unset, .unset, .unset, .unset, .unset, .unset, .unset, .unset, .unset, .unset] [])) t
    refine XS.iload X0.here hx rfl (hb hby at_6) rfl ?_
    show Steps p.tables e below (s₁.setTop (mkF m 8 #[.val (.long q1), .second, .val (.long q2), .second, .val (.long q3), .second, .val (.long q4), .second, .val (.int p5), .val (.int (p5 &&& (3 : Int32))), .unset, .unset, .unset, .unset, .unset, .unset, .unset, .unset, .unset, .unset, .unset] [(.int p5)])) t
    refine XS.iconst X0.here hx rfl (hb hby at_8) ?_
    show Steps p.tables e below (s₁.setTop (mkF m 9 #[.val (.long q1), .second, .val (.long q2), .second, .val (.long q3), .second, .val (.long q4), .second, .val (.int p5), .val (.int (p5 &&& (3 : Int32))), .unset, .unset, .unset, .unset, .unset, .unset, .unset, .unset, .unset, .unset, .unset] [(.int (2 : Int32)), (.int p5)])) t
    refine XS.iushr X0.here hx rfl (hb hby at_9) rfl ?_
    show Steps p.tables e below (s₁.setTop (mkF m 10 #[.val (.long q1), .second, .val (.long q2), .second, .val (.long q3), .second, .val (.long q4), .second, .val (.int p5), .val (.int (p5 &&& (3 : Int32))), .unset, .unset, .unset, .unset, .unset, .unset, .unset, .unset, .unset, .unset, .unset] [(.int ((p5.toUInt32 >>> ((2 : Int32) &&& 31).toUInt32).toInt32))])) t
    refine XS.iconst X0.here hx rfl (hb hby at_10) ?_
    show Steps p.tables e below (s₁.setTop (mkF m 11 #[.val (.long q1), .second, .val (.long q2), .second, .val (.long q3), .second, .val (.long q4), .second, .val (.int p5), .val (.int (p5 &&& (3 : Int32))), .unset, .unset, .unset, .unset, .unset, .unset, .unset, .unset, .unset, .unset, .unset] [(.int (3 : Int32)), (.int ((p5.toUInt32 >>> ((2 : Int32) &&& 31).toUInt32).toInt32))])) t
    refine XS.iand X0.here hx rfl (hb hby at_11) rfl ?_
    show Steps p.tables e below (s₁.setTop (mkF m 12 #[.val (.long q1), .second, .val (.long q2), .second, .val (.long q3), .second, .val (.long q4), .second, .val (.int p5), .val (.int (p5 &&& (3 : Int32))), .unset, .unset, .unset, .unset, .unset, .unset, .unset, .unset, .unset, .unset, .unset] [(.int (((p5.toUInt32 >>> ((2 : Int32) &&& 31).toUInt32).toInt32) &&& (3 : Int32)))])) t
    refine XS.istore X0.here hx rfl (hb hby at_12) rfl (l' := #[.val (.long q1), .second, .val (.long q2), .second, .val (.long q3), .second, .val (.long q4), .second, .val (.int p5), .val (.int (p5 &&& (3 : Int32))), .val (.int (((p5.toUInt32 >>> ((2 : Int32) &&& 31).toUInt32).toInt32) &&& (3 : Int32))), .unset, .unset, .unset, .unset, .unset, .unset, .unset, .unset, .unset, .unset]) rfl ?_
    exact k
  obtain ⟨bf, hbf⟩ : ∃ z : Int32, z = (((p5.toUInt32 >>> ((2 : Int32) &&& 31).toUInt32).toInt32) &&& (3 : Int32)) := ⟨_, rfl⟩
  rw [← hbf]
  have hbf : 0 ≤ bf.toInt ∧ bf.toInt ≤ 3 := hbf ▸ own_from _
  refine own_go (B := s₁.setTop (mkF m 19 #[.val (.long q1), .second, .val (.long q2), .second, .val (.long q3), .second, .val (.long q4), .second, .val (.int p5), .val (.int (p5 &&& (3 : Int32))), .val (.int bf), .unset, .unset, .unset, .unset, .unset, .unset, .unset, .unset, .unset, .unset] [(.int bf), (.int (p5 &&& (3 : Int32))), (.int (4 : Int32))])) (fun t k => ?_) ?_
  · show Steps p.tables e below (s₁.setTop (mkF m 14 #[.val (.long q1), .second, .val (.long q2), .second, .val (.long q3), .second, .val (.long q4), .second, .val (.int p5), .val (.int (p5 &&& (3 : Int32))), .val (.int bf), .unset, .unset, .unset, .unset, .unset, .unset, .unset, .unset, .unset, .unset] [])) t
    refine XS.iconst X0.here hx rfl (hb hby at_14) ?_
    show Steps p.tables e below (s₁.setTop (mkF m 15 #[.val (.long q1), .second, .val (.long q2), .second, .val (.long q3), .second, .val (.long q4), .second, .val (.int p5), .val (.int (p5 &&& (3 : Int32))), .val (.int bf), .unset, .unset, .unset, .unset, .unset, .unset, .unset, .unset, .unset, .unset] [(.int (4 : Int32))])) t
    refine XS.iload X0.here hx rfl (hb hby at_15) rfl ?_
    show Steps p.tables e below (s₁.setTop (mkF m 17 #[.val (.long q1), .second, .val (.long q2), .second, .val (.long q3), .second, .val (.long q4), .second, .val (.int p5), .val (.int (p5 &&& (3 : Int32))), .val (.int bf), .unset, .unset, .unset, .unset, .unset, .unset, .unset, .unset, .unset, .unset] [(.int (p5 &&& (3 : Int32))), (.int (4 : Int32))])) t
    refine XS.iload X0.here hx rfl (hb hby at_17) rfl ?_
    exact k
  have M1 := rm1 l Z a0 hw [] (p5 &&& (3 : Int32)) bf h0 n0 Z0
  obtain ⟨_, _, ⟨T1, L1, k1, n1⟩, -, X1, ⟨Lc1, hQ1, l1, y1, z1⟩, st1⟩ := Jvm.LawKit.callS X0 hx (y := (⟨"java/lang/Math", "max", "(II)I"⟩ : MethodName)) hown (mvT hZ (hw _ (List.mem_of_getElem? (i := 0) rfl))) (mvT hZ (hw _ (List.mem_of_getElem? (i := 1) rfl))) (mvT hZ (hw _ (List.mem_of_getElem? (i := 2) rfl))) (mvT hZ (hw _ (List.mem_of_getElem? (i := 3) rfl))) (by decide) (backOf (W := 1) (M1) hZ (hw _ (List.mem_of_getElem? (i := 3) rfl)) (hw _ (List.mem_of_getElem? (i := 2) rfl)) (by decide) (by decide)) (g := (mkF m 19 #[.val (.long q1), .second, .val (.long q2), .second, .val (.long q3), .second, .val (.long q4), .second, .val (.int p5), .val (.int (p5 &&& (3 : Int32))), .val (.int bf), .unset, .unset, .unset, .unset, .unset, .unset, .unset, .unset, .unset, .unset] [(.int bf), (.int (p5 &&& (3 : Int32))), (.int (4 : Int32))])) rfl (by rw [hml]; rfl) (argsL := [(.int (p5 &&& (3 : Int32))), (.int bf)]) (rest := [(.int (4 : Int32))]) (lenOf pd_rm0_0 rfl) rfl (by show 2 * 0 + _ ≤ _; exact Nat.le_of_eq rfl) (hb hby at_19) (fun _ _ => ⟨rfl, e0, (by decide : 0 + 0 ≤ _), (by decide : 0 + 0 ≤ _)⟩)
  dsimp only [Pt.U, Pt.locs, Pt.cells, Pt.slots] at X1 l1 y1 z1 st1 hQ1
  subst l1 y1 z1
  obtain ⟨r1, rfl, N1q, hh1, hr1⟩ := hQ1
  have N1 := Fr.app N0 N1q
  obtain ⟨LL1, X1, N1⟩ := own_abs X1 N1
  refine own_go (fun t k => st1 t k) ?_
  have hroom := own_room (own_from p5) hbf hr1
  refine own_go (B := T1.setTop (mkF m 25 #[.val (.long q1), .second, .val (.long q2), .second, .val (.long q3), .second, .val (.long q4), .second, .val (.int p5), .val (.int (p5 &&& (3 : Int32))), .val (.int bf), .val (.int ((4 : Int32) - r1)), .unset, .unset, .unset, .unset, .unset, .unset, .unset, .unset, .unset] [])) (fun t k => ?_) ?_
  · show Steps p.tables e below (T1.setTop (mkF m 22 #[.val (.long q1), .second, .val (.long q2), .second, .val (.long q3), .second, .val (.long q4), .second, .val (.int p5), .val (.int (p5 &&& (3 : Int32))), .val (.int bf), .unset, .unset, .unset, .unset, .unset, .unset, .unset, .unset, .unset, .unset] [(.int r1), (.int (4 : Int32))])) t
    refine XS.isub X1.here hx rfl (hb hby at_22) rfl ?_
    show Steps p.tables e below (T1.setTop (mkF m 23 #[.val (.long q1), .second, .val (.long q2), .second, .val (.long q3), .second, .val (.long q4), .second, .val (.int p5), .val (.int (p5 &&& (3 : Int32))), .val (.int bf), .unset, .unset, .unset, .unset, .unset, .unset, .unset, .unset, .unset, .unset] [(.int ((4 : Int32) - r1))])) t
    refine XS.istore X1.here hx rfl (hb hby at_23) rfl (l' := #[.val (.long q1), .second, .val (.long q2), .second, .val (.long q3), .second, .val (.long q4), .second, .val (.int p5), .val (.int (p5 &&& (3 : Int32))), .val (.int bf), .val (.int ((4 : Int32) - r1)), .unset, .unset, .unset, .unset, .unset, .unset, .unset, .unset, .unset]) rfl ?_
    exact k
  obtain ⟨rm, hrm⟩ : ∃ z : Int32, z = ((4 : Int32) - r1) := ⟨_, rfl⟩
  rw [← hrm]
  have hroom' := hroom
  rw [← hrm] at hroom'
  have haf := own_from p5
  refine own_go (B := T1.setTop (mkF m 39 #[.val (.long q1), .second, .val (.long q2), .second, .val (.long q3), .second, .val (.long q4), .second, .val (.int p5), .val (.int (p5 &&& (3 : Int32))), .val (.int bf), .val (.int rm), .val (.int ((((p5.toUInt32 >>> ((4 : Int32) &&& 31).toUInt32).toInt32) &&& (7 : Int32)) % (rm + (1 : Int32)))), .unset, .unset, .unset, .unset, .unset, .unset, .unset, .unset] [])) (fun t k => ?_) ?_
  · show Steps p.tables e below (T1.setTop (mkF m 25 #[.val (.long q1), .second, .val (.long q2), .second, .val (.long q3), .second, .val (.long q4), .second, .val (.int p5), .val (.int (p5 &&& (3 : Int32))), .val (.int bf), .val (.int rm), .unset, .unset, .unset, .unset, .unset, .unset, .unset, .unset, .unset] [])) t
    refine XS.iload X1.here hx rfl (hb hby at_25) rfl ?_
    show Steps p.tables e below (T1.setTop (mkF m 27 #[.val (.long q1), .second, .val (.long q2), .second, .val (.long q3), .second, .val (.long q4), .second, .val (.int p5), .val (.int (p5 &&& (3 : Int32))), .val (.int bf), .val (.int rm), .unset, .unset, .unset, .unset, .unset, .unset, .unset, .unset, .unset] [(.int p5)])) t
    refine XS.iconst X1.here hx rfl (hb hby at_27) ?_
    show Steps p.tables e below (T1.setTop (mkF m 28 #[.val (.long q1), .second, .val (.long q2), .second, .val (.long q3), .second, .val (.long q4), .second, .val (.int p5), .val (.int (p5 &&& (3 : Int32))), .val (.int bf), .val (.int rm), .unset, .unset, .unset, .unset, .unset, .unset, .unset, .unset, .unset] [(.int (4 : Int32)), (.int p5)])) t
    refine XS.iushr X1.here hx rfl (hb hby at_28) rfl ?_
    show Steps p.tables e below (T1.setTop (mkF m 29 #[.val (.long q1), .second, .val (.long q2), .second, .val (.long q3), .second, .val (.long q4), .second, .val (.int p5), .val (.int (p5 &&& (3 : Int32))), .val (.int bf), .val (.int rm), .unset, .unset, .unset, .unset, .unset, .unset, .unset, .unset, .unset] [(.int ((p5.toUInt32 >>> ((4 : Int32) &&& 31).toUInt32).toInt32))])) t
    refine XS.bipush X1.here hx rfl (hb hby at_29) ?_
    show Steps p.tables e below (T1.setTop (mkF m 31 #[.val (.long q1), .second, .val (.long q2), .second, .val (.long q3), .second, .val (.long q4), .second, .val (.int p5), .val (.int (p5 &&& (3 : Int32))), .val (.int bf), .val (.int rm), .unset, .unset, .unset, .unset, .unset, .unset, .unset, .unset, .unset] [(.int (7 : Int32)), (.int ((p5.toUInt32 >>> ((4 : Int32) &&& 31).toUInt32).toInt32))])) t
    refine XS.iand X1.here hx rfl (hb hby at_31) rfl ?_
    show Steps p.tables e below (T1.setTop (mkF m 32 #[.val (.long q1), .second, .val (.long q2), .second, .val (.long q3), .second, .val (.long q4), .second, .val (.int p5), .val (.int (p5 &&& (3 : Int32))), .val (.int bf), .val (.int rm), .unset, .unset, .unset, .unset, .unset, .unset, .unset, .unset, .unset] [(.int (((p5.toUInt32 >>> ((4 : Int32) &&& 31).toUInt32).toInt32) &&& (7 : Int32)))])) t
    refine XS.iload X1.here hx rfl (hb hby at_32) rfl ?_
    show Steps p.tables e below (T1.setTop (mkF m 34 #[.val (.long q1), .second, .val (.long q2), .second, .val (.long q3), .second, .val (.long q4), .second, .val (.int p5), .val (.int (p5 &&& (3 : Int32))), .val (.int bf), .val (.int rm), .unset, .unset, .unset, .unset, .unset, .unset, .unset, .unset, .unset] [(.int rm), (.int (((p5.toUInt32 >>> ((4 : Int32) &&& 31).toUInt32).toInt32) &&& (7 : Int32)))])) t
    refine XS.iconst X1.here hx rfl (hb hby at_34) ?_
    show Steps p.tables e below (T1.setTop (mkF m 35 #[.val (.long q1), .second, .val (.long q2), .second, .val (.long q3), .second, .val (.long q4), .second, .val (.int p5), .val (.int (p5 &&& (3 : Int32))), .val (.int bf), .val (.int rm), .unset, .unset, .unset, .unset, .unset, .unset, .unset, .unset, .unset] [(.int (1 : Int32)), (.int rm), (.int (((p5.toUInt32 >>> ((4 : Int32) &&& 31).toUInt32).toInt32) &&& (7 : Int32)))])) t
    refine XS.iadd X1.here hx rfl (hb hby at_35) rfl ?_
    show Steps p.tables e below (T1.setTop (mkF m 36 #[.val (.long q1), .second, .val (.long q2), .second, .val (.long q3), .second, .val (.long q4), .second, .val (.int p5), .val (.int (p5 &&& (3 : Int32))), .val (.int bf), .val (.int rm), .unset, .unset, .unset, .unset, .unset, .unset, .unset, .unset, .unset] [(.int (rm + (1 : Int32))), (.int (((p5.toUInt32 >>> ((4 : Int32) &&& 31).toUInt32).toInt32) &&& (7 : Int32)))])) t
    refine iremM X1 hx rfl (hb hby at_36) rfl (own_nz ⟨hroom'.1, by omega⟩) ?_
    show Steps p.tables e below (T1.setTop (mkF m 37 #[.val (.long q1), .second, .val (.long q2), .second, .val (.long q3), .second, .val (.long q4), .second, .val (.int p5), .val (.int (p5 &&& (3 : Int32))), .val (.int bf), .val (.int rm), .unset, .unset, .unset, .unset, .unset, .unset, .unset, .unset, .unset] [(.int ((((p5.toUInt32 >>> ((4 : Int32) &&& 31).toUInt32).toInt32) &&& (7 : Int32)) % (rm + (1 : Int32))))])) t
    refine XS.istore X1.here hx rfl (hb hby at_37) rfl (l' := #[.val (.long q1), .second, .val (.long q2), .second, .val (.long q3), .second, .val (.long q4), .second, .val (.int p5), .val (.int (p5 &&& (3 : Int32))), .val (.int bf), .val (.int rm), .val (.int ((((p5.toUInt32 >>> ((4 : Int32) &&& 31).toUInt32).toInt32) &&& (7 : Int32)) % (rm + (1 : Int32)))), .unset, .unset, .unset, .unset, .unset, .unset, .unset, .unset]) rfl ?_
    exact k
  obtain ⟨ln, hln⟩ : ∃ z : Int32, z = ((((p5.toUInt32 >>> ((4 : Int32) &&& 31).toUInt32).toInt32) &&& (7 : Int32)) % (rm + (1 : Int32))) := ⟨_, rfl⟩
  rw [← hln]
  have hlen := own_len ⟨hroom'.1, by omega⟩ hln
  have hfa : 0 ≤ (p5 &&& (3 : Int32)).toInt ∧ (p5 &&& (3 : Int32)).toInt ≤ 4 := ⟨haf.1, by omega⟩
  have hfb : 0 ≤ bf.toInt ∧ bf.toInt ≤ 4 := ⟨hbf.1, by omega⟩
  have hln2 : (p5 &&& (3 : Int32)).toInt + ln.toInt ≤ 4 := by omega
  have hln4 : bf.toInt + ln.toInt ≤ 4 := by omega
  refine own_go (B := T1.setTop (mkF m 40 #[.val (.long q1), .second, .val (.long q2), .second, .val (.long q3), .second, .val (.long q4), .second, .val (.int p5), .val (.int (p5 &&& (3 : Int32))), .val (.int bf), .val (.int rm), .val (.int ln), .unset, .unset, .unset, .unset, .unset, .unset, .unset, .unset] [(.int (4 : Int32))])) (fun t k => ?_) ?_
  · show Steps p.tables e below (T1.setTop (mkF m 39 #[.val (.long q1), .second, .val (.long q2), .second, .val (.long q3), .second, .val (.long q4), .second, .val (.int p5), .val (.int (p5 &&& (3 : Int32))), .val (.int bf), .val (.int rm), .val (.int ln), .unset, .unset, .unset, .unset, .unset, .unset, .unset, .unset] [])) t
    refine XS.iconst X1.here hx rfl (hb hby at_39) ?_
    exact k
  obtain ⟨T2, h2, k2, X2, e2, E2, A2, st2⟩ := newP X1 hx hZ (hw _ (List.mem_of_getElem? (i := 4) rfl)) hh1 (g := (mkF m 40 #[.val (.long q1), .second, .val (.long q2), .second, .val (.long q3), .second, .val (.long q4), .second, .val (.int p5), .val (.int (p5 &&& (3 : Int32))), .val (.int bf), .val (.int rm), .val (.int ln), .unset, .unset, .unset, .unset, .unset, .unset, .unset, .unset] [(.int (4 : Int32))])) rfl (hb hby at_40) rfl (by decide) (cap := 4) (by decide) (by decide) (by decide) (by decide)
  obtain ⟨b2, g2⟩ : ∃ z, z = h0.size := ⟨_, rfl⟩
  rw [← g2] at A2 st2
  refine own_go (fun t k => st2 t k) ?_
  have g_b2 : n0 ≤ b2 := Nat.le_trans Z0 (Nat.le_of_eq g2.symm)
  have V2 : own_Ag Value.long Z h2 b2 .long (4 : Int32) (fun _ => (0 : Int64)) := own_Ag.new (Arv.new A2 (by decide))
  refine own_go (B := T2.setTop (mkF m 45 #[.val (.long q1), .second, .val (.long q2), .second, .val (.long q3), .second, .val (.long q4), .second, .val (.int p5), .val (.int (p5 &&& (3 : Int32))), .val (.int bf), .val (.int rm), .val (.int ln), .unset, .unset, .unset, .unset, .unset, .unset, .unset, .unset] [(.long q1), (.int (0 : Int32)), (.ref b2), (.ref b2)])) (fun t k => ?_) ?_
  · show Steps p.tables e below (T2.setTop (mkF m 42 #[.val (.long q1), .second, .val (.long q2), .second, .val (.long q3), .second, .val (.long q4), .second, .val (.int p5), .val (.int (p5 &&& (3 : Int32))), .val (.int bf), .val (.int rm), .val (.int ln), .unset, .unset, .unset, .unset, .unset, .unset, .unset, .unset] [(.ref b2)])) t
    refine XS.dup X2.here hx rfl (hb hby at_42) rfl rfl ?_
    show Steps p.tables e below (T2.setTop (mkF m 43 #[.val (.long q1), .second, .val (.long q2), .second, .val (.long q3), .second, .val (.long q4), .second, .val (.int p5), .val (.int (p5 &&& (3 : Int32))), .val (.int bf), .val (.int rm), .val (.int ln), .unset, .unset, .unset, .unset, .unset, .unset, .unset, .unset] [(.ref b2), (.ref b2)])) t
    refine XS.iconst X2.here hx rfl (hb hby at_43) ?_
    show Steps p.tables e below (T2.setTop (mkF m 44 #[.val (.long q1), .second, .val (.long q2), .second, .val (.long q3), .second, .val (.long q4), .second, .val (.int p5), .val (.int (p5 &&& (3 : Int32))), .val (.int bf), .val (.int rm), .val (.int ln), .unset, .unset, .unset, .unset, .unset, .unset, .unset, .unset] [(.int (0 : Int32)), (.ref b2), (.ref b2)])) t
    refine XS.lloadN X2.here hx rfl (hb hby at_44) rfl ?_
    exact k
  have M3 := rm2 l Z a0 hw [] q1 h2 n0 (Nat.le_trans Z0 E2.1)
  obtain ⟨_, _, ⟨T3, L3, k3, n3⟩, -, X3, ⟨Lc3, hQ3, l3, y3, z3⟩, st3⟩ := Jvm.LawKit.callS X2 hx (y := (⟨"com/example/eager_recall/eagerrecall/vectors/ExactSumsDotPinLaw", "hi", "(J)J"⟩ : MethodName)) hown (mvT hZ (hw _ (List.mem_of_getElem? (i := 5) rfl))) (mvT hZ (hw _ (List.mem_of_getElem? (i := 6) rfl))) (mvT hZ (hw _ (List.mem_of_getElem? (i := 7) rfl))) (mvT hZ (hw _ (List.mem_of_getElem? (i := 8) rfl))) (by decide) (backOf (W := 3) (M3) hZ (hw _ (List.mem_of_getElem? (i := 8) rfl)) (hw _ (List.mem_of_getElem? (i := 7) rfl)) (by decide) (by decide)) (g := (mkF m 45 #[.val (.long q1), .second, .val (.long q2), .second, .val (.long q3), .second, .val (.long q4), .second, .val (.int p5), .val (.int (p5 &&& (3 : Int32))), .val (.int bf), .val (.int rm), .val (.int ln), .unset, .unset, .unset, .unset, .unset, .unset, .unset, .unset] [(.long q1), (.int (0 : Int32)), (.ref b2), (.ref b2)])) rfl (by rw [hml]; rfl) (argsL := [(.long q1)]) (rest := [(.int (0 : Int32)), (.ref b2), (.ref b2)]) (lenOf pd_rm0_1 rfl) rfl (by show 2 * 0 + _ ≤ _; exact Nat.le_of_eq rfl) (hb hby at_45) (fun _ _ => ⟨rfl, e2, (by decide : 1 + 0 ≤ _), (by decide : 4 + 0 ≤ _)⟩)
  dsimp only [Pt.U, Pt.locs, Pt.cells, Pt.slots] at X3 l3 y3 z3 st3 hQ3
  subst l3 y3 z3
  obtain ⟨rfl, N3q, hh3⟩ := hQ3
  have N3 := Fr.app N1 N3q
  obtain ⟨LL3, X3, N3⟩ := own_abs X3 N3
  refine own_go (fun t k => st3 t k) ?_
  obtain ⟨cl4, Ar4, hin4, -, -, -⟩ := V2.get (j := (0 : Int32)) (by decide) (by decide)
  obtain ⟨T4, h4, X4, e4, W4, st4⟩ := stJ X3 hx hZ hh3 Ar4 (j := (0 : Int32)) hin4 (g := (mkF m 48 #[.val (.long q1), .second, .val (.long q2), .second, .val (.long q3), .second, .val (.long q4), .second, .val (.int p5), .val (.int (p5 &&& (3 : Int32))), .val (.int bf), .val (.int rm), .val (.int ln), .unset, .unset, .unset, .unset, .unset, .unset, .unset, .unset] [(.long (q1 >>> ((39 : Int32) &&& 0x3f).toInt64)), (.int (0 : Int32)), (.ref b2), (.ref b2)])) rfl rfl (hb hby at_48)
  refine own_go (fun t k => st4 t k) ?_
  have N4 := Fr.snoc X4 N3 g_b2
  obtain ⟨LL4, X4, N4⟩ := own_abs X4 N4
  have f4_0 := V2.setk W4 0 (by decide)
  refine own_go (B := T4.setTop (mkF m 52 #[.val (.long q1), .second, .val (.long q2), .second, .val (.long q3), .second, .val (.long q4), .second, .val (.int p5), .val (.int (p5 &&& (3 : Int32))), .val (.int bf), .val (.int rm), .val (.int ln), .unset, .unset, .unset, .unset, .unset, .unset, .unset, .unset] [(.long q2), (.int (1 : Int32)), (.ref b2), (.ref b2)])) (fun t k => ?_) ?_
  · show Steps p.tables e below (T4.setTop (mkF m 49 #[.val (.long q1), .second, .val (.long q2), .second, .val (.long q3), .second, .val (.long q4), .second, .val (.int p5), .val (.int (p5 &&& (3 : Int32))), .val (.int bf), .val (.int rm), .val (.int ln), .unset, .unset, .unset, .unset, .unset, .unset, .unset, .unset] [(.ref b2)])) t
    refine XS.dup X4.here hx rfl (hb hby at_49) rfl rfl ?_
    show Steps p.tables e below (T4.setTop (mkF m 50 #[.val (.long q1), .second, .val (.long q2), .second, .val (.long q3), .second, .val (.long q4), .second, .val (.int p5), .val (.int (p5 &&& (3 : Int32))), .val (.int bf), .val (.int rm), .val (.int ln), .unset, .unset, .unset, .unset, .unset, .unset, .unset, .unset] [(.ref b2), (.ref b2)])) t
    refine XS.iconst X4.here hx rfl (hb hby at_50) ?_
    show Steps p.tables e below (T4.setTop (mkF m 51 #[.val (.long q1), .second, .val (.long q2), .second, .val (.long q3), .second, .val (.long q4), .second, .val (.int p5), .val (.int (p5 &&& (3 : Int32))), .val (.int bf), .val (.int rm), .val (.int ln), .unset, .unset, .unset, .unset, .unset, .unset, .unset, .unset] [(.int (1 : Int32)), (.ref b2), (.ref b2)])) t
    refine XS.lloadN X4.here hx rfl (hb hby at_51) rfl ?_
    exact k
  have M5 := rm2 l Z a0 hw [] q2 h4 n0 (Nat.le_trans (Nat.le_trans Z0 E2.1) (Keep.of_wr W4).1)
  obtain ⟨_, _, ⟨T5, L5, k5, n5⟩, -, X5, ⟨Lc5, hQ5, l5, y5, z5⟩, st5⟩ := Jvm.LawKit.callS X4 hx (y := (⟨"com/example/eager_recall/eagerrecall/vectors/ExactSumsDotPinLaw", "hi", "(J)J"⟩ : MethodName)) hown (mvT hZ (hw _ (List.mem_of_getElem? (i := 5) rfl))) (mvT hZ (hw _ (List.mem_of_getElem? (i := 6) rfl))) (mvT hZ (hw _ (List.mem_of_getElem? (i := 7) rfl))) (mvT hZ (hw _ (List.mem_of_getElem? (i := 8) rfl))) (by decide) (backOf (W := 3) (M5) hZ (hw _ (List.mem_of_getElem? (i := 8) rfl)) (hw _ (List.mem_of_getElem? (i := 7) rfl)) (by decide) (by decide)) (g := (mkF m 52 #[.val (.long q1), .second, .val (.long q2), .second, .val (.long q3), .second, .val (.long q4), .second, .val (.int p5), .val (.int (p5 &&& (3 : Int32))), .val (.int bf), .val (.int rm), .val (.int ln), .unset, .unset, .unset, .unset, .unset, .unset, .unset, .unset] [(.long q2), (.int (1 : Int32)), (.ref b2), (.ref b2)])) rfl (by rw [hml]; rfl) (argsL := [(.long q2)]) (rest := [(.int (1 : Int32)), (.ref b2), (.ref b2)]) (lenOf pd_rm0_1 rfl) rfl (by show 2 * 0 + _ ≤ _; exact Nat.le_of_eq rfl) (hb hby at_52) (fun _ _ => ⟨rfl, e4, (by decide : 1 + 0 ≤ _), (by decide : 4 + 0 ≤ _)⟩)
  dsimp only [Pt.U, Pt.locs, Pt.cells, Pt.slots] at X5 l5 y5 z5 st5 hQ5
  subst l5 y5 z5
  obtain ⟨rfl, N5q, hh5⟩ := hQ5
  have N5 := Fr.app N4 N5q
  obtain ⟨LL5, X5, N5⟩ := own_abs X5 N5
  refine own_go (fun t k => st5 t k) ?_
  obtain ⟨cl6, Ar6, hin6, -, -, -⟩ := f4_0.get (j := (1 : Int32)) (by decide) (by decide)
  obtain ⟨T6, h6, X6, e6, W6, st6⟩ := stJ X5 hx hZ hh5 Ar6 (j := (1 : Int32)) hin6 (g := (mkF m 55 #[.val (.long q1), .second, .val (.long q2), .second, .val (.long q3), .second, .val (.long q4), .second, .val (.int p5), .val (.int (p5 &&& (3 : Int32))), .val (.int bf), .val (.int rm), .val (.int ln), .unset, .unset, .unset, .unset, .unset, .unset, .unset, .unset] [(.long (q2 >>> ((39 : Int32) &&& 0x3f).toInt64)), (.int (1 : Int32)), (.ref b2), (.ref b2)])) rfl rfl (hb hby at_55)
  refine own_go (fun t k => st6 t k) ?_
  have N6 := Fr.snoc X6 N5 g_b2
  obtain ⟨LL6, X6, N6⟩ := own_abs X6 N6
  have f6_0 := f4_0.setk W6 1 (by decide)
  refine own_go (B := T6.setTop (mkF m 60 #[.val (.long q1), .second, .val (.long q2), .second, .val (.long q3), .second, .val (.long q4), .second, .val (.int p5), .val (.int (p5 &&& (3 : Int32))), .val (.int bf), .val (.int rm), .val (.int ln), .unset, .unset, .unset, .unset, .unset, .unset, .unset, .unset] [(.long q3), (.int (2 : Int32)), (.ref b2), (.ref b2)])) (fun t k => ?_) ?_
  · show Steps p.tables e below (T6.setTop (mkF m 56 #[.val (.long q1), .second, .val (.long q2), .second, .val (.long q3), .second, .val (.long q4), .second, .val (.int p5), .val (.int (p5 &&& (3 : Int32))), .val (.int bf), .val (.int rm), .val (.int ln), .unset, .unset, .unset, .unset, .unset, .unset, .unset, .unset] [(.ref b2)])) t
    refine XS.dup X6.here hx rfl (hb hby at_56) rfl rfl ?_
    show Steps p.tables e below (T6.setTop (mkF m 57 #[.val (.long q1), .second, .val (.long q2), .second, .val (.long q3), .second, .val (.long q4), .second, .val (.int p5), .val (.int (p5 &&& (3 : Int32))), .val (.int bf), .val (.int rm), .val (.int ln), .unset, .unset, .unset, .unset, .unset, .unset, .unset, .unset] [(.ref b2), (.ref b2)])) t
    refine XS.iconst X6.here hx rfl (hb hby at_57) ?_
    show Steps p.tables e below (T6.setTop (mkF m 58 #[.val (.long q1), .second, .val (.long q2), .second, .val (.long q3), .second, .val (.long q4), .second, .val (.int p5), .val (.int (p5 &&& (3 : Int32))), .val (.int bf), .val (.int rm), .val (.int ln), .unset, .unset, .unset, .unset, .unset, .unset, .unset, .unset] [(.int (2 : Int32)), (.ref b2), (.ref b2)])) t
    refine XS.lload X6.here hx rfl (hb hby at_58) rfl ?_
    exact k
  have M7 := rm2 l Z a0 hw [] q3 h6 n0 (Nat.le_trans (Nat.le_trans (Nat.le_trans Z0 E2.1) (Keep.of_wr W4).1) (Keep.of_wr W6).1)
  obtain ⟨_, _, ⟨T7, L7, k7, n7⟩, -, X7, ⟨Lc7, hQ7, l7, y7, z7⟩, st7⟩ := Jvm.LawKit.callS X6 hx (y := (⟨"com/example/eager_recall/eagerrecall/vectors/ExactSumsDotPinLaw", "hi", "(J)J"⟩ : MethodName)) hown (mvT hZ (hw _ (List.mem_of_getElem? (i := 5) rfl))) (mvT hZ (hw _ (List.mem_of_getElem? (i := 6) rfl))) (mvT hZ (hw _ (List.mem_of_getElem? (i := 7) rfl))) (mvT hZ (hw _ (List.mem_of_getElem? (i := 8) rfl))) (by decide) (backOf (W := 3) (M7) hZ (hw _ (List.mem_of_getElem? (i := 8) rfl)) (hw _ (List.mem_of_getElem? (i := 7) rfl)) (by decide) (by decide)) (g := (mkF m 60 #[.val (.long q1), .second, .val (.long q2), .second, .val (.long q3), .second, .val (.long q4), .second, .val (.int p5), .val (.int (p5 &&& (3 : Int32))), .val (.int bf), .val (.int rm), .val (.int ln), .unset, .unset, .unset, .unset, .unset, .unset, .unset, .unset] [(.long q3), (.int (2 : Int32)), (.ref b2), (.ref b2)])) rfl (by rw [hml]; rfl) (argsL := [(.long q3)]) (rest := [(.int (2 : Int32)), (.ref b2), (.ref b2)]) (lenOf pd_rm0_1 rfl) rfl (by show 2 * 0 + _ ≤ _; exact Nat.le_of_eq rfl) (hb hby at_60) (fun _ _ => ⟨rfl, e6, (by decide : 1 + 0 ≤ _), (by decide : 4 + 0 ≤ _)⟩)
  dsimp only [Pt.U, Pt.locs, Pt.cells, Pt.slots] at X7 l7 y7 z7 st7 hQ7
  subst l7 y7 z7
  obtain ⟨rfl, N7q, hh7⟩ := hQ7
  have N7 := Fr.app N6 N7q
  obtain ⟨LL7, X7, N7⟩ := own_abs X7 N7
  refine own_go (fun t k => st7 t k) ?_
  obtain ⟨cl8, Ar8, hin8, -, -, -⟩ := f6_0.get (j := (2 : Int32)) (by decide) (by decide)
  obtain ⟨T8, h8, X8, e8, W8, st8⟩ := stJ X7 hx hZ hh7 Ar8 (j := (2 : Int32)) hin8 (g := (mkF m 63 #[.val (.long q1), .second, .val (.long q2), .second, .val (.long q3), .second, .val (.long q4), .second, .val (.int p5), .val (.int (p5 &&& (3 : Int32))), .val (.int bf), .val (.int rm), .val (.int ln), .unset, .unset, .unset, .unset, .unset, .unset, .unset, .unset] [(.long (q3 >>> ((39 : Int32) &&& 0x3f).toInt64)), (.int (2 : Int32)), (.ref b2), (.ref b2)])) rfl rfl (hb hby at_63)
  refine own_go (fun t k => st8 t k) ?_
  have N8 := Fr.snoc X8 N7 g_b2
  obtain ⟨LL8, X8, N8⟩ := own_abs X8 N8
  have f8_0 := f6_0.setk W8 2 (by decide)
  refine own_go (B := T8.setTop (mkF m 68 #[.val (.long q1), .second, .val (.long q2), .second, .val (.long q3), .second, .val (.long q4), .second, .val (.int p5), .val (.int (p5 &&& (3 : Int32))), .val (.int bf), .val (.int rm), .val (.int ln), .unset, .unset, .unset, .unset, .unset, .unset, .unset, .unset] [(.long q4), (.int (3 : Int32)), (.ref b2), (.ref b2)])) (fun t k => ?_) ?_
  · show Steps p.tables e below (T8.setTop (mkF m 64 #[.val (.long q1), .second, .val (.long q2), .second, .val (.long q3), .second, .val (.long q4), .second, .val (.int p5), .val (.int (p5 &&& (3 : Int32))), .val (.int bf), .val (.int rm), .val (.int ln), .unset, .unset, .unset, .unset, .unset, .unset, .unset, .unset] [(.ref b2)])) t
    refine XS.dup X8.here hx rfl (hb hby at_64) rfl rfl ?_
    show Steps p.tables e below (T8.setTop (mkF m 65 #[.val (.long q1), .second, .val (.long q2), .second, .val (.long q3), .second, .val (.long q4), .second, .val (.int p5), .val (.int (p5 &&& (3 : Int32))), .val (.int bf), .val (.int rm), .val (.int ln), .unset, .unset, .unset, .unset, .unset, .unset, .unset, .unset] [(.ref b2), (.ref b2)])) t
    refine XS.iconst X8.here hx rfl (hb hby at_65) ?_
    show Steps p.tables e below (T8.setTop (mkF m 66 #[.val (.long q1), .second, .val (.long q2), .second, .val (.long q3), .second, .val (.long q4), .second, .val (.int p5), .val (.int (p5 &&& (3 : Int32))), .val (.int bf), .val (.int rm), .val (.int ln), .unset, .unset, .unset, .unset, .unset, .unset, .unset, .unset] [(.int (3 : Int32)), (.ref b2), (.ref b2)])) t
    refine XS.lload X8.here hx rfl (hb hby at_66) rfl ?_
    exact k
  have M9 := rm2 l Z a0 hw [] q4 h8 n0 (Nat.le_trans (Nat.le_trans (Nat.le_trans (Nat.le_trans Z0 E2.1) (Keep.of_wr W4).1) (Keep.of_wr W6).1) (Keep.of_wr W8).1)
  obtain ⟨_, _, ⟨T9, L9, k9, n9⟩, -, X9, ⟨Lc9, hQ9, l9, y9, z9⟩, st9⟩ := Jvm.LawKit.callS X8 hx (y := (⟨"com/example/eager_recall/eagerrecall/vectors/ExactSumsDotPinLaw", "hi", "(J)J"⟩ : MethodName)) hown (mvT hZ (hw _ (List.mem_of_getElem? (i := 5) rfl))) (mvT hZ (hw _ (List.mem_of_getElem? (i := 6) rfl))) (mvT hZ (hw _ (List.mem_of_getElem? (i := 7) rfl))) (mvT hZ (hw _ (List.mem_of_getElem? (i := 8) rfl))) (by decide) (backOf (W := 3) (M9) hZ (hw _ (List.mem_of_getElem? (i := 8) rfl)) (hw _ (List.mem_of_getElem? (i := 7) rfl)) (by decide) (by decide)) (g := (mkF m 68 #[.val (.long q1), .second, .val (.long q2), .second, .val (.long q3), .second, .val (.long q4), .second, .val (.int p5), .val (.int (p5 &&& (3 : Int32))), .val (.int bf), .val (.int rm), .val (.int ln), .unset, .unset, .unset, .unset, .unset, .unset, .unset, .unset] [(.long q4), (.int (3 : Int32)), (.ref b2), (.ref b2)])) rfl (by rw [hml]; rfl) (argsL := [(.long q4)]) (rest := [(.int (3 : Int32)), (.ref b2), (.ref b2)]) (lenOf pd_rm0_1 rfl) rfl (by show 2 * 0 + _ ≤ _; exact Nat.le_of_eq rfl) (hb hby at_68) (fun _ _ => ⟨rfl, e8, (by decide : 1 + 0 ≤ _), (by decide : 4 + 0 ≤ _)⟩)
  dsimp only [Pt.U, Pt.locs, Pt.cells, Pt.slots] at X9 l9 y9 z9 st9 hQ9
  subst l9 y9 z9
  obtain ⟨rfl, N9q, hh9⟩ := hQ9
  have N9 := Fr.app N8 N9q
  obtain ⟨LL9, X9, N9⟩ := own_abs X9 N9
  refine own_go (fun t k => st9 t k) ?_
  obtain ⟨cl10, Ar10, hin10, -, -, -⟩ := f8_0.get (j := (3 : Int32)) (by decide) (by decide)
  obtain ⟨T10, h10, X10, e10, W10, st10⟩ := stJ X9 hx hZ hh9 Ar10 (j := (3 : Int32)) hin10 (g := (mkF m 71 #[.val (.long q1), .second, .val (.long q2), .second, .val (.long q3), .second, .val (.long q4), .second, .val (.int p5), .val (.int (p5 &&& (3 : Int32))), .val (.int bf), .val (.int rm), .val (.int ln), .unset, .unset, .unset, .unset, .unset, .unset, .unset, .unset] [(.long (q4 >>> ((39 : Int32) &&& 0x3f).toInt64)), (.int (3 : Int32)), (.ref b2), (.ref b2)])) rfl rfl (hb hby at_71)
  refine own_go (fun t k => st10 t k) ?_
  have N10 := Fr.snoc X10 N9 g_b2
  obtain ⟨LL10, X10, N10⟩ := own_abs X10 N10
  have f10_0 := f8_0.setk W10 3 (by decide)
  refine own_go (B := T10.setTop (mkF m 75 #[.val (.long q1), .second, .val (.long q2), .second, .val (.long q3), .second, .val (.long q4), .second, .val (.int p5), .val (.int (p5 &&& (3 : Int32))), .val (.int bf), .val (.int rm), .val (.int ln), .val (.ref b2), .unset, .unset, .unset, .unset, .unset, .unset, .unset] [(.int (4 : Int32))])) (fun t k => ?_) ?_
  · show Steps p.tables e below (T10.setTop (mkF m 72 #[.val (.long q1), .second, .val (.long q2), .second, .val (.long q3), .second, .val (.long q4), .second, .val (.int p5), .val (.int (p5 &&& (3 : Int32))), .val (.int bf), .val (.int rm), .val (.int ln), .unset, .unset, .unset, .unset, .unset, .unset, .unset, .unset] [(.ref b2)])) t
    refine XS.astore X10.here hx rfl (hb hby at_72) rfl rfl (l' := #[.val (.long q1), .second, .val (.long q2), .second, .val (.long q3), .second, .val (.long q4), .second, .val (.int p5), .val (.int (p5 &&& (3 : Int32))), .val (.int bf), .val (.int rm), .val (.int ln), .val (.ref b2), .unset, .unset, .unset, .unset, .unset, .unset, .unset]) rfl ?_
    show Steps p.tables e below (T10.setTop (mkF m 74 #[.val (.long q1), .second, .val (.long q2), .second, .val (.long q3), .second, .val (.long q4), .second, .val (.int p5), .val (.int (p5 &&& (3 : Int32))), .val (.int bf), .val (.int rm), .val (.int ln), .val (.ref b2), .unset, .unset, .unset, .unset, .unset, .unset, .unset] [])) t
    refine XS.iconst X10.here hx rfl (hb hby at_74) ?_
    exact k
  obtain ⟨T11, h11, k11, X11, e11, E11, A11, st11⟩ := newP X10 hx hZ (hw _ (List.mem_of_getElem? (i := 4) rfl)) e10 (g := (mkF m 75 #[.val (.long q1), .second, .val (.long q2), .second, .val (.long q3), .second, .val (.long q4), .second, .val (.int p5), .val (.int (p5 &&& (3 : Int32))), .val (.int bf), .val (.int rm), .val (.int ln), .val (.ref b2), .unset, .unset, .unset, .unset, .unset, .unset, .unset] [(.int (4 : Int32))])) rfl (hb hby at_75) rfl (by decide) (cap := 4) (by decide) (by decide) (by decide) (by decide)
  obtain ⟨b11, g11⟩ : ∃ z, z = h10.size := ⟨_, rfl⟩
  rw [← g11] at A11 st11
  refine own_go (fun t k => st11 t k) ?_
  have g_b11 : n0 ≤ b11 := Nat.le_trans (Nat.le_trans (Nat.le_trans (Nat.le_trans (Nat.le_trans (Nat.le_trans Z0 E2.1) (Keep.of_wr W4).1) (Keep.of_wr W6).1) (Keep.of_wr W8).1) (Keep.of_wr W10).1) (Nat.le_of_eq g11.symm)
  have ne11_b2 : b2 ≠ b11 := Nat.ne_of_lt (Nat.lt_of_lt_of_le f10_0.lt (Nat.le_of_eq g11.symm))
  have f11_0 := f10_0.ext E11
  have V11 : own_Ag Value.long Z h11 b11 .long (4 : Int32) (fun _ => (0 : Int64)) := own_Ag.new (Arv.new A11 (by decide))
  refine own_go (B := T11.setTop (mkF m 80 #[.val (.long q1), .second, .val (.long q2), .second, .val (.long q3), .second, .val (.long q4), .second, .val (.int p5), .val (.int (p5 &&& (3 : Int32))), .val (.int bf), .val (.int rm), .val (.int ln), .val (.ref b2), .unset, .unset, .unset, .unset, .unset, .unset, .unset] [(.long q1), (.int (0 : Int32)), (.ref b11), (.ref b11)])) (fun t k => ?_) ?_
  · show Steps p.tables e below (T11.setTop (mkF m 77 #[.val (.long q1), .second, .val (.long q2), .second, .val (.long q3), .second, .val (.long q4), .second, .val (.int p5), .val (.int (p5 &&& (3 : Int32))), .val (.int bf), .val (.int rm), .val (.int ln), .val (.ref b2), .unset, .unset, .unset, .unset, .unset, .unset, .unset] [(.ref b11)])) t
    refine XS.dup X11.here hx rfl (hb hby at_77) rfl rfl ?_
    show Steps p.tables e below (T11.setTop (mkF m 78 #[.val (.long q1), .second, .val (.long q2), .second, .val (.long q3), .second, .val (.long q4), .second, .val (.int p5), .val (.int (p5 &&& (3 : Int32))), .val (.int bf), .val (.int rm), .val (.int ln), .val (.ref b2), .unset, .unset, .unset, .unset, .unset, .unset, .unset] [(.ref b11), (.ref b11)])) t
    refine XS.iconst X11.here hx rfl (hb hby at_78) ?_
    show Steps p.tables e below (T11.setTop (mkF m 79 #[.val (.long q1), .second, .val (.long q2), .second, .val (.long q3), .second, .val (.long q4), .second, .val (.int p5), .val (.int (p5 &&& (3 : Int32))), .val (.int bf), .val (.int rm), .val (.int ln), .val (.ref b2), .unset, .unset, .unset, .unset, .unset, .unset, .unset] [(.int (0 : Int32)), (.ref b11), (.ref b11)])) t
    refine XS.lloadN X11.here hx rfl (hb hby at_79) rfl ?_
    exact k
  have M12 := rm3 l Z a0 hw [] q1 h11 n0 (Nat.le_trans (Nat.le_trans (Nat.le_trans (Nat.le_trans (Nat.le_trans (Nat.le_trans Z0 E2.1) (Keep.of_wr W4).1) (Keep.of_wr W6).1) (Keep.of_wr W8).1) (Keep.of_wr W10).1) E11.1)
  obtain ⟨_, _, ⟨T12, L12, k12, n12⟩, -, X12, ⟨Lc12, hQ12, l12, y12, z12⟩, st12⟩ := Jvm.LawKit.callS X11 hx (y := (⟨"com/example/eager_recall/eagerrecall/vectors/ExactSumsDotPinLaw", "lo", "(J)J"⟩ : MethodName)) hown (mvT hZ (hw _ (List.mem_of_getElem? (i := 9) rfl))) (mvT hZ (hw _ (List.mem_of_getElem? (i := 10) rfl))) (mvT hZ (hw _ (List.mem_of_getElem? (i := 7) rfl))) (mvT hZ (hw _ (List.mem_of_getElem? (i := 11) rfl))) (by decide) (backOf (W := 3) (M12) hZ (hw _ (List.mem_of_getElem? (i := 11) rfl)) (hw _ (List.mem_of_getElem? (i := 7) rfl)) (by decide) (by decide)) (g := (mkF m 80 #[.val (.long q1), .second, .val (.long q2), .second, .val (.long q3), .second, .val (.long q4), .second, .val (.int p5), .val (.int (p5 &&& (3 : Int32))), .val (.int bf), .val (.int rm), .val (.int ln), .val (.ref b2), .unset, .unset, .unset, .unset, .unset, .unset, .unset] [(.long q1), (.int (0 : Int32)), (.ref b11), (.ref b11)])) rfl (by rw [hml]; rfl) (argsL := [(.long q1)]) (rest := [(.int (0 : Int32)), (.ref b11), (.ref b11)]) (lenOf pd_rm0_1 rfl) rfl (by show 2 * 0 + _ ≤ _; exact Nat.le_of_eq rfl) (hb hby at_80) (fun _ _ => ⟨rfl, e11, (by decide : 2 + 0 ≤ _), (by decide : 8 + 0 ≤ _)⟩)
  dsimp only [Pt.U, Pt.locs, Pt.cells, Pt.slots] at X12 l12 y12 z12 st12 hQ12
  subst l12 y12 z12
  obtain ⟨rfl, N12q, hh12⟩ := hQ12
  have N12 := Fr.app N10 N12q
  obtain ⟨LL12, X12, N12⟩ := own_abs X12 N12
  refine own_go (fun t k => st12 t k) ?_
  obtain ⟨cl13, Ar13, hin13, -, -, -⟩ := V11.get (j := (0 : Int32)) (by decide) (by decide)
  obtain ⟨T13, h13, X13, e13, W13, st13⟩ := stJ X12 hx hZ hh12 Ar13 (j := (0 : Int32)) hin13 (g := (mkF m 83 #[.val (.long q1), .second, .val (.long q2), .second, .val (.long q3), .second, .val (.long q4), .second, .val (.int p5), .val (.int (p5 &&& (3 : Int32))), .val (.int bf), .val (.int rm), .val (.int ln), .val (.ref b2), .unset, .unset, .unset, .unset, .unset, .unset, .unset] [(.long ((q1 <<< ((25 : Int32) &&& 0x3f).toInt64) >>> ((39 : Int32) &&& 0x3f).toInt64)), (.int (0 : Int32)), (.ref b11), (.ref b11)])) rfl rfl (hb hby at_83)
  refine own_go (fun t k => st13 t k) ?_
  have N13 := Fr.snoc X13 N12 g_b11
  obtain ⟨LL13, X13, N13⟩ := own_abs X13 N13
  have f13_0 := f11_0.other W13 ne11_b2
  have f13_1 := V11.setk W13 0 (by decide)
  refine own_go (B := T13.setTop (mkF m 87 #[.val (.long q1), .second, .val (.long q2), .second, .val (.long q3), .second, .val (.long q4), .second, .val (.int p5), .val (.int (p5 &&& (3 : Int32))), .val (.int bf), .val (.int rm), .val (.int ln), .val (.ref b2), .unset, .unset, .unset, .unset, .unset, .unset, .unset] [(.long q2), (.int (1 : Int32)), (.ref b11), (.ref b11)])) (fun t k => ?_) ?_
  · show Steps p.tables e below (T13.setTop (mkF m 84 #[.val (.long q1), .second, .val (.long q2), .second, .val (.long q3), .second, .val (.long q4), .second, .val (.int p5), .val (.int (p5 &&& (3 : Int32))), .val (.int bf), .val (.int rm), .val (.int ln), .val (.ref b2), .unset, .unset, .unset, .unset, .unset, .unset, .unset] [(.ref b11)])) t
    refine XS.dup X13.here hx rfl (hb hby at_84) rfl rfl ?_
    show Steps p.tables e below (T13.setTop (mkF m 85 #[.val (.long q1), .second, .val (.long q2), .second, .val (.long q3), .second, .val (.long q4), .second, .val (.int p5), .val (.int (p5 &&& (3 : Int32))), .val (.int bf), .val (.int rm), .val (.int ln), .val (.ref b2), .unset, .unset, .unset, .unset, .unset, .unset, .unset] [(.ref b11), (.ref b11)])) t
    refine XS.iconst X13.here hx rfl (hb hby at_85) ?_
    show Steps p.tables e below (T13.setTop (mkF m 86 #[.val (.long q1), .second, .val (.long q2), .second, .val (.long q3), .second, .val (.long q4), .second, .val (.int p5), .val (.int (p5 &&& (3 : Int32))), .val (.int bf), .val (.int rm), .val (.int ln), .val (.ref b2), .unset, .unset, .unset, .unset, .unset, .unset, .unset] [(.int (1 : Int32)), (.ref b11), (.ref b11)])) t
    refine XS.lloadN X13.here hx rfl (hb hby at_86) rfl ?_
    exact k
  have M14 := rm3 l Z a0 hw [] q2 h13 n0 (Nat.le_trans (Nat.le_trans (Nat.le_trans (Nat.le_trans (Nat.le_trans (Nat.le_trans (Nat.le_trans Z0 E2.1) (Keep.of_wr W4).1) (Keep.of_wr W6).1) (Keep.of_wr W8).1) (Keep.of_wr W10).1) E11.1) (Keep.of_wr W13).1)
  obtain ⟨_, _, ⟨T14, L14, k14, n14⟩, -, X14, ⟨Lc14, hQ14, l14, y14, z14⟩, st14⟩ := Jvm.LawKit.callS X13 hx (y := (⟨"com/example/eager_recall/eagerrecall/vectors/ExactSumsDotPinLaw", "lo", "(J)J"⟩ : MethodName)) hown (mvT hZ (hw _ (List.mem_of_getElem? (i := 9) rfl))) (mvT hZ (hw _ (List.mem_of_getElem? (i := 10) rfl))) (mvT hZ (hw _ (List.mem_of_getElem? (i := 7) rfl))) (mvT hZ (hw _ (List.mem_of_getElem? (i := 11) rfl))) (by decide) (backOf (W := 3) (M14) hZ (hw _ (List.mem_of_getElem? (i := 11) rfl)) (hw _ (List.mem_of_getElem? (i := 7) rfl)) (by decide) (by decide)) (g := (mkF m 87 #[.val (.long q1), .second, .val (.long q2), .second, .val (.long q3), .second, .val (.long q4), .second, .val (.int p5), .val (.int (p5 &&& (3 : Int32))), .val (.int bf), .val (.int rm), .val (.int ln), .val (.ref b2), .unset, .unset, .unset, .unset, .unset, .unset, .unset] [(.long q2), (.int (1 : Int32)), (.ref b11), (.ref b11)])) rfl (by rw [hml]; rfl) (argsL := [(.long q2)]) (rest := [(.int (1 : Int32)), (.ref b11), (.ref b11)]) (lenOf pd_rm0_1 rfl) rfl (by show 2 * 0 + _ ≤ _; exact Nat.le_of_eq rfl) (hb hby at_87) (fun _ _ => ⟨rfl, e13, (by decide : 2 + 0 ≤ _), (by decide : 8 + 0 ≤ _)⟩)
  dsimp only [Pt.U, Pt.locs, Pt.cells, Pt.slots] at X14 l14 y14 z14 st14 hQ14
  subst l14 y14 z14
  obtain ⟨rfl, N14q, hh14⟩ := hQ14
  have N14 := Fr.app N13 N14q
  obtain ⟨LL14, X14, N14⟩ := own_abs X14 N14
  refine own_go (fun t k => st14 t k) ?_
  obtain ⟨cl15, Ar15, hin15, -, -, -⟩ := f13_1.get (j := (1 : Int32)) (by decide) (by decide)
  obtain ⟨T15, h15, X15, e15, W15, st15⟩ := stJ X14 hx hZ hh14 Ar15 (j := (1 : Int32)) hin15 (g := (mkF m 90 #[.val (.long q1), .second, .val (.long q2), .second, .val (.long q3), .second, .val (.long q4), .second, .val (.int p5), .val (.int (p5 &&& (3 : Int32))), .val (.int bf), .val (.int rm), .val (.int ln), .val (.ref b2), .unset, .unset, .unset, .unset, .unset, .unset, .unset] [(.long ((q2 <<< ((25 : Int32) &&& 0x3f).toInt64) >>> ((39 : Int32) &&& 0x3f).toInt64)), (.int (1 : Int32)), (.ref b11), (.ref b11)])) rfl rfl (hb hby at_90)
  refine own_go (fun t k => st15 t k) ?_
  have N15 := Fr.snoc X15 N14 g_b11
  obtain ⟨LL15, X15, N15⟩ := own_abs X15 N15
  have f15_0 := f13_0.other W15 ne11_b2
  have f15_1 := f13_1.setk W15 1 (by decide)
  refine own_go (B := T15.setTop (mkF m 95 #[.val (.long q1), .second, .val (.long q2), .second, .val (.long q3), .second, .val (.long q4), .second, .val (.int p5), .val (.int (p5 &&& (3 : Int32))), .val (.int bf), .val (.int rm), .val (.int ln), .val (.ref b2), .unset, .unset, .unset, .unset, .unset, .unset, .unset] [(.long q3), (.int (2 : Int32)), (.ref b11), (.ref b11)])) (fun t k => ?_) ?_
  · show Steps p.tables e below (T15.setTop (mkF m 91 #[.val (.long q1), .second, .val (.long q2), .second, .val (.long q3), .second, .val (.long q4), .second, .val (.int p5), .val (.int (p5 &&& (3 : Int32))), .val (.int bf), .val (.int rm), .val (.int ln), .val (.ref b2), .unset, .unset, .unset, .unset, .unset, .unset, .unset] [(.ref b11)])) t
    refine XS.dup X15.here hx rfl (hb hby at_91) rfl rfl ?_
    show Steps p.tables e below (T15.setTop (mkF m 92 #[.val (.long q1), .second, .val (.long q2), .second, .val (.long q3), .second, .val (.long q4), .second, .val (.int p5), .val (.int (p5 &&& (3 : Int32))), .val (.int bf), .val (.int rm), .val (.int ln), .val (.ref b2), .unset, .unset, .unset, .unset, .unset, .unset, .unset] [(.ref b11), (.ref b11)])) t
    refine XS.iconst X15.here hx rfl (hb hby at_92) ?_
    show Steps p.tables e below (T15.setTop (mkF m 93 #[.val (.long q1), .second, .val (.long q2), .second, .val (.long q3), .second, .val (.long q4), .second, .val (.int p5), .val (.int (p5 &&& (3 : Int32))), .val (.int bf), .val (.int rm), .val (.int ln), .val (.ref b2), .unset, .unset, .unset, .unset, .unset, .unset, .unset] [(.int (2 : Int32)), (.ref b11), (.ref b11)])) t
    refine XS.lload X15.here hx rfl (hb hby at_93) rfl ?_
    exact k
  have M16 := rm3 l Z a0 hw [] q3 h15 n0 (Nat.le_trans (Nat.le_trans (Nat.le_trans (Nat.le_trans (Nat.le_trans (Nat.le_trans (Nat.le_trans (Nat.le_trans Z0 E2.1) (Keep.of_wr W4).1) (Keep.of_wr W6).1) (Keep.of_wr W8).1) (Keep.of_wr W10).1) E11.1) (Keep.of_wr W13).1) (Keep.of_wr W15).1)
  obtain ⟨_, _, ⟨T16, L16, k16, n16⟩, -, X16, ⟨Lc16, hQ16, l16, y16, z16⟩, st16⟩ := Jvm.LawKit.callS X15 hx (y := (⟨"com/example/eager_recall/eagerrecall/vectors/ExactSumsDotPinLaw", "lo", "(J)J"⟩ : MethodName)) hown (mvT hZ (hw _ (List.mem_of_getElem? (i := 9) rfl))) (mvT hZ (hw _ (List.mem_of_getElem? (i := 10) rfl))) (mvT hZ (hw _ (List.mem_of_getElem? (i := 7) rfl))) (mvT hZ (hw _ (List.mem_of_getElem? (i := 11) rfl))) (by decide) (backOf (W := 3) (M16) hZ (hw _ (List.mem_of_getElem? (i := 11) rfl)) (hw _ (List.mem_of_getElem? (i := 7) rfl)) (by decide) (by decide)) (g := (mkF m 95 #[.val (.long q1), .second, .val (.long q2), .second, .val (.long q3), .second, .val (.long q4), .second, .val (.int p5), .val (.int (p5 &&& (3 : Int32))), .val (.int bf), .val (.int rm), .val (.int ln), .val (.ref b2), .unset, .unset, .unset, .unset, .unset, .unset, .unset] [(.long q3), (.int (2 : Int32)), (.ref b11), (.ref b11)])) rfl (by rw [hml]; rfl) (argsL := [(.long q3)]) (rest := [(.int (2 : Int32)), (.ref b11), (.ref b11)]) (lenOf pd_rm0_1 rfl) rfl (by show 2 * 0 + _ ≤ _; exact Nat.le_of_eq rfl) (hb hby at_95) (fun _ _ => ⟨rfl, e15, (by decide : 2 + 0 ≤ _), (by decide : 8 + 0 ≤ _)⟩)
  dsimp only [Pt.U, Pt.locs, Pt.cells, Pt.slots] at X16 l16 y16 z16 st16 hQ16
  subst l16 y16 z16
  obtain ⟨rfl, N16q, hh16⟩ := hQ16
  have N16 := Fr.app N15 N16q
  obtain ⟨LL16, X16, N16⟩ := own_abs X16 N16
  refine own_go (fun t k => st16 t k) ?_
  obtain ⟨cl17, Ar17, hin17, -, -, -⟩ := f15_1.get (j := (2 : Int32)) (by decide) (by decide)
  obtain ⟨T17, h17, X17, e17, W17, st17⟩ := stJ X16 hx hZ hh16 Ar17 (j := (2 : Int32)) hin17 (g := (mkF m 98 #[.val (.long q1), .second, .val (.long q2), .second, .val (.long q3), .second, .val (.long q4), .second, .val (.int p5), .val (.int (p5 &&& (3 : Int32))), .val (.int bf), .val (.int rm), .val (.int ln), .val (.ref b2), .unset, .unset, .unset, .unset, .unset, .unset, .unset] [(.long ((q3 <<< ((25 : Int32) &&& 0x3f).toInt64) >>> ((39 : Int32) &&& 0x3f).toInt64)), (.int (2 : Int32)), (.ref b11), (.ref b11)])) rfl rfl (hb hby at_98)
  refine own_go (fun t k => st17 t k) ?_
  have N17 := Fr.snoc X17 N16 g_b11
  obtain ⟨LL17, X17, N17⟩ := own_abs X17 N17
  have f17_0 := f15_0.other W17 ne11_b2
  have f17_1 := f15_1.setk W17 2 (by decide)
  refine own_go (B := T17.setTop (mkF m 103 #[.val (.long q1), .second, .val (.long q2), .second, .val (.long q3), .second, .val (.long q4), .second, .val (.int p5), .val (.int (p5 &&& (3 : Int32))), .val (.int bf), .val (.int rm), .val (.int ln), .val (.ref b2), .unset, .unset, .unset, .unset, .unset, .unset, .unset] [(.long q4), (.int (3 : Int32)), (.ref b11), (.ref b11)])) (fun t k => ?_) ?_
  · show Steps p.tables e below (T17.setTop (mkF m 99 #[.val (.long q1), .second, .val (.long q2), .second, .val (.long q3), .second, .val (.long q4), .second, .val (.int p5), .val (.int (p5 &&& (3 : Int32))), .val (.int bf), .val (.int rm), .val (.int ln), .val (.ref b2), .unset, .unset, .unset, .unset, .unset, .unset, .unset] [(.ref b11)])) t
    refine XS.dup X17.here hx rfl (hb hby at_99) rfl rfl ?_
    show Steps p.tables e below (T17.setTop (mkF m 100 #[.val (.long q1), .second, .val (.long q2), .second, .val (.long q3), .second, .val (.long q4), .second, .val (.int p5), .val (.int (p5 &&& (3 : Int32))), .val (.int bf), .val (.int rm), .val (.int ln), .val (.ref b2), .unset, .unset, .unset, .unset, .unset, .unset, .unset] [(.ref b11), (.ref b11)])) t
    refine XS.iconst X17.here hx rfl (hb hby at_100) ?_
    show Steps p.tables e below (T17.setTop (mkF m 101 #[.val (.long q1), .second, .val (.long q2), .second, .val (.long q3), .second, .val (.long q4), .second, .val (.int p5), .val (.int (p5 &&& (3 : Int32))), .val (.int bf), .val (.int rm), .val (.int ln), .val (.ref b2), .unset, .unset, .unset, .unset, .unset, .unset, .unset] [(.int (3 : Int32)), (.ref b11), (.ref b11)])) t
    refine XS.lload X17.here hx rfl (hb hby at_101) rfl ?_
    exact k
  have M18 := rm3 l Z a0 hw [] q4 h17 n0 (Nat.le_trans (Nat.le_trans (Nat.le_trans (Nat.le_trans (Nat.le_trans (Nat.le_trans (Nat.le_trans (Nat.le_trans (Nat.le_trans Z0 E2.1) (Keep.of_wr W4).1) (Keep.of_wr W6).1) (Keep.of_wr W8).1) (Keep.of_wr W10).1) E11.1) (Keep.of_wr W13).1) (Keep.of_wr W15).1) (Keep.of_wr W17).1)
  obtain ⟨_, _, ⟨T18, L18, k18, n18⟩, -, X18, ⟨Lc18, hQ18, l18, y18, z18⟩, st18⟩ := Jvm.LawKit.callS X17 hx (y := (⟨"com/example/eager_recall/eagerrecall/vectors/ExactSumsDotPinLaw", "lo", "(J)J"⟩ : MethodName)) hown (mvT hZ (hw _ (List.mem_of_getElem? (i := 9) rfl))) (mvT hZ (hw _ (List.mem_of_getElem? (i := 10) rfl))) (mvT hZ (hw _ (List.mem_of_getElem? (i := 7) rfl))) (mvT hZ (hw _ (List.mem_of_getElem? (i := 11) rfl))) (by decide) (backOf (W := 3) (M18) hZ (hw _ (List.mem_of_getElem? (i := 11) rfl)) (hw _ (List.mem_of_getElem? (i := 7) rfl)) (by decide) (by decide)) (g := (mkF m 103 #[.val (.long q1), .second, .val (.long q2), .second, .val (.long q3), .second, .val (.long q4), .second, .val (.int p5), .val (.int (p5 &&& (3 : Int32))), .val (.int bf), .val (.int rm), .val (.int ln), .val (.ref b2), .unset, .unset, .unset, .unset, .unset, .unset, .unset] [(.long q4), (.int (3 : Int32)), (.ref b11), (.ref b11)])) rfl (by rw [hml]; rfl) (argsL := [(.long q4)]) (rest := [(.int (3 : Int32)), (.ref b11), (.ref b11)]) (lenOf pd_rm0_1 rfl) rfl (by show 2 * 0 + _ ≤ _; exact Nat.le_of_eq rfl) (hb hby at_103) (fun _ _ => ⟨rfl, e17, (by decide : 2 + 0 ≤ _), (by decide : 8 + 0 ≤ _)⟩)
  dsimp only [Pt.U, Pt.locs, Pt.cells, Pt.slots] at X18 l18 y18 z18 st18 hQ18
  subst l18 y18 z18
  obtain ⟨rfl, N18q, hh18⟩ := hQ18
  have N18 := Fr.app N17 N18q
  obtain ⟨LL18, X18, N18⟩ := own_abs X18 N18
  refine own_go (fun t k => st18 t k) ?_
  obtain ⟨cl19, Ar19, hin19, -, -, -⟩ := f17_1.get (j := (3 : Int32)) (by decide) (by decide)
  obtain ⟨T19, h19, X19, e19, W19, st19⟩ := stJ X18 hx hZ hh18 Ar19 (j := (3 : Int32)) hin19 (g := (mkF m 106 #[.val (.long q1), .second, .val (.long q2), .second, .val (.long q3), .second, .val (.long q4), .second, .val (.int p5), .val (.int (p5 &&& (3 : Int32))), .val (.int bf), .val (.int rm), .val (.int ln), .val (.ref b2), .unset, .unset, .unset, .unset, .unset, .unset, .unset] [(.long ((q4 <<< ((25 : Int32) &&& 0x3f).toInt64) >>> ((39 : Int32) &&& 0x3f).toInt64)), (.int (3 : Int32)), (.ref b11), (.ref b11)])) rfl rfl (hb hby at_106)
  refine own_go (fun t k => st19 t k) ?_
  have N19 := Fr.snoc X19 N18 g_b11
  obtain ⟨LL19, X19, N19⟩ := own_abs X19 N19
  have f19_0 := f17_0.other W19 ne11_b2
  have f19_1 := f17_1.setk W19 3 (by decide)
  refine own_go (B := T19.setTop (mkF m 110 #[.val (.long q1), .second, .val (.long q2), .second, .val (.long q3), .second, .val (.long q4), .second, .val (.int p5), .val (.int (p5 &&& (3 : Int32))), .val (.int bf), .val (.int rm), .val (.int ln), .val (.ref b2), .val (.ref b11), .unset, .unset, .unset, .unset, .unset, .unset] [(.int (4 : Int32))])) (fun t k => ?_) ?_
  · show Steps p.tables e below (T19.setTop (mkF m 107 #[.val (.long q1), .second, .val (.long q2), .second, .val (.long q3), .second, .val (.long q4), .second, .val (.int p5), .val (.int (p5 &&& (3 : Int32))), .val (.int bf), .val (.int rm), .val (.int ln), .val (.ref b2), .unset, .unset, .unset, .unset, .unset, .unset, .unset] [(.ref b11)])) t
    refine XS.astore X19.here hx rfl (hb hby at_107) rfl rfl (l' := #[.val (.long q1), .second, .val (.long q2), .second, .val (.long q3), .second, .val (.long q4), .second, .val (.int p5), .val (.int (p5 &&& (3 : Int32))), .val (.int bf), .val (.int rm), .val (.int ln), .val (.ref b2), .val (.ref b11), .unset, .unset, .unset, .unset, .unset, .unset]) rfl ?_
    show Steps p.tables e below (T19.setTop (mkF m 109 #[.val (.long q1), .second, .val (.long q2), .second, .val (.long q3), .second, .val (.long q4), .second, .val (.int p5), .val (.int (p5 &&& (3 : Int32))), .val (.int bf), .val (.int rm), .val (.int ln), .val (.ref b2), .val (.ref b11), .unset, .unset, .unset, .unset, .unset, .unset] [])) t
    refine XS.iconst X19.here hx rfl (hb hby at_109) ?_
    exact k
  obtain ⟨T20, h20, k20, X20, e20, E20, A20, st20⟩ := newP X19 hx hZ (hw _ (List.mem_of_getElem? (i := 12) rfl)) e19 (g := (mkF m 110 #[.val (.long q1), .second, .val (.long q2), .second, .val (.long q3), .second, .val (.long q4), .second, .val (.int p5), .val (.int (p5 &&& (3 : Int32))), .val (.int bf), .val (.int rm), .val (.int ln), .val (.ref b2), .val (.ref b11), .unset, .unset, .unset, .unset, .unset, .unset] [(.int (4 : Int32))])) rfl (hb hby at_110) rfl (by decide) (cap := 4) (by decide) (by decide) (by decide) (by decide)
  obtain ⟨b20, g20⟩ : ∃ z, z = h19.size := ⟨_, rfl⟩
  rw [← g20] at A20 st20
  refine own_go (fun t k => st20 t k) ?_
  have g_b20 : n0 ≤ b20 := Nat.le_trans (Nat.le_trans (Nat.le_trans (Nat.le_trans (Nat.le_trans (Nat.le_trans (Nat.le_trans (Nat.le_trans (Nat.le_trans (Nat.le_trans (Nat.le_trans Z0 E2.1) (Keep.of_wr W4).1) (Keep.of_wr W6).1) (Keep.of_wr W8).1) (Keep.of_wr W10).1) E11.1) (Keep.of_wr W13).1) (Keep.of_wr W15).1) (Keep.of_wr W17).1) (Keep.of_wr W19).1) (Nat.le_of_eq g20.symm)
  have ne20_b2 : b2 ≠ b20 := Nat.ne_of_lt (Nat.lt_of_lt_of_le f19_0.lt (Nat.le_of_eq g20.symm))
  have ne20_b11 : b11 ≠ b20 := Nat.ne_of_lt (Nat.lt_of_lt_of_le f19_1.lt (Nat.le_of_eq g20.symm))
  have f20_0 := f19_0.ext E20
  have f20_1 := f19_1.ext E20
  have V20 : own_Ag Value.float Z h20 b20 .float (4 : Int32) (fun _ => (0 : UInt32)) := own_Ag.new (Arv.new A20 (by decide))
  refine own_go (B := T20.setTop (mkF m 117 #[.val (.long q1), .second, .val (.long q2), .second, .val (.long q3), .second, .val (.long q4), .second, .val (.int p5), .val (.int (p5 &&& (3 : Int32))), .val (.int bf), .val (.int rm), .val (.int ln), .val (.ref b2), .val (.ref b11), .unset, .unset, .unset, .unset, .unset, .unset] [(.int (0 : Int32)), (.ref b2), (.int (0 : Int32)), (.ref b20), (.ref b20)])) (fun t k => ?_) ?_
  · show Steps p.tables e below (T20.setTop (mkF m 112 #[.val (.long q1), .second, .val (.long q2), .second, .val (.long q3), .second, .val (.long q4), .second, .val (.int p5), .val (.int (p5 &&& (3 : Int32))), .val (.int bf), .val (.int rm), .val (.int ln), .val (.ref b2), .val (.ref b11), .unset, .unset, .unset, .unset, .unset, .unset] [(.ref b20)])) t
    refine XS.dup X20.here hx rfl (hb hby at_112) rfl rfl ?_
    show Steps p.tables e below (T20.setTop (mkF m 113 #[.val (.long q1), .second, .val (.long q2), .second, .val (.long q3), .second, .val (.long q4), .second, .val (.int p5), .val (.int (p5 &&& (3 : Int32))), .val (.int bf), .val (.int rm), .val (.int ln), .val (.ref b2), .val (.ref b11), .unset, .unset, .unset, .unset, .unset, .unset] [(.ref b20), (.ref b20)])) t
    refine XS.iconst X20.here hx rfl (hb hby at_113) ?_
    show Steps p.tables e below (T20.setTop (mkF m 114 #[.val (.long q1), .second, .val (.long q2), .second, .val (.long q3), .second, .val (.long q4), .second, .val (.int p5), .val (.int (p5 &&& (3 : Int32))), .val (.int bf), .val (.int rm), .val (.int ln), .val (.ref b2), .val (.ref b11), .unset, .unset, .unset, .unset, .unset, .unset] [(.int (0 : Int32)), (.ref b20), (.ref b20)])) t
    refine XS.aload X20.here hx rfl (hb hby at_114) rfl rfl ?_
    show Steps p.tables e below (T20.setTop (mkF m 116 #[.val (.long q1), .second, .val (.long q2), .second, .val (.long q3), .second, .val (.long q4), .second, .val (.int p5), .val (.int (p5 &&& (3 : Int32))), .val (.int bf), .val (.int rm), .val (.int ln), .val (.ref b2), .val (.ref b11), .unset, .unset, .unset, .unset, .unset, .unset] [(.ref b2), (.int (0 : Int32)), (.ref b20), (.ref b20)])) t
    refine XS.iconst X20.here hx rfl (hb hby at_116) ?_
    exact k
  obtain ⟨cl21, Ar21, hin21, hat21, -, -⟩ := f20_0.get (j := (0 : Int32)) (by decide) (by decide)
  have hat21 : cl21.slots[((0 : Int32)).toNatClampNeg]? = some (.long (q1 >>> ((39 : Int32) &&& 0x3f).toInt64)) := hat21.trans (by rw [show ((0 : Int32)).toNatClampNeg = 0 from by decide]; rfl)
  refine own_go (X20.laload hx (j := (0 : Int32)) (v := (.long (q1 >>> ((39 : Int32) &&& 0x3f).toInt64))) (by rw [e20]; exact Ar21.1) (State.isArrayOf_alike hZ.alike Ar21.2.1) Ar21.2.2 hin21 hat21 (g := (mkF m 117 #[.val (.long q1), .second, .val (.long q2), .second, .val (.long q3), .second, .val (.long q4), .second, .val (.int p5), .val (.int (p5 &&& (3 : Int32))), .val (.int bf), .val (.int rm), .val (.int ln), .val (.ref b2), .val (.ref b11), .unset, .unset, .unset, .unset, .unset, .unset] [(.int (0 : Int32)), (.ref b2), (.int (0 : Int32)), (.ref b20), (.ref b20)])) rfl rfl (hb hby at_117)) ?_
  refine own_go (B := T20.setTop (mkF m 119 #[.val (.long q1), .second, .val (.long q2), .second, .val (.long q3), .second, .val (.long q4), .second, .val (.int p5), .val (.int (p5 &&& (3 : Int32))), .val (.int bf), .val (.int rm), .val (.int ln), .val (.ref b2), .val (.ref b11), .unset, .unset, .unset, .unset, .unset, .unset] [(.float (FP.l2f (q1 >>> ((39 : Int32) &&& 0x3f).toInt64))), (.int (0 : Int32)), (.ref b20), (.ref b20)])) (fun t k => ?_) ?_
  · show Steps p.tables e below (T20.setTop (mkF m 118 #[.val (.long q1), .second, .val (.long q2), .second, .val (.long q3), .second, .val (.long q4), .second, .val (.int p5), .val (.int (p5 &&& (3 : Int32))), .val (.int bf), .val (.int rm), .val (.int ln), .val (.ref b2), .val (.ref b11), .unset, .unset, .unset, .unset, .unset, .unset] [(.long (q1 >>> ((39 : Int32) &&& 0x3f).toInt64)), (.int (0 : Int32)), (.ref b20), (.ref b20)])) t
    refine XS.l2fS X20.here hx rfl (hb hby at_118) rfl rfl ?_
    exact k
  obtain ⟨cl22, Ar22, hin22, -, -, -⟩ := V20.get (j := (0 : Int32)) (by decide) (by decide)
  obtain ⟨T22, h22, X22, e22, W22, st22⟩ := stF X20 hx hZ e20 Ar22 (j := (0 : Int32)) hin22 (g := (mkF m 119 #[.val (.long q1), .second, .val (.long q2), .second, .val (.long q3), .second, .val (.long q4), .second, .val (.int p5), .val (.int (p5 &&& (3 : Int32))), .val (.int bf), .val (.int rm), .val (.int ln), .val (.ref b2), .val (.ref b11), .unset, .unset, .unset, .unset, .unset, .unset] [(.float (FP.l2f (q1 >>> ((39 : Int32) &&& 0x3f).toInt64))), (.int (0 : Int32)), (.ref b20), (.ref b20)])) rfl rfl (hb hby at_119)
  refine own_go (fun t k => st22 t k) ?_
  have N22 := Fr.snoc X22 N19 g_b20
  obtain ⟨LL22, X22, N22⟩ := own_abs X22 N22
  have f22_0 := f20_0.other W22 ne20_b2
  have f22_1 := f20_1.other W22 ne20_b11
  have f22_2 := V20.setk W22 0 (by decide)
  refine own_go (B := T22.setTop (mkF m 125 #[.val (.long q1), .second, .val (.long q2), .second, .val (.long q3), .second, .val (.long q4), .second, .val (.int p5), .val (.int (p5 &&& (3 : Int32))), .val (.int bf), .val (.int rm), .val (.int ln), .val (.ref b2), .val (.ref b11), .unset, .unset, .unset, .unset, .unset, .unset] [(.int (1 : Int32)), (.ref b2), (.int (1 : Int32)), (.ref b20), (.ref b20)])) (fun t k => ?_) ?_
  · show Steps p.tables e below (T22.setTop (mkF m 120 #[.val (.long q1), .second, .val (.long q2), .second, .val (.long q3), .second, .val (.long q4), .second, .val (.int p5), .val (.int (p5 &&& (3 : Int32))), .val (.int bf), .val (.int rm), .val (.int ln), .val (.ref b2), .val (.ref b11), .unset, .unset, .unset, .unset, .unset, .unset] [(.ref b20)])) t
    refine XS.dup X22.here hx rfl (hb hby at_120) rfl rfl ?_
    show Steps p.tables e below (T22.setTop (mkF m 121 #[.val (.long q1), .second, .val (.long q2), .second, .val (.long q3), .second, .val (.long q4), .second, .val (.int p5), .val (.int (p5 &&& (3 : Int32))), .val (.int bf), .val (.int rm), .val (.int ln), .val (.ref b2), .val (.ref b11), .unset, .unset, .unset, .unset, .unset, .unset] [(.ref b20), (.ref b20)])) t
    refine XS.iconst X22.here hx rfl (hb hby at_121) ?_
    show Steps p.tables e below (T22.setTop (mkF m 122 #[.val (.long q1), .second, .val (.long q2), .second, .val (.long q3), .second, .val (.long q4), .second, .val (.int p5), .val (.int (p5 &&& (3 : Int32))), .val (.int bf), .val (.int rm), .val (.int ln), .val (.ref b2), .val (.ref b11), .unset, .unset, .unset, .unset, .unset, .unset] [(.int (1 : Int32)), (.ref b20), (.ref b20)])) t
    refine XS.aload X22.here hx rfl (hb hby at_122) rfl rfl ?_
    show Steps p.tables e below (T22.setTop (mkF m 124 #[.val (.long q1), .second, .val (.long q2), .second, .val (.long q3), .second, .val (.long q4), .second, .val (.int p5), .val (.int (p5 &&& (3 : Int32))), .val (.int bf), .val (.int rm), .val (.int ln), .val (.ref b2), .val (.ref b11), .unset, .unset, .unset, .unset, .unset, .unset] [(.ref b2), (.int (1 : Int32)), (.ref b20), (.ref b20)])) t
    refine XS.iconst X22.here hx rfl (hb hby at_124) ?_
    exact k
  obtain ⟨cl23, Ar23, hin23, hat23, -, -⟩ := f22_0.get (j := (1 : Int32)) (by decide) (by decide)
  have hat23 : cl23.slots[((1 : Int32)).toNatClampNeg]? = some (.long (q2 >>> ((39 : Int32) &&& 0x3f).toInt64)) := hat23.trans (by rw [show ((1 : Int32)).toNatClampNeg = 1 from by decide]; rfl)
  refine own_go (X22.laload hx (j := (1 : Int32)) (v := (.long (q2 >>> ((39 : Int32) &&& 0x3f).toInt64))) (by rw [e22]; exact Ar23.1) (State.isArrayOf_alike hZ.alike Ar23.2.1) Ar23.2.2 hin23 hat23 (g := (mkF m 125 #[.val (.long q1), .second, .val (.long q2), .second, .val (.long q3), .second, .val (.long q4), .second, .val (.int p5), .val (.int (p5 &&& (3 : Int32))), .val (.int bf), .val (.int rm), .val (.int ln), .val (.ref b2), .val (.ref b11), .unset, .unset, .unset, .unset, .unset, .unset] [(.int (1 : Int32)), (.ref b2), (.int (1 : Int32)), (.ref b20), (.ref b20)])) rfl rfl (hb hby at_125)) ?_
  refine own_go (B := T22.setTop (mkF m 127 #[.val (.long q1), .second, .val (.long q2), .second, .val (.long q3), .second, .val (.long q4), .second, .val (.int p5), .val (.int (p5 &&& (3 : Int32))), .val (.int bf), .val (.int rm), .val (.int ln), .val (.ref b2), .val (.ref b11), .unset, .unset, .unset, .unset, .unset, .unset] [(.float (FP.l2f (q2 >>> ((39 : Int32) &&& 0x3f).toInt64))), (.int (1 : Int32)), (.ref b20), (.ref b20)])) (fun t k => ?_) ?_
  · show Steps p.tables e below (T22.setTop (mkF m 126 #[.val (.long q1), .second, .val (.long q2), .second, .val (.long q3), .second, .val (.long q4), .second, .val (.int p5), .val (.int (p5 &&& (3 : Int32))), .val (.int bf), .val (.int rm), .val (.int ln), .val (.ref b2), .val (.ref b11), .unset, .unset, .unset, .unset, .unset, .unset] [(.long (q2 >>> ((39 : Int32) &&& 0x3f).toInt64)), (.int (1 : Int32)), (.ref b20), (.ref b20)])) t
    refine XS.l2fS X22.here hx rfl (hb hby at_126) rfl rfl ?_
    exact k
  obtain ⟨cl24, Ar24, hin24, -, -, -⟩ := f22_2.get (j := (1 : Int32)) (by decide) (by decide)
  obtain ⟨T24, h24, X24, e24, W24, st24⟩ := stF X22 hx hZ e22 Ar24 (j := (1 : Int32)) hin24 (g := (mkF m 127 #[.val (.long q1), .second, .val (.long q2), .second, .val (.long q3), .second, .val (.long q4), .second, .val (.int p5), .val (.int (p5 &&& (3 : Int32))), .val (.int bf), .val (.int rm), .val (.int ln), .val (.ref b2), .val (.ref b11), .unset, .unset, .unset, .unset, .unset, .unset] [(.float (FP.l2f (q2 >>> ((39 : Int32) &&& 0x3f).toInt64))), (.int (1 : Int32)), (.ref b20), (.ref b20)])) rfl rfl (hb hby at_127)
  refine own_go (fun t k => st24 t k) ?_
  have N24 := Fr.snoc X24 N22 g_b20
  obtain ⟨LL24, X24, N24⟩ := own_abs X24 N24
  have f24_0 := f22_0.other W24 ne20_b2
  have f24_1 := f22_1.other W24 ne20_b11
  have f24_2 := f22_2.setk W24 1 (by decide)
  refine own_go (B := T24.setTop (mkF m 133 #[.val (.long q1), .second, .val (.long q2), .second, .val (.long q3), .second, .val (.long q4), .second, .val (.int p5), .val (.int (p5 &&& (3 : Int32))), .val (.int bf), .val (.int rm), .val (.int ln), .val (.ref b2), .val (.ref b11), .unset, .unset, .unset, .unset, .unset, .unset] [(.int (2 : Int32)), (.ref b2), (.int (2 : Int32)), (.ref b20), (.ref b20)])) (fun t k => ?_) ?_
  · show Steps p.tables e below (T24.setTop (mkF m 128 #[.val (.long q1), .second, .val (.long q2), .second, .val (.long q3), .second, .val (.long q4), .second, .val (.int p5), .val (.int (p5 &&& (3 : Int32))), .val (.int bf), .val (.int rm), .val (.int ln), .val (.ref b2), .val (.ref b11), .unset, .unset, .unset, .unset, .unset, .unset] [(.ref b20)])) t
    refine XS.dup X24.here hx rfl (hb hby at_128) rfl rfl ?_
    show Steps p.tables e below (T24.setTop (mkF m 129 #[.val (.long q1), .second, .val (.long q2), .second, .val (.long q3), .second, .val (.long q4), .second, .val (.int p5), .val (.int (p5 &&& (3 : Int32))), .val (.int bf), .val (.int rm), .val (.int ln), .val (.ref b2), .val (.ref b11), .unset, .unset, .unset, .unset, .unset, .unset] [(.ref b20), (.ref b20)])) t
    refine XS.iconst X24.here hx rfl (hb hby at_129) ?_
    show Steps p.tables e below (T24.setTop (mkF m 130 #[.val (.long q1), .second, .val (.long q2), .second, .val (.long q3), .second, .val (.long q4), .second, .val (.int p5), .val (.int (p5 &&& (3 : Int32))), .val (.int bf), .val (.int rm), .val (.int ln), .val (.ref b2), .val (.ref b11), .unset, .unset, .unset, .unset, .unset, .unset] [(.int (2 : Int32)), (.ref b20), (.ref b20)])) t
    refine XS.aload X24.here hx rfl (hb hby at_130) rfl rfl ?_
    show Steps p.tables e below (T24.setTop (mkF m 132 #[.val (.long q1), .second, .val (.long q2), .second, .val (.long q3), .second, .val (.long q4), .second, .val (.int p5), .val (.int (p5 &&& (3 : Int32))), .val (.int bf), .val (.int rm), .val (.int ln), .val (.ref b2), .val (.ref b11), .unset, .unset, .unset, .unset, .unset, .unset] [(.ref b2), (.int (2 : Int32)), (.ref b20), (.ref b20)])) t
    refine XS.iconst X24.here hx rfl (hb hby at_132) ?_
    exact k
  obtain ⟨cl25, Ar25, hin25, hat25, -, -⟩ := f24_0.get (j := (2 : Int32)) (by decide) (by decide)
  have hat25 : cl25.slots[((2 : Int32)).toNatClampNeg]? = some (.long (q3 >>> ((39 : Int32) &&& 0x3f).toInt64)) := hat25.trans (by rw [show ((2 : Int32)).toNatClampNeg = 2 from by decide]; rfl)
  refine own_go (X24.laload hx (j := (2 : Int32)) (v := (.long (q3 >>> ((39 : Int32) &&& 0x3f).toInt64))) (by rw [e24]; exact Ar25.1) (State.isArrayOf_alike hZ.alike Ar25.2.1) Ar25.2.2 hin25 hat25 (g := (mkF m 133 #[.val (.long q1), .second, .val (.long q2), .second, .val (.long q3), .second, .val (.long q4), .second, .val (.int p5), .val (.int (p5 &&& (3 : Int32))), .val (.int bf), .val (.int rm), .val (.int ln), .val (.ref b2), .val (.ref b11), .unset, .unset, .unset, .unset, .unset, .unset] [(.int (2 : Int32)), (.ref b2), (.int (2 : Int32)), (.ref b20), (.ref b20)])) rfl rfl (hb hby at_133)) ?_
  refine own_go (B := T24.setTop (mkF m 135 #[.val (.long q1), .second, .val (.long q2), .second, .val (.long q3), .second, .val (.long q4), .second, .val (.int p5), .val (.int (p5 &&& (3 : Int32))), .val (.int bf), .val (.int rm), .val (.int ln), .val (.ref b2), .val (.ref b11), .unset, .unset, .unset, .unset, .unset, .unset] [(.float (FP.l2f (q3 >>> ((39 : Int32) &&& 0x3f).toInt64))), (.int (2 : Int32)), (.ref b20), (.ref b20)])) (fun t k => ?_) ?_
  · show Steps p.tables e below (T24.setTop (mkF m 134 #[.val (.long q1), .second, .val (.long q2), .second, .val (.long q3), .second, .val (.long q4), .second, .val (.int p5), .val (.int (p5 &&& (3 : Int32))), .val (.int bf), .val (.int rm), .val (.int ln), .val (.ref b2), .val (.ref b11), .unset, .unset, .unset, .unset, .unset, .unset] [(.long (q3 >>> ((39 : Int32) &&& 0x3f).toInt64)), (.int (2 : Int32)), (.ref b20), (.ref b20)])) t
    refine XS.l2fS X24.here hx rfl (hb hby at_134) rfl rfl ?_
    exact k
  obtain ⟨cl26, Ar26, hin26, -, -, -⟩ := f24_2.get (j := (2 : Int32)) (by decide) (by decide)
  obtain ⟨T26, h26, X26, e26, W26, st26⟩ := stF X24 hx hZ e24 Ar26 (j := (2 : Int32)) hin26 (g := (mkF m 135 #[.val (.long q1), .second, .val (.long q2), .second, .val (.long q3), .second, .val (.long q4), .second, .val (.int p5), .val (.int (p5 &&& (3 : Int32))), .val (.int bf), .val (.int rm), .val (.int ln), .val (.ref b2), .val (.ref b11), .unset, .unset, .unset, .unset, .unset, .unset] [(.float (FP.l2f (q3 >>> ((39 : Int32) &&& 0x3f).toInt64))), (.int (2 : Int32)), (.ref b20), (.ref b20)])) rfl rfl (hb hby at_135)
  refine own_go (fun t k => st26 t k) ?_
  have N26 := Fr.snoc X26 N24 g_b20
  obtain ⟨LL26, X26, N26⟩ := own_abs X26 N26
  have f26_0 := f24_0.other W26 ne20_b2
  have f26_1 := f24_1.other W26 ne20_b11
  have f26_2 := f24_2.setk W26 2 (by decide)
  refine own_go (B := T26.setTop (mkF m 141 #[.val (.long q1), .second, .val (.long q2), .second, .val (.long q3), .second, .val (.long q4), .second, .val (.int p5), .val (.int (p5 &&& (3 : Int32))), .val (.int bf), .val (.int rm), .val (.int ln), .val (.ref b2), .val (.ref b11), .unset, .unset, .unset, .unset, .unset, .unset] [(.int (3 : Int32)), (.ref b2), (.int (3 : Int32)), (.ref b20), (.ref b20)])) (fun t k => ?_) ?_
  · show Steps p.tables e below (T26.setTop (mkF m 136 #[.val (.long q1), .second, .val (.long q2), .second, .val (.long q3), .second, .val (.long q4), .second, .val (.int p5), .val (.int (p5 &&& (3 : Int32))), .val (.int bf), .val (.int rm), .val (.int ln), .val (.ref b2), .val (.ref b11), .unset, .unset, .unset, .unset, .unset, .unset] [(.ref b20)])) t
    refine XS.dup X26.here hx rfl (hb hby at_136) rfl rfl ?_
    show Steps p.tables e below (T26.setTop (mkF m 137 #[.val (.long q1), .second, .val (.long q2), .second, .val (.long q3), .second, .val (.long q4), .second, .val (.int p5), .val (.int (p5 &&& (3 : Int32))), .val (.int bf), .val (.int rm), .val (.int ln), .val (.ref b2), .val (.ref b11), .unset, .unset, .unset, .unset, .unset, .unset] [(.ref b20), (.ref b20)])) t
    refine XS.iconst X26.here hx rfl (hb hby at_137) ?_
    show Steps p.tables e below (T26.setTop (mkF m 138 #[.val (.long q1), .second, .val (.long q2), .second, .val (.long q3), .second, .val (.long q4), .second, .val (.int p5), .val (.int (p5 &&& (3 : Int32))), .val (.int bf), .val (.int rm), .val (.int ln), .val (.ref b2), .val (.ref b11), .unset, .unset, .unset, .unset, .unset, .unset] [(.int (3 : Int32)), (.ref b20), (.ref b20)])) t
    refine XS.aload X26.here hx rfl (hb hby at_138) rfl rfl ?_
    show Steps p.tables e below (T26.setTop (mkF m 140 #[.val (.long q1), .second, .val (.long q2), .second, .val (.long q3), .second, .val (.long q4), .second, .val (.int p5), .val (.int (p5 &&& (3 : Int32))), .val (.int bf), .val (.int rm), .val (.int ln), .val (.ref b2), .val (.ref b11), .unset, .unset, .unset, .unset, .unset, .unset] [(.ref b2), (.int (3 : Int32)), (.ref b20), (.ref b20)])) t
    refine XS.iconst X26.here hx rfl (hb hby at_140) ?_
    exact k
  obtain ⟨cl27, Ar27, hin27, hat27, -, -⟩ := f26_0.get (j := (3 : Int32)) (by decide) (by decide)
  have hat27 : cl27.slots[((3 : Int32)).toNatClampNeg]? = some (.long (q4 >>> ((39 : Int32) &&& 0x3f).toInt64)) := hat27.trans (by rw [show ((3 : Int32)).toNatClampNeg = 3 from by decide]; rfl)
  refine own_go (X26.laload hx (j := (3 : Int32)) (v := (.long (q4 >>> ((39 : Int32) &&& 0x3f).toInt64))) (by rw [e26]; exact Ar27.1) (State.isArrayOf_alike hZ.alike Ar27.2.1) Ar27.2.2 hin27 hat27 (g := (mkF m 141 #[.val (.long q1), .second, .val (.long q2), .second, .val (.long q3), .second, .val (.long q4), .second, .val (.int p5), .val (.int (p5 &&& (3 : Int32))), .val (.int bf), .val (.int rm), .val (.int ln), .val (.ref b2), .val (.ref b11), .unset, .unset, .unset, .unset, .unset, .unset] [(.int (3 : Int32)), (.ref b2), (.int (3 : Int32)), (.ref b20), (.ref b20)])) rfl rfl (hb hby at_141)) ?_
  refine own_go (B := T26.setTop (mkF m 143 #[.val (.long q1), .second, .val (.long q2), .second, .val (.long q3), .second, .val (.long q4), .second, .val (.int p5), .val (.int (p5 &&& (3 : Int32))), .val (.int bf), .val (.int rm), .val (.int ln), .val (.ref b2), .val (.ref b11), .unset, .unset, .unset, .unset, .unset, .unset] [(.float (FP.l2f (q4 >>> ((39 : Int32) &&& 0x3f).toInt64))), (.int (3 : Int32)), (.ref b20), (.ref b20)])) (fun t k => ?_) ?_
  · show Steps p.tables e below (T26.setTop (mkF m 142 #[.val (.long q1), .second, .val (.long q2), .second, .val (.long q3), .second, .val (.long q4), .second, .val (.int p5), .val (.int (p5 &&& (3 : Int32))), .val (.int bf), .val (.int rm), .val (.int ln), .val (.ref b2), .val (.ref b11), .unset, .unset, .unset, .unset, .unset, .unset] [(.long (q4 >>> ((39 : Int32) &&& 0x3f).toInt64)), (.int (3 : Int32)), (.ref b20), (.ref b20)])) t
    refine XS.l2fS X26.here hx rfl (hb hby at_142) rfl rfl ?_
    exact k
  obtain ⟨cl28, Ar28, hin28, -, -, -⟩ := f26_2.get (j := (3 : Int32)) (by decide) (by decide)
  obtain ⟨T28, h28, X28, e28, W28, st28⟩ := stF X26 hx hZ e26 Ar28 (j := (3 : Int32)) hin28 (g := (mkF m 143 #[.val (.long q1), .second, .val (.long q2), .second, .val (.long q3), .second, .val (.long q4), .second, .val (.int p5), .val (.int (p5 &&& (3 : Int32))), .val (.int bf), .val (.int rm), .val (.int ln), .val (.ref b2), .val (.ref b11), .unset, .unset, .unset, .unset, .unset, .unset] [(.float (FP.l2f (q4 >>> ((39 : Int32) &&& 0x3f).toInt64))), (.int (3 : Int32)), (.ref b20), (.ref b20)])) rfl rfl (hb hby at_143)
  refine own_go (fun t k => st28 t k) ?_
  have N28 := Fr.snoc X28 N26 g_b20
  obtain ⟨LL28, X28, N28⟩ := own_abs X28 N28
  have f28_0 := f26_0.other W28 ne20_b2
  have f28_1 := f26_1.other W28 ne20_b11
  have f28_2 := f26_2.setk W28 3 (by decide)
  refine own_go (B := T28.setTop (mkF m 147 #[.val (.long q1), .second, .val (.long q2), .second, .val (.long q3), .second, .val (.long q4), .second, .val (.int p5), .val (.int (p5 &&& (3 : Int32))), .val (.int bf), .val (.int rm), .val (.int ln), .val (.ref b2), .val (.ref b11), .val (.ref b20), .unset, .unset, .unset, .unset, .unset] [(.int (4 : Int32))])) (fun t k => ?_) ?_
  · show Steps p.tables e below (T28.setTop (mkF m 144 #[.val (.long q1), .second, .val (.long q2), .second, .val (.long q3), .second, .val (.long q4), .second, .val (.int p5), .val (.int (p5 &&& (3 : Int32))), .val (.int bf), .val (.int rm), .val (.int ln), .val (.ref b2), .val (.ref b11), .unset, .unset, .unset, .unset, .unset, .unset] [(.ref b20)])) t
    refine XS.astore X28.here hx rfl (hb hby at_144) rfl rfl (l' := #[.val (.long q1), .second, .val (.long q2), .second, .val (.long q3), .second, .val (.long q4), .second, .val (.int p5), .val (.int (p5 &&& (3 : Int32))), .val (.int bf), .val (.int rm), .val (.int ln), .val (.ref b2), .val (.ref b11), .val (.ref b20), .unset, .unset, .unset, .unset, .unset]) rfl ?_
    show Steps p.tables e below (T28.setTop (mkF m 146 #[.val (.long q1), .second, .val (.long q2), .second, .val (.long q3), .second, .val (.long q4), .second, .val (.int p5), .val (.int (p5 &&& (3 : Int32))), .val (.int bf), .val (.int rm), .val (.int ln), .val (.ref b2), .val (.ref b11), .val (.ref b20), .unset, .unset, .unset, .unset, .unset] [])) t
    refine XS.iconst X28.here hx rfl (hb hby at_146) ?_
    exact k
  obtain ⟨T29, h29, k29, X29, e29, E29, A29, st29⟩ := newP X28 hx hZ (hw _ (List.mem_of_getElem? (i := 12) rfl)) e28 (g := (mkF m 147 #[.val (.long q1), .second, .val (.long q2), .second, .val (.long q3), .second, .val (.long q4), .second, .val (.int p5), .val (.int (p5 &&& (3 : Int32))), .val (.int bf), .val (.int rm), .val (.int ln), .val (.ref b2), .val (.ref b11), .val (.ref b20), .unset, .unset, .unset, .unset, .unset] [(.int (4 : Int32))])) rfl (hb hby at_147) rfl (by decide) (cap := 4) (by decide) (by decide) (by decide) (by decide)
  obtain ⟨b29, g29⟩ : ∃ z, z = h28.size := ⟨_, rfl⟩
  rw [← g29] at A29 st29
  refine own_go (fun t k => st29 t k) ?_
  have g_b29 : n0 ≤ b29 := Nat.le_trans (Nat.le_trans (Nat.le_trans (Nat.le_trans (Nat.le_trans (Nat.le_trans (Nat.le_trans (Nat.le_trans (Nat.le_trans (Nat.le_trans (Nat.le_trans (Nat.le_trans (Nat.le_trans (Nat.le_trans (Nat.le_trans (Nat.le_trans Z0 E2.1) (Keep.of_wr W4).1) (Keep.of_wr W6).1) (Keep.of_wr W8).1) (Keep.of_wr W10).1) E11.1) (Keep.of_wr W13).1) (Keep.of_wr W15).1) (Keep.of_wr W17).1) (Keep.of_wr W19).1) E20.1) (Keep.of_wr W22).1) (Keep.of_wr W24).1) (Keep.of_wr W26).1) (Keep.of_wr W28).1) (Nat.le_of_eq g29.symm)
  have ne29_b2 : b2 ≠ b29 := Nat.ne_of_lt (Nat.lt_of_lt_of_le f28_0.lt (Nat.le_of_eq g29.symm))
  have ne29_b11 : b11 ≠ b29 := Nat.ne_of_lt (Nat.lt_of_lt_of_le f28_1.lt (Nat.le_of_eq g29.symm))
  have ne29_b20 : b20 ≠ b29 := Nat.ne_of_lt (Nat.lt_of_lt_of_le f28_2.lt (Nat.le_of_eq g29.symm))
  have f29_0 := f28_0.ext E29
  have f29_1 := f28_1.ext E29
  have f29_2 := f28_2.ext E29
  have V29 : own_Ag Value.float Z h29 b29 .float (4 : Int32) (fun _ => (0 : UInt32)) := own_Ag.new (Arv.new A29 (by decide))
  refine own_go (B := T29.setTop (mkF m 154 #[.val (.long q1), .second, .val (.long q2), .second, .val (.long q3), .second, .val (.long q4), .second, .val (.int p5), .val (.int (p5 &&& (3 : Int32))), .val (.int bf), .val (.int rm), .val (.int ln), .val (.ref b2), .val (.ref b11), .val (.ref b20), .unset, .unset, .unset, .unset, .unset] [(.int (0 : Int32)), (.ref b11), (.int (0 : Int32)), (.ref b29), (.ref b29)])) (fun t k => ?_) ?_
  · show Steps p.tables e below (T29.setTop (mkF m 149 #[.val (.long q1), .second, .val (.long q2), .second, .val (.long q3), .second, .val (.long q4), .second, .val (.int p5), .val (.int (p5 &&& (3 : Int32))), .val (.int bf), .val (.int rm), .val (.int ln), .val (.ref b2), .val (.ref b11), .val (.ref b20), .unset, .unset, .unset, .unset, .unset] [(.ref b29)])) t
    refine XS.dup X29.here hx rfl (hb hby at_149) rfl rfl ?_
    show Steps p.tables e below (T29.setTop (mkF m 150 #[.val (.long q1), .second, .val (.long q2), .second, .val (.long q3), .second, .val (.long q4), .second, .val (.int p5), .val (.int (p5 &&& (3 : Int32))), .val (.int bf), .val (.int rm), .val (.int ln), .val (.ref b2), .val (.ref b11), .val (.ref b20), .unset, .unset, .unset, .unset, .unset] [(.ref b29), (.ref b29)])) t
    refine XS.iconst X29.here hx rfl (hb hby at_150) ?_
    show Steps p.tables e below (T29.setTop (mkF m 151 #[.val (.long q1), .second, .val (.long q2), .second, .val (.long q3), .second, .val (.long q4), .second, .val (.int p5), .val (.int (p5 &&& (3 : Int32))), .val (.int bf), .val (.int rm), .val (.int ln), .val (.ref b2), .val (.ref b11), .val (.ref b20), .unset, .unset, .unset, .unset, .unset] [(.int (0 : Int32)), (.ref b29), (.ref b29)])) t
    refine XS.aload X29.here hx rfl (hb hby at_151) rfl rfl ?_
    show Steps p.tables e below (T29.setTop (mkF m 153 #[.val (.long q1), .second, .val (.long q2), .second, .val (.long q3), .second, .val (.long q4), .second, .val (.int p5), .val (.int (p5 &&& (3 : Int32))), .val (.int bf), .val (.int rm), .val (.int ln), .val (.ref b2), .val (.ref b11), .val (.ref b20), .unset, .unset, .unset, .unset, .unset] [(.ref b11), (.int (0 : Int32)), (.ref b29), (.ref b29)])) t
    refine XS.iconst X29.here hx rfl (hb hby at_153) ?_
    exact k
  obtain ⟨cl30, Ar30, hin30, hat30, -, -⟩ := f29_1.get (j := (0 : Int32)) (by decide) (by decide)
  have hat30 : cl30.slots[((0 : Int32)).toNatClampNeg]? = some (.long ((q1 <<< ((25 : Int32) &&& 0x3f).toInt64) >>> ((39 : Int32) &&& 0x3f).toInt64)) := hat30.trans (by rw [show ((0 : Int32)).toNatClampNeg = 0 from by decide]; rfl)
  refine own_go (X29.laload hx (j := (0 : Int32)) (v := (.long ((q1 <<< ((25 : Int32) &&& 0x3f).toInt64) >>> ((39 : Int32) &&& 0x3f).toInt64))) (by rw [e29]; exact Ar30.1) (State.isArrayOf_alike hZ.alike Ar30.2.1) Ar30.2.2 hin30 hat30 (g := (mkF m 154 #[.val (.long q1), .second, .val (.long q2), .second, .val (.long q3), .second, .val (.long q4), .second, .val (.int p5), .val (.int (p5 &&& (3 : Int32))), .val (.int bf), .val (.int rm), .val (.int ln), .val (.ref b2), .val (.ref b11), .val (.ref b20), .unset, .unset, .unset, .unset, .unset] [(.int (0 : Int32)), (.ref b11), (.int (0 : Int32)), (.ref b29), (.ref b29)])) rfl rfl (hb hby at_154)) ?_
  refine own_go (B := T29.setTop (mkF m 156 #[.val (.long q1), .second, .val (.long q2), .second, .val (.long q3), .second, .val (.long q4), .second, .val (.int p5), .val (.int (p5 &&& (3 : Int32))), .val (.int bf), .val (.int rm), .val (.int ln), .val (.ref b2), .val (.ref b11), .val (.ref b20), .unset, .unset, .unset, .unset, .unset] [(.float (FP.l2f ((q1 <<< ((25 : Int32) &&& 0x3f).toInt64) >>> ((39 : Int32) &&& 0x3f).toInt64))), (.int (0 : Int32)), (.ref b29), (.ref b29)])) (fun t k => ?_) ?_
  · show Steps p.tables e below (T29.setTop (mkF m 155 #[.val (.long q1), .second, .val (.long q2), .second, .val (.long q3), .second, .val (.long q4), .second, .val (.int p5), .val (.int (p5 &&& (3 : Int32))), .val (.int bf), .val (.int rm), .val (.int ln), .val (.ref b2), .val (.ref b11), .val (.ref b20), .unset, .unset, .unset, .unset, .unset] [(.long ((q1 <<< ((25 : Int32) &&& 0x3f).toInt64) >>> ((39 : Int32) &&& 0x3f).toInt64)), (.int (0 : Int32)), (.ref b29), (.ref b29)])) t
    refine XS.l2fS X29.here hx rfl (hb hby at_155) rfl rfl ?_
    exact k
  obtain ⟨cl31, Ar31, hin31, -, -, -⟩ := V29.get (j := (0 : Int32)) (by decide) (by decide)
  obtain ⟨T31, h31, X31, e31, W31, st31⟩ := stF X29 hx hZ e29 Ar31 (j := (0 : Int32)) hin31 (g := (mkF m 156 #[.val (.long q1), .second, .val (.long q2), .second, .val (.long q3), .second, .val (.long q4), .second, .val (.int p5), .val (.int (p5 &&& (3 : Int32))), .val (.int bf), .val (.int rm), .val (.int ln), .val (.ref b2), .val (.ref b11), .val (.ref b20), .unset, .unset, .unset, .unset, .unset] [(.float (FP.l2f ((q1 <<< ((25 : Int32) &&& 0x3f).toInt64) >>> ((39 : Int32) &&& 0x3f).toInt64))), (.int (0 : Int32)), (.ref b29), (.ref b29)])) rfl rfl (hb hby at_156)
  refine own_go (fun t k => st31 t k) ?_
  have N31 := Fr.snoc X31 N28 g_b29
  obtain ⟨LL31, X31, N31⟩ := own_abs X31 N31
  have f31_0 := f29_0.other W31 ne29_b2
  have f31_1 := f29_1.other W31 ne29_b11
  have f31_2 := f29_2.other W31 ne29_b20
  have f31_3 := V29.setk W31 0 (by decide)
  refine own_go (B := T31.setTop (mkF m 162 #[.val (.long q1), .second, .val (.long q2), .second, .val (.long q3), .second, .val (.long q4), .second, .val (.int p5), .val (.int (p5 &&& (3 : Int32))), .val (.int bf), .val (.int rm), .val (.int ln), .val (.ref b2), .val (.ref b11), .val (.ref b20), .unset, .unset, .unset, .unset, .unset] [(.int (1 : Int32)), (.ref b11), (.int (1 : Int32)), (.ref b29), (.ref b29)])) (fun t k => ?_) ?_
  · show Steps p.tables e below (T31.setTop (mkF m 157 #[.val (.long q1), .second, .val (.long q2), .second, .val (.long q3), .second, .val (.long q4), .second, .val (.int p5), .val (.int (p5 &&& (3 : Int32))), .val (.int bf), .val (.int rm), .val (.int ln), .val (.ref b2), .val (.ref b11), .val (.ref b20), .unset, .unset, .unset, .unset, .unset] [(.ref b29)])) t
    refine XS.dup X31.here hx rfl (hb hby at_157) rfl rfl ?_
    show Steps p.tables e below (T31.setTop (mkF m 158 #[.val (.long q1), .second, .val (.long q2), .second, .val (.long q3), .second, .val (.long q4), .second, .val (.int p5), .val (.int (p5 &&& (3 : Int32))), .val (.int bf), .val (.int rm), .val (.int ln), .val (.ref b2), .val (.ref b11), .val (.ref b20), .unset, .unset, .unset, .unset, .unset] [(.ref b29), (.ref b29)])) t
    refine XS.iconst X31.here hx rfl (hb hby at_158) ?_
    show Steps p.tables e below (T31.setTop (mkF m 159 #[.val (.long q1), .second, .val (.long q2), .second, .val (.long q3), .second, .val (.long q4), .second, .val (.int p5), .val (.int (p5 &&& (3 : Int32))), .val (.int bf), .val (.int rm), .val (.int ln), .val (.ref b2), .val (.ref b11), .val (.ref b20), .unset, .unset, .unset, .unset, .unset] [(.int (1 : Int32)), (.ref b29), (.ref b29)])) t
    refine XS.aload X31.here hx rfl (hb hby at_159) rfl rfl ?_
    show Steps p.tables e below (T31.setTop (mkF m 161 #[.val (.long q1), .second, .val (.long q2), .second, .val (.long q3), .second, .val (.long q4), .second, .val (.int p5), .val (.int (p5 &&& (3 : Int32))), .val (.int bf), .val (.int rm), .val (.int ln), .val (.ref b2), .val (.ref b11), .val (.ref b20), .unset, .unset, .unset, .unset, .unset] [(.ref b11), (.int (1 : Int32)), (.ref b29), (.ref b29)])) t
    refine XS.iconst X31.here hx rfl (hb hby at_161) ?_
    exact k
  obtain ⟨cl32, Ar32, hin32, hat32, -, -⟩ := f31_1.get (j := (1 : Int32)) (by decide) (by decide)
  have hat32 : cl32.slots[((1 : Int32)).toNatClampNeg]? = some (.long ((q2 <<< ((25 : Int32) &&& 0x3f).toInt64) >>> ((39 : Int32) &&& 0x3f).toInt64)) := hat32.trans (by rw [show ((1 : Int32)).toNatClampNeg = 1 from by decide]; rfl)
  refine own_go (X31.laload hx (j := (1 : Int32)) (v := (.long ((q2 <<< ((25 : Int32) &&& 0x3f).toInt64) >>> ((39 : Int32) &&& 0x3f).toInt64))) (by rw [e31]; exact Ar32.1) (State.isArrayOf_alike hZ.alike Ar32.2.1) Ar32.2.2 hin32 hat32 (g := (mkF m 162 #[.val (.long q1), .second, .val (.long q2), .second, .val (.long q3), .second, .val (.long q4), .second, .val (.int p5), .val (.int (p5 &&& (3 : Int32))), .val (.int bf), .val (.int rm), .val (.int ln), .val (.ref b2), .val (.ref b11), .val (.ref b20), .unset, .unset, .unset, .unset, .unset] [(.int (1 : Int32)), (.ref b11), (.int (1 : Int32)), (.ref b29), (.ref b29)])) rfl rfl (hb hby at_162)) ?_
  refine own_go (B := T31.setTop (mkF m 164 #[.val (.long q1), .second, .val (.long q2), .second, .val (.long q3), .second, .val (.long q4), .second, .val (.int p5), .val (.int (p5 &&& (3 : Int32))), .val (.int bf), .val (.int rm), .val (.int ln), .val (.ref b2), .val (.ref b11), .val (.ref b20), .unset, .unset, .unset, .unset, .unset] [(.float (FP.l2f ((q2 <<< ((25 : Int32) &&& 0x3f).toInt64) >>> ((39 : Int32) &&& 0x3f).toInt64))), (.int (1 : Int32)), (.ref b29), (.ref b29)])) (fun t k => ?_) ?_
  · show Steps p.tables e below (T31.setTop (mkF m 163 #[.val (.long q1), .second, .val (.long q2), .second, .val (.long q3), .second, .val (.long q4), .second, .val (.int p5), .val (.int (p5 &&& (3 : Int32))), .val (.int bf), .val (.int rm), .val (.int ln), .val (.ref b2), .val (.ref b11), .val (.ref b20), .unset, .unset, .unset, .unset, .unset] [(.long ((q2 <<< ((25 : Int32) &&& 0x3f).toInt64) >>> ((39 : Int32) &&& 0x3f).toInt64)), (.int (1 : Int32)), (.ref b29), (.ref b29)])) t
    refine XS.l2fS X31.here hx rfl (hb hby at_163) rfl rfl ?_
    exact k
  obtain ⟨cl33, Ar33, hin33, -, -, -⟩ := f31_3.get (j := (1 : Int32)) (by decide) (by decide)
  obtain ⟨T33, h33, X33, e33, W33, st33⟩ := stF X31 hx hZ e31 Ar33 (j := (1 : Int32)) hin33 (g := (mkF m 164 #[.val (.long q1), .second, .val (.long q2), .second, .val (.long q3), .second, .val (.long q4), .second, .val (.int p5), .val (.int (p5 &&& (3 : Int32))), .val (.int bf), .val (.int rm), .val (.int ln), .val (.ref b2), .val (.ref b11), .val (.ref b20), .unset, .unset, .unset, .unset, .unset] [(.float (FP.l2f ((q2 <<< ((25 : Int32) &&& 0x3f).toInt64) >>> ((39 : Int32) &&& 0x3f).toInt64))), (.int (1 : Int32)), (.ref b29), (.ref b29)])) rfl rfl (hb hby at_164)
  refine own_go (fun t k => st33 t k) ?_
  have N33 := Fr.snoc X33 N31 g_b29
  obtain ⟨LL33, X33, N33⟩ := own_abs X33 N33
  have f33_0 := f31_0.other W33 ne29_b2
  have f33_1 := f31_1.other W33 ne29_b11
  have f33_2 := f31_2.other W33 ne29_b20
  have f33_3 := f31_3.setk W33 1 (by decide)
  refine own_go (B := T33.setTop (mkF m 170 #[.val (.long q1), .second, .val (.long q2), .second, .val (.long q3), .second, .val (.long q4), .second, .val (.int p5), .val (.int (p5 &&& (3 : Int32))), .val (.int bf), .val (.int rm), .val (.int ln), .val (.ref b2), .val (.ref b11), .val (.ref b20), .unset, .unset, .unset, .unset, .unset] [(.int (2 : Int32)), (.ref b11), (.int (2 : Int32)), (.ref b29), (.ref b29)])) (fun t k => ?_) ?_
  · show Steps p.tables e below (T33.setTop (mkF m 165 #[.val (.long q1), .second, .val (.long q2), .second, .val (.long q3), .second, .val (.long q4), .second, .val (.int p5), .val (.int (p5 &&& (3 : Int32))), .val (.int bf), .val (.int rm), .val (.int ln), .val (.ref b2), .val (.ref b11), .val (.ref b20), .unset, .unset, .unset, .unset, .unset] [(.ref b29)])) t
    refine XS.dup X33.here hx rfl (hb hby at_165) rfl rfl ?_
    show Steps p.tables e below (T33.setTop (mkF m 166 #[.val (.long q1), .second, .val (.long q2), .second, .val (.long q3), .second, .val (.long q4), .second, .val (.int p5), .val (.int (p5 &&& (3 : Int32))), .val (.int bf), .val (.int rm), .val (.int ln), .val (.ref b2), .val (.ref b11), .val (.ref b20), .unset, .unset, .unset, .unset, .unset] [(.ref b29), (.ref b29)])) t
    refine XS.iconst X33.here hx rfl (hb hby at_166) ?_
    show Steps p.tables e below (T33.setTop (mkF m 167 #[.val (.long q1), .second, .val (.long q2), .second, .val (.long q3), .second, .val (.long q4), .second, .val (.int p5), .val (.int (p5 &&& (3 : Int32))), .val (.int bf), .val (.int rm), .val (.int ln), .val (.ref b2), .val (.ref b11), .val (.ref b20), .unset, .unset, .unset, .unset, .unset] [(.int (2 : Int32)), (.ref b29), (.ref b29)])) t
    refine XS.aload X33.here hx rfl (hb hby at_167) rfl rfl ?_
    show Steps p.tables e below (T33.setTop (mkF m 169 #[.val (.long q1), .second, .val (.long q2), .second, .val (.long q3), .second, .val (.long q4), .second, .val (.int p5), .val (.int (p5 &&& (3 : Int32))), .val (.int bf), .val (.int rm), .val (.int ln), .val (.ref b2), .val (.ref b11), .val (.ref b20), .unset, .unset, .unset, .unset, .unset] [(.ref b11), (.int (2 : Int32)), (.ref b29), (.ref b29)])) t
    refine XS.iconst X33.here hx rfl (hb hby at_169) ?_
    exact k
  obtain ⟨cl34, Ar34, hin34, hat34, -, -⟩ := f33_1.get (j := (2 : Int32)) (by decide) (by decide)
  have hat34 : cl34.slots[((2 : Int32)).toNatClampNeg]? = some (.long ((q3 <<< ((25 : Int32) &&& 0x3f).toInt64) >>> ((39 : Int32) &&& 0x3f).toInt64)) := hat34.trans (by rw [show ((2 : Int32)).toNatClampNeg = 2 from by decide]; rfl)
  refine own_go (X33.laload hx (j := (2 : Int32)) (v := (.long ((q3 <<< ((25 : Int32) &&& 0x3f).toInt64) >>> ((39 : Int32) &&& 0x3f).toInt64))) (by rw [e33]; exact Ar34.1) (State.isArrayOf_alike hZ.alike Ar34.2.1) Ar34.2.2 hin34 hat34 (g := (mkF m 170 #[.val (.long q1), .second, .val (.long q2), .second, .val (.long q3), .second, .val (.long q4), .second, .val (.int p5), .val (.int (p5 &&& (3 : Int32))), .val (.int bf), .val (.int rm), .val (.int ln), .val (.ref b2), .val (.ref b11), .val (.ref b20), .unset, .unset, .unset, .unset, .unset] [(.int (2 : Int32)), (.ref b11), (.int (2 : Int32)), (.ref b29), (.ref b29)])) rfl rfl (hb hby at_170)) ?_
  refine own_go (B := T33.setTop (mkF m 172 #[.val (.long q1), .second, .val (.long q2), .second, .val (.long q3), .second, .val (.long q4), .second, .val (.int p5), .val (.int (p5 &&& (3 : Int32))), .val (.int bf), .val (.int rm), .val (.int ln), .val (.ref b2), .val (.ref b11), .val (.ref b20), .unset, .unset, .unset, .unset, .unset] [(.float (FP.l2f ((q3 <<< ((25 : Int32) &&& 0x3f).toInt64) >>> ((39 : Int32) &&& 0x3f).toInt64))), (.int (2 : Int32)), (.ref b29), (.ref b29)])) (fun t k => ?_) ?_
  · show Steps p.tables e below (T33.setTop (mkF m 171 #[.val (.long q1), .second, .val (.long q2), .second, .val (.long q3), .second, .val (.long q4), .second, .val (.int p5), .val (.int (p5 &&& (3 : Int32))), .val (.int bf), .val (.int rm), .val (.int ln), .val (.ref b2), .val (.ref b11), .val (.ref b20), .unset, .unset, .unset, .unset, .unset] [(.long ((q3 <<< ((25 : Int32) &&& 0x3f).toInt64) >>> ((39 : Int32) &&& 0x3f).toInt64)), (.int (2 : Int32)), (.ref b29), (.ref b29)])) t
    refine XS.l2fS X33.here hx rfl (hb hby at_171) rfl rfl ?_
    exact k
  obtain ⟨cl35, Ar35, hin35, -, -, -⟩ := f33_3.get (j := (2 : Int32)) (by decide) (by decide)
  obtain ⟨T35, h35, X35, e35, W35, st35⟩ := stF X33 hx hZ e33 Ar35 (j := (2 : Int32)) hin35 (g := (mkF m 172 #[.val (.long q1), .second, .val (.long q2), .second, .val (.long q3), .second, .val (.long q4), .second, .val (.int p5), .val (.int (p5 &&& (3 : Int32))), .val (.int bf), .val (.int rm), .val (.int ln), .val (.ref b2), .val (.ref b11), .val (.ref b20), .unset, .unset, .unset, .unset, .unset] [(.float (FP.l2f ((q3 <<< ((25 : Int32) &&& 0x3f).toInt64) >>> ((39 : Int32) &&& 0x3f).toInt64))), (.int (2 : Int32)), (.ref b29), (.ref b29)])) rfl rfl (hb hby at_172)
  refine own_go (fun t k => st35 t k) ?_
  have N35 := Fr.snoc X35 N33 g_b29
  obtain ⟨LL35, X35, N35⟩ := own_abs X35 N35
  have f35_0 := f33_0.other W35 ne29_b2
  have f35_1 := f33_1.other W35 ne29_b11
  have f35_2 := f33_2.other W35 ne29_b20
  have f35_3 := f33_3.setk W35 2 (by decide)
  refine own_go (B := T35.setTop (mkF m 178 #[.val (.long q1), .second, .val (.long q2), .second, .val (.long q3), .second, .val (.long q4), .second, .val (.int p5), .val (.int (p5 &&& (3 : Int32))), .val (.int bf), .val (.int rm), .val (.int ln), .val (.ref b2), .val (.ref b11), .val (.ref b20), .unset, .unset, .unset, .unset, .unset] [(.int (3 : Int32)), (.ref b11), (.int (3 : Int32)), (.ref b29), (.ref b29)])) (fun t k => ?_) ?_
  · show Steps p.tables e below (T35.setTop (mkF m 173 #[.val (.long q1), .second, .val (.long q2), .second, .val (.long q3), .second, .val (.long q4), .second, .val (.int p5), .val (.int (p5 &&& (3 : Int32))), .val (.int bf), .val (.int rm), .val (.int ln), .val (.ref b2), .val (.ref b11), .val (.ref b20), .unset, .unset, .unset, .unset, .unset] [(.ref b29)])) t
    refine XS.dup X35.here hx rfl (hb hby at_173) rfl rfl ?_
    show Steps p.tables e below (T35.setTop (mkF m 174 #[.val (.long q1), .second, .val (.long q2), .second, .val (.long q3), .second, .val (.long q4), .second, .val (.int p5), .val (.int (p5 &&& (3 : Int32))), .val (.int bf), .val (.int rm), .val (.int ln), .val (.ref b2), .val (.ref b11), .val (.ref b20), .unset, .unset, .unset, .unset, .unset] [(.ref b29), (.ref b29)])) t
    refine XS.iconst X35.here hx rfl (hb hby at_174) ?_
    show Steps p.tables e below (T35.setTop (mkF m 175 #[.val (.long q1), .second, .val (.long q2), .second, .val (.long q3), .second, .val (.long q4), .second, .val (.int p5), .val (.int (p5 &&& (3 : Int32))), .val (.int bf), .val (.int rm), .val (.int ln), .val (.ref b2), .val (.ref b11), .val (.ref b20), .unset, .unset, .unset, .unset, .unset] [(.int (3 : Int32)), (.ref b29), (.ref b29)])) t
    refine XS.aload X35.here hx rfl (hb hby at_175) rfl rfl ?_
    show Steps p.tables e below (T35.setTop (mkF m 177 #[.val (.long q1), .second, .val (.long q2), .second, .val (.long q3), .second, .val (.long q4), .second, .val (.int p5), .val (.int (p5 &&& (3 : Int32))), .val (.int bf), .val (.int rm), .val (.int ln), .val (.ref b2), .val (.ref b11), .val (.ref b20), .unset, .unset, .unset, .unset, .unset] [(.ref b11), (.int (3 : Int32)), (.ref b29), (.ref b29)])) t
    refine XS.iconst X35.here hx rfl (hb hby at_177) ?_
    exact k
  obtain ⟨cl36, Ar36, hin36, hat36, -, -⟩ := f35_1.get (j := (3 : Int32)) (by decide) (by decide)
  have hat36 : cl36.slots[((3 : Int32)).toNatClampNeg]? = some (.long ((q4 <<< ((25 : Int32) &&& 0x3f).toInt64) >>> ((39 : Int32) &&& 0x3f).toInt64)) := hat36.trans (by rw [show ((3 : Int32)).toNatClampNeg = 3 from by decide]; rfl)
  refine own_go (X35.laload hx (j := (3 : Int32)) (v := (.long ((q4 <<< ((25 : Int32) &&& 0x3f).toInt64) >>> ((39 : Int32) &&& 0x3f).toInt64))) (by rw [e35]; exact Ar36.1) (State.isArrayOf_alike hZ.alike Ar36.2.1) Ar36.2.2 hin36 hat36 (g := (mkF m 178 #[.val (.long q1), .second, .val (.long q2), .second, .val (.long q3), .second, .val (.long q4), .second, .val (.int p5), .val (.int (p5 &&& (3 : Int32))), .val (.int bf), .val (.int rm), .val (.int ln), .val (.ref b2), .val (.ref b11), .val (.ref b20), .unset, .unset, .unset, .unset, .unset] [(.int (3 : Int32)), (.ref b11), (.int (3 : Int32)), (.ref b29), (.ref b29)])) rfl rfl (hb hby at_178)) ?_
  refine own_go (B := T35.setTop (mkF m 180 #[.val (.long q1), .second, .val (.long q2), .second, .val (.long q3), .second, .val (.long q4), .second, .val (.int p5), .val (.int (p5 &&& (3 : Int32))), .val (.int bf), .val (.int rm), .val (.int ln), .val (.ref b2), .val (.ref b11), .val (.ref b20), .unset, .unset, .unset, .unset, .unset] [(.float (FP.l2f ((q4 <<< ((25 : Int32) &&& 0x3f).toInt64) >>> ((39 : Int32) &&& 0x3f).toInt64))), (.int (3 : Int32)), (.ref b29), (.ref b29)])) (fun t k => ?_) ?_
  · show Steps p.tables e below (T35.setTop (mkF m 179 #[.val (.long q1), .second, .val (.long q2), .second, .val (.long q3), .second, .val (.long q4), .second, .val (.int p5), .val (.int (p5 &&& (3 : Int32))), .val (.int bf), .val (.int rm), .val (.int ln), .val (.ref b2), .val (.ref b11), .val (.ref b20), .unset, .unset, .unset, .unset, .unset] [(.long ((q4 <<< ((25 : Int32) &&& 0x3f).toInt64) >>> ((39 : Int32) &&& 0x3f).toInt64)), (.int (3 : Int32)), (.ref b29), (.ref b29)])) t
    refine XS.l2fS X35.here hx rfl (hb hby at_179) rfl rfl ?_
    exact k
  obtain ⟨cl37, Ar37, hin37, -, -, -⟩ := f35_3.get (j := (3 : Int32)) (by decide) (by decide)
  obtain ⟨T37, h37, X37, e37, W37, st37⟩ := stF X35 hx hZ e35 Ar37 (j := (3 : Int32)) hin37 (g := (mkF m 180 #[.val (.long q1), .second, .val (.long q2), .second, .val (.long q3), .second, .val (.long q4), .second, .val (.int p5), .val (.int (p5 &&& (3 : Int32))), .val (.int bf), .val (.int rm), .val (.int ln), .val (.ref b2), .val (.ref b11), .val (.ref b20), .unset, .unset, .unset, .unset, .unset] [(.float (FP.l2f ((q4 <<< ((25 : Int32) &&& 0x3f).toInt64) >>> ((39 : Int32) &&& 0x3f).toInt64))), (.int (3 : Int32)), (.ref b29), (.ref b29)])) rfl rfl (hb hby at_180)
  refine own_go (fun t k => st37 t k) ?_
  have N37 := Fr.snoc X37 N35 g_b29
  obtain ⟨LL37, X37, N37⟩ := own_abs X37 N37
  have f37_0 := f35_0.other W37 ne29_b2
  have f37_1 := f35_1.other W37 ne29_b11
  have f37_2 := f35_2.other W37 ne29_b20
  have f37_3 := f35_3.setk W37 3 (by decide)
  refine own_go (B := T37.setTop (mkF m 183 #[.val (.long q1), .second, .val (.long q2), .second, .val (.long q3), .second, .val (.long q4), .second, .val (.int p5), .val (.int (p5 &&& (3 : Int32))), .val (.int bf), .val (.int rm), .val (.int ln), .val (.ref b2), .val (.ref b11), .val (.ref b20), .val (.ref b29), .unset, .unset, .unset, .unset] [])) (fun t k => ?_) ?_
  · show Steps p.tables e below (T37.setTop (mkF m 181 #[.val (.long q1), .second, .val (.long q2), .second, .val (.long q3), .second, .val (.long q4), .second, .val (.int p5), .val (.int (p5 &&& (3 : Int32))), .val (.int bf), .val (.int rm), .val (.int ln), .val (.ref b2), .val (.ref b11), .val (.ref b20), .unset, .unset, .unset, .unset, .unset] [(.ref b29)])) t
    refine XS.astore X37.here hx rfl (hb hby at_181) rfl rfl (l' := #[.val (.long q1), .second, .val (.long q2), .second, .val (.long q3), .second, .val (.long q4), .second, .val (.int p5), .val (.int (p5 &&& (3 : Int32))), .val (.int bf), .val (.int rm), .val (.int ln), .val (.ref b2), .val (.ref b11), .val (.ref b20), .val (.ref b29), .unset, .unset, .unset, .unset]) rfl ?_
    exact k
  have hsa : own_sm (fun i => if i = 3 then (q4 >>> ((39 : Int32) &&& 0x3f).toInt64) else (fun i => if i = 2 then (q3 >>> ((39 : Int32) &&& 0x3f).toInt64) else (fun i => if i = 1 then (q2 >>> ((39 : Int32) &&& 0x3f).toInt64) else (fun i => if i = 0 then (q1 >>> ((39 : Int32) &&& 0x3f).toInt64) else (fun _ => (0 : Int64)) i) i) i) i) := by
    intro i
    dsimp only
    split
    · exact own_hi _
    · split
      · exact own_hi _
      · split
        · exact own_hi _
        · split
          · exact own_hi _
          · decide
  have hsb : own_sm (fun i => if i = 3 then ((q4 <<< ((25 : Int32) &&& 0x3f).toInt64) >>> ((39 : Int32) &&& 0x3f).toInt64) else (fun i => if i = 2 then ((q3 <<< ((25 : Int32) &&& 0x3f).toInt64) >>> ((39 : Int32) &&& 0x3f).toInt64) else (fun i => if i = 1 then ((q2 <<< ((25 : Int32) &&& 0x3f).toInt64) >>> ((39 : Int32) &&& 0x3f).toInt64) else (fun i => if i = 0 then ((q1 <<< ((25 : Int32) &&& 0x3f).toInt64) >>> ((39 : Int32) &&& 0x3f).toInt64) else (fun _ => (0 : Int64)) i) i) i) i) := by
    intro i
    dsimp only
    split
    · exact own_lo _
    · split
      · exact own_lo _
      · split
        · exact own_lo _
        · split
          · exact own_lo _
          · decide
  have hea : ∀ i, i < (4 : Int32).toNatClampNeg → (fun i => FP.l2f ((fun i => if i = 3 then (q4 >>> ((39 : Int32) &&& 0x3f).toInt64) else (fun i => if i = 2 then (q3 >>> ((39 : Int32) &&& 0x3f).toInt64) else (fun i => if i = 1 then (q2 >>> ((39 : Int32) &&& 0x3f).toInt64) else (fun i => if i = 0 then (q1 >>> ((39 : Int32) &&& 0x3f).toInt64) else (fun _ => (0 : Int64)) i) i) i) i) i)) i = (fun i => if i = 3 then (FP.l2f (q4 >>> ((39 : Int32) &&& 0x3f).toInt64)) else (fun i => if i = 2 then (FP.l2f (q3 >>> ((39 : Int32) &&& 0x3f).toInt64)) else (fun i => if i = 1 then (FP.l2f (q2 >>> ((39 : Int32) &&& 0x3f).toInt64)) else (fun i => if i = 0 then (FP.l2f (q1 >>> ((39 : Int32) &&& 0x3f).toInt64)) else (fun _ => (0 : UInt32)) i) i) i) i) i := by
    intro i _
    dsimp only
    split
    · rfl
    · split
      · rfl
      · split
        · rfl
        · split
          · rfl
          · exact l2f_zero
  have heb : ∀ i, i < (4 : Int32).toNatClampNeg → (fun i => FP.l2f ((fun i => if i = 3 then ((q4 <<< ((25 : Int32) &&& 0x3f).toInt64) >>> ((39 : Int32) &&& 0x3f).toInt64) else (fun i => if i = 2 then ((q3 <<< ((25 : Int32) &&& 0x3f).toInt64) >>> ((39 : Int32) &&& 0x3f).toInt64) else (fun i => if i = 1 then ((q2 <<< ((25 : Int32) &&& 0x3f).toInt64) >>> ((39 : Int32) &&& 0x3f).toInt64) else (fun i => if i = 0 then ((q1 <<< ((25 : Int32) &&& 0x3f).toInt64) >>> ((39 : Int32) &&& 0x3f).toInt64) else (fun _ => (0 : Int64)) i) i) i) i) i)) i = (fun i => if i = 3 then (FP.l2f ((q4 <<< ((25 : Int32) &&& 0x3f).toInt64) >>> ((39 : Int32) &&& 0x3f).toInt64)) else (fun i => if i = 2 then (FP.l2f ((q3 <<< ((25 : Int32) &&& 0x3f).toInt64) >>> ((39 : Int32) &&& 0x3f).toInt64)) else (fun i => if i = 1 then (FP.l2f ((q2 <<< ((25 : Int32) &&& 0x3f).toInt64) >>> ((39 : Int32) &&& 0x3f).toInt64)) else (fun i => if i = 0 then (FP.l2f ((q1 <<< ((25 : Int32) &&& 0x3f).toInt64) >>> ((39 : Int32) &&& 0x3f).toInt64)) else (fun _ => (0 : UInt32)) i) i) i) i) i := by
    intro i _
    dsimp only
    split
    · rfl
    · split
      · rfl
      · split
        · rfl
        · split
          · rfl
          · exact l2f_zero
  refine own_go (B := T37.setTop (mkF m 194 #[.val (.long q1), .second, .val (.long q2), .second, .val (.long q3), .second, .val (.long q4), .second, .val (.int p5), .val (.int (p5 &&& (3 : Int32))), .val (.int bf), .val (.int rm), .val (.int ln), .val (.ref b2), .val (.ref b11), .val (.ref b20), .val (.ref b29), .unset, .unset, .unset, .unset] [(.int ln), (.int (0 : Int32)), (.int bf), (.ref b11), (.int (p5 &&& (3 : Int32))), (.ref b2)])) (fun t k => ?_) ?_
  · show Steps p.tables e below (T37.setTop (mkF m 183 #[.val (.long q1), .second, .val (.long q2), .second, .val (.long q3), .second, .val (.long q4), .second, .val (.int p5), .val (.int (p5 &&& (3 : Int32))), .val (.int bf), .val (.int rm), .val (.int ln), .val (.ref b2), .val (.ref b11), .val (.ref b20), .val (.ref b29), .unset, .unset, .unset, .unset] [])) t
    refine XS.aload X37.here hx rfl (hb hby at_183) rfl rfl ?_
    show Steps p.tables e below (T37.setTop (mkF m 185 #[.val (.long q1), .second, .val (.long q2), .second, .val (.long q3), .second, .val (.long q4), .second, .val (.int p5), .val (.int (p5 &&& (3 : Int32))), .val (.int bf), .val (.int rm), .val (.int ln), .val (.ref b2), .val (.ref b11), .val (.ref b20), .val (.ref b29), .unset, .unset, .unset, .unset] [(.ref b2)])) t
    refine XS.iload X37.here hx rfl (hb hby at_185) rfl ?_
    show Steps p.tables e below (T37.setTop (mkF m 187 #[.val (.long q1), .second, .val (.long q2), .second, .val (.long q3), .second, .val (.long q4), .second, .val (.int p5), .val (.int (p5 &&& (3 : Int32))), .val (.int bf), .val (.int rm), .val (.int ln), .val (.ref b2), .val (.ref b11), .val (.ref b20), .val (.ref b29), .unset, .unset, .unset, .unset] [(.int (p5 &&& (3 : Int32))), (.ref b2)])) t
    refine XS.aload X37.here hx rfl (hb hby at_187) rfl rfl ?_
    show Steps p.tables e below (T37.setTop (mkF m 189 #[.val (.long q1), .second, .val (.long q2), .second, .val (.long q3), .second, .val (.long q4), .second, .val (.int p5), .val (.int (p5 &&& (3 : Int32))), .val (.int bf), .val (.int rm), .val (.int ln), .val (.ref b2), .val (.ref b11), .val (.ref b20), .val (.ref b29), .unset, .unset, .unset, .unset] [(.ref b11), (.int (p5 &&& (3 : Int32))), (.ref b2)])) t
    refine XS.iload X37.here hx rfl (hb hby at_189) rfl ?_
    show Steps p.tables e below (T37.setTop (mkF m 191 #[.val (.long q1), .second, .val (.long q2), .second, .val (.long q3), .second, .val (.long q4), .second, .val (.int p5), .val (.int (p5 &&& (3 : Int32))), .val (.int bf), .val (.int rm), .val (.int ln), .val (.ref b2), .val (.ref b11), .val (.ref b20), .val (.ref b29), .unset, .unset, .unset, .unset] [(.int bf), (.ref b11), (.int (p5 &&& (3 : Int32))), (.ref b2)])) t
    refine XS.iconst X37.here hx rfl (hb hby at_191) ?_
    show Steps p.tables e below (T37.setTop (mkF m 192 #[.val (.long q1), .second, .val (.long q2), .second, .val (.long q3), .second, .val (.long q4), .second, .val (.int p5), .val (.int (p5 &&& (3 : Int32))), .val (.int bf), .val (.int rm), .val (.int ln), .val (.ref b2), .val (.ref b11), .val (.ref b20), .val (.ref b29), .unset, .unset, .unset, .unset] [(.int (0 : Int32)), (.int bf), (.ref b11), (.int (p5 &&& (3 : Int32))), (.ref b2)])) t
    refine XS.iload X37.here hx rfl (hb hby at_192) rfl ?_
    exact k
  have M38 := rm4 l Z a0 hw [] b2 (p5 &&& (3 : Int32)) b11 bf (0 : Int32) ln (fun i => if i = 3 then (q4 >>> ((39 : Int32) &&& 0x3f).toInt64) else (fun i => if i = 2 then (q3 >>> ((39 : Int32) &&& 0x3f).toInt64) else (fun i => if i = 1 then (q2 >>> ((39 : Int32) &&& 0x3f).toInt64) else (fun i => if i = 0 then (q1 >>> ((39 : Int32) &&& 0x3f).toInt64) else (fun _ => (0 : Int64)) i) i) i) i) (fun i => if i = 3 then ((q4 <<< ((25 : Int32) &&& 0x3f).toInt64) >>> ((39 : Int32) &&& 0x3f).toInt64) else (fun i => if i = 2 then ((q3 <<< ((25 : Int32) &&& 0x3f).toInt64) >>> ((39 : Int32) &&& 0x3f).toInt64) else (fun i => if i = 1 then ((q2 <<< ((25 : Int32) &&& 0x3f).toInt64) >>> ((39 : Int32) &&& 0x3f).toInt64) else (fun i => if i = 0 then ((q1 <<< ((25 : Int32) &&& 0x3f).toInt64) >>> ((39 : Int32) &&& 0x3f).toInt64) else (fun _ => (0 : Int64)) i) i) i) i) h37 n0 (Nat.le_trans (Nat.le_trans (Nat.le_trans (Nat.le_trans (Nat.le_trans (Nat.le_trans (Nat.le_trans (Nat.le_trans (Nat.le_trans (Nat.le_trans (Nat.le_trans (Nat.le_trans (Nat.le_trans (Nat.le_trans (Nat.le_trans (Nat.le_trans (Nat.le_trans (Nat.le_trans (Nat.le_trans (Nat.le_trans Z0 E2.1) (Keep.of_wr W4).1) (Keep.of_wr W6).1) (Keep.of_wr W8).1) (Keep.of_wr W10).1) E11.1) (Keep.of_wr W13).1) (Keep.of_wr W15).1) (Keep.of_wr W17).1) (Keep.of_wr W19).1) E20.1) (Keep.of_wr W22).1) (Keep.of_wr W24).1) (Keep.of_wr W26).1) (Keep.of_wr W28).1) E29.1) (Keep.of_wr W31).1) (Keep.of_wr W33).1) (Keep.of_wr W35).1) (Keep.of_wr W37).1) f37_0 f37_1 hfa.1 hfb.1 (by decide) hln2 hln4
  obtain ⟨_, _, ⟨T38, L38, k38, n38⟩, -, X38, ⟨Lc38, hQ38, l38, y38, z38⟩, st38⟩ := Jvm.LawKit.callS X37 hx (y := (⟨"com/example/eager_recall/eagerrecall/vectors/ExactSumsDotPinLaw", "term", "([JI[JIII)J"⟩ : MethodName)) hown (mvT hZ (hw _ (List.mem_of_getElem? (i := 13) rfl))) (mvT hZ (hw _ (List.mem_of_getElem? (i := 14) rfl))) (mvT hZ (hw _ (List.mem_of_getElem? (i := 7) rfl))) (mvT hZ (hw _ (List.mem_of_getElem? (i := 15) rfl))) (by decide) (backOf (W := 0) (M38) hZ (hw _ (List.mem_of_getElem? (i := 15) rfl)) (hw _ (List.mem_of_getElem? (i := 7) rfl)) (by decide) (by decide)) (g := (mkF m 194 #[.val (.long q1), .second, .val (.long q2), .second, .val (.long q3), .second, .val (.long q4), .second, .val (.int p5), .val (.int (p5 &&& (3 : Int32))), .val (.int bf), .val (.int rm), .val (.int ln), .val (.ref b2), .val (.ref b11), .val (.ref b20), .val (.ref b29), .unset, .unset, .unset, .unset] [(.int ln), (.int (0 : Int32)), (.int bf), (.ref b11), (.int (p5 &&& (3 : Int32))), (.ref b2)])) rfl (by rw [hml]; rfl) (argsL := [(.ref b2), (.int (p5 &&& (3 : Int32))), (.ref b11), (.int bf), (.int (0 : Int32)), (.int ln)]) (rest := []) (lenOf pd_rm0_2 rfl) rfl (by show 2 * 0 + _ ≤ _; exact Nat.le_of_eq rfl) (hb hby at_194) (fun _ _ => ⟨rfl, e37, (by decide : 4 + 0 ≤ _), (by decide : 16 + 0 ≤ _)⟩)
  dsimp only [Pt.U, Pt.locs, Pt.cells, Pt.slots] at X38 l38 y38 z38 st38 hQ38
  subst l38 y38 z38
  obtain ⟨r38, rfl, N38q, hh38, hr38⟩ := hQ38
  have N38 := Fr.app N37 N38q
  obtain ⟨LL38, X38, N38⟩ := own_abs X38 N38
  refine own_go (fun t k => st38 t k) ?_
  refine own_go (B := T38.setTop (mkF m 208 #[.val (.long q1), .second, .val (.long q2), .second, .val (.long q3), .second, .val (.long q4), .second, .val (.int p5), .val (.int (p5 &&& (3 : Int32))), .val (.int bf), .val (.int rm), .val (.int ln), .val (.ref b2), .val (.ref b11), .val (.ref b20), .val (.ref b29), .unset, .unset, .unset, .unset] [(.int ln), (.int (1 : Int32)), (.int bf), (.ref b11), (.int (p5 &&& (3 : Int32))), (.ref b2), (.long r38)])) (fun t k => ?_) ?_
  · show Steps p.tables e below (T38.setTop (mkF m 197 #[.val (.long q1), .second, .val (.long q2), .second, .val (.long q3), .second, .val (.long q4), .second, .val (.int p5), .val (.int (p5 &&& (3 : Int32))), .val (.int bf), .val (.int rm), .val (.int ln), .val (.ref b2), .val (.ref b11), .val (.ref b20), .val (.ref b29), .unset, .unset, .unset, .unset] [(.long r38)])) t
    refine XS.aload X38.here hx rfl (hb hby at_197) rfl rfl ?_
    show Steps p.tables e below (T38.setTop (mkF m 199 #[.val (.long q1), .second, .val (.long q2), .second, .val (.long q3), .second, .val (.long q4), .second, .val (.int p5), .val (.int (p5 &&& (3 : Int32))), .val (.int bf), .val (.int rm), .val (.int ln), .val (.ref b2), .val (.ref b11), .val (.ref b20), .val (.ref b29), .unset, .unset, .unset, .unset] [(.ref b2), (.long r38)])) t
    refine XS.iload X38.here hx rfl (hb hby at_199) rfl ?_
    show Steps p.tables e below (T38.setTop (mkF m 201 #[.val (.long q1), .second, .val (.long q2), .second, .val (.long q3), .second, .val (.long q4), .second, .val (.int p5), .val (.int (p5 &&& (3 : Int32))), .val (.int bf), .val (.int rm), .val (.int ln), .val (.ref b2), .val (.ref b11), .val (.ref b20), .val (.ref b29), .unset, .unset, .unset, .unset] [(.int (p5 &&& (3 : Int32))), (.ref b2), (.long r38)])) t
    refine XS.aload X38.here hx rfl (hb hby at_201) rfl rfl ?_
    show Steps p.tables e below (T38.setTop (mkF m 203 #[.val (.long q1), .second, .val (.long q2), .second, .val (.long q3), .second, .val (.long q4), .second, .val (.int p5), .val (.int (p5 &&& (3 : Int32))), .val (.int bf), .val (.int rm), .val (.int ln), .val (.ref b2), .val (.ref b11), .val (.ref b20), .val (.ref b29), .unset, .unset, .unset, .unset] [(.ref b11), (.int (p5 &&& (3 : Int32))), (.ref b2), (.long r38)])) t
    refine XS.iload X38.here hx rfl (hb hby at_203) rfl ?_
    show Steps p.tables e below (T38.setTop (mkF m 205 #[.val (.long q1), .second, .val (.long q2), .second, .val (.long q3), .second, .val (.long q4), .second, .val (.int p5), .val (.int (p5 &&& (3 : Int32))), .val (.int bf), .val (.int rm), .val (.int ln), .val (.ref b2), .val (.ref b11), .val (.ref b20), .val (.ref b29), .unset, .unset, .unset, .unset] [(.int bf), (.ref b11), (.int (p5 &&& (3 : Int32))), (.ref b2), (.long r38)])) t
    refine XS.iconst X38.here hx rfl (hb hby at_205) ?_
    show Steps p.tables e below (T38.setTop (mkF m 206 #[.val (.long q1), .second, .val (.long q2), .second, .val (.long q3), .second, .val (.long q4), .second, .val (.int p5), .val (.int (p5 &&& (3 : Int32))), .val (.int bf), .val (.int rm), .val (.int ln), .val (.ref b2), .val (.ref b11), .val (.ref b20), .val (.ref b29), .unset, .unset, .unset, .unset] [(.int (1 : Int32)), (.int bf), (.ref b11), (.int (p5 &&& (3 : Int32))), (.ref b2), (.long r38)])) t
    refine XS.iload X38.here hx rfl (hb hby at_206) rfl ?_
    exact k
  have M39 := rm4 l Z a0 hw [] b2 (p5 &&& (3 : Int32)) b11 bf (1 : Int32) ln (fun i => if i = 3 then (q4 >>> ((39 : Int32) &&& 0x3f).toInt64) else (fun i => if i = 2 then (q3 >>> ((39 : Int32) &&& 0x3f).toInt64) else (fun i => if i = 1 then (q2 >>> ((39 : Int32) &&& 0x3f).toInt64) else (fun i => if i = 0 then (q1 >>> ((39 : Int32) &&& 0x3f).toInt64) else (fun _ => (0 : Int64)) i) i) i) i) (fun i => if i = 3 then ((q4 <<< ((25 : Int32) &&& 0x3f).toInt64) >>> ((39 : Int32) &&& 0x3f).toInt64) else (fun i => if i = 2 then ((q3 <<< ((25 : Int32) &&& 0x3f).toInt64) >>> ((39 : Int32) &&& 0x3f).toInt64) else (fun i => if i = 1 then ((q2 <<< ((25 : Int32) &&& 0x3f).toInt64) >>> ((39 : Int32) &&& 0x3f).toInt64) else (fun i => if i = 0 then ((q1 <<< ((25 : Int32) &&& 0x3f).toInt64) >>> ((39 : Int32) &&& 0x3f).toInt64) else (fun _ => (0 : Int64)) i) i) i) i) h37 n0 (Nat.le_trans (Nat.le_trans (Nat.le_trans (Nat.le_trans (Nat.le_trans (Nat.le_trans (Nat.le_trans (Nat.le_trans (Nat.le_trans (Nat.le_trans (Nat.le_trans (Nat.le_trans (Nat.le_trans (Nat.le_trans (Nat.le_trans (Nat.le_trans (Nat.le_trans (Nat.le_trans (Nat.le_trans (Nat.le_trans Z0 E2.1) (Keep.of_wr W4).1) (Keep.of_wr W6).1) (Keep.of_wr W8).1) (Keep.of_wr W10).1) E11.1) (Keep.of_wr W13).1) (Keep.of_wr W15).1) (Keep.of_wr W17).1) (Keep.of_wr W19).1) E20.1) (Keep.of_wr W22).1) (Keep.of_wr W24).1) (Keep.of_wr W26).1) (Keep.of_wr W28).1) E29.1) (Keep.of_wr W31).1) (Keep.of_wr W33).1) (Keep.of_wr W35).1) (Keep.of_wr W37).1) f37_0 f37_1 hfa.1 hfb.1 (by decide) hln2 hln4
  obtain ⟨_, _, ⟨T39, L39, k39, n39⟩, -, X39, ⟨Lc39, hQ39, l39, y39, z39⟩, st39⟩ := Jvm.LawKit.callS X38 hx (y := (⟨"com/example/eager_recall/eagerrecall/vectors/ExactSumsDotPinLaw", "term", "([JI[JIII)J"⟩ : MethodName)) hown (mvT hZ (hw _ (List.mem_of_getElem? (i := 13) rfl))) (mvT hZ (hw _ (List.mem_of_getElem? (i := 14) rfl))) (mvT hZ (hw _ (List.mem_of_getElem? (i := 7) rfl))) (mvT hZ (hw _ (List.mem_of_getElem? (i := 15) rfl))) (by decide) (backOf (W := 2) (M39) hZ (hw _ (List.mem_of_getElem? (i := 15) rfl)) (hw _ (List.mem_of_getElem? (i := 7) rfl)) (by decide) (by decide)) (g := (mkF m 208 #[.val (.long q1), .second, .val (.long q2), .second, .val (.long q3), .second, .val (.long q4), .second, .val (.int p5), .val (.int (p5 &&& (3 : Int32))), .val (.int bf), .val (.int rm), .val (.int ln), .val (.ref b2), .val (.ref b11), .val (.ref b20), .val (.ref b29), .unset, .unset, .unset, .unset] [(.int ln), (.int (1 : Int32)), (.int bf), (.ref b11), (.int (p5 &&& (3 : Int32))), (.ref b2), (.long r38)])) rfl (by rw [hml]; rfl) (argsL := [(.ref b2), (.int (p5 &&& (3 : Int32))), (.ref b11), (.int bf), (.int (1 : Int32)), (.int ln)]) (rest := [(.long r38)]) (lenOf pd_rm0_2 rfl) rfl (by show 2 * 0 + _ ≤ _; exact Nat.le_of_eq rfl) (hb hby at_208) (fun _ _ => ⟨rfl, hh38, (by decide : 4 + 0 ≤ _), (by decide : 16 + 0 ≤ _)⟩)
  dsimp only [Pt.U, Pt.locs, Pt.cells, Pt.slots] at X39 l39 y39 z39 st39 hQ39
  subst l39 y39 z39
  obtain ⟨r39, rfl, N39q, hh39, hr39⟩ := hQ39
  have N39 := Fr.app N38 N39q
  obtain ⟨LL39, X39, N39⟩ := own_abs X39 N39
  refine own_go (fun t k => st39 t k) ?_
  refine own_go (B := T39.setTop (mkF m 223 #[.val (.long q1), .second, .val (.long q2), .second, .val (.long q3), .second, .val (.long q4), .second, .val (.int p5), .val (.int (p5 &&& (3 : Int32))), .val (.int bf), .val (.int rm), .val (.int ln), .val (.ref b2), .val (.ref b11), .val (.ref b20), .val (.ref b29), .unset, .unset, .unset, .unset] [(.int ln), (.int (2 : Int32)), (.int bf), (.ref b11), (.int (p5 &&& (3 : Int32))), (.ref b2), (.long (r38 + r39))])) (fun t k => ?_) ?_
  · show Steps p.tables e below (T39.setTop (mkF m 211 #[.val (.long q1), .second, .val (.long q2), .second, .val (.long q3), .second, .val (.long q4), .second, .val (.int p5), .val (.int (p5 &&& (3 : Int32))), .val (.int bf), .val (.int rm), .val (.int ln), .val (.ref b2), .val (.ref b11), .val (.ref b20), .val (.ref b29), .unset, .unset, .unset, .unset] [(.long r39), (.long r38)])) t
    refine XS.ladd X39.here hx rfl (hb hby at_211) rfl ?_
    show Steps p.tables e below (T39.setTop (mkF m 212 #[.val (.long q1), .second, .val (.long q2), .second, .val (.long q3), .second, .val (.long q4), .second, .val (.int p5), .val (.int (p5 &&& (3 : Int32))), .val (.int bf), .val (.int rm), .val (.int ln), .val (.ref b2), .val (.ref b11), .val (.ref b20), .val (.ref b29), .unset, .unset, .unset, .unset] [(.long (r38 + r39))])) t
    refine XS.aload X39.here hx rfl (hb hby at_212) rfl rfl ?_
    show Steps p.tables e below (T39.setTop (mkF m 214 #[.val (.long q1), .second, .val (.long q2), .second, .val (.long q3), .second, .val (.long q4), .second, .val (.int p5), .val (.int (p5 &&& (3 : Int32))), .val (.int bf), .val (.int rm), .val (.int ln), .val (.ref b2), .val (.ref b11), .val (.ref b20), .val (.ref b29), .unset, .unset, .unset, .unset] [(.ref b2), (.long (r38 + r39))])) t
    refine XS.iload X39.here hx rfl (hb hby at_214) rfl ?_
    show Steps p.tables e below (T39.setTop (mkF m 216 #[.val (.long q1), .second, .val (.long q2), .second, .val (.long q3), .second, .val (.long q4), .second, .val (.int p5), .val (.int (p5 &&& (3 : Int32))), .val (.int bf), .val (.int rm), .val (.int ln), .val (.ref b2), .val (.ref b11), .val (.ref b20), .val (.ref b29), .unset, .unset, .unset, .unset] [(.int (p5 &&& (3 : Int32))), (.ref b2), (.long (r38 + r39))])) t
    refine XS.aload X39.here hx rfl (hb hby at_216) rfl rfl ?_
    show Steps p.tables e below (T39.setTop (mkF m 218 #[.val (.long q1), .second, .val (.long q2), .second, .val (.long q3), .second, .val (.long q4), .second, .val (.int p5), .val (.int (p5 &&& (3 : Int32))), .val (.int bf), .val (.int rm), .val (.int ln), .val (.ref b2), .val (.ref b11), .val (.ref b20), .val (.ref b29), .unset, .unset, .unset, .unset] [(.ref b11), (.int (p5 &&& (3 : Int32))), (.ref b2), (.long (r38 + r39))])) t
    refine XS.iload X39.here hx rfl (hb hby at_218) rfl ?_
    show Steps p.tables e below (T39.setTop (mkF m 220 #[.val (.long q1), .second, .val (.long q2), .second, .val (.long q3), .second, .val (.long q4), .second, .val (.int p5), .val (.int (p5 &&& (3 : Int32))), .val (.int bf), .val (.int rm), .val (.int ln), .val (.ref b2), .val (.ref b11), .val (.ref b20), .val (.ref b29), .unset, .unset, .unset, .unset] [(.int bf), (.ref b11), (.int (p5 &&& (3 : Int32))), (.ref b2), (.long (r38 + r39))])) t
    refine XS.iconst X39.here hx rfl (hb hby at_220) ?_
    show Steps p.tables e below (T39.setTop (mkF m 221 #[.val (.long q1), .second, .val (.long q2), .second, .val (.long q3), .second, .val (.long q4), .second, .val (.int p5), .val (.int (p5 &&& (3 : Int32))), .val (.int bf), .val (.int rm), .val (.int ln), .val (.ref b2), .val (.ref b11), .val (.ref b20), .val (.ref b29), .unset, .unset, .unset, .unset] [(.int (2 : Int32)), (.int bf), (.ref b11), (.int (p5 &&& (3 : Int32))), (.ref b2), (.long (r38 + r39))])) t
    refine XS.iload X39.here hx rfl (hb hby at_221) rfl ?_
    exact k
  have M40 := rm4 l Z a0 hw [] b2 (p5 &&& (3 : Int32)) b11 bf (2 : Int32) ln (fun i => if i = 3 then (q4 >>> ((39 : Int32) &&& 0x3f).toInt64) else (fun i => if i = 2 then (q3 >>> ((39 : Int32) &&& 0x3f).toInt64) else (fun i => if i = 1 then (q2 >>> ((39 : Int32) &&& 0x3f).toInt64) else (fun i => if i = 0 then (q1 >>> ((39 : Int32) &&& 0x3f).toInt64) else (fun _ => (0 : Int64)) i) i) i) i) (fun i => if i = 3 then ((q4 <<< ((25 : Int32) &&& 0x3f).toInt64) >>> ((39 : Int32) &&& 0x3f).toInt64) else (fun i => if i = 2 then ((q3 <<< ((25 : Int32) &&& 0x3f).toInt64) >>> ((39 : Int32) &&& 0x3f).toInt64) else (fun i => if i = 1 then ((q2 <<< ((25 : Int32) &&& 0x3f).toInt64) >>> ((39 : Int32) &&& 0x3f).toInt64) else (fun i => if i = 0 then ((q1 <<< ((25 : Int32) &&& 0x3f).toInt64) >>> ((39 : Int32) &&& 0x3f).toInt64) else (fun _ => (0 : Int64)) i) i) i) i) h37 n0 (Nat.le_trans (Nat.le_trans (Nat.le_trans (Nat.le_trans (Nat.le_trans (Nat.le_trans (Nat.le_trans (Nat.le_trans (Nat.le_trans (Nat.le_trans (Nat.le_trans (Nat.le_trans (Nat.le_trans (Nat.le_trans (Nat.le_trans (Nat.le_trans (Nat.le_trans (Nat.le_trans (Nat.le_trans (Nat.le_trans Z0 E2.1) (Keep.of_wr W4).1) (Keep.of_wr W6).1) (Keep.of_wr W8).1) (Keep.of_wr W10).1) E11.1) (Keep.of_wr W13).1) (Keep.of_wr W15).1) (Keep.of_wr W17).1) (Keep.of_wr W19).1) E20.1) (Keep.of_wr W22).1) (Keep.of_wr W24).1) (Keep.of_wr W26).1) (Keep.of_wr W28).1) E29.1) (Keep.of_wr W31).1) (Keep.of_wr W33).1) (Keep.of_wr W35).1) (Keep.of_wr W37).1) f37_0 f37_1 hfa.1 hfb.1 (by decide) hln2 hln4
  obtain ⟨_, _, ⟨T40, L40, k40, n40⟩, -, X40, ⟨Lc40, hQ40, l40, y40, z40⟩, st40⟩ := Jvm.LawKit.callS X39 hx (y := (⟨"com/example/eager_recall/eagerrecall/vectors/ExactSumsDotPinLaw", "term", "([JI[JIII)J"⟩ : MethodName)) hown (mvT hZ (hw _ (List.mem_of_getElem? (i := 13) rfl))) (mvT hZ (hw _ (List.mem_of_getElem? (i := 14) rfl))) (mvT hZ (hw _ (List.mem_of_getElem? (i := 7) rfl))) (mvT hZ (hw _ (List.mem_of_getElem? (i := 15) rfl))) (by decide) (backOf (W := 2) (M40) hZ (hw _ (List.mem_of_getElem? (i := 15) rfl)) (hw _ (List.mem_of_getElem? (i := 7) rfl)) (by decide) (by decide)) (g := (mkF m 223 #[.val (.long q1), .second, .val (.long q2), .second, .val (.long q3), .second, .val (.long q4), .second, .val (.int p5), .val (.int (p5 &&& (3 : Int32))), .val (.int bf), .val (.int rm), .val (.int ln), .val (.ref b2), .val (.ref b11), .val (.ref b20), .val (.ref b29), .unset, .unset, .unset, .unset] [(.int ln), (.int (2 : Int32)), (.int bf), (.ref b11), (.int (p5 &&& (3 : Int32))), (.ref b2), (.long (r38 + r39))])) rfl (by rw [hml]; rfl) (argsL := [(.ref b2), (.int (p5 &&& (3 : Int32))), (.ref b11), (.int bf), (.int (2 : Int32)), (.int ln)]) (rest := [(.long (r38 + r39))]) (lenOf pd_rm0_2 rfl) rfl (by show 2 * 0 + _ ≤ _; exact Nat.le_of_eq rfl) (hb hby at_223) (fun _ _ => ⟨rfl, hh39, (by decide : 4 + 0 ≤ _), (by decide : 16 + 0 ≤ _)⟩)
  dsimp only [Pt.U, Pt.locs, Pt.cells, Pt.slots] at X40 l40 y40 z40 st40 hQ40
  subst l40 y40 z40
  obtain ⟨r40, rfl, N40q, hh40, hr40⟩ := hQ40
  have N40 := Fr.app N39 N40q
  obtain ⟨LL40, X40, N40⟩ := own_abs X40 N40
  refine own_go (fun t k => st40 t k) ?_
  refine own_go (B := T40.setTop (mkF m 238 #[.val (.long q1), .second, .val (.long q2), .second, .val (.long q3), .second, .val (.long q4), .second, .val (.int p5), .val (.int (p5 &&& (3 : Int32))), .val (.int bf), .val (.int rm), .val (.int ln), .val (.ref b2), .val (.ref b11), .val (.ref b20), .val (.ref b29), .unset, .unset, .unset, .unset] [(.int ln), (.int (3 : Int32)), (.int bf), (.ref b11), (.int (p5 &&& (3 : Int32))), (.ref b2), (.long ((r38 + r39) + r40))])) (fun t k => ?_) ?_
  · show Steps p.tables e below (T40.setTop (mkF m 226 #[.val (.long q1), .second, .val (.long q2), .second, .val (.long q3), .second, .val (.long q4), .second, .val (.int p5), .val (.int (p5 &&& (3 : Int32))), .val (.int bf), .val (.int rm), .val (.int ln), .val (.ref b2), .val (.ref b11), .val (.ref b20), .val (.ref b29), .unset, .unset, .unset, .unset] [(.long r40), (.long (r38 + r39))])) t
    refine XS.ladd X40.here hx rfl (hb hby at_226) rfl ?_
    show Steps p.tables e below (T40.setTop (mkF m 227 #[.val (.long q1), .second, .val (.long q2), .second, .val (.long q3), .second, .val (.long q4), .second, .val (.int p5), .val (.int (p5 &&& (3 : Int32))), .val (.int bf), .val (.int rm), .val (.int ln), .val (.ref b2), .val (.ref b11), .val (.ref b20), .val (.ref b29), .unset, .unset, .unset, .unset] [(.long ((r38 + r39) + r40))])) t
    refine XS.aload X40.here hx rfl (hb hby at_227) rfl rfl ?_
    show Steps p.tables e below (T40.setTop (mkF m 229 #[.val (.long q1), .second, .val (.long q2), .second, .val (.long q3), .second, .val (.long q4), .second, .val (.int p5), .val (.int (p5 &&& (3 : Int32))), .val (.int bf), .val (.int rm), .val (.int ln), .val (.ref b2), .val (.ref b11), .val (.ref b20), .val (.ref b29), .unset, .unset, .unset, .unset] [(.ref b2), (.long ((r38 + r39) + r40))])) t
    refine XS.iload X40.here hx rfl (hb hby at_229) rfl ?_
    show Steps p.tables e below (T40.setTop (mkF m 231 #[.val (.long q1), .second, .val (.long q2), .second, .val (.long q3), .second, .val (.long q4), .second, .val (.int p5), .val (.int (p5 &&& (3 : Int32))), .val (.int bf), .val (.int rm), .val (.int ln), .val (.ref b2), .val (.ref b11), .val (.ref b20), .val (.ref b29), .unset, .unset, .unset, .unset] [(.int (p5 &&& (3 : Int32))), (.ref b2), (.long ((r38 + r39) + r40))])) t
    refine XS.aload X40.here hx rfl (hb hby at_231) rfl rfl ?_
    show Steps p.tables e below (T40.setTop (mkF m 233 #[.val (.long q1), .second, .val (.long q2), .second, .val (.long q3), .second, .val (.long q4), .second, .val (.int p5), .val (.int (p5 &&& (3 : Int32))), .val (.int bf), .val (.int rm), .val (.int ln), .val (.ref b2), .val (.ref b11), .val (.ref b20), .val (.ref b29), .unset, .unset, .unset, .unset] [(.ref b11), (.int (p5 &&& (3 : Int32))), (.ref b2), (.long ((r38 + r39) + r40))])) t
    refine XS.iload X40.here hx rfl (hb hby at_233) rfl ?_
    show Steps p.tables e below (T40.setTop (mkF m 235 #[.val (.long q1), .second, .val (.long q2), .second, .val (.long q3), .second, .val (.long q4), .second, .val (.int p5), .val (.int (p5 &&& (3 : Int32))), .val (.int bf), .val (.int rm), .val (.int ln), .val (.ref b2), .val (.ref b11), .val (.ref b20), .val (.ref b29), .unset, .unset, .unset, .unset] [(.int bf), (.ref b11), (.int (p5 &&& (3 : Int32))), (.ref b2), (.long ((r38 + r39) + r40))])) t
    refine XS.iconst X40.here hx rfl (hb hby at_235) ?_
    show Steps p.tables e below (T40.setTop (mkF m 236 #[.val (.long q1), .second, .val (.long q2), .second, .val (.long q3), .second, .val (.long q4), .second, .val (.int p5), .val (.int (p5 &&& (3 : Int32))), .val (.int bf), .val (.int rm), .val (.int ln), .val (.ref b2), .val (.ref b11), .val (.ref b20), .val (.ref b29), .unset, .unset, .unset, .unset] [(.int (3 : Int32)), (.int bf), (.ref b11), (.int (p5 &&& (3 : Int32))), (.ref b2), (.long ((r38 + r39) + r40))])) t
    refine XS.iload X40.here hx rfl (hb hby at_236) rfl ?_
    exact k
  have M41 := rm4 l Z a0 hw [] b2 (p5 &&& (3 : Int32)) b11 bf (3 : Int32) ln (fun i => if i = 3 then (q4 >>> ((39 : Int32) &&& 0x3f).toInt64) else (fun i => if i = 2 then (q3 >>> ((39 : Int32) &&& 0x3f).toInt64) else (fun i => if i = 1 then (q2 >>> ((39 : Int32) &&& 0x3f).toInt64) else (fun i => if i = 0 then (q1 >>> ((39 : Int32) &&& 0x3f).toInt64) else (fun _ => (0 : Int64)) i) i) i) i) (fun i => if i = 3 then ((q4 <<< ((25 : Int32) &&& 0x3f).toInt64) >>> ((39 : Int32) &&& 0x3f).toInt64) else (fun i => if i = 2 then ((q3 <<< ((25 : Int32) &&& 0x3f).toInt64) >>> ((39 : Int32) &&& 0x3f).toInt64) else (fun i => if i = 1 then ((q2 <<< ((25 : Int32) &&& 0x3f).toInt64) >>> ((39 : Int32) &&& 0x3f).toInt64) else (fun i => if i = 0 then ((q1 <<< ((25 : Int32) &&& 0x3f).toInt64) >>> ((39 : Int32) &&& 0x3f).toInt64) else (fun _ => (0 : Int64)) i) i) i) i) h37 n0 (Nat.le_trans (Nat.le_trans (Nat.le_trans (Nat.le_trans (Nat.le_trans (Nat.le_trans (Nat.le_trans (Nat.le_trans (Nat.le_trans (Nat.le_trans (Nat.le_trans (Nat.le_trans (Nat.le_trans (Nat.le_trans (Nat.le_trans (Nat.le_trans (Nat.le_trans (Nat.le_trans (Nat.le_trans (Nat.le_trans Z0 E2.1) (Keep.of_wr W4).1) (Keep.of_wr W6).1) (Keep.of_wr W8).1) (Keep.of_wr W10).1) E11.1) (Keep.of_wr W13).1) (Keep.of_wr W15).1) (Keep.of_wr W17).1) (Keep.of_wr W19).1) E20.1) (Keep.of_wr W22).1) (Keep.of_wr W24).1) (Keep.of_wr W26).1) (Keep.of_wr W28).1) E29.1) (Keep.of_wr W31).1) (Keep.of_wr W33).1) (Keep.of_wr W35).1) (Keep.of_wr W37).1) f37_0 f37_1 hfa.1 hfb.1 (by decide) hln2 hln4
  obtain ⟨_, _, ⟨T41, L41, k41, n41⟩, -, X41, ⟨Lc41, hQ41, l41, y41, z41⟩, st41⟩ := Jvm.LawKit.callS X40 hx (y := (⟨"com/example/eager_recall/eagerrecall/vectors/ExactSumsDotPinLaw", "term", "([JI[JIII)J"⟩ : MethodName)) hown (mvT hZ (hw _ (List.mem_of_getElem? (i := 13) rfl))) (mvT hZ (hw _ (List.mem_of_getElem? (i := 14) rfl))) (mvT hZ (hw _ (List.mem_of_getElem? (i := 7) rfl))) (mvT hZ (hw _ (List.mem_of_getElem? (i := 15) rfl))) (by decide) (backOf (W := 2) (M41) hZ (hw _ (List.mem_of_getElem? (i := 15) rfl)) (hw _ (List.mem_of_getElem? (i := 7) rfl)) (by decide) (by decide)) (g := (mkF m 238 #[.val (.long q1), .second, .val (.long q2), .second, .val (.long q3), .second, .val (.long q4), .second, .val (.int p5), .val (.int (p5 &&& (3 : Int32))), .val (.int bf), .val (.int rm), .val (.int ln), .val (.ref b2), .val (.ref b11), .val (.ref b20), .val (.ref b29), .unset, .unset, .unset, .unset] [(.int ln), (.int (3 : Int32)), (.int bf), (.ref b11), (.int (p5 &&& (3 : Int32))), (.ref b2), (.long ((r38 + r39) + r40))])) rfl (by rw [hml]; rfl) (argsL := [(.ref b2), (.int (p5 &&& (3 : Int32))), (.ref b11), (.int bf), (.int (3 : Int32)), (.int ln)]) (rest := [(.long ((r38 + r39) + r40))]) (lenOf pd_rm0_2 rfl) rfl (by show 2 * 0 + _ ≤ _; exact Nat.le_of_eq rfl) (hb hby at_238) (fun _ _ => ⟨rfl, hh40, (by decide : 4 + 0 ≤ _), (by decide : 16 + 0 ≤ _)⟩)
  dsimp only [Pt.U, Pt.locs, Pt.cells, Pt.slots] at X41 l41 y41 z41 st41 hQ41
  subst l41 y41 z41
  obtain ⟨r41, rfl, N41q, hh41, hr41⟩ := hQ41
  have N41 := Fr.app N40 N41q
  obtain ⟨LL41, X41, N41⟩ := own_abs X41 N41
  refine own_go (fun t k => st41 t k) ?_
  refine own_go (B := T41.setTop (mkF m 242 #[.val (.long q1), .second, .val (.long q2), .second, .val (.long q3), .second, .val (.long q4), .second, .val (.int p5), .val (.int (p5 &&& (3 : Int32))), .val (.int bf), .val (.int rm), .val (.int ln), .val (.ref b2), .val (.ref b11), .val (.ref b20), .val (.ref b29), .unset, .unset, .unset, .unset] [(.long (((r38 + r39) + r40) + r41))])) (fun t k => ?_) ?_
  · show Steps p.tables e below (T41.setTop (mkF m 241 #[.val (.long q1), .second, .val (.long q2), .second, .val (.long q3), .second, .val (.long q4), .second, .val (.int p5), .val (.int (p5 &&& (3 : Int32))), .val (.int bf), .val (.int rm), .val (.int ln), .val (.ref b2), .val (.ref b11), .val (.ref b20), .val (.ref b29), .unset, .unset, .unset, .unset] [(.long r41), (.long ((r38 + r39) + r40))])) t
    refine XS.ladd X41.here hx rfl (hb hby at_241) rfl ?_
    exact k
  refine own_go (B := T41.setTop (mkF m 244 #[.val (.long q1), .second, .val (.long q2), .second, .val (.long q3), .second, .val (.long q4), .second, .val (.int p5), .val (.int (p5 &&& (3 : Int32))), .val (.int bf), .val (.int rm), .val (.int ln), .val (.ref b2), .val (.ref b11), .val (.ref b20), .val (.ref b29), .val (.long (((r38 + r39) + r40) + r41)), .second, .unset, .unset] [])) (fun t k => ?_) ?_
  · show Steps p.tables e below (T41.setTop (mkF m 242 #[.val (.long q1), .second, .val (.long q2), .second, .val (.long q3), .second, .val (.long q4), .second, .val (.int p5), .val (.int (p5 &&& (3 : Int32))), .val (.int bf), .val (.int rm), .val (.int ln), .val (.ref b2), .val (.ref b11), .val (.ref b20), .val (.ref b29), .unset, .unset, .unset, .unset] [(.long (((r38 + r39) + r40) + r41))])) t
    refine XS.lstore X41.here hx rfl (hb hby at_242) rfl (l' := #[.val (.long q1), .second, .val (.long q2), .second, .val (.long q3), .second, .val (.long q4), .second, .val (.int p5), .val (.int (p5 &&& (3 : Int32))), .val (.int bf), .val (.int rm), .val (.int ln), .val (.ref b2), .val (.ref b11), .val (.ref b20), .val (.ref b29), .val (.long (((r38 + r39) + r40) + r41)), .second, .unset, .unset]) rfl ?_
    exact k
  obtain ⟨xx, hxx⟩ : ∃ z : Int64, z = (((r38 + r39) + r40) + r41) := ⟨_, rfl⟩
  rw [← hxx]
  obtain ⟨hx1, hx2⟩ := own_sum hsa hsb hfa hfb ⟨hlen.1, by omega⟩ hr38 hr39 hr40 hr41 hxx
  refine own_go (B := T41.setTop (mkF m 254 #[.val (.long q1), .second, .val (.long q2), .second, .val (.long q3), .second, .val (.long q4), .second, .val (.int p5), .val (.int (p5 &&& (3 : Int32))), .val (.int bf), .val (.int rm), .val (.int ln), .val (.ref b2), .val (.ref b11), .val (.ref b20), .val (.ref b29), .val (.long xx), .second, .unset, .unset] [(.int ln), (.int bf), (.ref b29), (.int (p5 &&& (3 : Int32))), (.ref b20)])) (fun t k => ?_) ?_
  · show Steps p.tables e below (T41.setTop (mkF m 244 #[.val (.long q1), .second, .val (.long q2), .second, .val (.long q3), .second, .val (.long q4), .second, .val (.int p5), .val (.int (p5 &&& (3 : Int32))), .val (.int bf), .val (.int rm), .val (.int ln), .val (.ref b2), .val (.ref b11), .val (.ref b20), .val (.ref b29), .val (.long xx), .second, .unset, .unset] [])) t
    refine XS.aload X41.here hx rfl (hb hby at_244) rfl rfl ?_
    show Steps p.tables e below (T41.setTop (mkF m 246 #[.val (.long q1), .second, .val (.long q2), .second, .val (.long q3), .second, .val (.long q4), .second, .val (.int p5), .val (.int (p5 &&& (3 : Int32))), .val (.int bf), .val (.int rm), .val (.int ln), .val (.ref b2), .val (.ref b11), .val (.ref b20), .val (.ref b29), .val (.long xx), .second, .unset, .unset] [(.ref b20)])) t
    refine XS.iload X41.here hx rfl (hb hby at_246) rfl ?_
    show Steps p.tables e below (T41.setTop (mkF m 248 #[.val (.long q1), .second, .val (.long q2), .second, .val (.long q3), .second, .val (.long q4), .second, .val (.int p5), .val (.int (p5 &&& (3 : Int32))), .val (.int bf), .val (.int rm), .val (.int ln), .val (.ref b2), .val (.ref b11), .val (.ref b20), .val (.ref b29), .val (.long xx), .second, .unset, .unset] [(.int (p5 &&& (3 : Int32))), (.ref b20)])) t
    refine XS.aload X41.here hx rfl (hb hby at_248) rfl rfl ?_
    show Steps p.tables e below (T41.setTop (mkF m 250 #[.val (.long q1), .second, .val (.long q2), .second, .val (.long q3), .second, .val (.long q4), .second, .val (.int p5), .val (.int (p5 &&& (3 : Int32))), .val (.int bf), .val (.int rm), .val (.int ln), .val (.ref b2), .val (.ref b11), .val (.ref b20), .val (.ref b29), .val (.long xx), .second, .unset, .unset] [(.ref b29), (.int (p5 &&& (3 : Int32))), (.ref b20)])) t
    refine XS.iload X41.here hx rfl (hb hby at_250) rfl ?_
    show Steps p.tables e below (T41.setTop (mkF m 252 #[.val (.long q1), .second, .val (.long q2), .second, .val (.long q3), .second, .val (.long q4), .second, .val (.int p5), .val (.int (p5 &&& (3 : Int32))), .val (.int bf), .val (.int rm), .val (.int ln), .val (.ref b2), .val (.ref b11), .val (.ref b20), .val (.ref b29), .val (.long xx), .second, .unset, .unset] [(.int bf), (.ref b29), (.int (p5 &&& (3 : Int32))), (.ref b20)])) t
    refine XS.iload X41.here hx rfl (hb hby at_252) rfl ?_
    exact k
  have M42 := rm5 l Z a0 hw [] b20 (p5 &&& (3 : Int32)) b29 bf ln (fun i => if i = 3 then (q4 >>> ((39 : Int32) &&& 0x3f).toInt64) else (fun i => if i = 2 then (q3 >>> ((39 : Int32) &&& 0x3f).toInt64) else (fun i => if i = 1 then (q2 >>> ((39 : Int32) &&& 0x3f).toInt64) else (fun i => if i = 0 then (q1 >>> ((39 : Int32) &&& 0x3f).toInt64) else (fun _ => (0 : Int64)) i) i) i) i) (fun i => if i = 3 then ((q4 <<< ((25 : Int32) &&& 0x3f).toInt64) >>> ((39 : Int32) &&& 0x3f).toInt64) else (fun i => if i = 2 then ((q3 <<< ((25 : Int32) &&& 0x3f).toInt64) >>> ((39 : Int32) &&& 0x3f).toInt64) else (fun i => if i = 1 then ((q2 <<< ((25 : Int32) &&& 0x3f).toInt64) >>> ((39 : Int32) &&& 0x3f).toInt64) else (fun i => if i = 0 then ((q1 <<< ((25 : Int32) &&& 0x3f).toInt64) >>> ((39 : Int32) &&& 0x3f).toInt64) else (fun _ => (0 : Int64)) i) i) i) i) h37 n0 (Nat.le_trans (Nat.le_trans (Nat.le_trans (Nat.le_trans (Nat.le_trans (Nat.le_trans (Nat.le_trans (Nat.le_trans (Nat.le_trans (Nat.le_trans (Nat.le_trans (Nat.le_trans (Nat.le_trans (Nat.le_trans (Nat.le_trans (Nat.le_trans (Nat.le_trans (Nat.le_trans (Nat.le_trans (Nat.le_trans Z0 E2.1) (Keep.of_wr W4).1) (Keep.of_wr W6).1) (Keep.of_wr W8).1) (Keep.of_wr W10).1) E11.1) (Keep.of_wr W13).1) (Keep.of_wr W15).1) (Keep.of_wr W17).1) (Keep.of_wr W19).1) E20.1) (Keep.of_wr W22).1) (Keep.of_wr W24).1) (Keep.of_wr W26).1) (Keep.of_wr W28).1) E29.1) (Keep.of_wr W31).1) (Keep.of_wr W33).1) (Keep.of_wr W35).1) (Keep.of_wr W37).1) (f37_2.eqv hea) (f37_3.eqv heb) hsa hsb hfa.1 hfb.1 hlen.1 hln2 hln4
  obtain ⟨_, _, ⟨T42, L42, k42, n42⟩, -, X42, ⟨Lc42, hQ42, l42, y42, z42⟩, st42⟩ := Jvm.LawKit.callS X41 hx (y := (⟨"com/example/eager_recall/eagerrecall/vectors/ExactSums", "dot", "([FI[FII)D"⟩ : MethodName)) hown (mvT hZ (hw _ (List.mem_of_getElem? (i := 16) rfl))) (mvT hZ (hw _ (List.mem_of_getElem? (i := 17) rfl))) (mvT hZ (hw _ (List.mem_of_getElem? (i := 18) rfl))) (mvT hZ (hw _ (List.mem_of_getElem? (i := 19) rfl))) (by decide) (backOf (W := 0) (M42) hZ (hw _ (List.mem_of_getElem? (i := 19) rfl)) (hw _ (List.mem_of_getElem? (i := 18) rfl)) (by decide) (by decide)) (g := (mkF m 254 #[.val (.long q1), .second, .val (.long q2), .second, .val (.long q3), .second, .val (.long q4), .second, .val (.int p5), .val (.int (p5 &&& (3 : Int32))), .val (.int bf), .val (.int rm), .val (.int ln), .val (.ref b2), .val (.ref b11), .val (.ref b20), .val (.ref b29), .val (.long xx), .second, .unset, .unset] [(.int ln), (.int bf), (.ref b29), (.int (p5 &&& (3 : Int32))), (.ref b20)])) rfl (by rw [hml]; rfl) (argsL := [(.ref b20), (.int (p5 &&& (3 : Int32))), (.ref b29), (.int bf), (.int ln)]) (rest := []) (lenOf pd_rm0_3 rfl) rfl (by show 2 * 0 + _ ≤ _; exact Nat.le_of_eq rfl) (hb hby at_254) (fun _ _ => ⟨rfl, hh41, (by decide : 4 + 0 ≤ _), (by decide : 16 + 0 ≤ _)⟩)
  dsimp only [Pt.U, Pt.locs, Pt.cells, Pt.slots] at X42 l42 y42 z42 st42 hQ42
  subst l42 y42 z42
  obtain ⟨r42, rfl, N42q, hh42, hr42⟩ := hQ42
  have N42 := Fr.app N41 N42q
  obtain ⟨LL42, X42, N42⟩ := own_abs X42 N42
  refine own_go (fun t k => st42 t k) ?_
  refine own_go (B := T42.setTop (mkF m 273 #[.val (.long q1), .second, .val (.long q2), .second, .val (.long q3), .second, .val (.long q4), .second, .val (.int p5), .val (.int (p5 &&& (3 : Int32))), .val (.int bf), .val (.int rm), .val (.int ln), .val (.ref b2), .val (.ref b11), .val (.ref b20), .val (.ref b29), .val (.long xx), .second, .val (.double r42), .second] [(.int (1 : Int32))])) (fun t k => ?_) ?_
  · show Steps p.tables e below (T42.setTop (mkF m 257 #[.val (.long q1), .second, .val (.long q2), .second, .val (.long q3), .second, .val (.long q4), .second, .val (.int p5), .val (.int (p5 &&& (3 : Int32))), .val (.int bf), .val (.int rm), .val (.int ln), .val (.ref b2), .val (.ref b11), .val (.ref b20), .val (.ref b29), .val (.long xx), .second, .unset, .unset] [(.double r42)])) t
    refine XS.dstore X42.here hx rfl (hb hby at_257) rfl (l' := #[.val (.long q1), .second, .val (.long q2), .second, .val (.long q3), .second, .val (.long q4), .second, .val (.int p5), .val (.int (p5 &&& (3 : Int32))), .val (.int bf), .val (.int rm), .val (.int ln), .val (.ref b2), .val (.ref b11), .val (.ref b20), .val (.ref b29), .val (.long xx), .second, .val (.double r42), .second]) rfl ?_
    show Steps p.tables e below (T42.setTop (mkF m 259 #[.val (.long q1), .second, .val (.long q2), .second, .val (.long q3), .second, .val (.long q4), .second, .val (.int p5), .val (.int (p5 &&& (3 : Int32))), .val (.int bf), .val (.int rm), .val (.int ln), .val (.ref b2), .val (.ref b11), .val (.ref b20), .val (.ref b29), .val (.long xx), .second, .val (.double r42), .second] [])) t
    refine XS.dload X42.here hx rfl (hb hby at_259) rfl ?_
    show Steps p.tables e below (T42.setTop (mkF m 261 #[.val (.long q1), .second, .val (.long q2), .second, .val (.long q3), .second, .val (.long q4), .second, .val (.int p5), .val (.int (p5 &&& (3 : Int32))), .val (.int bf), .val (.int rm), .val (.int ln), .val (.ref b2), .val (.ref b11), .val (.ref b20), .val (.ref b29), .val (.long xx), .second, .val (.double r42), .second] [(.double r42)])) t
    refine XS.lload X42.here hx rfl (hb hby at_261) rfl ?_
    show Steps p.tables e below (T42.setTop (mkF m 263 #[.val (.long q1), .second, .val (.long q2), .second, .val (.long q3), .second, .val (.long q4), .second, .val (.int p5), .val (.int (p5 &&& (3 : Int32))), .val (.int bf), .val (.int rm), .val (.int ln), .val (.ref b2), .val (.ref b11), .val (.ref b20), .val (.ref b29), .val (.long xx), .second, .val (.double r42), .second] [(.long xx), (.double r42)])) t
    refine XS.l2dS X42.here hx rfl (hb hby at_263) rfl rfl ?_
    show Steps p.tables e below (T42.setTop (mkF m 264 #[.val (.long q1), .second, .val (.long q2), .second, .val (.long q3), .second, .val (.long q4), .second, .val (.int p5), .val (.int (p5 &&& (3 : Int32))), .val (.int bf), .val (.int rm), .val (.int ln), .val (.ref b2), .val (.ref b11), .val (.ref b20), .val (.ref b29), .val (.long xx), .second, .val (.double r42), .second] [(.double (FP.l2d xx)), (.double r42)])) t
    refine XS.dcmpS X42.here hx rfl (hb hby at_264) rfl rfl ?_
    show Steps p.tables e below (T42.setTop (mkF m 265 #[.val (.long q1), .second, .val (.long q2), .second, .val (.long q3), .second, .val (.long q4), .second, .val (.int p5), .val (.int (p5 &&& (3 : Int32))), .val (.int bf), .val (.int rm), .val (.int ln), .val (.ref b2), .val (.ref b11), .val (.ref b20), .val (.ref b29), .val (.long xx), .second, .val (.double r42), .second] [(.int (cmpValue (FP.dcmp r42 (FP.l2d xx)) .l))])) t
    refine XS.ifNo X42.here hx rfl (hb hby at_265) rfl ((if0 _ _).trans (teq (own_cmp hr42 (hx1 ▸ own_l2d hx2) : (cmpValue (FP.dcmp r42 (FP.l2d xx)) .l) = (0 : Int32))).2) ?_
    show Steps p.tables e below (T42.setTop (mkF m 268 #[.val (.long q1), .second, .val (.long q2), .second, .val (.long q3), .second, .val (.long q4), .second, .val (.int p5), .val (.int (p5 &&& (3 : Int32))), .val (.int bf), .val (.int rm), .val (.int ln), .val (.ref b2), .val (.ref b11), .val (.ref b20), .val (.ref b29), .val (.long xx), .second, .val (.double r42), .second] [])) t
    refine XS.iconst X42.here hx rfl (hb hby at_268) ?_
    show Steps p.tables e below (T42.setTop (mkF m 269 #[.val (.long q1), .second, .val (.long q2), .second, .val (.long q3), .second, .val (.long q4), .second, .val (.int p5), .val (.int (p5 &&& (3 : Int32))), .val (.int bf), .val (.int rm), .val (.int ln), .val (.ref b2), .val (.ref b11), .val (.ref b20), .val (.ref b29), .val (.long xx), .second, .val (.double r42), .second] [(.int (1 : Int32))])) t
    refine XS.goto X42.here hx rfl (pc0 := 269) (pc' := 273) rfl (hb hby at_269) (by decide) (by decide) ?_
    exact k
  obtain ⟨fs, hr, hrun, hended, hW, hsame⟩ := X42.leave (v := some (.int (1 : Int32))) (fun h => by rw [Bd.returns] at h; cases h)
  refine ⟨_, _, ?_, hrun, hended, _, _, rfl, ?_, ⟨_, rfl⟩, hW, hsame.mono (by decide) (by decide)⟩
  · show Steps p.tables e below (T42.setTop (mkF m 273 #[.val (.long q1), .second, .val (.long q2), .second, .val (.long q3), .second, .val (.long q4), .second, .val (.int p5), .val (.int (p5 &&& (3 : Int32))), .val (.int bf), .val (.int rm), .val (.int ln), .val (.ref b2), .val (.ref b11), .val (.ref b20), .val (.ref b29), .val (.long xx), .second, .val (.double r42), .second] [(.int (1 : Int32))])) _
    exact retN X42 hx (t := .boolean) Bd.returns (by simp) (hb hby at_273) hr
  · show Q0 Z q1 q2 q3 q4 p5 h0 n0 _ T42.heap _
    rw [hh42]
    exact ⟨rfl, N42⟩
set_option maxRecDepth 65536 in
set_option maxHeartbeats 40000000 in
theorem comes_1 {Post : Tables → Env → Array Value → State → Outcome → State → Prop} (hpost : ∀ tb e args s v u, (limb_1_1.after args s (.returned v) u = true ∧ limb_1_2.after args s (.returned v) u = true ∧ True) → FrameEnd s (.returned v) u (Jvm.fieldLocs frame_1_writes args s ++ Jvm.arrayLocs frame_1_arrays args s ++ Jvm.staticLocs frame_1_statics s) 16 128 → Post tb e args s (.returned v) u) :
    ArmFor flags0 classFile x code maxLocals ret World_1 tables_1 room_1 Calls_1 rest_1 Pre_1 Post := by
  intro l hfl _ _ p e ha hc hk s m args below hf hA hF happ hP
  obtain ⟨hcalls, hrest, hpre⟩ := hP
  obtain ⟨-, -, -, hnamed, -, -, -, hat⟩ := (Spec.applies_iff hf).mp happ
  obtain ⟨hg, hn⟩ := and_e (Cond.before_iff.mp (show (Jvm.Cond.and given_1 narrow_1).before args s = true from hpre))
  obtain ⟨gc, g0⟩ := and_e hg
  obtain ⟨a0, g1⟩ := and_e g0
  obtain ⟨a1, g2⟩ := and_e g1
  obtain ⟨a2, g3⟩ := and_e g2
  obtain ⟨a3, g4⟩ := and_e g3
  have a4 := g4
  obtain ⟨w0, w1, w2, w3, w4, rfl⟩ : ∃ w0 w1 w2 w3 w4 : Value, args = #[w0, w1, w2, w3, w4] := by
    have hs : args.size = 5 := by simpa [Cond.value, given_1] using gc
    obtain ⟨L⟩ := args
    match L, hs with
    | [w0, w1, w2, w3, w4], _ => exact ⟨w0, w1, w2, w3, w4, rfl⟩
  have hw := fun d (hd : d ∈ tables_1) => atoms_spec (ws := Jvm.Cond.code x code maxLocals ret :: tables_1) hat d (List.mem_cons_of_mem _ hd)
  have hfit : Fit s := fun {y c} hc i hi => by
    obtain ⟨ha, rfl⟩ := Array.getElem?_eq_some_iff.mp hc
    have q := List.all_eq_true.mp ((Array.all_eq_true_iff_forall_mem.mp hF) _ (Array.getElem_mem ha)) i (List.mem_range.mpr hi)
    simpa [Array.getElem?_eq_getElem hi] using q
  obtain ⟨i0, ei0⟩ := isL_v a0
  obtain rfl : w0 = (.long i0) := Option.some.inj ei0
  obtain ⟨i1, ei1⟩ := isL_v a1
  obtain rfl : w1 = (.long i1) := Option.some.inj ei1
  obtain ⟨i2, ei2⟩ := isL_v a2
  obtain rfl : w2 = (.long i2) := Option.some.inj ei2
  obtain ⟨i3, ei3⟩ := isL_v a3
  obtain rfl : w3 = (.long i3) := Option.some.inj ei3
  obtain ⟨i4, ei4⟩ := is_v a4
  obtain rfl : w4 = (.int i4) := Option.some.inj ei4
  obtain ⟨n, o, h1, h2, h3, _, L, rfl, ⟨rfl, N⟩, hq⟩ := rm0 l s _ hw tables_1 i0 i1 i2 i3 i4 s.heap s.heap.size (Nat.le_refl _) p e ha hc hk s m _ below hf ((Spec.applies_iff_loose hf).mp happ).1 ⟨rfl, State.Warmed39.refl s, rfl⟩ trivial
  refine ⟨n, _, h1, h2, h3, hpost _ _ _ _ _ _ ⟨Cond.after_iff.mpr rfl, Cond.after_iff.mpr (eq_i res_at (Term.int_eval (1)) rfl), trivial⟩ ⟨hq.1, hq.2.1, (hq.2.2.sift fun y hy => Or.inr (N y hy)).mono (by decide) (by decide)⟩⟩
theorem main_1_1 : Claimed_1_1 := comes_1 fun _ _ _ _ _ _ h hF => ⟨h.1, hF⟩
theorem main_1_2 : Claimed_1_2 := comes_1 fun _ _ _ _ _ _ h hF => ⟨h.2.1, hF⟩
end Jvm.Pilot.@@N@@
namespace Jvm.Pilot.@@N@@
open Jvm Jvm.ClassFile Sem Op Lib Jvm.Free Jvm.Stand Jvm.Pilot.@@N@@.Jvm.D
/-! MADE BY PROGRAM (witnessworld.py) out of the Statement's table words and the real class files: 14 classes; the members and pool entries that the words name. The judged class is class 1, her method 1. -/
namespace start1
open Jvm.ClassFile
def u (s : String) : CpInfo := .utf8 (stringToUtf16 s)
/-- a pool by its gaps: so many unusable entries, then the entry; so many at the end -/
def gap : Nat → List CpInfo → List CpInfo
  | 0, r => r
  | n + 1, r => .unusable :: gap n r
def poolList (es : List (Nat × CpInfo)) (last : Nat) : List CpInfo := es.foldr (fun e r => gap e.1 (e.2 :: r)) (gap last [])
def pool (es : List (Nat × CpInfo)) (last : Nat) : Array CpInfo := ⟨poolList es last⟩
def fileOf (pool : Array CpInfo) (this : Nat) (attrs : Array Attribute := #[]) (ms : Array MethodInfo := #[]) (fl : Nat := 33) (sup : Nat := 0) (ifs : Array Nat := #[]) (fds : Array FieldInfo := #[]) : ClassFile where
  minorVersion := 0
  majorVersion := 65
  constantPool := pool
  accessFlags := fl
  thisClass := this
  superClass := sup
  interfaces := ifs
  fields := fds
  methods := ms
  attributes := attrs
def plain (name : String) (sup : Option ClassId) : Class where
  name := name
  kind := .ordinary
  loader := none
  accessFlags := 33
  super := sup
  interfaces := #[]
  cf := none
  fields := #[]
  methods := #[]
  instanceTypes := #[]
  staticTypes := #[]
  resolved := #[]
  callSites := []
  init := .initialized
  statics := none
  mirror := none

def pool0 : Array CpInfo := pool [(5, u "<init>"), (0, u "()V"), (1, .class_ 10), (1, u "java/lang/Object")] 113

def k0m0 : Method := { name := "<init>", desc := "()V", sig := { parameters := [], returnType := none }, accessFlags := 1, code := none }
/-- java/lang/Object -/
def k0 : Class := { plain "java/lang/Object" none with
  accessFlags := 33
  interfaces := #[]
  cf := some (fileOf pool0 8 #[] #[{ accessFlags := 1, nameIndex := 5, descriptorIndex := 6, attributes := #[] }] 33 0 #[] #[])
  fields := #[]
  methods := #[k0m0]
  instanceTypes := #[]
  staticTypes := #[]
  resolved := Array.replicate 124 none
  statics := none }

def pool1 : Array CpInfo := pool [(2, .class_ 4), (1, u "java/lang/Object"), (0, u "<init>"), (0, u "()V"), (0, .methodref 8 9), (0, .class_ 10), (0, .nameAndType 11 12), (0, u "java/lang/Math"), (0, u "max"), (0, u "(II)I"), (0, .methodref 14 15), (0, .class_ 16), (0, .nameAndType 17 18), (0, u "com/example/eager_recall/eagerrecall/vectors/ExactSumsDotPinLaw"), (0, u "hi"), (0, u "(J)J"), (0, .methodref 14 20), (0, .nameAndType 21 18), (0, u "lo"), (0, .methodref 14 23), (0, .nameAndType 24 25), (0, u "term"), (0, u "([JI[JIII)J"), (0, .methodref 27 28), (0, .class_ 29), (0, .nameAndType 30 31), (0, u "com/example/eager_recall/eagerrecall/vectors/ExactSums"), (0, u "dot"), (0, u "([FI[FII)D"), (2, u "law"), (0, u "(JJJJI)Z")] 7

def k1m0 : Method := { name := "<init>", desc := "()V", sig := { parameters := [], returnType := none }, accessFlags := 1, code := none }
def k1c1 : Code := { maxStack := 8, maxLocals := 21, code := code, exceptionTable := #[], attributes := #[] }
def k1m1 : Method := { name := "law", desc := "(JJJJI)Z", sig := { parameters := [.long, .long, .long, .long, .int], returnType := some .boolean }, accessFlags := 9, code := some k1c1 }
def k1c2 : Code := { maxStack := 3, maxLocals := 2, code := method_3_code, exceptionTable := #[], attributes := #[] }
def k1m2 : Method := { name := "hi", desc := "(J)J", sig := { parameters := [.long], returnType := some .long }, accessFlags := 10, code := some k1c2 }
def k1c3 : Code := { maxStack := 3, maxLocals := 2, code := method_4_code, exceptionTable := #[], attributes := #[] }
def k1m3 : Method := { name := "lo", desc := "(J)J", sig := { parameters := [.long], returnType := some .long }, accessFlags := 10, code := some k1c3 }
def k1c4 : Code := { maxStack := 5, maxLocals := 6, code := method_5_code, exceptionTable := #[], attributes := #[] }
def k1m4 : Method := { name := "term", desc := "([JI[JIII)J", sig := { parameters := [(.array .long), .int, (.array .long), .int, .int, .int], returnType := some .long }, accessFlags := 10, code := some k1c4 }
/-- com/example/eager_recall/eagerrecall/vectors/ExactSumsDotPinLaw -/
def k1 : Class := { plain "com/example/eager_recall/eagerrecall/vectors/ExactSumsDotPinLaw" (some 0) with
  accessFlags := 49
  interfaces := #[]
  cf := some (fileOf pool1 14 #[] #[{ accessFlags := 1, nameIndex := 5, descriptorIndex := 6, attributes := #[] }, { accessFlags := 9, nameIndex := 34, descriptorIndex := 35, attributes := #[] }, { accessFlags := 10, nameIndex := 17, descriptorIndex := 18, attributes := #[] }, { accessFlags := 10, nameIndex := 21, descriptorIndex := 18, attributes := #[] }, { accessFlags := 10, nameIndex := 24, descriptorIndex := 25, attributes := #[] }] 49 2 #[] #[])
  fields := #[]
  methods := #[k1m0, k1m1, k1m2, k1m3, k1m4]
  instanceTypes := #[]
  staticTypes := #[]
  resolved := Array.replicate 43 none
  statics := none }

def pool2 : Array CpInfo := pool [(1, .class_ 2), (0, u "java/lang/Math"), (1, .class_ 6), (1, u "java/lang/Object"), (0, u "<init>"), (0, u "()V"), (89, .class_ 100), (1, u "java/lang/Math$RandomNumberGeneratorHolder"), (71, u "negativeZeroFloatBits"), (0, u "J"), (2, u "negativeZeroDoubleBits"), (21, u "max"), (46, u "$assertionsDisabled"), (0, u "Z"), (88, u "(II)I"), (2, u "twoToTheDoubleScaleDown"), (0, u "D"), (4, u "twoToTheDoubleScaleUp"), (9, u "E"), (3, u "PI"), (2, u "TAU"), (2, u "DEGREES_TO_RADIANS"), (0, u "RADIANS_TO_DEGREES")] 94

def k2m0 : Method := { name := "<init>", desc := "()V", sig := { parameters := [], returnType := none }, accessFlags := 2, code := none }
def k2c1 : Code := { maxStack := 2, maxLocals := 2, code := jdk_29_method_65_code, exceptionTable := #[], attributes := #[] }
def k2m1 : Method := { name := "max", desc := "(II)I", sig := { parameters := [.int, .int], returnType := some .int }, accessFlags := 9, code := some k2c1 }
/-- java/lang/Math -/
def k2 : Class := { plain "java/lang/Math" (some 0) with
  accessFlags := 49
  interfaces := #[]
  cf := some (fileOf pool2 1 #[.nestMembers #[98]] #[{ accessFlags := 2, nameIndex := 7, descriptorIndex := 8, attributes := #[] }, { accessFlags := 9, nameIndex := 198, descriptorIndex := 335, attributes := #[] }] 49 4 #[] #[{ accessFlags := 25, nameIndex := 354, descriptorIndex := 339, attributes := #[] }, { accessFlags := 25, nameIndex := 358, descriptorIndex := 339, attributes := #[] }, { accessFlags := 25, nameIndex := 361, descriptorIndex := 339, attributes := #[] }, { accessFlags := 26, nameIndex := 364, descriptorIndex := 339, attributes := #[] }, { accessFlags := 26, nameIndex := 365, descriptorIndex := 339, attributes := #[] }, { accessFlags := 26, nameIndex := 172, descriptorIndex := 173, attributes := #[] }, { accessFlags := 26, nameIndex := 176, descriptorIndex := 173, attributes := #[] }, { accessFlags := 8, nameIndex := 344, descriptorIndex := 339, attributes := #[] }, { accessFlags := 8, nameIndex := 338, descriptorIndex := 339, attributes := #[] }, { accessFlags := 4120, nameIndex := 245, descriptorIndex := 246, attributes := #[] }])
  fields := #[{ name := "E", type := .double, accessFlags := 25, slot := 0, constantValue := 0 }, { name := "PI", type := .double, accessFlags := 25, slot := 1, constantValue := 0 }, { name := "TAU", type := .double, accessFlags := 25, slot := 2, constantValue := 0 }, { name := "DEGREES_TO_RADIANS", type := .double, accessFlags := 26, slot := 3, constantValue := 0 }, { name := "RADIANS_TO_DEGREES", type := .double, accessFlags := 26, slot := 4, constantValue := 0 }, { name := "negativeZeroFloatBits", type := .long, accessFlags := 26, slot := 5, constantValue := 0 }, { name := "negativeZeroDoubleBits", type := .long, accessFlags := 26, slot := 6, constantValue := 0 }, { name := "twoToTheDoubleScaleUp", type := .double, accessFlags := 8, slot := 7, constantValue := 0 }, { name := "twoToTheDoubleScaleDown", type := .double, accessFlags := 8, slot := 8, constantValue := 0 }, { name := "$assertionsDisabled", type := .boolean, accessFlags := 4120, slot := 9, constantValue := 0 }]
  methods := #[k2m0, k2m1]
  instanceTypes := #[]
  staticTypes := #[.double, .double, .double, .double, .double, .long, .long, .double, .double, .boolean]
  resolved := Array.replicate 460 none
  statics := none }

def pool3 : Array CpInfo := pool [(2, .class_ 4), (1, u "java/lang/Object"), (0, u "<init>"), (0, u "()V"), (0, .class_ 8), (0, u "com/example/eager_recall/eagerrecall/vectors/ExactSums"), (5, .class_ 16), (1, u "com/example/eager_recall/eagerrecall/vectors/ExactSums$QueryBlock"), (5, u "I"), (31, .class_ 56), (1, u "com/example/eager_recall/eagerrecall/vectors/ExactSums$FusedMultiplyAdd"), (1, u "ROWS"), (2, u "SUM_ROWS"), (1, u "FUSED_AT_LEAST"), (0, u "J"), (2, u "dot"), (0, u "([FI[FII)D")] 16

def k3m0 : Method := { name := "<init>", desc := "()V", sig := { parameters := [], returnType := none }, accessFlags := 2, code := none }
def k3c1 : Code := { maxStack := 7, maxLocals := 8, code := prog_94_method_2_code, exceptionTable := #[], attributes := #[] }
def k3m1 : Method := { name := "dot", desc := "([FI[FII)D", sig := { parameters := [(.array .float), .int, (.array .float), .int, .int], returnType := some .double }, accessFlags := 8, code := some k3c1 }
/-- com/example/eager_recall/eagerrecall/vectors/ExactSums -/
def k3 : Class := { plain "com/example/eager_recall/eagerrecall/vectors/ExactSums" (some 0) with
  accessFlags := 32
  interfaces := #[]
  cf := some (fileOf pool3 7 #[.nestMembers #[14, 54]] #[{ accessFlags := 2, nameIndex := 5, descriptorIndex := 6, attributes := #[] }, { accessFlags := 8, nameIndex := 67, descriptorIndex := 68, attributes := #[] }] 32 2 #[] #[{ accessFlags := 24, nameIndex := 58, descriptorIndex := 22, attributes := #[] }, { accessFlags := 26, nameIndex := 61, descriptorIndex := 22, attributes := #[] }, { accessFlags := 24, nameIndex := 63, descriptorIndex := 64, attributes := #[] }])
  fields := #[{ name := "ROWS", type := .int, accessFlags := 24, slot := 0, constantValue := 0 }, { name := "SUM_ROWS", type := .int, accessFlags := 26, slot := 1, constantValue := 0 }, { name := "FUSED_AT_LEAST", type := .long, accessFlags := 24, slot := 2, constantValue := 0 }]
  methods := #[k3m0, k3m1]
  instanceTypes := #[]
  staticTypes := #[.int, .int, .long]
  resolved := Array.replicate 85 none
  statics := none }

def pool4 : Array CpInfo := pool [(1, u "java/lang/Cloneable"), (0, .class_ 1), (0, u "java/lang/Object"), (0, .class_ 3)] 3

/-- java/lang/Cloneable -/
def k4 : Class := { plain "java/lang/Cloneable" (some 0) with
  accessFlags := 1537
  interfaces := #[]
  cf := some (fileOf pool4 2 #[] #[] 1537 4 #[] #[])
  fields := #[]
  methods := #[]
  instanceTypes := #[]
  staticTypes := #[]
  resolved := Array.replicate 8 none
  statics := none }

def pool5 : Array CpInfo := pool [(1, u "java/io/Serializable"), (0, .class_ 1), (0, u "java/lang/Object"), (0, .class_ 3)] 3

/-- java/io/Serializable -/
def k5 : Class := { plain "java/io/Serializable" (some 0) with
  accessFlags := 1537
  interfaces := #[]
  cf := some (fileOf pool5 2 #[] #[] 1537 4 #[] #[])
  fields := #[]
  methods := #[]
  instanceTypes := #[]
  staticTypes := #[]
  resolved := Array.replicate 8 none
  statics := none }

/-- the primitive byte -/
def k6 : Class := { plain "byte" none with kind := .primitive 'B', accessFlags := 0x411 }
/-- [B -/
def k7 : Class := { plain "[B" (some 0) with kind := .array 6 .byte, interfaces := #[4, 5], accessFlags := 1041 }

/-- the primitive float -/
def k8 : Class := { plain "float" none with kind := .primitive 'F', accessFlags := 0x411 }
/-- [F -/
def k9 : Class := { plain "[F" (some 0) with kind := .array 8 .float, interfaces := #[4, 5], accessFlags := 1041 }

/-- the primitive int -/
def k10 : Class := { plain "int" none with kind := .primitive 'I', accessFlags := 0x411 }
/-- [I -/
def k11 : Class := { plain "[I" (some 0) with kind := .array 10 .int, interfaces := #[4, 5], accessFlags := 1041 }

/-- the primitive long -/
def k12 : Class := { plain "long" none with kind := .primitive 'J', accessFlags := 0x411 }
/-- [J -/
def k13 : Class := { plain "[J" (some 0) with kind := .array 12 .long, interfaces := #[4, 5], accessFlags := 1041 }

def heap : Heap := #[]
def classes : Array Class := #[k0, k1, k2, k3, k4, k5, k6, k7, k8, k9, k10, k11, k12, k13]
def interned : List (Array UInt16 × Addr) := []
def slotsUsed : Nat := 0
def theMethod : MethodId := ⟨1, 1⟩
def args0 : Array Value := #[.long 5, .long 7, .long 1, .long 9, .int 37]
def aboutOver (below : List Frame) : State where
  vm := { classes := classes, interned := interned.toArray }
  heap := heap
  slotsUsed := slotsUsed
  threads := #[{ frames := .invoking theMethod args0 :: below }]
def below0 : List Frame := [.native { method := ⟨0, 0⟩, args := #[] }]
def about1 : State := aboutOver below0
def p0 : Program := .bare "" "" ""
def e0 : Env := launch0.env 0 0 0
theorem w_frames : about1.frames = Frame.invoking theMethod args0 :: below0 := rfl
set_option maxRecDepth 65536 in
theorem w_args : argsFit about1.vm theMethod args0 = true := by decide +kernel
set_option maxRecDepth 65536 in
theorem w_heap : heapFits about1 = true := by decide +kernel
set_option maxRecDepth 65536 in
theorem w_runnable : about1.curStatus? = some .runnable := by decide +kernel
set_option maxRecDepth 65536 in
theorem w_alone : about1.alone = true := by decide +kernel
set_option maxRecDepth 65536 in
theorem w_named : about1.methodNamed? x = some theMethod := by decide +kernel
set_option maxRecDepth 65536 in
theorem w_hears : about1.hears theMethod below0 = true := by decide +kernel
set_option maxRecDepth 65536 in
theorem w_ripe : about1.ripe theMethod args0 below0 = true := by decide +kernel
theorem w_running : about1.status = .running := rfl
set_option maxRecDepth 65536 in
theorem w_room : about1.hasRoom e0.platform room_1 = true :=
  launch0.hasRoom_least _ room_1 (by decide +kernel) (by decide +kernel) (by decide +kernel) (by decide +kernel) (by decide +kernel) (by decide +kernel)
theorem allAtoms_all (ts : List Jvm.Cond) (a : Array Jvm.Value) (st : Jvm.State) : (allAtoms ts).before a st = ts.all (fun c => c.before a st) := by
  induction ts with
  | nil => rfl
  | cons c t ih =>
    show (Jvm.Cond.and c (allAtoms t)).before a st = _
    rw [Jvm.Cond.before_and, ih, List.all_cons]
def words1 : List Jvm.Cond := Jvm.Cond.code x code maxLocals ret :: tables_1
/-- a 'code' word, met by the world's own term for the bytes: nothing is compared byte by byte -/
theorem code_word {y : MethodName} {bytes : ByteArray} {mx : Nat} {rt : Option FieldType} {a : Array Value} {s : State} {m : MethodId} {meth : Method} {c : Code} (h1 : s.methodNamed? y = some m) (h2 : s.vm.method? m = some meth) (h3 : meth.code = some c) (h4 : c.code = bytes)
    (h5 : (c.maxLocals == mx && c.exceptionTable.isEmpty && decide (c.maxStack ≤ mostOperands) && decide (meth.sig.returnType = rt) && !meth.locks && decide (parseMethodDescriptor y.desc = some meth.sig)) = true) : (Jvm.Cond.code y bytes mx rt).before a s = true := by
  simp only [Bool.and_eq_true, beq_iff_eq, Bool.not_eq_true', decide_eq_true_eq] at h5
  obtain ⟨⟨⟨⟨⟨g1, g2⟩, g3⟩, g4⟩, g5⟩, g6⟩ := h5
  simp [Cond.before, Cond.holds, Cond.value, h1, h2, h3, h4, g1, g2, g3, g4, g5, g6]
def isCode : Jvm.Cond → Bool
  | .code _ _ _ _ => true
  | _ => false
theorem all_split {L : List Jvm.Cond} {P : Jvm.Cond → Bool} (h1 : L.all (fun c => isCode c || P c) = true) (h2 : ∀ c ∈ L.filter isCode, P c = true) : L.all P = true := by
  refine List.all_eq_true.mpr fun c hc => ?_
  have h := List.all_eq_true.mp h1 c hc
  rcases Bool.eq_false_or_eq_true (isCode c) with hi | hi
  · exact h2 c (List.mem_filter.mpr ⟨hc, hi⟩)
  · simpa [hi] using h
set_option maxRecDepth 65536 in
theorem w_c0 : (Jvm.Cond.code x code maxLocals ret).before args0 about1 = true := code_word (m := ⟨1, 1⟩) (meth := k1m1) (c := k1c1) (by decide +kernel) rfl rfl rfl (by decide +kernel)
set_option maxRecDepth 65536 in
theorem w_c1 : (Jvm.Cond.code ({ cls := "java/lang/Math", name := "max", desc := "(II)I" } : Jvm.MethodName) jdk_29_method_65_code (2 : Nat) (Option.some Jvm.ClassFile.FieldType.int)).before args0 about1 = true := code_word (m := ⟨2, 1⟩) (meth := k2m1) (c := k2c1) (by decide +kernel) rfl rfl rfl (by decide +kernel)
set_option maxRecDepth 65536 in
theorem w_c2 : (Jvm.Cond.code ({ cls := "com/example/eager_recall/eagerrecall/vectors/ExactSumsDotPinLaw", name := "hi", desc := "(J)J" } : Jvm.MethodName) method_3_code (2 : Nat) (Option.some Jvm.ClassFile.FieldType.long)).before args0 about1 = true := code_word (m := ⟨1, 2⟩) (meth := k1m2) (c := k1c2) (by decide +kernel) rfl rfl rfl (by decide +kernel)
set_option maxRecDepth 65536 in
theorem w_c3 : (Jvm.Cond.code ({ cls := "com/example/eager_recall/eagerrecall/vectors/ExactSumsDotPinLaw", name := "lo", desc := "(J)J" } : Jvm.MethodName) method_4_code (2 : Nat) (Option.some Jvm.ClassFile.FieldType.long)).before args0 about1 = true := code_word (m := ⟨1, 3⟩) (meth := k1m3) (c := k1c3) (by decide +kernel) rfl rfl rfl (by decide +kernel)
set_option maxRecDepth 65536 in
theorem w_c4 : (Jvm.Cond.code ({ cls := "com/example/eager_recall/eagerrecall/vectors/ExactSumsDotPinLaw", name := "term", desc := "([JI[JIII)J" } : Jvm.MethodName) method_5_code (6 : Nat) (Option.some Jvm.ClassFile.FieldType.long)).before args0 about1 = true := code_word (m := ⟨1, 4⟩) (meth := k1m4) (c := k1c4) (by decide +kernel) rfl rfl rfl (by decide +kernel)
set_option maxRecDepth 65536 in
theorem w_c5 : (Jvm.Cond.code ({ cls := "com/example/eager_recall/eagerrecall/vectors/ExactSums", name := "dot", desc := "([FI[FII)D" } : Jvm.MethodName) prog_94_method_2_code (8 : Nat) (Option.some Jvm.ClassFile.FieldType.double)).before args0 about1 = true := code_word (m := ⟨3, 1⟩) (meth := k3m1) (c := k3c1) (by decide +kernel) rfl rfl rfl (by decide +kernel)
def codes1 : List Jvm.Cond := [Jvm.Cond.code x code maxLocals ret, Jvm.Cond.code ({ cls := "java/lang/Math", name := "max", desc := "(II)I" } : Jvm.MethodName) jdk_29_method_65_code (2 : Nat) (Option.some Jvm.ClassFile.FieldType.int), Jvm.Cond.code ({ cls := "com/example/eager_recall/eagerrecall/vectors/ExactSumsDotPinLaw", name := "hi", desc := "(J)J" } : Jvm.MethodName) method_3_code (2 : Nat) (Option.some Jvm.ClassFile.FieldType.long), Jvm.Cond.code ({ cls := "com/example/eager_recall/eagerrecall/vectors/ExactSumsDotPinLaw", name := "lo", desc := "(J)J" } : Jvm.MethodName) method_4_code (2 : Nat) (Option.some Jvm.ClassFile.FieldType.long), Jvm.Cond.code ({ cls := "com/example/eager_recall/eagerrecall/vectors/ExactSumsDotPinLaw", name := "term", desc := "([JI[JIII)J" } : Jvm.MethodName) method_5_code (6 : Nat) (Option.some Jvm.ClassFile.FieldType.long), Jvm.Cond.code ({ cls := "com/example/eager_recall/eagerrecall/vectors/ExactSums", name := "dot", desc := "([FI[FII)D" } : Jvm.MethodName) prog_94_method_2_code (8 : Nat) (Option.some Jvm.ClassFile.FieldType.double)]
set_option maxRecDepth 65536 in
theorem codes_eq : words1.filter isCode = codes1 := rfl
theorem w_codes : ∀ c ∈ words1.filter isCode, c.before args0 about1 = true := by
  rw [codes_eq]
  intro c hc
  simp only [codes1, List.mem_cons, List.not_mem_nil, or_false] at hc
  rcases hc with rfl | rfl | rfl | rfl | rfl | rfl
  · exact w_c0
  · exact w_c1
  · exact w_c2
  · exact w_c3
  · exact w_c4
  · exact w_c5
set_option maxRecDepth 65536 in
theorem w_t1 : words1.all (fun c => isCode c || c.before args0 about1) = true := by decide +kernel
theorem w_tables : (allAtoms (Jvm.Cond.code x code maxLocals ret :: tables_1)).before args0 about1 = true := by
  rw [allAtoms_all]
  show words1.all (fun c => c.before args0 about1) = true
  refine all_split ?_ w_codes
  rw [w_t1]
set_option maxRecDepth 65536 in
theorem w_case : (Jvm.Cond.and given_1 narrow_1).before args0 about1 = true := by decide +kernel
theorem w_applies : (headSpec (Jvm.Cond.code x code maxLocals ret :: tables_1) room_1).applies x e0.platform about1 = true :=
  (Spec.applies_iff w_frames).mpr ⟨w_running, w_runnable, w_alone, w_named, w_hears, w_ripe, w_room, w_tables⟩
theorem atStart : AtStart classFile x code maxLocals ret World_1 tables_1 room_1 Calls_1 rest_1 Pre_1 launch0 p0 e0 about1 theMethod args0 below0 :=
  ⟨lists_1, trivial, launch0.admits_env _ _ _, launch0.least_env, fairChoices_fair.cas, fairChoices_fair.clock, w_frames, w_args, w_heap, w_applies, trivial, trivial, w_case⟩
end start1
theorem witness_1 : WitnessClaimed_1 := ⟨start1.p0, start1.e0, start1.about1, start1.theMethod, start1.args0, start1.below0, start1.atStart⟩
end Jvm.Pilot.@@N@@
