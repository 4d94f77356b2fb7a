import JvmDerived
import JvmDerived.Pilot.@@N@@Statement
import JvmDerived.Pilot.@@N@@Code
set_option linter.unusedVariables false
set_option linter.unusedSimpArgs false
namespace Jvm.RoadKit
open Sem ClassFile Op Lib Jvm.Stand Jvm.Free Jvm.LawKit
section New
variable {p : Program} {l : Launch} {e : Env} {R : Room} {s : State} {m : MethodId} {args : Array Value} {below : List Frame} {meth : Method} {c : Code} {T : State} {locs : List Loc} {cells slots : Nat}
theorem retI (X : Stand p l e R s m args below meth c T locs cells slots) (hx : p.tables.exec = Jvm.exec) {pc : Nat} {Ls : Array Slot} {z : Int32} {rest : List Value} (hret : meth.sig.returnType = some .int) (hd : decode c.code pc = .ok (.ireturn, 1)) {fs : List Frame}
    (hl : ∀ (f : JFrame) (acts : List Action), f.method = m → f.locked = none → f.entered = [] → (doReturn e (T.setTop f) acts (some (.int z))).1 = T.setFrames fs) : Steps p.tables e below (T.setTop (mkF m pc Ls (.int z :: rest))) (T.setFrames fs) := by
  have hm' : T.vm.method? m = some meth := X.method'
  have hn : narrow .int (.int z) = .int z := rfl
  show Steps p.tables e below (T.setTop { method := m, pc := pc, locals := Ls, stack := _ :: rest, locked := none }) _
  jvm_step X.here [X.here.top, hx, hd, hm', hret, hn]
  first | (intro acts; rw [hl _ acts rfl rfl rfl]) | rw [hl _ _ rfl rfl rfl]
  exact Steps.refl _
theorem own_retL (X : Stand p l e R s m args below meth c T locs cells slots) (hx : p.tables.exec = Jvm.exec) {pc : Nat} {Ls : Array Slot} {z : Int64} {rest : List Value} (hret : meth.sig.returnType = some .long) (hd : decode c.code pc = .ok (.lreturn, 1)) {fs : List Frame}
    (hl : ∀ (f : JFrame) (acts : List Action), f.method = m → f.locked = none → f.entered = [] → (doReturn e (T.setTop f) acts (some (.long z))).1 = T.setFrames fs) : Steps p.tables e below (T.setTop (mkF m pc Ls (.long z :: rest))) (T.setFrames fs) := by
  have hm' : T.vm.method? m = some meth := X.method'
  show Steps p.tables e below (T.setTop { method := m, pc := pc, locals := Ls, stack := _ :: rest, locked := none }) _
  jvm_step X.here [X.here.top, hx, hd, hm', hret, narrow]
  first | (intro acts; rw [hl _ acts rfl rfl rfl]) | rw [hl _ _ rfl rfl rfl]
  exact Steps.refl _
theorem own_retD (X : Stand p l e R s m args below meth c T locs cells slots) (hx : p.tables.exec = Jvm.exec) {pc : Nat} {Ls : Array Slot} {z : UInt64} {rest : List Value} (hret : meth.sig.returnType = some .double) (hd : decode c.code pc = .ok (.dreturn, 1)) {fs : List Frame}
    (hl : ∀ (f : JFrame) (acts : List Action), f.method = m → f.locked = none → f.entered = [] → (doReturn e (T.setTop f) acts (some (.double z))).1 = T.setFrames fs) : Steps p.tables e below (T.setTop (mkF m pc Ls (.double z :: rest))) (T.setFrames fs) := by
  have hm' : T.vm.method? m = some meth := X.method'
  show Steps p.tables e below (T.setTop { method := m, pc := pc, locals := Ls, stack := _ :: rest, locked := none }) _
  jvm_step X.here [X.here.top, hx, hd, hm', hret, narrow]
  first | (intro acts; rw [hl _ acts rfl rfl rfl]) | rw [hl _ _ rfl rfl rfl]
  exact Steps.refl _
theorem own_selp {Z : State} {a0 : Array Value} {y : MethodName} {n : Nat} (wi : (Cond.instantiable y.cls n).before a0 Z = true) (wp : (Cond.privateMethod y).before a0 Z = true) (wm : (Cond.instanceMethod y).before a0 Z = true) (hy : y.cls ≠ "java/lang/invoke/MethodHandle" ∧ y.cls ≠ "java/lang/invoke/VarHandle") : (Cond.selects y.cls y y).before a0 Z = true := by
  obtain ⟨c, k, h1, h2, -, h4, -⟩ := Cond.instantiable_spec wi
  exact Jvm.Stand.selects_self_of_private h1 h2 (by cases hk : k.isInterface <;> simp_all) (Cond.privateMethod_at wp) wm hy
theorem own_abs (X : Stand p l e R s m args below meth c T locs cells slots) {n0 : Nat} (N : Fr n0 locs) : ∃ LL, Stand p l e R s m args below meth c T LL cells slots ∧ Fr n0 LL := ⟨_, X, N⟩
/-- from A the run ends as K says -/
abbrev own_Fin (p : Program) (e : Env) (below : List Frame) (K : Outcome → State → Prop) (A : State) : Prop := ∃ s₂ o, Steps p.tables e below A s₂ ∧ s₂.status = .running ∧ Ended s₂ below o ∧ K o s₂
theorem own_go {K : Outcome → State → Prop} {A B : State} (h : ∀ t, Steps p.tables e below B t → Steps p.tables e below A t) (k : own_Fin p e below K B) : own_Fin p e below K A := by
  obtain ⟨s₂, o, hs, r⟩ := k
  exact ⟨s₂, o, h _ hs, r⟩
end New
end Jvm.RoadKit

namespace Jvm.RoadKit
open Sem ClassFile Op Lib Jvm.Stand Jvm.Free Jvm.LawKit
/-- an array of known length whose components are what g says -/
def own_Ag {α : Type} (mk : α → Value) (Z : State) (h : Heap) (a : Addr) (ty : FieldType) (n : Int32) (g : Nat → α) : Prop := ∃ c : Cell, Arr Z h a c ty ∧ c.slots.size = n.toNatClampNeg ∧ ¬ n < 0 ∧ ∀ i, i < c.slots.size → c.slots[i]? = some (mk (g i))
section Ag
variable {α : Type} {mk : α → Value} {Z : State} {h h' : Heap} {a b : Addr} {ty : FieldType} {n : Int32} {g : Nat → α} {sl : Nat} {v : Value} {ws : List Addr}
theorem own_Ag.lt (F : own_Ag mk Z h a ty n g) : a < h.size := by obtain ⟨c, A, -⟩ := F; exact A.lt
theorem own_Ag.ext (F : own_Ag mk Z h a ty n g) (E : Ext h h') : own_Ag mk Z h' a ty n g := by obtain ⟨c, A, r⟩ := F; exact ⟨c, A.ext E, r⟩
theorem own_Ag.other (F : own_Ag mk Z h b ty n g) (W : Wr h h' a sl v) (q : b ≠ a) : own_Ag mk Z h' b ty n g := by obtain ⟨c, A, r⟩ := F; exact ⟨c, A.other W q, r⟩
theorem own_Ag.keep (F : own_Ag mk Z h a ty n g) (K : Keep h h' ws) (q : a ∉ ws) : own_Ag mk Z h' a ty n g := by obtain ⟨c, A, r⟩ := F; exact ⟨c, ⟨K.2.1 a c A.1 q, A.2⟩, r⟩
theorem own_Ag.set {x : α} (F : own_Ag mk Z h a ty n g) (W : Wr h h' a sl (mk x)) : own_Ag mk Z h' a ty n (fun i => if i = sl then x else g i) := by
  obtain ⟨c, A, S, q, H⟩ := F
  obtain ⟨cw, w1, w2, w3, w4⟩ := id W
  have hc : cw = c := Option.some.inj (w1.symm.trans A.1)
  subst hc
  have hs : (cw.setSlot sl (mk x)).slots.size = cw.slots.size := by simp [Cell.setSlot]
  refine ⟨cw.setSlot sl (mk x), A.same W, hs.trans S, q, fun i hi => ?_⟩
  by_cases e : i = sl
  · subst e; simp [Cell.setSlot, w3]
  · simp only [if_neg e]
    rw [← H i (hs ▸ hi)]
    exact Array.getElem?_setIfInBounds_ne (Ne.symm e)
theorem own_Ag.setk {x : α} {j : Int32} (F : own_Ag mk Z h a ty n g) (W : Wr h h' a j.toNatClampNeg (mk x)) (k : Nat) (e : j.toNatClampNeg = k) : own_Ag mk Z h' a ty n (fun i => if i = k then x else g i) := by subst e; exact F.set W
theorem own_Ag.get (F : own_Ag mk Z h a ty n g) {j : Int32} (h1 : ¬ j < 0) (h2 : j < n) : ∃ cl : Cell, Arr Z h a cl ty ∧ ¬ (j < 0 ∨ cl.slots.size ≤ j.toNatClampNeg) ∧ cl.slots[j.toNatClampNeg]? = some (mk (g j.toNatClampNeg)) ∧ cl.slots.size = n.toNatClampNeg ∧ ¬ n < 0 := by
  obtain ⟨c, A, S, q, H⟩ := F
  have i := inb_of S ⟨h1, h2⟩
  exact ⟨c, A, i, H _ (Nat.lt_of_not_le fun y => i (Or.inr y)), S, q⟩
theorem own_Ag.len (F : own_Ag mk Z h a ty n g) : ∃ cl : Cell, Arr Z h a cl ty ∧ cl.slots.size = n.toNatClampNeg ∧ ¬ n < 0 := by
  obtain ⟨c, A, S, q, H⟩ := F
  exact ⟨c, A, S, q⟩
theorem own_Ag.new {k : ClassId} {d : α} (F : Arv Z h a k ty n [] (mk d)) : own_Ag mk Z h a ty n (fun _ => d) := by
  obtain ⟨c, A, -, S, q, H, -⟩ := F
  exact ⟨c, A, S, q, fun i hi => by simpa using H i hi⟩
theorem own_Ag.eqv {g' : Nat → α} (F : own_Ag mk Z h a ty n g) (e : ∀ i, i < n.toNatClampNeg → g' i = g i) : own_Ag mk Z h a ty n g' := by
  obtain ⟨c, A, S, q, H⟩ := F
  exact ⟨c, A, S, q, fun i hi => by rw [e i (S ▸ hi)]; exact H i hi⟩
theorem own_Ag.nestat (F : own_Ag mk Z h a ty n g) : ∀ cell : Cell, h[a]? = some cell → cell.vm.isStatics = false := by obtain ⟨c, A, -⟩ := F; exact A.nostat
end Ag
end Jvm.RoadKit

namespace Jvm.RoadKit
open Sem ClassFile Op Lib Jvm.Stand Jvm.Free Jvm.LawKit
/-- an Object[] of known length whose components are what g says; k its class -/
def own_Rg (Z : State) (h : Heap) (a : Addr) (k : ClassId) (n : Int32) (g : Nat → Value) : Prop := ∃ c : Cell, Arr Z h a c (.object "java/lang/Object") ∧ c.cls = k ∧ c.slots.size = n.toNatClampNeg ∧ ¬ n < 0 ∧ ∀ i, i < c.slots.size → c.slots[i]? = some (g i)
section Rg
variable {Z : State} {h h' : Heap} {a b : Addr} {k : ClassId} {n : Int32} {g : Nat → Value} {sl : Nat} {v : Value} {ws : List Addr}
theorem own_Rg.lt (F : own_Rg Z h a k n g) : a < h.size := by obtain ⟨c, A, -⟩ := F; exact A.lt
theorem own_Rg.ext (F : own_Rg Z h a k n g) (E : Ext h h') : own_Rg Z h' a k n g := by obtain ⟨c, A, r⟩ := F; exact ⟨c, A.ext E, r⟩
theorem own_Rg.other (F : own_Rg Z h b k n g) (W : Wr h h' a sl v) (q : b ≠ a) : own_Rg Z h' b k n g := by obtain ⟨c, A, r⟩ := F; exact ⟨c, A.other W q, r⟩
theorem own_Rg.keep (F : own_Rg Z h a k n g) (K : Keep h h' ws) (q : a ∉ ws) : own_Rg Z h' a k n g := by obtain ⟨c, A, r⟩ := F; exact ⟨c, ⟨K.2.1 a c A.1 q, A.2⟩, r⟩
theorem own_Rg.setk {j : Int32} (F : own_Rg Z h a k n g) (W : Wr h h' a j.toNatClampNeg v) (i : Nat) (e : j.toNatClampNeg = i) : own_Rg Z h' a k n (fun x => if x = i then v else g x) := by
  subst e
  obtain ⟨c, A, C, S, q, H⟩ := F
  obtain ⟨cw, w1, w2, w3, w4⟩ := id W
  have hc : cw = c := Option.some.inj (w1.symm.trans A.1)
  subst hc
  have hs : (cw.setSlot j.toNatClampNeg v).slots.size = cw.slots.size := by simp [Cell.setSlot]
  refine ⟨cw.setSlot j.toNatClampNeg v, A.same W, C, hs.trans S, q, fun i hi => ?_⟩
  by_cases e : i = j.toNatClampNeg
  · subst e; simp [Cell.setSlot, w3]
  · simp only [if_neg e]
    rw [← H i (hs ▸ hi)]
    exact Array.getElem?_setIfInBounds_ne (Ne.symm e)
theorem own_Rg.get (F : own_Rg Z h a k n g) {j : Int32} (h1 : ¬ j < 0) (h2 : j < n) : ∃ cl : Cell, Arr Z h a cl (.object "java/lang/Object") ∧ cl.cls = k ∧ ¬ (j < 0 ∨ cl.slots.size ≤ j.toNatClampNeg) ∧ cl.slots[j.toNatClampNeg]? = some (g j.toNatClampNeg) := by
  obtain ⟨c, A, C, S, q, H⟩ := F
  have i := inb_of S ⟨h1, h2⟩
  exact ⟨c, A, C, i, H _ (Nat.lt_of_not_le fun y => i (Or.inr y))⟩
theorem own_Rg.len (F : own_Rg Z h a k n g) : ∃ cl : Cell, Arr Z h a cl (.object "java/lang/Object") ∧ cl.slots.size = n.toNatClampNeg ∧ ¬ n < 0 := by
  obtain ⟨c, A, C, S, q, H⟩ := F
  exact ⟨c, A, S, q⟩
theorem own_Rg.new (F : Arv Z h a k (.object "java/lang/Object") n [] .null) : own_Rg Z h a k n (fun _ => .null) := by
  obtain ⟨c, A, C, S, q, H, -⟩ := F
  exact ⟨c, A, C, S, q, fun i hi => by simpa using H i hi⟩
theorem own_staKeep {C f d : String} (F : Sta Z h C f d v) (K : Keep h h' ws) (hn : ∀ x ∈ ws, ∀ cell : Cell, h[x]? = some cell → cell.vm.isStatics = false) : Sta Z h' C f d v := by
  obtain ⟨cf, i, k, fl, st, cell, h1, h2, h3, h4, h5, h6, h7⟩ := F
  exact ⟨cf, i, k, fl, st, cell, h1, h2, h3, h4, K.2.1 st cell h5 (fun q => by rw [hn st q cell h5] at h6; cases h6), h6, h7⟩
end Rg
end Jvm.RoadKit

namespace Jvm.Pilot.@@N@@
open Jvm Jvm.ClassFile Sem Op Lib Jvm.Free Jvm.Stand Jvm.LawKit Jvm.RoadKit Bundle Jvm.Pilot.@@N@@.Jvm.D
theorem own_at {Z : State} {a0 : Array Value} {d : Jvm.Cond} (hw : ∀ d ∈ tables_1, d.before a0 Z = true) (i : Nat) (h : tables_1[i]? = some d) : d.before a0 Z = true := hw _ (List.mem_of_getElem? h)
theorem own_z0 : (0 : Int32).toInt = 0 := by decide
theorem own_nneg {x : Int32} (h : 0 ≤ x.toInt) : ¬ x < 0 := by rw [Int32.lt_iff_toInt_lt]; have := own_z0; omega
theorem own_lt {x y : Int32} (h : x.toInt < y.toInt) : x < y := Int32.lt_iff_toInt_lt.mpr h
theorem own_nat {x : Int32} (h : 0 ≤ x.toInt) : (x.toNatClampNeg : Int) = x.toInt := (nat_of (own_nneg h)).symm
theorem own_ix (x : Int32) : 0 ≤ (x &&& ((2048 : Int32) - (1 : Int32))).toInt ∧ (x &&& ((2048 : Int32) - (1 : Int32))).toInt < 2048 := by
  have h := c_mask x ((2048 : Int32) - (1 : Int32)) 11 (by decide) (by decide)
  omega
theorem own_next {ix : Int32} {b j : Nat} (h0 : 0 ≤ ix.toInt) (h1 : ix.toInt < 2048) (hc : ix.toNatClampNeg = (b + j) % 2048) : ((ix + (1 : Int32)) &&& ((2048 : Int32) - (1 : Int32))).toNatClampNeg = (b + (j + 1)) % 2048 := by
  have h := c_mask (ix + (1 : Int32)) ((2048 : Int32) - (1 : Int32)) 11 (by decide) (by decide)
  have a := c_iadd ix 1
  have r := rng32 (ix + 1)
  have k : (1 : Int32).toInt = 1 := by decide
  have n1 := own_nat h0
  have n2 := own_nat (own_ix (ix + (1 : Int32))).1
  omega
theorem own_mul3 {x : Int32} (h0 : 0 ≤ x.toInt) (h1 : x.toInt ≤ 8) : ((3 : Int32) * x).toInt = 3 * x.toInt := by
  have a := c_imul 3 x
  have r := rng32 ((3 : Int32) * x)
  have k : (3 : Int32).toInt = 3 := by decide
  rw [k] at a
  omega
theorem own_addk {x k : Int32} {n : Int} (hk : k.toInt = n) (h0 : 0 ≤ x.toInt) (h1 : x.toInt ≤ 3000) (hn : 0 ≤ n ∧ n ≤ 10) : (x + k).toInt = x.toInt + n := by
  have a := c_iadd x k
  have r := rng32 (x + k)
  omega
theorem own_i3 {x : Int32} (h0 : 0 ≤ x.toInt) (h1 : x.toInt ≤ 8) : ¬ ((3 : Int32) * x) < 0 ∧ ((3 : Int32) * x) < (3072 : Int32) ∧ ((3 : Int32) * x).toNatClampNeg = 3 * x.toNatClampNeg ∧ ¬ (((3 : Int32) * x) + (1 : Int32)) < 0 ∧ (((3 : Int32) * x) + (1 : Int32)) < (3072 : Int32) ∧ (((3 : Int32) * x) + (1 : Int32)).toNatClampNeg = 3 * x.toNatClampNeg + 1 ∧ ¬ (((3 : Int32) * x) + (2 : Int32)) < 0 ∧ (((3 : Int32) * x) + (2 : Int32)) < (3072 : Int32) ∧ (((3 : Int32) * x) + (2 : Int32)).toNatClampNeg = 3 * x.toNatClampNeg + 2 := by
  have a := own_mul3 h0 h1
  have b := own_addk (x := (3 : Int32) * x) (k := 1) (n := 1) (by decide) (by omega) (by omega) (by omega)
  have c := own_addk (x := (3 : Int32) * x) (k := 2) (n := 2) (by decide) (by omega) (by omega) (by omega)
  have k : (3072 : Int32).toInt = 3072 := by decide
  have m0 := own_nat h0
  have m1 := own_nat (x := (3 : Int32) * x) (by omega)
  have m2 := own_nat (x := (3 : Int32) * x + 1) (by omega)
  have m3 := own_nat (x := (3 : Int32) * x + 2) (by omega)
  exact ⟨own_nneg (by omega), own_lt (by omega), by omega, own_nneg (by omega), own_lt (by omega), by omega, own_nneg (by omega), own_lt (by omega), by omega⟩
theorem d4_0 : decode prog_47_method_37_code 0 = .ok (.aload_n 0, 1) := by decide +kernel
theorem d4_1 : decode prog_47_method_37_code 1 = .ok (.getfield 9, 3) := by decide +kernel
theorem d4_4 : decode prog_47_method_37_code 4 = .ok (.arraylength, 1) := by decide +kernel
theorem d4_5 : decode prog_47_method_37_code 5 = .ok (.iconst 3, 1) := by decide +kernel
theorem d4_6 : decode prog_47_method_37_code 6 = .ok (.idiv, 1) := by decide +kernel
theorem d4_7 : decode prog_47_method_37_code 7 = .ok (.ireturn, 1) := by decide +kernel
theorem pn_rm4 : plainName "com/example/liaise/liaise/NodeTable" = true := by first | (simp [plainName, overriddenIn]; done) | decide +kernel
theorem ef_rm4 (m : MethodId) (x0 : Addr) : entryFrame m #[(.ref x0)] 1 = mkF m 0 #[.val (.ref x0)] [] := by first | (simp [entryFrame, mkF, argsToLocals, Value.category]; done) | rfl
def Q4 (Z : State) (a1 : Addr) (N : Addr) (gN : Nat → Int32) (h0 : Heap) (n0 : Nat) (v : Option Value) (h : Heap) (L : List Loc) : Prop := v = some (.int (1024 : Int32)) ∧ Fr n0 L ∧ h = h0
set_option maxRecDepth 65536 in
set_option maxHeartbeats 40000000 in
theorem rm4 (l : Launch) (Z : State) (a0 : Array Value) (hw : ∀ d ∈ tables_1, d.before a0 Z = true) (ws : List Jvm.Cond) (a1 : Addr) (N : Addr) (gN : Nat → Int32) (h0 : Heap) (n0 : Nat) (Z0 : n0 ≤ h0.size) (F : Fld Z h0 a1 "com/example/liaise/liaise/NodeTable" "nodes" "[I" (.ref N)) (A : own_Ag Value.int Z h0 N .int (3072 : Int32) gN) :
    MetFree l (⟨"com/example/liaise/liaise/NodeTable", "capacity", "()I"⟩ : MethodName) (head1 (Jvm.Cond.code (⟨"com/example/liaise/liaise/NodeTable", "capacity", "()I"⟩ : MethodName) prog_47_method_37_code 1 (some .int) :: ws) ({ frames := 0, cells := 0, slots := 0, locals := 0 } : Room)) (fun a U => a = #[(.ref a1)] ∧ Z.Warmed39 U.vm ∧ U.heap = h0) (fun _ _ _ _ _ => True) (fun _ U o U' => ∃ v L, o = .returned v ∧ Q4 Z a1 N gN h0 n0 v U'.heap L ∧ FrameEnd U o U' L ({ frames := 0, cells := 0, slots := 0, locals := 0 } : Room).cells ({ frames := 0, cells := 0, slots := 0, locals := 0 } : Room).slots) := by
  refine MetFree.of_bodySF (plainFor_of_name pn_rm4) hisR ?_
  intro p e s m args below meth c s₁ Bd hml0 hP hK
  obtain ⟨rfl, hZ, hh⟩ := hP
  have hx := Bd.exec
  have hby := Bd.bytes
  have hml : c.maxLocals = 1 := hml0
  have hown : s.vm.findClass "com/example/liaise/liaise/NodeTable" = some m.cls := findClass_of_methodNamed Bd.named
  have hnm := (name_of_methodNamed Bd.named Bd.method).1
  have X0 : Stand p l e ({ frames := 0, cells := 0, slots := 0, locals := 0 } : Room) s m #[(.ref a1)] below meth c s₁ [] 0 0 := Stand.of_body Bd
  have e0 : s₁.heap = h0 := by rw [← hh, Bd.state]; rfl
  have N0 := Fr.nil n0
  have pre0 : ∀ t, Steps p.tables e below (s₁.setTop (mkF m 0 #[.val (.ref a1)] [])) t → Steps p.tables e below (s₁.setTop (entryFrame m #[(.ref a1)] 1)) t := fun t k => castTop (ef_rm4 m a1) k
  show own_Fin p e below _ _
  refine own_go pre0 ?_
  refine own_go (B := s₁.setTop (mkF m 1 #[.val (.ref a1)] [(.ref a1)])) (fun t k => ?_) ?_
  · show Steps p.tables e below (s₁.setTop (mkF m 0 #[.val (.ref a1)] [])) t
    refine XS.aloadN X0.here hx rfl (hb hby d4_0) rfl rfl ?_
    exact k
  obtain ⟨T1, X1, e1, st1⟩ := getF X0 hx hZ hown (host := "") (Or.inl (own_at hw 10 rfl)) Via.refl e0 F (g := (mkF m 1 #[.val (.ref a1)] [(.ref a1)])) rfl rfl (hb hby d4_1)
  refine own_go (fun t k => st1 t k) ?_
  obtain ⟨cl2, Ar2, S2, q2⟩ := A.len
  refine own_go (X1.arraylength hx (by rw [e1]; exact Ar2.1) (State.isArrayOf_alike hZ.alike Ar2.2.1) (g := (mkF m 4 #[.val (.ref a1)] [(.ref N)])) rfl rfl (hb hby d4_4)) ?_
  rw [len_of S2 q2]
  refine own_go (B := T1.setTop (mkF m 7 #[.val (.ref a1)] [(.int ((3072 : Int32) / (3 : Int32)))])) (fun t k => ?_) ?_
  · show Steps p.tables e below (T1.setTop (mkF m 5 #[.val (.ref a1)] [(.int 3072)])) t
    refine XS.iconst X1.here hx rfl (hb hby d4_5) ?_
    show Steps p.tables e below (T1.setTop (mkF m 6 #[.val (.ref a1)] [(.int 3), (.int 3072)])) t
    refine XS.idiv X1.here hx rfl (hb hby d4_6) rfl (by decide) ?_
    exact k
  obtain ⟨fs, hr, hrun, hended, hW, hsame⟩ := X1.leave (v := some (.int ((3072 : Int32) / (3 : Int32)))) (fun h => by rw [Bd.returns] at h; cases h)
  refine ⟨_, _, ?_, hrun, hended, _, _, rfl, ?_, ⟨_, rfl⟩, hW, hsame.mono (by decide) (by decide)⟩
  · show Steps p.tables e below (T1.setTop (mkF m 7 #[.val (.ref a1)] [(.int ((3072 : Int32) / (3 : Int32)))])) _
    exact retI X1 hx Bd.returns (hb hby d4_7) hr
  · show Q4 Z a1 N gN h0 n0 _ T1.heap _
    rw [e1]
    exact ⟨congrArg (fun z => some (Value.int z)) (by decide), N0, rfl⟩
theorem d8_0 : decode prog_47_method_46_code 0 = .ok (.iload_n 0, 1) := by decide +kernel
theorem d8_1 : decode prog_47_method_46_code 1 = .ok (.ldc 243, 2) := by decide +kernel
theorem d8_3 : decode prog_47_method_46_code 3 = .ok (.imul, 1) := by decide +kernel
theorem d8_4 : decode prog_47_method_46_code 4 = .ok (.iload_n 1, 1) := by decide +kernel
theorem d8_5 : decode prog_47_method_46_code 5 = .ok (.ldc 244, 2) := by decide +kernel
theorem d8_7 : decode prog_47_method_46_code 7 = .ok (.imul, 1) := by decide +kernel
theorem d8_8 : decode prog_47_method_46_code 8 = .ok (.iadd, 1) := by decide +kernel
theorem d8_9 : decode prog_47_method_46_code 9 = .ok (.iload_n 2, 1) := by decide +kernel
theorem d8_10 : decode prog_47_method_46_code 10 = .ok (.ldc 245, 2) := by decide +kernel
theorem d8_12 : decode prog_47_method_46_code 12 = .ok (.imul, 1) := by decide +kernel
theorem d8_13 : decode prog_47_method_46_code 13 = .ok (.iadd, 1) := by decide +kernel
theorem d8_14 : decode prog_47_method_46_code 14 = .ok (.istore_n 3, 1) := by decide +kernel
theorem d8_15 : decode prog_47_method_46_code 15 = .ok (.iload_n 3, 1) := by decide +kernel
theorem d8_16 : decode prog_47_method_46_code 16 = .ok (.iload_n 3, 1) := by decide +kernel
theorem d8_17 : decode prog_47_method_46_code 17 = .ok (.bipush 15, 2) := by decide +kernel
theorem d8_19 : decode prog_47_method_46_code 19 = .ok (.iushr, 1) := by decide +kernel
theorem d8_20 : decode prog_47_method_46_code 20 = .ok (.ixor, 1) := by decide +kernel
theorem d8_21 : decode prog_47_method_46_code 21 = .ok (.ireturn, 1) := by decide +kernel
theorem pn_rm8 : plainName "com/example/liaise/liaise/NodeTable" = true := by first | (simp [plainName, overriddenIn]; done) | decide +kernel
theorem ef_rm8 (m : MethodId) (x0 : Int32) (x1 : Int32) (x2 : Int32) : entryFrame m #[(.int x0), (.int x1), (.int x2)] 4 = mkF m 0 #[.val (.int x0), .val (.int x1), .val (.int x2), .unset] [] := by first | (simp [entryFrame, mkF, argsToLocals, Value.category]; done) | rfl
def Q8 (Z : State) (p1 : Int32) (p2 : Int32) (p3 : Int32) (h0 : Heap) (n0 : Nat) (v : Option Value) (h : Heap) (L : List Loc) : Prop := ∃ r : Int32, v = some (.int r) ∧ Fr n0 L ∧ h = h0
set_option maxRecDepth 65536 in
set_option maxHeartbeats 40000000 in
theorem rm8 (l : Launch) (Z : State) (a0 : Array Value) (hw : ∀ d ∈ tables_1, d.before a0 Z = true) (ws : List Jvm.Cond) (p1 : Int32) (p2 : Int32) (p3 : Int32) (h0 : Heap) (n0 : Nat) (Z0 : n0 ≤ h0.size) :
    MetFree l (⟨"com/example/liaise/liaise/NodeTable", "hash", "(III)I"⟩ : MethodName) (head1 (Jvm.Cond.code (⟨"com/example/liaise/liaise/NodeTable", "hash", "(III)I"⟩ : MethodName) prog_47_method_46_code 4 (some .int) :: ws) ({ frames := 0, cells := 0, slots := 0, locals := 0 } : Room)) (fun a U => a = #[(.int p1), (.int p2), (.int p3)] ∧ Z.Warmed39 U.vm ∧ U.heap = h0) (fun _ _ _ _ _ => True) (fun _ U o U' => ∃ v L, o = .returned v ∧ Q8 Z p1 p2 p3 h0 n0 v U'.heap L ∧ FrameEnd U o U' L ({ frames := 0, cells := 0, slots := 0, locals := 0 } : Room).cells ({ frames := 0, cells := 0, slots := 0, locals := 0 } : Room).slots) := by
  refine MetFree.of_bodySF (plainFor_of_name pn_rm8) hisR ?_
  intro p e s m args below meth c s₁ Bd hml0 hP hK
  obtain ⟨rfl, hZ, hh⟩ := hP
  have hx := Bd.exec
  have hby := Bd.bytes
  have hml : c.maxLocals = 4 := hml0
  have hown : s.vm.findClass "com/example/liaise/liaise/NodeTable" = some m.cls := findClass_of_methodNamed Bd.named
  have hnm := (name_of_methodNamed Bd.named Bd.method).1
  have X0 : Stand p l e ({ frames := 0, cells := 0, slots := 0, locals := 0 } : Room) s m #[(.int p1), (.int p2), (.int p3)] below meth c s₁ [] 0 0 := Stand.of_body Bd
  have e0 : s₁.heap = h0 := by rw [← hh, Bd.state]; rfl
  have N0 := Fr.nil n0
  have pre0 : ∀ t, Steps p.tables e below (s₁.setTop (mkF m 0 #[.val (.int p1), .val (.int p2), .val (.int p3), .unset] [])) t → Steps p.tables e below (s₁.setTop (entryFrame m #[(.int p1), (.int p2), (.int p3)] 4)) t := fun t k => castTop (ef_rm8 m p1 p2 p3) k
  show own_Fin p e below _ _
  refine own_go pre0 ?_
  refine own_go (B := s₁.setTop (mkF m 21 #[.val (.int p1), .val (.int p2), .val (.int p3), .val (.int (((p1 * (-1640531535)) + (p2 * (-2048144789))) + (p3 * (-1028477387))))] [(.int ((((p1 * (-1640531535 : Int32)) + (p2 * (-2048144789 : Int32))) + (p3 * (-1028477387 : Int32))) ^^^ (((((p1 * (-1640531535 : Int32)) + (p2 * (-2048144789 : Int32))) + (p3 * (-1028477387 : Int32))).toUInt32 >>> ((15 : Int32) &&& 31).toUInt32).toInt32)))])) (fun t k => ?_) ?_
  · show Steps p.tables e below (s₁.setTop (mkF m 0 #[.val (.int p1), .val (.int p2), .val (.int p3), .unset] [])) t
    refine XS.iloadN X0.here hx rfl (hb hby d8_0) rfl ?_
    show Steps p.tables e below (s₁.setTop (mkF m 1 #[.val (.int p1), .val (.int p2), .val (.int p3), .unset] [(.int p1)])) t
    refine X0.ldcInt hx hown (mvT hZ (own_at hw 46 rfl)) (g := (mkF m 1 #[.val (.int p1), .val (.int p2), .val (.int p3), .unset] [(.int p1)])) rfl (hb hby d8_1) _ ?_
    show Steps p.tables e below (s₁.setTop (mkF m 3 #[.val (.int p1), .val (.int p2), .val (.int p3), .unset] [(.int (-1640531535)), (.int p1)])) t
    refine XS.imul X0.here hx rfl (hb hby d8_3) rfl ?_
    show Steps p.tables e below (s₁.setTop (mkF m 4 #[.val (.int p1), .val (.int p2), .val (.int p3), .unset] [(.int (p1 * (-1640531535)))])) t
    refine XS.iloadN X0.here hx rfl (hb hby d8_4) rfl ?_
    show Steps p.tables e below (s₁.setTop (mkF m 5 #[.val (.int p1), .val (.int p2), .val (.int p3), .unset] [(.int p2), (.int (p1 * (-1640531535)))])) t
    refine X0.ldcInt hx hown (mvT hZ (own_at hw 47 rfl)) (g := (mkF m 5 #[.val (.int p1), .val (.int p2), .val (.int p3), .unset] [(.int p2), (.int (p1 * (-1640531535)))])) rfl (hb hby d8_5) _ ?_
    show Steps p.tables e below (s₁.setTop (mkF m 7 #[.val (.int p1), .val (.int p2), .val (.int p3), .unset] [(.int (-2048144789)), (.int p2), (.int (p1 * (-1640531535)))])) t
    refine XS.imul X0.here hx rfl (hb hby d8_7) rfl ?_
    show Steps p.tables e below (s₁.setTop (mkF m 8 #[.val (.int p1), .val (.int p2), .val (.int p3), .unset] [(.int (p2 * (-2048144789))), (.int (p1 * (-1640531535)))])) t
    refine XS.iadd X0.here hx rfl (hb hby d8_8) rfl ?_
    show Steps p.tables e below (s₁.setTop (mkF m 9 #[.val (.int p1), .val (.int p2), .val (.int p3), .unset] [(.int ((p1 * (-1640531535)) + (p2 * (-2048144789))))])) t
    refine XS.iloadN X0.here hx rfl (hb hby d8_9) rfl ?_
    show Steps p.tables e below (s₁.setTop (mkF m 10 #[.val (.int p1), .val (.int p2), .val (.int p3), .unset] [(.int p3), (.int ((p1 * (-1640531535)) + (p2 * (-2048144789))))])) t
    refine X0.ldcInt hx hown (mvT hZ (own_at hw 48 rfl)) (g := (mkF m 10 #[.val (.int p1), .val (.int p2), .val (.int p3), .unset] [(.int p3), (.int ((p1 * (-1640531535)) + (p2 * (-2048144789))))])) rfl (hb hby d8_10) _ ?_
    show Steps p.tables e below (s₁.setTop (mkF m 12 #[.val (.int p1), .val (.int p2), .val (.int p3), .unset] [(.int (-1028477387)), (.int p3), (.int ((p1 * (-1640531535)) + (p2 * (-2048144789))))])) t
    refine XS.imul X0.here hx rfl (hb hby d8_12) rfl ?_
    show Steps p.tables e below (s₁.setTop (mkF m 13 #[.val (.int p1), .val (.int p2), .val (.int p3), .unset] [(.int (p3 * (-1028477387))), (.int ((p1 * (-1640531535)) + (p2 * (-2048144789))))])) t
    refine XS.iadd X0.here hx rfl (hb hby d8_13) rfl ?_
    show Steps p.tables e below (s₁.setTop (mkF m 14 #[.val (.int p1), .val (.int p2), .val (.int p3), .unset] [(.int (((p1 * (-1640531535)) + (p2 * (-2048144789))) + (p3 * (-1028477387))))])) t
    refine XS.istoreN X0.here hx rfl (hb hby d8_14) rfl (l' := #[.val (.int p1), .val (.int p2), .val (.int p3), .val (.int (((p1 * (-1640531535)) + (p2 * (-2048144789))) + (p3 * (-1028477387))))]) rfl ?_
    show Steps p.tables e below (s₁.setTop (mkF m 15 #[.val (.int p1), .val (.int p2), .val (.int p3), .val (.int (((p1 * (-1640531535)) + (p2 * (-2048144789))) + (p3 * (-1028477387))))] [])) t
    refine XS.iloadN X0.here hx rfl (hb hby d8_15) rfl ?_
    show Steps p.tables e below (s₁.setTop (mkF m 16 #[.val (.int p1), .val (.int p2), .val (.int p3), .val (.int (((p1 * (-1640531535)) + (p2 * (-2048144789))) + (p3 * (-1028477387))))] [(.int (((p1 * (-1640531535)) + (p2 * (-2048144789))) + (p3 * (-1028477387))))])) t
    refine XS.iloadN X0.here hx rfl (hb hby d8_16) rfl ?_
    show Steps p.tables e below (s₁.setTop (mkF m 17 #[.val (.int p1), .val (.int p2), .val (.int p3), .val (.int (((p1 * (-1640531535)) + (p2 * (-2048144789))) + (p3 * (-1028477387))))] [(.int (((p1 * (-1640531535)) + (p2 * (-2048144789))) + (p3 * (-1028477387)))), (.int (((p1 * (-1640531535)) + (p2 * (-2048144789))) + (p3 * (-1028477387))))])) t
    refine XS.bipush X0.here hx rfl (hb hby d8_17) ?_
    show Steps p.tables e below (s₁.setTop (mkF m 19 #[.val (.int p1), .val (.int p2), .val (.int p3), .val (.int (((p1 * (-1640531535)) + (p2 * (-2048144789))) + (p3 * (-1028477387))))] [(.int 15), (.int (((p1 * (-1640531535)) + (p2 * (-2048144789))) + (p3 * (-1028477387)))), (.int (((p1 * (-1640531535)) + (p2 * (-2048144789))) + (p3 * (-1028477387))))])) t
    refine XS.iushr X0.here hx rfl (hb hby d8_19) rfl ?_
    show Steps p.tables e below (s₁.setTop (mkF m 20 #[.val (.int p1), .val (.int p2), .val (.int p3), .val (.int (((p1 * (-1640531535)) + (p2 * (-2048144789))) + (p3 * (-1028477387))))] [(.int (((((p1 * (-1640531535 : Int32)) + (p2 * (-2048144789 : Int32))) + (p3 * (-1028477387 : Int32))).toUInt32 >>> ((15 : Int32) &&& 31).toUInt32).toInt32)), (.int (((p1 * (-1640531535)) + (p2 * (-2048144789))) + (p3 * (-1028477387))))])) t
    refine XS.ixor X0.here hx rfl (hb hby d8_20) rfl ?_
    exact k
  obtain ⟨fs, hr, hrun, hended, hW, hsame⟩ := X0.leave (v := some (.int ((((p1 * (-1640531535 : Int32)) + (p2 * (-2048144789 : Int32))) + (p3 * (-1028477387 : Int32))) ^^^ (((((p1 * (-1640531535 : Int32)) + (p2 * (-2048144789 : Int32))) + (p3 * (-1028477387 : Int32))).toUInt32 >>> ((15 : Int32) &&& 31).toUInt32).toInt32)))) (fun h => by rw [Bd.returns] at h; cases h)
  refine ⟨_, _, ?_, hrun, hended, _, _, rfl, ?_, ⟨_, rfl⟩, hW, hsame.mono (by decide) (by decide)⟩
  · show Steps p.tables e below (s₁.setTop (mkF m 21 #[.val (.int p1), .val (.int p2), .val (.int p3), .val (.int (((p1 * (-1640531535)) + (p2 * (-2048144789))) + (p3 * (-1028477387))))] [(.int ((((p1 * (-1640531535 : Int32)) + (p2 * (-2048144789 : Int32))) + (p3 * (-1028477387 : Int32))) ^^^ (((((p1 * (-1640531535 : Int32)) + (p2 * (-2048144789 : Int32))) + (p3 * (-1028477387 : Int32))).toUInt32 >>> ((15 : Int32) &&& 31).toUInt32).toInt32)))])) _
    exact retI X0 hx Bd.returns (hb hby d8_21) hr
  · show Q8 Z p1 p2 p3 h0 n0 _ s₁.heap _
    rw [e0]
    exact ⟨_, rfl, N0, rfl⟩
theorem d9_0 : decode prog_47_method_40_code 0 = .ok (.iconst 3, 1) := by decide +kernel
theorem d9_1 : decode prog_47_method_40_code 1 = .ok (.iload_n 1, 1) := by decide +kernel
theorem d9_2 : decode prog_47_method_40_code 2 = .ok (.imul, 1) := by decide +kernel
theorem d9_3 : decode prog_47_method_40_code 3 = .ok (.istore 5, 2) := by decide +kernel
theorem d9_5 : decode prog_47_method_40_code 5 = .ok (.aload_n 0, 1) := by decide +kernel
theorem d9_6 : decode prog_47_method_40_code 6 = .ok (.getfield 9, 3) := by decide +kernel
theorem d9_9 : decode prog_47_method_40_code 9 = .ok (.iload 5, 2) := by decide +kernel
theorem d9_11 : decode prog_47_method_40_code 11 = .ok (.iload_n 2, 1) := by decide +kernel
theorem d9_12 : decode prog_47_method_40_code 12 = .ok (.iastore, 1) := by decide +kernel
theorem d9_13 : decode prog_47_method_40_code 13 = .ok (.aload_n 0, 1) := by decide +kernel
theorem d9_14 : decode prog_47_method_40_code 14 = .ok (.getfield 9, 3) := by decide +kernel
theorem d9_17 : decode prog_47_method_40_code 17 = .ok (.iload 5, 2) := by decide +kernel
theorem d9_19 : decode prog_47_method_40_code 19 = .ok (.iconst 1, 1) := by decide +kernel
theorem d9_20 : decode prog_47_method_40_code 20 = .ok (.iadd, 1) := by decide +kernel
theorem d9_21 : decode prog_47_method_40_code 21 = .ok (.iload_n 3, 1) := by decide +kernel
theorem d9_22 : decode prog_47_method_40_code 22 = .ok (.iastore, 1) := by decide +kernel
theorem d9_23 : decode prog_47_method_40_code 23 = .ok (.aload_n 0, 1) := by decide +kernel
theorem d9_24 : decode prog_47_method_40_code 24 = .ok (.getfield 9, 3) := by decide +kernel
theorem d9_27 : decode prog_47_method_40_code 27 = .ok (.iload 5, 2) := by decide +kernel
theorem d9_29 : decode prog_47_method_40_code 29 = .ok (.iconst 2, 1) := by decide +kernel
theorem d9_30 : decode prog_47_method_40_code 30 = .ok (.iadd, 1) := by decide +kernel
theorem d9_31 : decode prog_47_method_40_code 31 = .ok (.iload 4, 2) := by decide +kernel
theorem d9_33 : decode prog_47_method_40_code 33 = .ok (.iastore, 1) := by decide +kernel
theorem d9_34 : decode prog_47_method_40_code 34 = .ok (.return_, 1) := by decide +kernel
theorem pn_rm9 : plainName "com/example/liaise/liaise/NodeTable" = true := by first | (simp [plainName, overriddenIn]; done) | decide +kernel
theorem ef_rm9 (m : MethodId) (x0 : Addr) (x1 : Int32) (x2 : Int32) (x3 : Int32) (x4 : Int32) : entryFrame m #[(.ref x0), (.int x1), (.int x2), (.int x3), (.int x4)] 6 = mkF m 0 #[.val (.ref x0), .val (.int x1), .val (.int x2), .val (.int x3), .val (.int x4), .unset] [] := by first | (simp [entryFrame, mkF, argsToLocals, Value.category]; done) | rfl
def Q9 (Z : State) (a1 : Addr) (p2 : Int32) (p3 : Int32) (p4 : Int32) (p5 : Int32) (N : Addr) (gN : Nat → Int32) (h0 : Heap) (n0 : Nat) (v : Option Value) (h : Heap) (L : List Loc) : Prop := v = none ∧ Fr n0 L ∧ Keep h0 h [N] ∧ ∃ gN' : Nat → Int32, own_Ag Value.int Z h N .int (3072 : Int32) gN' ∧ gN' (3 * p2.toNatClampNeg) = p3 ∧ gN' (3 * p2.toNatClampNeg + 1) = p4 ∧ ∀ j, (j < 3 * p2.toNatClampNeg ∨ 3 * p2.toNatClampNeg + 3 ≤ j) → gN' j = gN j
set_option maxRecDepth 65536 in
set_option maxHeartbeats 40000000 in
theorem rm9 (l : Launch) (Z : State) (a0 : Array Value) (hw : ∀ d ∈ tables_1, d.before a0 Z = true) (ws : List Jvm.Cond) (a1 : Addr) (p2 : Int32) (p3 : Int32) (p4 : Int32) (p5 : Int32) (N : Addr) (gN : Nat → Int32) (h0 : Heap) (n0 : Nat) (Z0 : n0 ≤ h0.size) (F : Fld Z h0 a1 "com/example/liaise/liaise/NodeTable" "nodes" "[I" (.ref N)) (A : own_Ag Value.int Z h0 N .int (3072 : Int32) gN) (g_N : n0 ≤ N) (ne1 : a1 ≠ N) (c0 : 0 ≤ p2.toInt) (c8 : p2.toInt ≤ 8) :
    MetFree l (⟨"com/example/liaise/liaise/NodeTable", "place", "(IIII)V"⟩ : MethodName) (head1 (Jvm.Cond.code (⟨"com/example/liaise/liaise/NodeTable", "place", "(IIII)V"⟩ : MethodName) prog_47_method_40_code 6 none :: ws) ({ frames := 0, cells := 0, slots := 0, locals := 0 } : Room)) (fun a U => a = #[(.ref a1), (.int p2), (.int p3), (.int p4), (.int p5)] ∧ Z.Warmed39 U.vm ∧ U.heap = h0) (fun _ _ _ _ _ => True) (fun _ U o U' => ∃ v L, o = .returned v ∧ Q9 Z a1 p2 p3 p4 p5 N gN h0 n0 v U'.heap L ∧ FrameEnd U o U' L ({ frames := 0, cells := 0, slots := 0, locals := 0 } : Room).cells ({ frames := 0, cells := 0, slots := 0, locals := 0 } : Room).slots) := by
  refine MetFree.of_bodySF (plainFor_of_name pn_rm9) hisR ?_
  intro p e s m args below meth c s₁ Bd hml0 hP hK
  obtain ⟨rfl, hZ, hh⟩ := hP
  have hx := Bd.exec
  have hby := Bd.bytes
  have hml : c.maxLocals = 6 := hml0
  have hown : s.vm.findClass "com/example/liaise/liaise/NodeTable" = some m.cls := findClass_of_methodNamed Bd.named
  have hnm := (name_of_methodNamed Bd.named Bd.method).1
  have X0 : Stand p l e ({ frames := 0, cells := 0, slots := 0, locals := 0 } : Room) s m #[(.ref a1), (.int p2), (.int p3), (.int p4), (.int p5)] below meth c s₁ [] 0 0 := Stand.of_body Bd
  have e0 : s₁.heap = h0 := by rw [← hh, Bd.state]; rfl
  have N0 := Fr.nil n0
  have pre0 : ∀ t, Steps p.tables e below (s₁.setTop (mkF m 0 #[.val (.ref a1), .val (.int p2), .val (.int p3), .val (.int p4), .val (.int p5), .unset] [])) t → Steps p.tables e below (s₁.setTop (entryFrame m #[(.ref a1), (.int p2), (.int p3), (.int p4), (.int p5)] 6)) t := fun t k => castTop (ef_rm9 m a1 p2 p3 p4 p5) k
  show own_Fin p e below _ _
  refine own_go pre0 ?_
  refine own_go (B := s₁.setTop (mkF m 6 #[.val (.ref a1), .val (.int p2), .val (.int p3), .val (.int p4), .val (.int p5), .val (.int (3 * p2))] [(.ref a1)])) (fun t k => ?_) ?_
  · show Steps p.tables e below (s₁.setTop (mkF m 0 #[.val (.ref a1), .val (.int p2), .val (.int p3), .val (.int p4), .val (.int p5), .unset] [])) t
    refine XS.iconst X0.here hx rfl (hb hby d9_0) ?_
    refine XS.iloadN X0.here hx rfl (hb hby d9_1) rfl ?_
    refine XS.imul X0.here hx rfl (hb hby d9_2) rfl ?_
    show Steps p.tables e below (s₁.setTop (mkF m 3 #[.val (.ref a1), .val (.int p2), .val (.int p3), .val (.int p4), .val (.int p5), .unset] [(.int (3 * p2))])) t
    refine XS.istore X0.here hx rfl (hb hby d9_3) rfl (l' := #[.val (.ref a1), .val (.int p2), .val (.int p3), .val (.int p4), .val (.int p5), .val (.int (3 * p2))]) rfl ?_
    refine XS.aloadN X0.here hx rfl (hb hby d9_5) rfl rfl ?_
    exact k
  obtain ⟨T1, X1, e1, st1⟩ := getF X0 hx hZ hown (host := "") (Or.inl (own_at hw 10 rfl)) Via.refl e0 F (g := (mkF m 6 #[.val (.ref a1), .val (.int p2), .val (.int p3), .val (.int p4), .val (.int p5), .val (.int (3 * p2))] [(.ref a1)])) rfl rfl (hb hby d9_6)
  refine own_go (fun t k => st1 t k) ?_
  refine own_go (B := T1.setTop (mkF m 12 #[.val (.ref a1), .val (.int p2), .val (.int p3), .val (.int p4), .val (.int p5), .val (.int (3 * p2))] [(.int p3), (.int (3 * p2)), (.ref N)])) (fun t k => ?_) ?_
  · show Steps p.tables e below (T1.setTop (mkF m 9 #[.val (.ref a1), .val (.int p2), .val (.int p3), .val (.int p4), .val (.int p5), .val (.int (3 * p2))] [(.ref N)])) t
    refine XS.iload X1.here hx rfl (hb hby d9_9) rfl ?_
    refine XS.iloadN X1.here hx rfl (hb hby d9_11) rfl ?_
    exact k
  obtain ⟨cl2, Ar2, hin2, -, -, -⟩ := A.get (j := ((3 : Int32) * p2)) (own_i3 c0 c8).1 (own_i3 c0 c8).2.1
  obtain ⟨T2, h2, X2, e2, W2, st2⟩ := stI X1 hx hZ e1 Ar2 (j := ((3 : Int32) * p2)) hin2 (g := (mkF m 12 #[.val (.ref a1), .val (.int p2), .val (.int p3), .val (.int p4), .val (.int p5), .val (.int (3 * p2))] [(.int p3), (.int (3 * p2)), (.ref N)])) rfl rfl (hb hby d9_12)
  refine own_go (fun t k => st2 t k) ?_
  have N2 := Fr.snoc X2 N0 g_N
  obtain ⟨LL2, X2, N2⟩ := own_abs X2 N2
  have K2 : Keep h0 h2 [N] := (Keep.refl h0 [N]).wr W2 (Or.inl (List.mem_of_getElem? (i := 0) rfl))
  have f2_0 := F.other W2 (Or.inl ne1)
  have f2_1 := A.set W2
  refine own_go (B := T2.setTop (mkF m 14 #[.val (.ref a1), .val (.int p2), .val (.int p3), .val (.int p4), .val (.int p5), .val (.int (3 * p2))] [(.ref a1)])) (fun t k => ?_) ?_
  · show Steps p.tables e below (T2.setTop (mkF m 13 #[.val (.ref a1), .val (.int p2), .val (.int p3), .val (.int p4), .val (.int p5), .val (.int (3 * p2))] [])) t
    refine XS.aloadN X2.here hx rfl (hb hby d9_13) rfl rfl ?_
    exact k
  obtain ⟨T3, X3, e3, st3⟩ := getF X2 hx hZ hown (host := "") (Or.inl (own_at hw 10 rfl)) Via.refl e2 f2_0 (g := (mkF m 14 #[.val (.ref a1), .val (.int p2), .val (.int p3), .val (.int p4), .val (.int p5), .val (.int (3 * p2))] [(.ref a1)])) rfl rfl (hb hby d9_14)
  refine own_go (fun t k => st3 t k) ?_
  refine own_go (B := T3.setTop (mkF m 22 #[.val (.ref a1), .val (.int p2), .val (.int p3), .val (.int p4), .val (.int p5), .val (.int (3 * p2))] [(.int p4), (.int ((3 * p2) + 1)), (.ref N)])) (fun t k => ?_) ?_
  · show Steps p.tables e below (T3.setTop (mkF m 17 #[.val (.ref a1), .val (.int p2), .val (.int p3), .val (.int p4), .val (.int p5), .val (.int (3 * p2))] [(.ref N)])) t
    refine XS.iload X3.here hx rfl (hb hby d9_17) rfl ?_
    refine XS.iconst X3.here hx rfl (hb hby d9_19) ?_
    refine XS.iadd X3.here hx rfl (hb hby d9_20) rfl ?_
    show Steps p.tables e below (T3.setTop (mkF m 21 #[.val (.ref a1), .val (.int p2), .val (.int p3), .val (.int p4), .val (.int p5), .val (.int (3 * p2))] [(.int ((3 * p2) + 1)), (.ref N)])) t
    refine XS.iloadN X3.here hx rfl (hb hby d9_21) rfl ?_
    exact k
  obtain ⟨cl4, Ar4, hin4, -, -, -⟩ := f2_1.get (j := (((3 : Int32) * p2) + (1 : Int32))) (own_i3 c0 c8).2.2.2.1 (own_i3 c0 c8).2.2.2.2.1
  obtain ⟨T4, h4, X4, e4, W4, st4⟩ := stI X3 hx hZ e3 Ar4 (j := (((3 : Int32) * p2) + (1 : Int32))) hin4 (g := (mkF m 22 #[.val (.ref a1), .val (.int p2), .val (.int p3), .val (.int p4), .val (.int p5), .val (.int (3 * p2))] [(.int p4), (.int ((3 * p2) + 1)), (.ref N)])) rfl rfl (hb hby d9_22)
  refine own_go (fun t k => st4 t k) ?_
  have N4 := Fr.snoc X4 N2 g_N
  obtain ⟨LL4, X4, N4⟩ := own_abs X4 N4
  have K4 : Keep h0 h4 [N] := K2.wr W4 (Or.inl (List.mem_of_getElem? (i := 0) rfl))
  have f4_0 := f2_0.other W4 (Or.inl ne1)
  have f4_1 := f2_1.set W4
  refine own_go (B := T4.setTop (mkF m 24 #[.val (.ref a1), .val (.int p2), .val (.int p3), .val (.int p4), .val (.int p5), .val (.int (3 * p2))] [(.ref a1)])) (fun t k => ?_) ?_
  · show Steps p.tables e below (T4.setTop (mkF m 23 #[.val (.ref a1), .val (.int p2), .val (.int p3), .val (.int p4), .val (.int p5), .val (.int (3 * p2))] [])) t
    refine XS.aloadN X4.here hx rfl (hb hby d9_23) rfl rfl ?_
    exact k
  obtain ⟨T5, X5, e5, st5⟩ := getF X4 hx hZ hown (host := "") (Or.inl (own_at hw 10 rfl)) Via.refl e4 f4_0 (g := (mkF m 24 #[.val (.ref a1), .val (.int p2), .val (.int p3), .val (.int p4), .val (.int p5), .val (.int (3 * p2))] [(.ref a1)])) rfl rfl (hb hby d9_24)
  refine own_go (fun t k => st5 t k) ?_
  refine own_go (B := T5.setTop (mkF m 33 #[.val (.ref a1), .val (.int p2), .val (.int p3), .val (.int p4), .val (.int p5), .val (.int (3 * p2))] [(.int p5), (.int ((3 * p2) + 2)), (.ref N)])) (fun t k => ?_) ?_
  · show Steps p.tables e below (T5.setTop (mkF m 27 #[.val (.ref a1), .val (.int p2), .val (.int p3), .val (.int p4), .val (.int p5), .val (.int (3 * p2))] [(.ref N)])) t
    refine XS.iload X5.here hx rfl (hb hby d9_27) rfl ?_
    refine XS.iconst X5.here hx rfl (hb hby d9_29) ?_
    refine XS.iadd X5.here hx rfl (hb hby d9_30) rfl ?_
    show Steps p.tables e below (T5.setTop (mkF m 31 #[.val (.ref a1), .val (.int p2), .val (.int p3), .val (.int p4), .val (.int p5), .val (.int (3 * p2))] [(.int ((3 * p2) + 2)), (.ref N)])) t
    refine XS.iload X5.here hx rfl (hb hby d9_31) rfl ?_
    exact k
  obtain ⟨cl6, Ar6, hin6, -, -, -⟩ := f4_1.get (j := (((3 : Int32) * p2) + (2 : Int32))) (own_i3 c0 c8).2.2.2.2.2.2.1 (own_i3 c0 c8).2.2.2.2.2.2.2.1
  obtain ⟨T6, h6, X6, e6, W6, st6⟩ := stI X5 hx hZ e5 Ar6 (j := (((3 : Int32) * p2) + (2 : Int32))) hin6 (g := (mkF m 33 #[.val (.ref a1), .val (.int p2), .val (.int p3), .val (.int p4), .val (.int p5), .val (.int (3 * p2))] [(.int p5), (.int ((3 * p2) + 2)), (.ref N)])) rfl rfl (hb hby d9_33)
  refine own_go (fun t k => st6 t k) ?_
  have N6 := Fr.snoc X6 N4 g_N
  obtain ⟨LL6, X6, N6⟩ := own_abs X6 N6
  have K6 : Keep h0 h6 [N] := K4.wr W6 (Or.inl (List.mem_of_getElem? (i := 0) rfl))
  have f6_0 := f4_0.other W6 (Or.inl ne1)
  have f6_1 := f4_1.set W6
  obtain ⟨fs, hr, hrun, hended, hW, hsame⟩ := X6.leave (v := none) (fun _ => rfl)
  refine ⟨_, _, ?_, hrun, hended, _, _, rfl, ?_, ⟨_, rfl⟩, hW, hsame.mono (by decide) (by decide)⟩
  · show Steps p.tables e below (T6.setTop (mkF m 34 #[.val (.ref a1), .val (.int p2), .val (.int p3), .val (.int p4), .val (.int p5), .val (.int (3 * p2))] [])) _
    exact X6.returnOut hx Bd.returns (hb hby d9_34) hr
  · show Q9 Z a1 p2 p3 p4 p5 N gN h0 n0 _ T6.heap _
    rw [e6]
    obtain ⟨-, -, e1, -, -, e2, -, -, e3⟩ := own_i3 c0 c8
    refine ⟨rfl, N6, K6, _, f6_1, ?_, ?_, ?_⟩
    · simp only [e1, e2, e3]
      rw [if_neg (by omega), if_neg (by omega), if_pos trivial]
    · simp only [e1, e2, e3]
      rw [if_neg (by omega), if_pos trivial]
    · intro j hj
      simp only [e1, e2, e3]
      rw [if_neg (by omega), if_neg (by omega), if_neg (by omega)]
theorem d20_0 : decode prog_47_method_17_code 0 = .ok (.aload_n 0, 1) := by decide +kernel
theorem d20_1 : decode prog_47_method_17_code 1 = .ok (.getfield 9, 3) := by decide +kernel
theorem d20_4 : decode prog_47_method_17_code 4 = .ok (.iconst 3, 1) := by decide +kernel
theorem d20_5 : decode prog_47_method_17_code 5 = .ok (.iload_n 1, 1) := by decide +kernel
theorem d20_6 : decode prog_47_method_17_code 6 = .ok (.imul, 1) := by decide +kernel
theorem d20_7 : decode prog_47_method_17_code 7 = .ok (.iaload, 1) := by decide +kernel
theorem d20_8 : decode prog_47_method_17_code 8 = .ok (.ireturn, 1) := by decide +kernel
theorem pn_rm20 : plainName "com/example/liaise/liaise/NodeTable" = true := by first | (simp [plainName, overriddenIn]; done) | decide +kernel
theorem ef_rm20 (m : MethodId) (x0 : Addr) (x1 : Int32) : entryFrame m #[(.ref x0), (.int x1)] 2 = mkF m 0 #[.val (.ref x0), .val (.int x1)] [] := by first | (simp [entryFrame, mkF, argsToLocals, Value.category]; done) | rfl
def Q20 (Z : State) (a1 : Addr) (p2 : Int32) (N : Addr) (gN : Nat → Int32) (h0 : Heap) (n0 : Nat) (v : Option Value) (h : Heap) (L : List Loc) : Prop := v = some (.int (gN ((3 : Int32) * p2).toNatClampNeg)) ∧ Fr n0 L ∧ h = h0
set_option maxRecDepth 65536 in
set_option maxHeartbeats 40000000 in
theorem rm20 (l : Launch) (Z : State) (a0 : Array Value) (hw : ∀ d ∈ tables_1, d.before a0 Z = true) (ws : List Jvm.Cond) (a1 : Addr) (p2 : Int32) (N : Addr) (gN : Nat → Int32) (h0 : Heap) (n0 : Nat) (Z0 : n0 ≤ h0.size) (F : Fld Z h0 a1 "com/example/liaise/liaise/NodeTable" "nodes" "[I" (.ref N)) (A : own_Ag Value.int Z h0 N .int (3072 : Int32) gN) (c0 : 0 ≤ p2.toInt) (c8 : p2.toInt ≤ 8) :
    MetFree l (⟨"com/example/liaise/liaise/NodeTable", "variable", "(I)I"⟩ : MethodName) (head1 (Jvm.Cond.code (⟨"com/example/liaise/liaise/NodeTable", "variable", "(I)I"⟩ : MethodName) prog_47_method_17_code 2 (some .int) :: ws) ({ frames := 0, cells := 0, slots := 0, locals := 0 } : Room)) (fun a U => a = #[(.ref a1), (.int p2)] ∧ Z.Warmed39 U.vm ∧ U.heap = h0) (fun _ _ _ _ _ => True) (fun _ U o U' => ∃ v L, o = .returned v ∧ Q20 Z a1 p2 N gN h0 n0 v U'.heap L ∧ FrameEnd U o U' L ({ frames := 0, cells := 0, slots := 0, locals := 0 } : Room).cells ({ frames := 0, cells := 0, slots := 0, locals := 0 } : Room).slots) := by
  refine MetFree.of_bodySF (plainFor_of_name pn_rm20) hisR ?_
  intro p e s m args below meth c s₁ Bd hml0 hP hK
  obtain ⟨rfl, hZ, hh⟩ := hP
  have hx := Bd.exec
  have hby := Bd.bytes
  have hml : c.maxLocals = 2 := hml0
  have hown : s.vm.findClass "com/example/liaise/liaise/NodeTable" = some m.cls := findClass_of_methodNamed Bd.named
  have hnm := (name_of_methodNamed Bd.named Bd.method).1
  have X0 : Stand p l e ({ frames := 0, cells := 0, slots := 0, locals := 0 } : Room) s m #[(.ref a1), (.int p2)] below meth c s₁ [] 0 0 := Stand.of_body Bd
  have e0 : s₁.heap = h0 := by rw [← hh, Bd.state]; rfl
  have N0 := Fr.nil n0
  have pre0 : ∀ t, Steps p.tables e below (s₁.setTop (mkF m 0 #[.val (.ref a1), .val (.int p2)] [])) t → Steps p.tables e below (s₁.setTop (entryFrame m #[(.ref a1), (.int p2)] 2)) t := fun t k => castTop (ef_rm20 m a1 p2) k
  show own_Fin p e below _ _
  refine own_go pre0 ?_
  refine own_go (B := s₁.setTop (mkF m 1 #[.val (.ref a1), .val (.int p2)] [(.ref a1)])) (fun t k => ?_) ?_
  · show Steps p.tables e below (s₁.setTop (mkF m 0 #[.val (.ref a1), .val (.int p2)] [])) t
    refine XS.aloadN X0.here hx rfl (hb hby d20_0) rfl rfl ?_
    exact k
  obtain ⟨T1, X1, e1, st1⟩ := getF X0 hx hZ hown (host := "") (Or.inl (own_at hw 10 rfl)) Via.refl e0 F (g := (mkF m 1 #[.val (.ref a1), .val (.int p2)] [(.ref a1)])) rfl rfl (hb hby d20_1)
  refine own_go (fun t k => st1 t k) ?_
  refine own_go (B := T1.setTop (mkF m 7 #[.val (.ref a1), .val (.int p2)] [(.int (3 * p2)), (.ref N)])) (fun t k => ?_) ?_
  · show Steps p.tables e below (T1.setTop (mkF m 4 #[.val (.ref a1), .val (.int p2)] [(.ref N)])) t
    refine XS.iconst X1.here hx rfl (hb hby d20_4) ?_
    show Steps p.tables e below (T1.setTop (mkF m 5 #[.val (.ref a1), .val (.int p2)] [(.int 3), (.ref N)])) t
    refine XS.iloadN X1.here hx rfl (hb hby d20_5) rfl ?_
    show Steps p.tables e below (T1.setTop (mkF m 6 #[.val (.ref a1), .val (.int p2)] [(.int p2), (.int 3), (.ref N)])) t
    refine XS.imul X1.here hx rfl (hb hby d20_6) rfl ?_
    exact k
  obtain ⟨cl2, Ar2, hin2, hat2, -, -⟩ := A.get (j := ((3 : Int32) * p2)) (own_i3 c0 c8).1 (own_i3 c0 c8).2.1
  refine own_go (X1.iaload hx (j := ((3 : Int32) * p2)) (v := (.int (gN (((3 : Int32) * p2)).toNatClampNeg))) (by rw [e1]; exact Ar2.1) (State.isArrayOf_alike hZ.alike Ar2.2.1) Ar2.2.2 hin2 hat2 (g := (mkF m 7 #[.val (.ref a1), .val (.int p2)] [(.int (3 * p2)), (.ref N)])) rfl rfl (hb hby d20_7)) ?_
  obtain ⟨fs, hr, hrun, hended, hW, hsame⟩ := X1.leave (v := some (.int (gN (((3 : Int32) * p2)).toNatClampNeg))) (fun h => by rw [Bd.returns] at h; cases h)
  refine ⟨_, _, ?_, hrun, hended, _, _, rfl, ?_, ⟨_, rfl⟩, hW, hsame.mono (by decide) (by decide)⟩
  · show Steps p.tables e below (T1.setTop (mkF m 8 #[.val (.ref a1), .val (.int p2)] [(.int (gN (((3 : Int32) * p2)).toNatClampNeg))])) _
    exact retI X1 hx Bd.returns (hb hby d20_8) hr
  · show Q20 Z a1 p2 N gN h0 n0 _ T1.heap _
    rw [e1]
    exact ⟨rfl, N0, rfl⟩
theorem d24_0 : decode prog_47_method_18_code 0 = .ok (.aload_n 0, 1) := by decide +kernel
theorem d24_1 : decode prog_47_method_18_code 1 = .ok (.getfield 9, 3) := by decide +kernel
theorem d24_4 : decode prog_47_method_18_code 4 = .ok (.iconst 3, 1) := by decide +kernel
theorem d24_5 : decode prog_47_method_18_code 5 = .ok (.iload_n 1, 1) := by decide +kernel
theorem d24_6 : decode prog_47_method_18_code 6 = .ok (.imul, 1) := by decide +kernel
theorem d24_7 : decode prog_47_method_18_code 7 = .ok (.iconst 1, 1) := by decide +kernel
theorem d24_8 : decode prog_47_method_18_code 8 = .ok (.iadd, 1) := by decide +kernel
theorem d24_9 : decode prog_47_method_18_code 9 = .ok (.iaload, 1) := by decide +kernel
theorem d24_10 : decode prog_47_method_18_code 10 = .ok (.ireturn, 1) := by decide +kernel
theorem pn_rm24 : plainName "com/example/liaise/liaise/NodeTable" = true := by first | (simp [plainName, overriddenIn]; done) | decide +kernel
theorem ef_rm24 (m : MethodId) (x0 : Addr) (x1 : Int32) : entryFrame m #[(.ref x0), (.int x1)] 2 = mkF m 0 #[.val (.ref x0), .val (.int x1)] [] := by first | (simp [entryFrame, mkF, argsToLocals, Value.category]; done) | rfl
def Q24 (Z : State) (a1 : Addr) (p2 : Int32) (N : Addr) (gN : Nat → Int32) (h0 : Heap) (n0 : Nat) (v : Option Value) (h : Heap) (L : List Loc) : Prop := v = some (.int (gN (((3 : Int32) * p2) + (1 : Int32)).toNatClampNeg)) ∧ Fr n0 L ∧ h = h0
set_option maxRecDepth 65536 in
set_option maxHeartbeats 40000000 in
theorem rm24 (l : Launch) (Z : State) (a0 : Array Value) (hw : ∀ d ∈ tables_1, d.before a0 Z = true) (ws : List Jvm.Cond) (a1 : Addr) (p2 : Int32) (N : Addr) (gN : Nat → Int32) (h0 : Heap) (n0 : Nat) (Z0 : n0 ≤ h0.size) (F : Fld Z h0 a1 "com/example/liaise/liaise/NodeTable" "nodes" "[I" (.ref N)) (A : own_Ag Value.int Z h0 N .int (3072 : Int32) gN) (c0 : 0 ≤ p2.toInt) (c8 : p2.toInt ≤ 8) :
    MetFree l (⟨"com/example/liaise/liaise/NodeTable", "low", "(I)I"⟩ : MethodName) (head1 (Jvm.Cond.code (⟨"com/example/liaise/liaise/NodeTable", "low", "(I)I"⟩ : MethodName) prog_47_method_18_code 2 (some .int) :: ws) ({ frames := 0, cells := 0, slots := 0, locals := 0 } : Room)) (fun a U => a = #[(.ref a1), (.int p2)] ∧ Z.Warmed39 U.vm ∧ U.heap = h0) (fun _ _ _ _ _ => True) (fun _ U o U' => ∃ v L, o = .returned v ∧ Q24 Z a1 p2 N gN h0 n0 v U'.heap L ∧ FrameEnd U o U' L ({ frames := 0, cells := 0, slots := 0, locals := 0 } : Room).cells ({ frames := 0, cells := 0, slots := 0, locals := 0 } : Room).slots) := by
  refine MetFree.of_bodySF (plainFor_of_name pn_rm24) hisR ?_
  intro p e s m args below meth c s₁ Bd hml0 hP hK
  obtain ⟨rfl, hZ, hh⟩ := hP
  have hx := Bd.exec
  have hby := Bd.bytes
  have hml : c.maxLocals = 2 := hml0
  have hown : s.vm.findClass "com/example/liaise/liaise/NodeTable" = some m.cls := findClass_of_methodNamed Bd.named
  have hnm := (name_of_methodNamed Bd.named Bd.method).1
  have X0 : Stand p l e ({ frames := 0, cells := 0, slots := 0, locals := 0 } : Room) s m #[(.ref a1), (.int p2)] below meth c s₁ [] 0 0 := Stand.of_body Bd
  have e0 : s₁.heap = h0 := by rw [← hh, Bd.state]; rfl
  have N0 := Fr.nil n0
  have pre0 : ∀ t, Steps p.tables e below (s₁.setTop (mkF m 0 #[.val (.ref a1), .val (.int p2)] [])) t → Steps p.tables e below (s₁.setTop (entryFrame m #[(.ref a1), (.int p2)] 2)) t := fun t k => castTop (ef_rm24 m a1 p2) k
  show own_Fin p e below _ _
  refine own_go pre0 ?_
  refine own_go (B := s₁.setTop (mkF m 1 #[.val (.ref a1), .val (.int p2)] [(.ref a1)])) (fun t k => ?_) ?_
  · show Steps p.tables e below (s₁.setTop (mkF m 0 #[.val (.ref a1), .val (.int p2)] [])) t
    refine XS.aloadN X0.here hx rfl (hb hby d24_0) rfl rfl ?_
    exact k
  obtain ⟨T1, X1, e1, st1⟩ := getF X0 hx hZ hown (host := "") (Or.inl (own_at hw 10 rfl)) Via.refl e0 F (g := (mkF m 1 #[.val (.ref a1), .val (.int p2)] [(.ref a1)])) rfl rfl (hb hby d24_1)
  refine own_go (fun t k => st1 t k) ?_
  refine own_go (B := T1.setTop (mkF m 9 #[.val (.ref a1), .val (.int p2)] [(.int ((3 * p2) + 1)), (.ref N)])) (fun t k => ?_) ?_
  · show Steps p.tables e below (T1.setTop (mkF m 4 #[.val (.ref a1), .val (.int p2)] [(.ref N)])) t
    refine XS.iconst X1.here hx rfl (hb hby d24_4) ?_
    show Steps p.tables e below (T1.setTop (mkF m 5 #[.val (.ref a1), .val (.int p2)] [(.int 3), (.ref N)])) t
    refine XS.iloadN X1.here hx rfl (hb hby d24_5) rfl ?_
    show Steps p.tables e below (T1.setTop (mkF m 6 #[.val (.ref a1), .val (.int p2)] [(.int p2), (.int 3), (.ref N)])) t
    refine XS.imul X1.here hx rfl (hb hby d24_6) rfl ?_
    show Steps p.tables e below (T1.setTop (mkF m 7 #[.val (.ref a1), .val (.int p2)] [(.int (3 * p2)), (.ref N)])) t
    refine XS.iconst X1.here hx rfl (hb hby d24_7) ?_
    show Steps p.tables e below (T1.setTop (mkF m 8 #[.val (.ref a1), .val (.int p2)] [(.int 1), (.int (3 * p2)), (.ref N)])) t
    refine XS.iadd X1.here hx rfl (hb hby d24_8) rfl ?_
    exact k
  obtain ⟨cl2, Ar2, hin2, hat2, -, -⟩ := A.get (j := (((3 : Int32) * p2) + (1 : Int32))) (own_i3 c0 c8).2.2.2.1 (own_i3 c0 c8).2.2.2.2.1
  refine own_go (X1.iaload hx (j := (((3 : Int32) * p2) + (1 : Int32))) (v := (.int (gN ((((3 : Int32) * p2) + (1 : Int32))).toNatClampNeg))) (by rw [e1]; exact Ar2.1) (State.isArrayOf_alike hZ.alike Ar2.2.1) Ar2.2.2 hin2 hat2 (g := (mkF m 9 #[.val (.ref a1), .val (.int p2)] [(.int ((3 * p2) + 1)), (.ref N)])) rfl rfl (hb hby d24_9)) ?_
  obtain ⟨fs, hr, hrun, hended, hW, hsame⟩ := X1.leave (v := some (.int (gN ((((3 : Int32) * p2) + (1 : Int32))).toNatClampNeg))) (fun h => by rw [Bd.returns] at h; cases h)
  refine ⟨_, _, ?_, hrun, hended, _, _, rfl, ?_, ⟨_, rfl⟩, hW, hsame.mono (by decide) (by decide)⟩
  · show Steps p.tables e below (T1.setTop (mkF m 10 #[.val (.ref a1), .val (.int p2)] [(.int (gN ((((3 : Int32) * p2) + (1 : Int32))).toNatClampNeg))])) _
    exact retI X1 hx Bd.returns (hb hby d24_10) hr
  · show Q24 Z a1 p2 N gN h0 n0 _ T1.heap _
    rw [e1]
    exact ⟨rfl, N0, rfl⟩
theorem d25_0 : decode prog_47_method_19_code 0 = .ok (.aload_n 0, 1) := by decide +kernel
theorem d25_1 : decode prog_47_method_19_code 1 = .ok (.getfield 9, 3) := by decide +kernel
theorem d25_4 : decode prog_47_method_19_code 4 = .ok (.iconst 3, 1) := by decide +kernel
theorem d25_5 : decode prog_47_method_19_code 5 = .ok (.iload_n 1, 1) := by decide +kernel
theorem d25_6 : decode prog_47_method_19_code 6 = .ok (.imul, 1) := by decide +kernel
theorem d25_7 : decode prog_47_method_19_code 7 = .ok (.iconst 2, 1) := by decide +kernel
theorem d25_8 : decode prog_47_method_19_code 8 = .ok (.iadd, 1) := by decide +kernel
theorem d25_9 : decode prog_47_method_19_code 9 = .ok (.iaload, 1) := by decide +kernel
theorem d25_10 : decode prog_47_method_19_code 10 = .ok (.ireturn, 1) := by decide +kernel
theorem pn_rm25 : plainName "com/example/liaise/liaise/NodeTable" = true := by first | (simp [plainName, overriddenIn]; done) | decide +kernel
theorem ef_rm25 (m : MethodId) (x0 : Addr) (x1 : Int32) : entryFrame m #[(.ref x0), (.int x1)] 2 = mkF m 0 #[.val (.ref x0), .val (.int x1)] [] := by first | (simp [entryFrame, mkF, argsToLocals, Value.category]; done) | rfl
def Q25 (Z : State) (a1 : Addr) (p2 : Int32) (N : Addr) (gN : Nat → Int32) (h0 : Heap) (n0 : Nat) (v : Option Value) (h : Heap) (L : List Loc) : Prop := v = some (.int (gN (((3 : Int32) * p2) + (2 : Int32)).toNatClampNeg)) ∧ Fr n0 L ∧ h = h0
set_option maxRecDepth 65536 in
set_option maxHeartbeats 40000000 in
theorem rm25 (l : Launch) (Z : State) (a0 : Array Value) (hw : ∀ d ∈ tables_1, d.before a0 Z = true) (ws : List Jvm.Cond) (a1 : Addr) (p2 : Int32) (N : Addr) (gN : Nat → Int32) (h0 : Heap) (n0 : Nat) (Z0 : n0 ≤ h0.size) (F : Fld Z h0 a1 "com/example/liaise/liaise/NodeTable" "nodes" "[I" (.ref N)) (A : own_Ag Value.int Z h0 N .int (3072 : Int32) gN) (c0 : 0 ≤ p2.toInt) (c8 : p2.toInt ≤ 8) :
    MetFree l (⟨"com/example/liaise/liaise/NodeTable", "high", "(I)I"⟩ : MethodName) (head1 (Jvm.Cond.code (⟨"com/example/liaise/liaise/NodeTable", "high", "(I)I"⟩ : MethodName) prog_47_method_19_code 2 (some .int) :: ws) ({ frames := 0, cells := 0, slots := 0, locals := 0 } : Room)) (fun a U => a = #[(.ref a1), (.int p2)] ∧ Z.Warmed39 U.vm ∧ U.heap = h0) (fun _ _ _ _ _ => True) (fun _ U o U' => ∃ v L, o = .returned v ∧ Q25 Z a1 p2 N gN h0 n0 v U'.heap L ∧ FrameEnd U o U' L ({ frames := 0, cells := 0, slots := 0, locals := 0 } : Room).cells ({ frames := 0, cells := 0, slots := 0, locals := 0 } : Room).slots) := by
  refine MetFree.of_bodySF (plainFor_of_name pn_rm25) hisR ?_
  intro p e s m args below meth c s₁ Bd hml0 hP hK
  obtain ⟨rfl, hZ, hh⟩ := hP
  have hx := Bd.exec
  have hby := Bd.bytes
  have hml : c.maxLocals = 2 := hml0
  have hown : s.vm.findClass "com/example/liaise/liaise/NodeTable" = some m.cls := findClass_of_methodNamed Bd.named
  have hnm := (name_of_methodNamed Bd.named Bd.method).1
  have X0 : Stand p l e ({ frames := 0, cells := 0, slots := 0, locals := 0 } : Room) s m #[(.ref a1), (.int p2)] below meth c s₁ [] 0 0 := Stand.of_body Bd
  have e0 : s₁.heap = h0 := by rw [← hh, Bd.state]; rfl
  have N0 := Fr.nil n0
  have pre0 : ∀ t, Steps p.tables e below (s₁.setTop (mkF m 0 #[.val (.ref a1), .val (.int p2)] [])) t → Steps p.tables e below (s₁.setTop (entryFrame m #[(.ref a1), (.int p2)] 2)) t := fun t k => castTop (ef_rm25 m a1 p2) k
  show own_Fin p e below _ _
  refine own_go pre0 ?_
  refine own_go (B := s₁.setTop (mkF m 1 #[.val (.ref a1), .val (.int p2)] [(.ref a1)])) (fun t k => ?_) ?_
  · show Steps p.tables e below (s₁.setTop (mkF m 0 #[.val (.ref a1), .val (.int p2)] [])) t
    refine XS.aloadN X0.here hx rfl (hb hby d25_0) rfl rfl ?_
    exact k
  obtain ⟨T1, X1, e1, st1⟩ := getF X0 hx hZ hown (host := "") (Or.inl (own_at hw 10 rfl)) Via.refl e0 F (g := (mkF m 1 #[.val (.ref a1), .val (.int p2)] [(.ref a1)])) rfl rfl (hb hby d25_1)
  refine own_go (fun t k => st1 t k) ?_
  refine own_go (B := T1.setTop (mkF m 9 #[.val (.ref a1), .val (.int p2)] [(.int ((3 * p2) + 2)), (.ref N)])) (fun t k => ?_) ?_
  · show Steps p.tables e below (T1.setTop (mkF m 4 #[.val (.ref a1), .val (.int p2)] [(.ref N)])) t
    refine XS.iconst X1.here hx rfl (hb hby d25_4) ?_
    show Steps p.tables e below (T1.setTop (mkF m 5 #[.val (.ref a1), .val (.int p2)] [(.int 3), (.ref N)])) t
    refine XS.iloadN X1.here hx rfl (hb hby d25_5) rfl ?_
    show Steps p.tables e below (T1.setTop (mkF m 6 #[.val (.ref a1), .val (.int p2)] [(.int p2), (.int 3), (.ref N)])) t
    refine XS.imul X1.here hx rfl (hb hby d25_6) rfl ?_
    show Steps p.tables e below (T1.setTop (mkF m 7 #[.val (.ref a1), .val (.int p2)] [(.int (3 * p2)), (.ref N)])) t
    refine XS.iconst X1.here hx rfl (hb hby d25_7) ?_
    show Steps p.tables e below (T1.setTop (mkF m 8 #[.val (.ref a1), .val (.int p2)] [(.int 2), (.int (3 * p2)), (.ref N)])) t
    refine XS.iadd X1.here hx rfl (hb hby d25_8) rfl ?_
    exact k
  obtain ⟨cl2, Ar2, hin2, hat2, -, -⟩ := A.get (j := (((3 : Int32) * p2) + (2 : Int32))) (own_i3 c0 c8).2.2.2.2.2.2.1 (own_i3 c0 c8).2.2.2.2.2.2.2.1
  refine own_go (X1.iaload hx (j := (((3 : Int32) * p2) + (2 : Int32))) (v := (.int (gN ((((3 : Int32) * p2) + (2 : Int32))).toNatClampNeg))) (by rw [e1]; exact Ar2.1) (State.isArrayOf_alike hZ.alike Ar2.2.1) Ar2.2.2 hin2 hat2 (g := (mkF m 9 #[.val (.ref a1), .val (.int p2)] [(.int ((3 * p2) + 2)), (.ref N)])) rfl rfl (hb hby d25_9)) ?_
  obtain ⟨fs, hr, hrun, hended, hW, hsame⟩ := X1.leave (v := some (.int (gN ((((3 : Int32) * p2) + (2 : Int32))).toNatClampNeg))) (fun h => by rw [Bd.returns] at h; cases h)
  refine ⟨_, _, ?_, hrun, hended, _, _, rfl, ?_, ⟨_, rfl⟩, hW, hsame.mono (by decide) (by decide)⟩
  · show Steps p.tables e below (T1.setTop (mkF m 10 #[.val (.ref a1), .val (.int p2)] [(.int (gN ((((3 : Int32) * p2) + (2 : Int32))).toNatClampNeg))])) _
    exact retI X1 hx Bd.returns (hb hby d25_10) hr
  · show Q25 Z a1 p2 N gN h0 n0 _ T1.heap _
    rw [e1]
    exact ⟨rfl, N0, rfl⟩
theorem d5_0 : decode jdk_65_method_103_code 0 = .ok (.iconst 0, 1) := by decide +kernel
theorem d5_1 : decode jdk_65_method_103_code 1 = .ok (.istore_n 2, 1) := by decide +kernel
theorem d5_2 : decode jdk_65_method_103_code 2 = .ok (.aload_n 0, 1) := by decide +kernel
theorem d5_3 : decode jdk_65_method_103_code 3 = .ok (.arraylength, 1) := by decide +kernel
theorem d5_4 : decode jdk_65_method_103_code 4 = .ok (.istore_n 3, 1) := by decide +kernel
theorem d5_5 : decode jdk_65_method_103_code 5 = .ok (.iload_n 2, 1) := by decide +kernel
theorem d5_6 : decode jdk_65_method_103_code 6 = .ok (.iload_n 3, 1) := by decide +kernel
theorem d5_7 : decode jdk_65_method_103_code 7 = .ok (.if_icmp .ge 13, 3) := by decide +kernel
theorem d5_10 : decode jdk_65_method_103_code 10 = .ok (.aload_n 0, 1) := by decide +kernel
theorem d5_11 : decode jdk_65_method_103_code 11 = .ok (.iload_n 2, 1) := by decide +kernel
theorem d5_12 : decode jdk_65_method_103_code 12 = .ok (.iload_n 1, 1) := by decide +kernel
theorem d5_13 : decode jdk_65_method_103_code 13 = .ok (.iastore, 1) := by decide +kernel
theorem d5_14 : decode jdk_65_method_103_code 14 = .ok (.iinc 2 1, 3) := by decide +kernel
theorem d5_17 : decode jdk_65_method_103_code 17 = .ok (.goto (-12), 3) := by decide +kernel
theorem d5_20 : decode jdk_65_method_103_code 20 = .ok (.return_, 1) := by decide +kernel
theorem pn_rm5 : plainName "java/util/Arrays" = true := by first | (simp [plainName, overriddenIn]; done) | decide +kernel
theorem ef_rm5 (m : MethodId) (x0 : Addr) (x1 : Int32) : entryFrame m #[(.ref x0), (.int x1)] 4 = mkF m 0 #[.val (.ref x0), .val (.int x1), .unset, .unset] [] := by first | (simp [entryFrame, mkF, argsToLocals, Value.category]; done) | rfl
def Q5 (Z : State) (a1 : Addr) (p2 : Int32) (n : Int32) (g : Nat → Int32) (h0 : Heap) (n0 : Nat) (v : Option Value) (h : Heap) (L : List Loc) : Prop := v = none ∧ Fr n0 L ∧ Keep h0 h [a1] ∧ own_Ag Value.int Z h a1 .int n (fun _ => p2)
set_option maxRecDepth 65536 in
set_option maxHeartbeats 40000000 in
theorem rm5 (l : Launch) (Z : State) (a0 : Array Value) (hw : ∀ d ∈ tables_1, d.before a0 Z = true) (ws : List Jvm.Cond) (a1 : Addr) (p2 : Int32) (n : Int32) (g : Nat → Int32) (h0 : Heap) (n0 : Nat) (Z0 : n0 ≤ h0.size) (A : own_Ag Value.int Z h0 a1 .int n g) (g_a1 : n0 ≤ a1) (hn0 : 0 ≤ n.toInt) :
    MetFree l (⟨"java/util/Arrays", "fill", "([II)V"⟩ : MethodName) (head1 (Jvm.Cond.code (⟨"java/util/Arrays", "fill", "([II)V"⟩ : MethodName) jdk_65_method_103_code 4 none :: ws) ({ frames := 0, cells := 0, slots := 0, locals := 0 } : Room)) (fun a U => a = #[(.ref a1), (.int p2)] ∧ Z.Warmed39 U.vm ∧ U.heap = h0) (fun _ _ _ _ _ => True) (fun _ U o U' => ∃ v L, o = .returned v ∧ Q5 Z a1 p2 n g h0 n0 v U'.heap L ∧ FrameEnd U o U' L ({ frames := 0, cells := 0, slots := 0, locals := 0 } : Room).cells ({ frames := 0, cells := 0, slots := 0, locals := 0 } : Room).slots) := by
  refine MetFree.of_bodySF (plainFor_of_name pn_rm5) hisR ?_
  intro p e s m args below meth c s₁ Bd hml0 hP hK
  obtain ⟨rfl, hZ, hh⟩ := hP
  have hx := Bd.exec
  have hby := Bd.bytes
  have hml : c.maxLocals = 4 := hml0
  have hown : s.vm.findClass "java/util/Arrays" = some m.cls := findClass_of_methodNamed Bd.named
  have hnm := (name_of_methodNamed Bd.named Bd.method).1
  have X0 : Stand p l e ({ frames := 0, cells := 0, slots := 0, locals := 0 } : Room) s m #[(.ref a1), (.int p2)] below meth c s₁ [] 0 0 := Stand.of_body Bd
  have e0 : s₁.heap = h0 := by rw [← hh, Bd.state]; rfl
  have N0 := Fr.nil n0
  have pre0 : ∀ t, Steps p.tables e below (s₁.setTop (mkF m 0 #[.val (.ref a1), .val (.int p2), .unset, .unset] [])) t → Steps p.tables e below (s₁.setTop (entryFrame m #[(.ref a1), (.int p2)] 4)) t := fun t k => castTop (ef_rm5 m a1 p2) k
  show own_Fin p e below _ _
  refine own_go pre0 ?_
  have loop : ∀ (k : Nat) (i : Int32) (T : State) (locs : List Loc) (hp : Heap) (gi : Nat → Int32), i.toInt + k = n.toInt → 0 ≤ i.toInt → Stand p l e ({ frames := 0, cells := 0, slots := 0, locals := 0 } : Room) s m #[(.ref a1), (.int p2)] below meth c T locs 0 0 → T.heap = hp → Fr n0 locs → n0 ≤ hp.size → Keep h0 hp [a1] → own_Ag Value.int Z hp a1 .int n gi → (∀ j, j < i.toNatClampNeg → gi j = p2) → own_Fin p e below (fun o U' => ∃ v L, o = .returned v ∧ Q5 Z a1 p2 n g h0 n0 v U'.heap L ∧ FrameEnd s o U' L ({ frames := 0, cells := 0, slots := 0, locals := 0 } : Room).cells ({ frames := 0, cells := 0, slots := 0, locals := 0 } : Room).slots) (T.setTop (mkF m 5 #[.val (.ref a1), .val (.int p2), .val (.int i), .val (.int n)] [])) := by
    intro k
    induction k with
    | zero =>
      intro i T locs hp gi hk hi X eT Nf Zs Kp B I1
      have hic : i = n := Int32.toInt_inj.mp (by omega)
      refine own_go (B := T.setTop (mkF m 20 #[.val (.ref a1), .val (.int p2), .val (.int i), .val (.int n)] [])) (fun t k => ?_) ?_
      · show Steps p.tables e below (T.setTop (mkF m 5 #[.val (.ref a1), .val (.int p2), .val (.int i), .val (.int n)] [])) t
        refine XS.iloadN X.here hx rfl (hb hby d5_5) rfl ?_
        show Steps p.tables e below (T.setTop (mkF m 6 #[.val (.ref a1), .val (.int p2), .val (.int i), .val (.int n)] [(.int i)])) t
        refine XS.iloadN X.here hx rfl (hb hby d5_6) rfl ?_
        show Steps p.tables e below (T.setTop (mkF m 7 #[.val (.ref a1), .val (.int p2), .val (.int i), .val (.int n)] [(.int n), (.int i)])) t
        refine XS.icmpYes X.here hx rfl (pc0 := 7) (pc' := 20) rfl (hb hby d5_7) rfl (flt (by rw [hic]; exact Int32.lt_irrefl : ¬ (i < n))).2.1 (by decide) (by decide) ?_
        exact k
      obtain ⟨fs, hr, hrun, hended, hW, hsame⟩ := X.leave (v := none) (fun _ => rfl)
      refine ⟨_, _, ?_, hrun, hended, _, _, rfl, ?_, ⟨_, rfl⟩, hW, hsame.mono (by decide) (by decide)⟩
      · show Steps p.tables e below (T.setTop (mkF m 20 #[.val (.ref a1), .val (.int p2), .val (.int i), .val (.int n)] [])) _
        exact X.returnOut hx Bd.returns (hb hby d5_20) hr
      · show Q5 Z a1 p2 n g h0 n0 _ T.heap _
        rw [eT]
        exact ⟨rfl, Nf, Kp, B.eqv fun j hj => (I1 j (hic ▸ hj)).symm⟩
    | succ k ih =>
      intro i T locs hp gi hk hi X eT Nf Zs Kp B I1
      have hlt : i < n := own_lt (by omega)
      refine own_go (B := T.setTop (mkF m 13 #[.val (.ref a1), .val (.int p2), .val (.int i), .val (.int n)] [(.int p2), (.int i), (.ref a1)])) (fun t k => ?_) ?_
      · show Steps p.tables e below (T.setTop (mkF m 5 #[.val (.ref a1), .val (.int p2), .val (.int i), .val (.int n)] [])) t
        refine XS.iloadN X.here hx rfl (hb hby d5_5) rfl ?_
        show Steps p.tables e below (T.setTop (mkF m 6 #[.val (.ref a1), .val (.int p2), .val (.int i), .val (.int n)] [(.int i)])) t
        refine XS.iloadN X.here hx rfl (hb hby d5_6) rfl ?_
        show Steps p.tables e below (T.setTop (mkF m 7 #[.val (.ref a1), .val (.int p2), .val (.int i), .val (.int n)] [(.int n), (.int i)])) t
        refine XS.icmpNo X.here hx rfl (hb hby d5_7) rfl (tlt (hlt : i < n)).2.1 ?_
        show Steps p.tables e below (T.setTop (mkF m 10 #[.val (.ref a1), .val (.int p2), .val (.int i), .val (.int n)] [])) t
        refine XS.aloadN X.here hx rfl (hb hby d5_10) rfl rfl ?_
        show Steps p.tables e below (T.setTop (mkF m 11 #[.val (.ref a1), .val (.int p2), .val (.int i), .val (.int n)] [(.ref a1)])) t
        refine XS.iloadN X.here hx rfl (hb hby d5_11) rfl ?_
        show Steps p.tables e below (T.setTop (mkF m 12 #[.val (.ref a1), .val (.int p2), .val (.int i), .val (.int n)] [(.int i), (.ref a1)])) t
        refine XS.iloadN X.here hx rfl (hb hby d5_12) rfl ?_
        exact k
      obtain ⟨cl1, Ar1, hin1, -, -, -⟩ := B.get (j := i) (own_nneg hi) hlt
      obtain ⟨T1, h1, X1, e1, W1, st1⟩ := stI X hx hZ eT Ar1 (j := i) hin1 (g := (mkF m 13 #[.val (.ref a1), .val (.int p2), .val (.int i), .val (.int n)] [(.int p2), (.int i), (.ref a1)])) rfl rfl (hb hby d5_13)
      refine own_go (fun t k => st1 t k) ?_
      have N1 := Fr.snoc X1 Nf g_a1
      obtain ⟨LL1, X1, N1⟩ := own_abs X1 N1
      have K1 : Keep h0 h1 [a1] := Kp.wr W1 (Or.inl (List.mem_of_getElem? (i := 0) rfl))
      have f1_0 := B.set W1
      refine own_go (B := T1.setTop (mkF m 5 #[.val (.ref a1), .val (.int p2), .val (.int (i + (1 : Int32))), .val (.int n)] [])) (fun t k => ?_) ?_
      · show Steps p.tables e below (T1.setTop (mkF m 14 #[.val (.ref a1), .val (.int p2), .val (.int i), .val (.int n)] [])) t
        refine XS.iinc X1.here hx rfl (hb hby d5_14) rfl (l' := #[.val (.ref a1), .val (.int p2), .val (.int (i + (1 : Int32))), .val (.int n)]) rfl ?_
        show Steps p.tables e below (T1.setTop (mkF m 17 #[.val (.ref a1), .val (.int p2), .val (.int (i + (1 : Int32))), .val (.int n)] [])) t
        refine XS.goto X1.here hx rfl (pc0 := 17) (pc' := 5) rfl (hb hby d5_17) (by decide) (by decide) ?_
        exact k
      have hrc := rng32 n
      have hi1 : (i + (1 : Int32)).toInt = i.toInt + 1 := by
        have ha := c_iadd i 1
        have hb := rng32 (i + 1)
        have k1 : (1 : Int32).toInt = 1 := by decide
        omega
      have m1 := own_nat hi
      have m2 := own_nat (x := i + (1 : Int32)) (by omega)
      refine ih _ _ _ _ _ (by omega) (by omega) X1 e1 N1 (Nat.le_trans Zs (Keep.of_wr W1).1) K1 f1_0 ?_
      intro j hj
      by_cases q : j = i.toNatClampNeg
      · simp only [if_pos q]
      · simp only [if_neg q]; exact I1 j (by omega)
  refine own_go (B := s₁.setTop (mkF m 3 #[.val (.ref a1), .val (.int p2), .val (.int 0), .unset] [(.ref a1)])) (fun t k => ?_) ?_
  · show Steps p.tables e below (s₁.setTop (mkF m 0 #[.val (.ref a1), .val (.int p2), .unset, .unset] [])) t
    refine XS.iconst X0.here hx rfl (hb hby d5_0) ?_
    show Steps p.tables e below (s₁.setTop (mkF m 1 #[.val (.ref a1), .val (.int p2), .unset, .unset] [(.int 0)])) t
    refine XS.istoreN X0.here hx rfl (hb hby d5_1) rfl (l' := #[.val (.ref a1), .val (.int p2), .val (.int 0), .unset]) rfl ?_
    show Steps p.tables e below (s₁.setTop (mkF m 2 #[.val (.ref a1), .val (.int p2), .val (.int 0), .unset] [])) t
    refine XS.aloadN X0.here hx rfl (hb hby d5_2) rfl rfl ?_
    exact k
  obtain ⟨cl2, Ar2, S2, q2⟩ := A.len
  refine own_go (X0.arraylength hx (by rw [e0]; exact Ar2.1) (State.isArrayOf_alike hZ.alike Ar2.2.1) (g := (mkF m 3 #[.val (.ref a1), .val (.int p2), .val (.int 0), .unset] [(.ref a1)])) rfl rfl (hb hby d5_3)) ?_
  rw [len_of S2 q2]
  refine own_go (B := s₁.setTop (mkF m 5 #[.val (.ref a1), .val (.int p2), .val (.int 0), .val (.int n)] [])) (fun t k => ?_) ?_
  · show Steps p.tables e below (s₁.setTop (mkF m 4 #[.val (.ref a1), .val (.int p2), .val (.int 0), .unset] [(.int n)])) t
    refine XS.istoreN X0.here hx rfl (hb hby d5_4) rfl (l' := #[.val (.ref a1), .val (.int p2), .val (.int 0), .val (.int n)]) rfl ?_
    exact k
  exact loop n.toNatClampNeg 0 _ _ _ _ (by have := own_nat hn0; have z := own_z0; omega) (by decide) X0 e0 N0 Z0 (Keep.refl h0 [a1]) A (fun j hj => absurd hj (by rw [show (0 : Int32).toNatClampNeg = 0 by decide]; exact Nat.not_lt_zero _))
theorem own_lt2 {x : Int32} (h : x.toInt < 2048) : x < (2048 : Int32) := own_lt (by rw [show (2048 : Int32).toInt = 2048 by decide]; exact h)
theorem own_n1024 {x : Int32} (h : x.toInt ≤ 7) : ¬ x = (1024 : Int32) := fun q => by rw [q, show (1024 : Int32).toInt = 1024 by decide] at h; omega
theorem own_nd {x : Int32} {n : Int} (h : 0 ≤ x.toInt) (hm : x.toInt ≤ n) (h8 : n ≤ 8) (hn : ¬ x = (0 : Int32)) : 0 ≤ (x - (1 : Int32)).toInt ∧ (x - (1 : Int32)).toInt < n := by
  have a := c_isub x 1
  have r := rng32 (x - (1 : Int32))
  have k : (1 : Int32).toInt = 1 := by decide
  have z : x.toInt ≠ 0 := fun q => hn (Int32.toInt_inj.mp (q.trans own_z0.symm))
  omega
def own_I (vr sz : Int32) (gN gS : Nat → Int32) : Prop := 0 ≤ sz.toInt ∧ sz.toInt ≤ 8 ∧ (∀ i, i < 2048 → 0 ≤ (gS i).toInt ∧ (gS i).toInt ≤ sz.toInt) ∧ (∀ i, i < sz.toNatClampNeg → gN (3 * i) = vr) ∧ ∃ Ls : List Nat, (Ls.length : Int) ≤ sz.toInt ∧ ∀ i, i < 2048 → gS i ≠ 0 → i ∈ Ls
def own_R (sz sz' r lo : Int32) (gN gN' : Nat → Int32) : Prop := ((sz' = sz ∧ 0 ≤ r.toInt ∧ r.toInt < sz.toInt) ∨ (sz' = sz + (1 : Int32) ∧ r = sz)) ∧ gN' (3 * r.toNatClampNeg + 1) = lo ∧ ∀ j, j < 3 * sz.toNatClampNeg → gN' j = gN j
def own_P (gS : Nat → Int32) (b j : Nat) (Rem : List Nat) : Prop := ∀ i, i < 2048 → gS i ≠ 0 → i ∈ Rem ∨ ∃ t, t < j ∧ i = (b + t) % 2048
theorem own_Pstep {gS : Nat → Int32} {b j i : Nat} {Rem : List Nat} (P : own_P gS b j Rem) (hi : i = (b + j) % 2048) (hne : ¬ gS i = 0) (hl : j + Rem.length ≤ 8) : ∃ R' : List Nat, R'.length + 1 = Rem.length ∧ own_P gS b (j + 1) R' := by
  have hlt : i < 2048 := by omega
  rcases P i hlt hne with hm | ⟨t, ht, e⟩
  · refine ⟨Rem.erase i, ?_, fun k hk hn => ?_⟩
    · have a := List.length_erase_of_mem hm
      have b := List.length_pos_of_mem hm
      omega
    · rcases P k hk hn with h | ⟨t, ht, e⟩
      · by_cases q : k = i
        · exact Or.inr ⟨j, by omega, q.trans hi⟩
        · exact Or.inl ((List.mem_erase_of_ne q).mpr h)
      · exact Or.inr ⟨t, by omega, e⟩
  · omega
theorem own_Inew {vr sz : Int32} {gN gN' gS : Nat → Int32} {ix : Nat} (I : own_I vr sz gN gS) (h7 : sz.toInt ≤ 7) (ha : gN' (3 * sz.toNatClampNeg) = vr) (hc : ∀ j, (j < 3 * sz.toNatClampNeg ∨ 3 * sz.toNatClampNeg + 3 ≤ j) → gN' j = gN j) : own_I vr (sz + (1 : Int32)) gN' (fun i => if i = ix then (sz + (1 : Int32)) else gS i) := by
  obtain ⟨z0, z8, hS, hN, Ls, hL, hM⟩ := I
  have e := own_addk (x := sz) (k := 1) (n := 1) (by decide) z0 (by omega) (by omega)
  have m0 := own_nat z0
  have m1 := own_nat (x := sz + (1 : Int32)) (by omega)
  refine ⟨by omega, by omega, fun i hi => ?_, fun i hi => ?_, ix :: Ls, by simp only [List.length_cons]; omega, fun i hi hn => ?_⟩
  · by_cases q : i = ix
    · simp only [if_pos q]; omega
    · simp only [if_neg q]; have := hS i hi; omega
  · by_cases q : i = sz.toNatClampNeg
    · subst q; exact ha
    · rw [hc _ (Or.inl (by omega))]; exact hN i (by omega)
  · by_cases q : i = ix
    · exact q ▸ List.mem_cons_self
    · simp only [if_neg q] at hn; exact List.mem_cons_of_mem _ (hM i hi hn)
theorem d7_0 : decode prog_47_method_39_code 0 = .ok (.iload_n 1, 1) := by decide +kernel
theorem d7_1 : decode prog_47_method_39_code 1 = .ok (.iload_n 2, 1) := by decide +kernel
theorem d7_2 : decode prog_47_method_39_code 2 = .ok (.iload_n 3, 1) := by decide +kernel
theorem d7_3 : decode prog_47_method_39_code 3 = .ok (.invokestatic 229, 3) := by decide +kernel
theorem d7_6 : decode prog_47_method_39_code 6 = .ok (.aload_n 0, 1) := by decide +kernel
theorem d7_7 : decode prog_47_method_39_code 7 = .ok (.getfield 20, 3) := by decide +kernel
theorem d7_10 : decode prog_47_method_39_code 10 = .ok (.arraylength, 1) := by decide +kernel
theorem d7_11 : decode prog_47_method_39_code 11 = .ok (.iconst 1, 1) := by decide +kernel
theorem d7_12 : decode prog_47_method_39_code 12 = .ok (.isub, 1) := by decide +kernel
theorem d7_13 : decode prog_47_method_39_code 13 = .ok (.iand, 1) := by decide +kernel
theorem d7_14 : decode prog_47_method_39_code 14 = .ok (.istore 4, 2) := by decide +kernel
theorem d7_16 : decode prog_47_method_39_code 16 = .ok (.aload_n 0, 1) := by decide +kernel
theorem d7_17 : decode prog_47_method_39_code 17 = .ok (.getfield 20, 3) := by decide +kernel
theorem d7_20 : decode prog_47_method_39_code 20 = .ok (.iload 4, 2) := by decide +kernel
theorem d7_22 : decode prog_47_method_39_code 22 = .ok (.iaload, 1) := by decide +kernel
theorem d7_23 : decode prog_47_method_39_code 23 = .ok (.ifCond .eq 77, 3) := by decide +kernel
theorem d7_26 : decode prog_47_method_39_code 26 = .ok (.aload_n 0, 1) := by decide +kernel
theorem d7_27 : decode prog_47_method_39_code 27 = .ok (.getfield 20, 3) := by decide +kernel
theorem d7_30 : decode prog_47_method_39_code 30 = .ok (.iload 4, 2) := by decide +kernel
theorem d7_32 : decode prog_47_method_39_code 32 = .ok (.iaload, 1) := by decide +kernel
theorem d7_33 : decode prog_47_method_39_code 33 = .ok (.iconst 1, 1) := by decide +kernel
theorem d7_34 : decode prog_47_method_39_code 34 = .ok (.isub, 1) := by decide +kernel
theorem d7_35 : decode prog_47_method_39_code 35 = .ok (.istore 5, 2) := by decide +kernel
theorem d7_37 : decode prog_47_method_39_code 37 = .ok (.iconst 3, 1) := by decide +kernel
theorem d7_38 : decode prog_47_method_39_code 38 = .ok (.iload 5, 2) := by decide +kernel
theorem d7_40 : decode prog_47_method_39_code 40 = .ok (.imul, 1) := by decide +kernel
theorem d7_41 : decode prog_47_method_39_code 41 = .ok (.istore 6, 2) := by decide +kernel
theorem d7_43 : decode prog_47_method_39_code 43 = .ok (.aload_n 0, 1) := by decide +kernel
theorem d7_44 : decode prog_47_method_39_code 44 = .ok (.getfield 9, 3) := by decide +kernel
theorem d7_47 : decode prog_47_method_39_code 47 = .ok (.iload 6, 2) := by decide +kernel
theorem d7_49 : decode prog_47_method_39_code 49 = .ok (.iaload, 1) := by decide +kernel
theorem d7_50 : decode prog_47_method_39_code 50 = .ok (.iload_n 1, 1) := by decide +kernel
theorem d7_51 : decode prog_47_method_39_code 51 = .ok (.if_icmp .ne 32, 3) := by decide +kernel
theorem d7_54 : decode prog_47_method_39_code 54 = .ok (.aload_n 0, 1) := by decide +kernel
theorem d7_55 : decode prog_47_method_39_code 55 = .ok (.getfield 9, 3) := by decide +kernel
theorem d7_58 : decode prog_47_method_39_code 58 = .ok (.iload 6, 2) := by decide +kernel
theorem d7_60 : decode prog_47_method_39_code 60 = .ok (.iconst 1, 1) := by decide +kernel
theorem d7_61 : decode prog_47_method_39_code 61 = .ok (.iadd, 1) := by decide +kernel
theorem d7_62 : decode prog_47_method_39_code 62 = .ok (.iaload, 1) := by decide +kernel
theorem d7_63 : decode prog_47_method_39_code 63 = .ok (.iload_n 2, 1) := by decide +kernel
theorem d7_64 : decode prog_47_method_39_code 64 = .ok (.if_icmp .ne 19, 3) := by decide +kernel
theorem d7_67 : decode prog_47_method_39_code 67 = .ok (.aload_n 0, 1) := by decide +kernel
theorem d7_68 : decode prog_47_method_39_code 68 = .ok (.getfield 9, 3) := by decide +kernel
theorem d7_71 : decode prog_47_method_39_code 71 = .ok (.iload 6, 2) := by decide +kernel
theorem d7_73 : decode prog_47_method_39_code 73 = .ok (.iconst 2, 1) := by decide +kernel
theorem d7_74 : decode prog_47_method_39_code 74 = .ok (.iadd, 1) := by decide +kernel
theorem d7_75 : decode prog_47_method_39_code 75 = .ok (.iaload, 1) := by decide +kernel
theorem d7_76 : decode prog_47_method_39_code 76 = .ok (.iload_n 3, 1) := by decide +kernel
theorem d7_77 : decode prog_47_method_39_code 77 = .ok (.if_icmp .ne 6, 3) := by decide +kernel
theorem d7_80 : decode prog_47_method_39_code 80 = .ok (.iload 5, 2) := by decide +kernel
theorem d7_82 : decode prog_47_method_39_code 82 = .ok (.ireturn, 1) := by decide +kernel
theorem d7_83 : decode prog_47_method_39_code 83 = .ok (.iload 4, 2) := by decide +kernel
theorem d7_85 : decode prog_47_method_39_code 85 = .ok (.iconst 1, 1) := by decide +kernel
theorem d7_86 : decode prog_47_method_39_code 86 = .ok (.iadd, 1) := by decide +kernel
theorem d7_87 : decode prog_47_method_39_code 87 = .ok (.aload_n 0, 1) := by decide +kernel
theorem d7_88 : decode prog_47_method_39_code 88 = .ok (.getfield 20, 3) := by decide +kernel
theorem d7_91 : decode prog_47_method_39_code 91 = .ok (.arraylength, 1) := by decide +kernel
theorem d7_92 : decode prog_47_method_39_code 92 = .ok (.iconst 1, 1) := by decide +kernel
theorem d7_93 : decode prog_47_method_39_code 93 = .ok (.isub, 1) := by decide +kernel
theorem d7_94 : decode prog_47_method_39_code 94 = .ok (.iand, 1) := by decide +kernel
theorem d7_95 : decode prog_47_method_39_code 95 = .ok (.istore 4, 2) := by decide +kernel
theorem d7_97 : decode prog_47_method_39_code 97 = .ok (.goto (-81), 3) := by decide +kernel
theorem d7_100 : decode prog_47_method_39_code 100 = .ok (.aload_n 0, 1) := by decide +kernel
theorem d7_101 : decode prog_47_method_39_code 101 = .ok (.getfield 82, 3) := by decide +kernel
theorem d7_104 : decode prog_47_method_39_code 104 = .ok (.aload_n 0, 1) := by decide +kernel
theorem d7_105 : decode prog_47_method_39_code 105 = .ok (.invokevirtual 174, 3) := by decide +kernel
theorem d7_108 : decode prog_47_method_39_code 108 = .ok (.if_icmp .ne 15, 3) := by decide +kernel
theorem d7_123 : decode prog_47_method_39_code 123 = .ok (.aload_n 0, 1) := by decide +kernel
theorem d7_124 : decode prog_47_method_39_code 124 = .ok (.dup, 1) := by decide +kernel
theorem d7_125 : decode prog_47_method_39_code 125 = .ok (.getfield 82, 3) := by decide +kernel
theorem d7_128 : decode prog_47_method_39_code 128 = .ok (.dup_x1, 1) := by decide +kernel
theorem d7_129 : decode prog_47_method_39_code 129 = .ok (.iconst 1, 1) := by decide +kernel
theorem d7_130 : decode prog_47_method_39_code 130 = .ok (.iadd, 1) := by decide +kernel
theorem d7_131 : decode prog_47_method_39_code 131 = .ok (.putfield 82, 3) := by decide +kernel
theorem d7_134 : decode prog_47_method_39_code 134 = .ok (.istore 5, 2) := by decide +kernel
theorem d7_136 : decode prog_47_method_39_code 136 = .ok (.aload_n 0, 1) := by decide +kernel
theorem d7_137 : decode prog_47_method_39_code 137 = .ok (.iload 5, 2) := by decide +kernel
theorem d7_139 : decode prog_47_method_39_code 139 = .ok (.iload_n 1, 1) := by decide +kernel
theorem d7_140 : decode prog_47_method_39_code 140 = .ok (.iload_n 2, 1) := by decide +kernel
theorem d7_141 : decode prog_47_method_39_code 141 = .ok (.iload_n 3, 1) := by decide +kernel
theorem d7_142 : decode prog_47_method_39_code 142 = .ok (.invokevirtual 169, 3) := by decide +kernel
theorem d7_145 : decode prog_47_method_39_code 145 = .ok (.aload_n 0, 1) := by decide +kernel
theorem d7_146 : decode prog_47_method_39_code 146 = .ok (.getfield 20, 3) := by decide +kernel
theorem d7_149 : decode prog_47_method_39_code 149 = .ok (.iload 4, 2) := by decide +kernel
theorem d7_151 : decode prog_47_method_39_code 151 = .ok (.iload 5, 2) := by decide +kernel
theorem d7_153 : decode prog_47_method_39_code 153 = .ok (.iconst 1, 1) := by decide +kernel
theorem d7_154 : decode prog_47_method_39_code 154 = .ok (.iadd, 1) := by decide +kernel
theorem d7_155 : decode prog_47_method_39_code 155 = .ok (.iastore, 1) := by decide +kernel
theorem d7_156 : decode prog_47_method_39_code 156 = .ok (.iload 5, 2) := by decide +kernel
theorem d7_158 : decode prog_47_method_39_code 158 = .ok (.ireturn, 1) := by decide +kernel
theorem pn_rm7 : plainName "com/example/liaise/liaise/NodeTable" = true := by first | (simp [plainName, overriddenIn]; done) | decide +kernel
theorem pd_rm7_0 : parseMethodDescriptor "()I" = some ⟨[], some .int⟩ := by decide +kernel
theorem pd_rm7_1 : parseMethodDescriptor "(IIII)V" = some ⟨[.int, .int, .int, .int], none⟩ := by decide +kernel
theorem pd_rm7_2 : parseMethodDescriptor "(III)I" = some ⟨[.int, .int, .int], some .int⟩ := by decide +kernel
theorem ef_rm7 (m : MethodId) (x0 : Addr) (x1 : Int32) (x2 : Int32) (x3 : Int32) : entryFrame m #[(.ref x0), (.int x1), (.int x2), (.int x3)] 7 = mkF m 0 #[.val (.ref x0), .val (.int x1), .val (.int x2), .val (.int x3), .unset, .unset, .unset] [] := by first | (simp [entryFrame, mkF, argsToLocals, Value.category]; done) | rfl
def Q7 (Z : State) (a1 : Addr) (vr : Int32) (p3 : Int32) (N S : Addr) (sz : Int32) (gN gS : Nat → Int32) (w_variables w_kept w_held w_holding w_cache : Value) (h0 : Heap) (n0 : Nat) (v : Option Value) (h : Heap) (L : List Loc) : Prop := ∃ (r sz' : Int32) (gN' gS' : Nat → Int32), v = some (.int r) ∧ Fr n0 L ∧ Keep h0 h [a1, N, S] ∧ Fld Z h a1 "com/example/liaise/liaise/NodeTable" "size" "I" (.int sz') ∧ own_Ag Value.int Z h N .int (3072 : Int32) gN' ∧ own_Ag Value.int Z h S .int (2048 : Int32) gS' ∧ own_I vr sz' gN' gS' ∧ own_R sz sz' r p3 gN gN' ∧ Fld Z h a1 "com/example/liaise/liaise/NodeTable" "variables" "I" w_variables ∧ Fld Z h a1 "com/example/liaise/liaise/NodeTable" "nodes" "[I" (.ref N) ∧ Fld Z h a1 "com/example/liaise/liaise/NodeTable" "kept" "I" w_kept ∧ Fld Z h a1 "com/example/liaise/liaise/NodeTable" "held" "[I" w_held ∧ Fld Z h a1 "com/example/liaise/liaise/NodeTable" "holding" "I" w_holding ∧ Fld Z h a1 "com/example/liaise/liaise/NodeTable" "slots" "[I" (.ref S) ∧ Fld Z h a1 "com/example/liaise/liaise/NodeTable" "cache" "[I" w_cache
set_option maxRecDepth 65536 in
set_option maxHeartbeats 40000000 in
theorem rm7 (l : Launch) (Z : State) (a0 : Array Value) (hw : ∀ d ∈ tables_1, d.before a0 Z = true) (ws : List Jvm.Cond) (a1 : Addr) (vr : Int32) (p3 : Int32) (N S : Addr) (sz : Int32) (gN gS : Nat → Int32) (w_variables w_kept w_held w_holding w_cache : Value) (h0 : Heap) (n0 : Nat) (Z0 : n0 ≤ h0.size) (EX : Exa Z h0 a1 "com/example/liaise/liaise/NodeTable") (FN : Fld Z h0 a1 "com/example/liaise/liaise/NodeTable" "nodes" "[I" (.ref N)) (FS : Fld Z h0 a1 "com/example/liaise/liaise/NodeTable" "slots" "[I" (.ref S)) (FZ : Fld Z h0 a1 "com/example/liaise/liaise/NodeTable" "size" "I" (.int sz)) (AN : own_Ag Value.int Z h0 N .int (3072 : Int32) gN) (AS : own_Ag Value.int Z h0 S .int (2048 : Int32) gS) (g_a1 : n0 ≤ a1) (g_N : n0 ≤ N) (g_S : n0 ≤ S) (ne1 : a1 ≠ N) (ne2 : a1 ≠ S) (ne3 : N ≠ S) (I : own_I vr sz gN gS) (hm7 : sz.toInt ≤ 7) (O_variables : Fld Z h0 a1 "com/example/liaise/liaise/NodeTable" "variables" "I" w_variables) (O_kept : Fld Z h0 a1 "com/example/liaise/liaise/NodeTable" "kept" "I" w_kept) (O_held : Fld Z h0 a1 "com/example/liaise/liaise/NodeTable" "held" "[I" w_held) (O_holding : Fld Z h0 a1 "com/example/liaise/liaise/NodeTable" "holding" "I" w_holding) (O_cache : Fld Z h0 a1 "com/example/liaise/liaise/NodeTable" "cache" "[I" w_cache) :
    MetFree l (⟨"com/example/liaise/liaise/NodeTable", "unique", "(III)I"⟩ : MethodName) (head1 (Jvm.Cond.code (⟨"com/example/liaise/liaise/NodeTable", "unique", "(III)I"⟩ : MethodName) prog_47_method_39_code 7 (some .int) :: ws) ({ frames := 1, cells := 0, slots := 0, locals := 17 } : Room)) (fun a U => a = #[(.ref a1), (.int vr), (.int p3), (.int p3)] ∧ Z.Warmed39 U.vm ∧ U.heap = h0) (fun _ _ _ _ _ => True) (fun _ U o U' => ∃ v L, o = .returned v ∧ Q7 Z a1 vr p3 N S sz gN gS w_variables w_kept w_held w_holding w_cache h0 n0 v U'.heap L ∧ FrameEnd U o U' L ({ frames := 1, cells := 0, slots := 0, locals := 17 } : Room).cells ({ frames := 1, cells := 0, slots := 0, locals := 17 } : Room).slots) := by
  refine MetFree.of_bodySF (plainFor_of_name pn_rm7) hisR ?_
  intro p e s m args below meth c s₁ Bd hml0 hP hK
  obtain ⟨rfl, hZ, hh⟩ := hP
  have hx := Bd.exec
  have hby := Bd.bytes
  have hml : c.maxLocals = 7 := hml0
  have hown : s.vm.findClass "com/example/liaise/liaise/NodeTable" = some m.cls := findClass_of_methodNamed Bd.named
  have hnm := (name_of_methodNamed Bd.named Bd.method).1
  have X0 : Stand p l e ({ frames := 1, cells := 0, slots := 0, locals := 17 } : Room) s m #[(.ref a1), (.int vr), (.int p3), (.int p3)] below meth c s₁ [] 0 0 := Stand.of_body Bd
  have e0 : s₁.heap = h0 := by rw [← hh, Bd.state]; rfl
  have N0 := Fr.nil n0
  have pre0 : ∀ t, Steps p.tables e below (s₁.setTop (mkF m 0 #[.val (.ref a1), .val (.int vr), .val (.int p3), .val (.int p3), .unset, .unset, .unset] [])) t → Steps p.tables e below (s₁.setTop (entryFrame m #[(.ref a1), (.int vr), (.int p3), (.int p3)] 7)) t := fun t k => castTop (ef_rm7 m a1 vr p3 p3) k
  show own_Fin p e below _ _
  refine own_go pre0 ?_
  have fresh : ∀ (ix : Int32) (s5 s6 : Slot) (T : State) (locs : List Loc), 0 ≤ ix.toInt → ix.toInt < 2048 → (s5 = .unset ∨ ∃ z : Int32, s5 = .val (.int z)) → (s6 = .unset ∨ ∃ z : Int32, s6 = .val (.int z)) → Stand p l e ({ frames := 1, cells := 0, slots := 0, locals := 17 } : Room) s m #[(.ref a1), (.int vr), (.int p3), (.int p3)] below meth c T locs 0 0 → T.heap = h0 → Fr n0 locs → own_Fin p e below (fun o U' => ∃ v L, o = .returned v ∧ Q7 Z a1 vr p3 N S sz gN gS w_variables w_kept w_held w_holding w_cache h0 n0 v U'.heap L ∧ FrameEnd s o U' L ({ frames := 1, cells := 0, slots := 0, locals := 17 } : Room).cells ({ frames := 1, cells := 0, slots := 0, locals := 17 } : Room).slots) (T.setTop (mkF m 100 #[.val (.ref a1), .val (.int vr), .val (.int p3), .val (.int p3), .val (.int ix), s5, s6] [])) := by
    intro ix s5 s6 T locs hi0 hi1 hs5 hs6 X eT Nf
    refine own_go (B := T.setTop (mkF m 101 #[.val (.ref a1), .val (.int vr), .val (.int p3), .val (.int p3), .val (.int ix), s5, s6] [(.ref a1)])) (fun t k => ?_) ?_
    · show Steps p.tables e below (T.setTop (mkF m 100 #[.val (.ref a1), .val (.int vr), .val (.int p3), .val (.int p3), .val (.int ix), s5, s6] [])) t
      refine XS.aloadN X.here hx rfl (hb hby d7_100) rfl rfl ?_
      exact k
    obtain ⟨T1, X1, e1, st1⟩ := getF X hx hZ hown (host := "") (Or.inl (own_at hw 49 rfl)) Via.refl eT FZ (g := (mkF m 101 #[.val (.ref a1), .val (.int vr), .val (.int p3), .val (.int p3), .val (.int ix), s5, s6] [(.ref a1)])) rfl rfl (hb hby d7_101)
    refine own_go (fun t k => st1 t k) ?_
    refine own_go (B := T1.setTop (mkF m 105 #[.val (.ref a1), .val (.int vr), .val (.int p3), .val (.int p3), .val (.int ix), s5, s6] [(.ref a1), (.int sz)])) (fun t k => ?_) ?_
    · show Steps p.tables e below (T1.setTop (mkF m 104 #[.val (.ref a1), .val (.int vr), .val (.int p3), .val (.int p3), .val (.int ix), s5, s6] [(.int sz)])) t
      refine XS.aloadN X1.here hx rfl (hb hby d7_104) rfl rfl ?_
      exact k
    obtain ⟨cq2, q2, q2'⟩ := EX.cell
    obtain ⟨_, _, ⟨T2, L2, k2, n2⟩, -, X2, ⟨Lc2, hQ2, l2, y2, z2⟩, st2⟩ := X1.privateBack hx (y := (⟨"com/example/liaise/liaise/NodeTable", "capacity", "()I"⟩ : MethodName)) hown (mvT hZ (own_at hw 24 rfl)) (mvT hZ (own_at hw 25 rfl)) (mvT hZ (own_selp (y := (⟨"com/example/liaise/liaise/NodeTable", "capacity", "()I"⟩ : MethodName)) (own_at hw 1 rfl) (own_at hw 26 rfl) (own_at hw 25 rfl) (by decide))) (Cond.privateMethod_at (mvP hZ (own_at hw 26 rfl) (args := #[]))) (mvT hZ (own_at hw 27 rfl)) (by decide) (backOf (W := 1) (rm4 l Z a0 hw [] a1 N gN h0 n0 Z0 FN AN) hZ (own_at hw 27 rfl) (own_at hw 2 rfl) (by decide) (by decide)) (g := (mkF m 105 #[.val (.ref a1), .val (.int vr), .val (.int p3), .val (.int p3), .val (.int ix), s5, s6] [(.ref a1), (.int sz)])) rfl (by rw [hml]; rfl) (Steps.refl _) (a := a1) (by rw [e1]; exact q2) q2' (argsL := []) (rest := [(.int sz)]) (lenOf pd_rm7_0 rfl) rfl (by show 2 * 0 + _ ≤ _; exact Nat.le_of_eq rfl) (hb hby d7_105) (fun _ _ => ⟨rfl, e1, (by decide : 0 + 0 ≤ _), (by decide : 0 + 0 ≤ _)⟩)
    dsimp only [Pt.U, Pt.locs, Pt.cells, Pt.slots] at X2 l2 y2 z2 st2 hQ2
    subst l2 y2 z2
    obtain ⟨rfl, N2q, hh2⟩ := hQ2
    have N2 := Fr.app Nf N2q
    obtain ⟨LL2, X2, N2⟩ := own_abs X2 N2
    refine own_go (fun t k => st2.trans k) ?_
    refine own_go (B := T2.setTop (mkF m 125 #[.val (.ref a1), .val (.int vr), .val (.int p3), .val (.int p3), .val (.int ix), s5, s6] [(.ref a1), (.ref a1)])) (fun t k => ?_) ?_
    · show Steps p.tables e below (T2.setTop (mkF m 108 #[.val (.ref a1), .val (.int vr), .val (.int p3), .val (.int p3), .val (.int ix), s5, s6] [(.int 1024), (.int sz)])) t
      refine XS.icmpYes X2.here hx rfl (pc0 := 108) (pc' := 123) rfl (hb hby d7_108) rfl (feq (own_n1024 hm7 : ¬ (sz = (1024 : Int32)))).2 (by decide) (by decide) ?_
      refine XS.aloadN X2.here hx rfl (hb hby d7_123) rfl rfl ?_
      refine XS.dup X2.here hx rfl (hb hby d7_124) rfl rfl ?_
      exact k
    obtain ⟨T3, X3, e3, st3⟩ := getF X2 hx hZ hown (host := "") (Or.inl (own_at hw 49 rfl)) Via.refl hh2 FZ (g := (mkF m 125 #[.val (.ref a1), .val (.int vr), .val (.int p3), .val (.int p3), .val (.int ix), s5, s6] [(.ref a1), (.ref a1)])) rfl rfl (hb hby d7_125)
    refine own_go (fun t k => st3 t k) ?_
    refine own_go (B := T3.setTop (mkF m 131 #[.val (.ref a1), .val (.int vr), .val (.int p3), .val (.int p3), .val (.int ix), s5, s6] [(.int (sz + (1 : Int32))), (.ref a1), (.int sz)])) (fun t k => ?_) ?_
    · show Steps p.tables e below (T3.setTop (mkF m 128 #[.val (.ref a1), .val (.int vr), .val (.int p3), .val (.int p3), .val (.int ix), s5, s6] [(.int sz), (.ref a1)])) t
      refine XS.dupX1 X3.here hx rfl (hb hby d7_128) rfl rfl rfl ?_
      refine XS.iconst X3.here hx rfl (hb hby d7_129) ?_
      refine XS.iadd X3.here hx rfl (hb hby d7_130) rfl ?_
      exact k
    obtain ⟨T4, h4, X4, e4, W4, st4⟩ := putF X3 hx hZ hown (host := "") (Or.inl (own_at hw 49 rfl)) Via.refl e3 FZ EX (Or.inl (own_at hw 50 rfl)) (own_at hw 1 rfl) (ty := .int) (by decide) rfl rfl (g := (mkF m 131 #[.val (.ref a1), .val (.int vr), .val (.int p3), .val (.int p3), .val (.int ix), s5, s6] [(.int (sz + (1 : Int32))), (.ref a1), (.int sz)])) rfl rfl (hb hby d7_131)
    refine own_go (fun t k => st4 t k) ?_
    have N4 := Fr.snoc X4 N2 g_a1
    obtain ⟨LL4, X4, N4⟩ := own_abs X4 N4
    have K4 : Keep h0 h4 [a1, N, S] := (Keep.refl h0 [a1, N, S]).wr W4 (Or.inl (List.mem_of_getElem? (i := 0) rfl))
    have f4_0 := EX.wr W4
    have f4_1 := FN.other W4 (Or.inr (slot_ne (Or.inl (own_at hw 11 rfl)) (Or.inl (own_at hw 50 rfl)) (by decide) (t := (.array .int)) (t' := .int) (by decide) (by decide)))
    have f4_2 := FS.other W4 (Or.inr (slot_ne (Or.inl (own_at hw 17 rfl)) (Or.inl (own_at hw 50 rfl)) (by decide) (t := (.array .int)) (t' := .int) (by decide) (by decide)))
    have f4_3 := FZ.same W4
    have f4_4 := AN.other W4 (Ne.symm ne1)
    have f4_5 := AS.other W4 (Ne.symm ne2)
    have f4_6 := O_variables.other W4 (Or.inr (slot_ne (Or.inr (own_at hw 19 rfl)) (Or.inl (own_at hw 50 rfl)) (by decide) (t := .int) (t' := .int) (by decide) (by decide)))
    have f4_7 := O_kept.other W4 (Or.inr (slot_ne (Or.inl (own_at hw 13 rfl)) (Or.inl (own_at hw 50 rfl)) (by decide) (t := .int) (t' := .int) (by decide) (by decide)))
    have f4_8 := O_held.other W4 (Or.inr (slot_ne (Or.inl (own_at hw 15 rfl)) (Or.inl (own_at hw 50 rfl)) (by decide) (t := (.array .int)) (t' := .int) (by decide) (by decide)))
    have f4_9 := O_holding.other W4 (Or.inr (slot_ne (Or.inl (own_at hw 62 rfl)) (Or.inl (own_at hw 50 rfl)) (by decide) (t := .int) (t' := .int) (by decide) (by decide)))
    have f4_10 := O_cache.other W4 (Or.inr (slot_ne (Or.inl (own_at hw 29 rfl)) (Or.inl (own_at hw 50 rfl)) (by decide) (t := (.array .int)) (t' := .int) (by decide) (by decide)))
    refine own_go (B := T4.setTop (mkF m 142 #[.val (.ref a1), .val (.int vr), .val (.int p3), .val (.int p3), .val (.int ix), .val (.int sz), s6] [(.int p3), (.int p3), (.int vr), (.int sz), (.ref a1)])) (fun t k => ?_) ?_
    · show Steps p.tables e below (T4.setTop (mkF m 134 #[.val (.ref a1), .val (.int vr), .val (.int p3), .val (.int p3), .val (.int ix), s5, s6] [(.int sz)])) t
      refine XS.istore X4.here hx rfl (hb hby d7_134) rfl (l' := #[.val (.ref a1), .val (.int vr), .val (.int p3), .val (.int p3), .val (.int ix), .val (.int sz), s6]) (by rcases hs5 with rfl | ⟨z, rfl⟩ <;> rfl) ?_
      refine XS.aloadN X4.here hx rfl (hb hby d7_136) rfl rfl ?_
      refine XS.iload X4.here hx rfl (hb hby d7_137) rfl ?_
      refine XS.iloadN X4.here hx rfl (hb hby d7_139) rfl ?_
      refine XS.iloadN X4.here hx rfl (hb hby d7_140) rfl ?_
      show Steps p.tables e below (T4.setTop (mkF m 141 #[.val (.ref a1), .val (.int vr), .val (.int p3), .val (.int p3), .val (.int ix), .val (.int sz), s6] [(.int p3), (.int vr), (.int sz), (.ref a1)])) t
      refine XS.iloadN X4.here hx rfl (hb hby d7_141) rfl ?_
      exact k
    obtain ⟨cq5, q5, q5'⟩ := f4_0.cell
    obtain ⟨_, _, ⟨T5, L5, k5, n5⟩, -, X5, ⟨Lc5, hQ5, l5, y5, z5⟩, st5⟩ := X4.privateBack hx (y := (⟨"com/example/liaise/liaise/NodeTable", "place", "(IIII)V"⟩ : MethodName)) hown (mvT hZ (own_at hw 51 rfl)) (mvT hZ (own_at hw 52 rfl)) (mvT hZ (own_selp (y := (⟨"com/example/liaise/liaise/NodeTable", "place", "(IIII)V"⟩ : MethodName)) (own_at hw 1 rfl) (own_at hw 53 rfl) (own_at hw 52 rfl) (by decide))) (Cond.privateMethod_at (mvP hZ (own_at hw 53 rfl) (args := #[]))) (mvT hZ (own_at hw 54 rfl)) (by decide) (backOf (W := 0) (rm9 l Z a0 hw [] a1 sz vr p3 p3 N gN h4 n0 (Nat.le_trans Z0 (Keep.of_wr W4).1) f4_1 f4_4 g_N ne1 I.1 (Int.le_trans hm7 (by decide))) hZ (own_at hw 54 rfl) (own_at hw 2 rfl) (by decide) (by decide)) (g := (mkF m 142 #[.val (.ref a1), .val (.int vr), .val (.int p3), .val (.int p3), .val (.int ix), .val (.int sz), s6] [(.int p3), (.int p3), (.int vr), (.int sz), (.ref a1)])) rfl (by rw [hml]; rfl) (Steps.refl _) (a := a1) (by rw [e4]; exact q5) q5' (argsL := [(.int sz), (.int vr), (.int p3), (.int p3)]) (rest := []) (lenOf pd_rm7_1 rfl) rfl (by show 2 * 0 + _ ≤ _; exact Nat.le_of_eq rfl) (hb hby d7_142) (fun _ _ => ⟨rfl, e4, (by decide : 0 + 0 ≤ _), (by decide : 0 + 0 ≤ _)⟩)
    dsimp only [Pt.U, Pt.locs, Pt.cells, Pt.slots] at X5 l5 y5 z5 st5 hQ5
    subst l5 y5 z5
    obtain ⟨rfl, N5q, K5, gN5, An5, hpa5, hpb5, hpc5⟩ := hQ5
    have N5 := Fr.app N4 N5q
    obtain ⟨LL5, X5, N5⟩ := own_abs X5 N5
    refine own_go (fun t k => st5.trans k) ?_
    have KK5 : Keep h0 T5.heap [a1, N, S] := K4.trans K5 (allS (Or.inl (List.mem_of_getElem? (i := 1) rfl)) all0)
    have f5_0 := f4_0.keep K5
    have ni6 : a1 ∉ [N] := (ninS ne1 nin0)
    have f5_1 := f4_1.keep K5 ni6
    have f5_2 := f4_2.keep K5 ni6
    have f5_3 := f4_3.keep K5 ni6
    have ni7 : S ∉ [N] := (ninS (Ne.symm ne3) nin0)
    have f5_5 := f4_5.keep K5 ni7
    have f5_6 := f4_6.keep K5 ni6
    have f5_7 := f4_7.keep K5 ni6
    have f5_8 := f4_8.keep K5 ni6
    have f5_9 := f4_9.keep K5 ni6
    have f5_10 := f4_10.keep K5 ni6
    refine own_go (B := T5.setTop (mkF m 146 #[.val (.ref a1), .val (.int vr), .val (.int p3), .val (.int p3), .val (.int ix), .val (.int sz), s6] [(.ref a1)])) (fun t k => ?_) ?_
    · show Steps p.tables e below (T5.setTop (mkF m 145 #[.val (.ref a1), .val (.int vr), .val (.int p3), .val (.int p3), .val (.int ix), .val (.int sz), s6] [])) t
      refine XS.aloadN X5.here hx rfl (hb hby d7_145) rfl rfl ?_
      exact k
    obtain ⟨T8, X8, e8, st8⟩ := getF X5 hx hZ hown (host := "") (Or.inl (own_at hw 16 rfl)) Via.refl rfl f5_2 (g := (mkF m 146 #[.val (.ref a1), .val (.int vr), .val (.int p3), .val (.int p3), .val (.int ix), .val (.int sz), s6] [(.ref a1)])) rfl rfl (hb hby d7_146)
    refine own_go (fun t k => st8 t k) ?_
    refine own_go (B := T8.setTop (mkF m 155 #[.val (.ref a1), .val (.int vr), .val (.int p3), .val (.int p3), .val (.int ix), .val (.int sz), s6] [(.int (sz + (1 : Int32))), (.int ix), (.ref S)])) (fun t k => ?_) ?_
    · show Steps p.tables e below (T8.setTop (mkF m 149 #[.val (.ref a1), .val (.int vr), .val (.int p3), .val (.int p3), .val (.int ix), .val (.int sz), s6] [(.ref S)])) t
      refine XS.iload X8.here hx rfl (hb hby d7_149) rfl ?_
      refine XS.iload X8.here hx rfl (hb hby d7_151) rfl ?_
      refine XS.iconst X8.here hx rfl (hb hby d7_153) ?_
      refine XS.iadd X8.here hx rfl (hb hby d7_154) rfl ?_
      exact k
    obtain ⟨cl9, Ar9, hin9, -, -, -⟩ := f5_5.get (j := ix) (own_nneg hi0) (own_lt2 hi1)
    obtain ⟨T9, h9, X9, e9, W9, st9⟩ := stI X8 hx hZ e8 Ar9 (j := ix) hin9 (g := (mkF m 155 #[.val (.ref a1), .val (.int vr), .val (.int p3), .val (.int p3), .val (.int ix), .val (.int sz), s6] [(.int (sz + (1 : Int32))), (.int ix), (.ref S)])) rfl rfl (hb hby d7_155)
    refine own_go (fun t k => st9 t k) ?_
    have N9 := Fr.snoc X9 N5 g_S
    obtain ⟨LL9, X9, N9⟩ := own_abs X9 N9
    have K9 : Keep h0 h9 [a1, N, S] := KK5.wr W9 (Or.inl (List.mem_of_getElem? (i := 2) rfl))
    have f9_0 := f5_0.wr W9
    have f9_1 := f5_1.other W9 (Or.inl ne2)
    have f9_2 := f5_2.other W9 (Or.inl ne2)
    have f9_3 := f5_3.other W9 (Or.inl ne2)
    have f9_4 := f5_5.set W9
    have f9_5 := f5_6.other W9 (Or.inl ne2)
    have f9_6 := f5_7.other W9 (Or.inl ne2)
    have f9_7 := f5_8.other W9 (Or.inl ne2)
    have f9_8 := f5_9.other W9 (Or.inl ne2)
    have f9_9 := f5_10.other W9 (Or.inl ne2)
    have f9_10 := An5.other W9 ne3
    refine own_go (B := T9.setTop (mkF m 158 #[.val (.ref a1), .val (.int vr), .val (.int p3), .val (.int p3), .val (.int ix), .val (.int sz), s6] [(.int sz)])) (fun t k => ?_) ?_
    · show Steps p.tables e below (T9.setTop (mkF m 156 #[.val (.ref a1), .val (.int vr), .val (.int p3), .val (.int p3), .val (.int ix), .val (.int sz), s6] [])) t
      refine XS.iload X9.here hx rfl (hb hby d7_156) rfl ?_
      exact k
    obtain ⟨fs, hr, hrun, hended, hW, hsame⟩ := X9.leave (v := some (.int sz)) (fun h => by rw [Bd.returns] at h; cases h)
    refine ⟨_, _, ?_, hrun, hended, _, _, rfl, ?_, ⟨_, rfl⟩, hW, hsame.mono (by decide) (by decide)⟩
    · show Steps p.tables e below (T9.setTop (mkF m 158 #[.val (.ref a1), .val (.int vr), .val (.int p3), .val (.int p3), .val (.int ix), .val (.int sz), s6] [(.int sz)])) _
      exact retI X9 hx Bd.returns (hb hby d7_158) hr
    · show Q7 Z a1 vr p3 N S sz gN gS w_variables w_kept w_held w_holding w_cache h0 n0 _ T9.heap _
      rw [e9]
      exact ⟨sz, (sz + (1 : Int32)), gN5, _, rfl, N9, K9, f9_3, f9_10, f9_4, own_Inew I hm7 hpa5 hpc5, ⟨Or.inr ⟨rfl, rfl⟩, hpb5, fun j hj => hpc5 j (Or.inl hj)⟩, f9_5, f9_1, f9_6, f9_7, f9_8, f9_2, f9_9⟩
  have loop : ∀ (k : Nat) (Rem : List Nat) (b j : Nat) (ix : Int32) (s5 s6 : Slot) (T : State) (locs : List Loc), Rem.length = k → j + k ≤ 8 → own_P gS b j Rem → 0 ≤ ix.toInt → ix.toInt < 2048 → ix.toNatClampNeg = (b + j) % 2048 → (s5 = .unset ∨ ∃ z : Int32, s5 = .val (.int z)) → (s6 = .unset ∨ ∃ z : Int32, s6 = .val (.int z)) → Stand p l e ({ frames := 1, cells := 0, slots := 0, locals := 17 } : Room) s m #[(.ref a1), (.int vr), (.int p3), (.int p3)] below meth c T locs 0 0 → T.heap = h0 → Fr n0 locs → own_Fin p e below (fun o U' => ∃ v L, o = .returned v ∧ Q7 Z a1 vr p3 N S sz gN gS w_variables w_kept w_held w_holding w_cache h0 n0 v U'.heap L ∧ FrameEnd s o U' L ({ frames := 1, cells := 0, slots := 0, locals := 17 } : Room).cells ({ frames := 1, cells := 0, slots := 0, locals := 17 } : Room).slots) (T.setTop (mkF m 16 #[.val (.ref a1), .val (.int vr), .val (.int p3), .val (.int p3), .val (.int ix), s5, s6] [])) := by
    intro k
    induction k with
    | zero =>
      intro Rem b j ix s5 s6 T locs hl hj P hi0 hi1 hix hs5 hs6 X eT Nf
      have hz : gS (ix).toNatClampNeg = (0 : Int32) := Classical.byContradiction fun q => by
        obtain ⟨R', hR, -⟩ := own_Pstep P hix q (by omega)
        omega
      refine own_go (B := T.setTop (mkF m 17 #[.val (.ref a1), .val (.int vr), .val (.int p3), .val (.int p3), .val (.int ix), s5, s6] [(.ref a1)])) (fun t k => ?_) ?_
      · show Steps p.tables e below (T.setTop (mkF m 16 #[.val (.ref a1), .val (.int vr), .val (.int p3), .val (.int p3), .val (.int ix), s5, s6] [])) t
        refine XS.aloadN X.here hx rfl (hb hby d7_16) rfl rfl ?_
        exact k
      obtain ⟨T10, X10, e10, st10⟩ := getF X hx hZ hown (host := "") (Or.inl (own_at hw 16 rfl)) Via.refl eT FS (g := (mkF m 17 #[.val (.ref a1), .val (.int vr), .val (.int p3), .val (.int p3), .val (.int ix), s5, s6] [(.ref a1)])) rfl rfl (hb hby d7_17)
      refine own_go (fun t k => st10 t k) ?_
      refine own_go (B := T10.setTop (mkF m 22 #[.val (.ref a1), .val (.int vr), .val (.int p3), .val (.int p3), .val (.int ix), s5, s6] [(.int ix), (.ref S)])) (fun t k => ?_) ?_
      · show Steps p.tables e below (T10.setTop (mkF m 20 #[.val (.ref a1), .val (.int vr), .val (.int p3), .val (.int p3), .val (.int ix), s5, s6] [(.ref S)])) t
        refine XS.iload X10.here hx rfl (hb hby d7_20) rfl ?_
        exact k
      obtain ⟨cl11, Ar11, hin11, hat11, -, -⟩ := AS.get (j := ix) (own_nneg hi0) (own_lt2 hi1)
      refine own_go (X10.iaload hx (j := ix) (v := (.int (gS (ix).toNatClampNeg))) (by rw [e10]; exact Ar11.1) (State.isArrayOf_alike hZ.alike Ar11.2.1) Ar11.2.2 hin11 hat11 (g := (mkF m 22 #[.val (.ref a1), .val (.int vr), .val (.int p3), .val (.int p3), .val (.int ix), s5, s6] [(.int ix), (.ref S)])) rfl rfl (hb hby d7_22)) ?_
      refine own_go (B := T10.setTop (mkF m 100 #[.val (.ref a1), .val (.int vr), .val (.int p3), .val (.int p3), .val (.int ix), s5, s6] [])) (fun t k => ?_) ?_
      · show Steps p.tables e below (T10.setTop (mkF m 23 #[.val (.ref a1), .val (.int vr), .val (.int p3), .val (.int p3), .val (.int ix), s5, s6] [(.int (gS (ix).toNatClampNeg))])) t
        refine XS.ifYes X10.here hx rfl (pc0 := 23) (pc' := 100) rfl (hb hby d7_23) rfl ((if0 _ _).trans (teq (hz : (gS (ix).toNatClampNeg) = (0 : Int32))).1) (by decide) (by decide) ?_
        exact k
      exact fresh _ _ _ _ _ hi0 hi1 hs5 hs6 X10 e10 Nf
    | succ k ih =>
      intro Rem b j ix s5 s6 T locs hl hj P hi0 hi1 hix hs5 hs6 X eT Nf
      refine own_go (B := T.setTop (mkF m 17 #[.val (.ref a1), .val (.int vr), .val (.int p3), .val (.int p3), .val (.int ix), s5, s6] [(.ref a1)])) (fun t k => ?_) ?_
      · show Steps p.tables e below (T.setTop (mkF m 16 #[.val (.ref a1), .val (.int vr), .val (.int p3), .val (.int p3), .val (.int ix), s5, s6] [])) t
        refine XS.aloadN X.here hx rfl (hb hby d7_16) rfl rfl ?_
        exact k
      obtain ⟨T12, X12, e12, st12⟩ := getF X hx hZ hown (host := "") (Or.inl (own_at hw 16 rfl)) Via.refl eT FS (g := (mkF m 17 #[.val (.ref a1), .val (.int vr), .val (.int p3), .val (.int p3), .val (.int ix), s5, s6] [(.ref a1)])) rfl rfl (hb hby d7_17)
      refine own_go (fun t k => st12 t k) ?_
      refine own_go (B := T12.setTop (mkF m 22 #[.val (.ref a1), .val (.int vr), .val (.int p3), .val (.int p3), .val (.int ix), s5, s6] [(.int ix), (.ref S)])) (fun t k => ?_) ?_
      · show Steps p.tables e below (T12.setTop (mkF m 20 #[.val (.ref a1), .val (.int vr), .val (.int p3), .val (.int p3), .val (.int ix), s5, s6] [(.ref S)])) t
        refine XS.iload X12.here hx rfl (hb hby d7_20) rfl ?_
        exact k
      obtain ⟨cl13, Ar13, hin13, hat13, -, -⟩ := AS.get (j := ix) (own_nneg hi0) (own_lt2 hi1)
      refine own_go (X12.iaload hx (j := ix) (v := (.int (gS (ix).toNatClampNeg))) (by rw [e12]; exact Ar13.1) (State.isArrayOf_alike hZ.alike Ar13.2.1) Ar13.2.2 hin13 hat13 (g := (mkF m 22 #[.val (.ref a1), .val (.int vr), .val (.int p3), .val (.int p3), .val (.int ix), s5, s6] [(.int ix), (.ref S)])) rfl rfl (hb hby d7_22)) ?_
      by_cases hc23_14 : (gS (ix).toNatClampNeg) = (0 : Int32)
      · refine own_go (B := T12.setTop (mkF m 100 #[.val (.ref a1), .val (.int vr), .val (.int p3), .val (.int p3), .val (.int ix), s5, s6] [])) (fun t k => ?_) ?_
        · show Steps p.tables e below (T12.setTop (mkF m 23 #[.val (.ref a1), .val (.int vr), .val (.int p3), .val (.int p3), .val (.int ix), s5, s6] [(.int (gS (ix).toNatClampNeg))])) t
          refine XS.ifYes X12.here hx rfl (pc0 := 23) (pc' := 100) rfl (hb hby d7_23) rfl ((if0 _ _).trans (teq hc23_14).1) (by decide) (by decide) ?_
          exact k
        exact fresh _ _ _ _ _ hi0 hi1 hs5 hs6 X12 e12 Nf
      · refine own_go (B := T12.setTop (mkF m 26 #[.val (.ref a1), .val (.int vr), .val (.int p3), .val (.int p3), .val (.int ix), s5, s6] [])) (fun t k => ?_) ?_
        · show Steps p.tables e below (T12.setTop (mkF m 23 #[.val (.ref a1), .val (.int vr), .val (.int p3), .val (.int p3), .val (.int ix), s5, s6] [(.int (gS (ix).toNatClampNeg))])) t
          refine XS.ifNo X12.here hx rfl (hb hby d7_23) rfl ((if0 _ _).trans (feq hc23_14).1) ?_
          exact k
        refine own_go (B := T12.setTop (mkF m 27 #[.val (.ref a1), .val (.int vr), .val (.int p3), .val (.int p3), .val (.int ix), s5, s6] [(.ref a1)])) (fun t k => ?_) ?_
        · refine XS.aloadN X12.here hx rfl (hb hby d7_26) rfl rfl ?_
          exact k
        obtain ⟨T15, X15, e15, st15⟩ := getF X12 hx hZ hown (host := "") (Or.inl (own_at hw 16 rfl)) Via.refl e12 FS (g := (mkF m 27 #[.val (.ref a1), .val (.int vr), .val (.int p3), .val (.int p3), .val (.int ix), s5, s6] [(.ref a1)])) rfl rfl (hb hby d7_27)
        refine own_go (fun t k => st15 t k) ?_
        refine own_go (B := T15.setTop (mkF m 32 #[.val (.ref a1), .val (.int vr), .val (.int p3), .val (.int p3), .val (.int ix), s5, s6] [(.int ix), (.ref S)])) (fun t k => ?_) ?_
        · show Steps p.tables e below (T15.setTop (mkF m 30 #[.val (.ref a1), .val (.int vr), .val (.int p3), .val (.int p3), .val (.int ix), s5, s6] [(.ref S)])) t
          refine XS.iload X15.here hx rfl (hb hby d7_30) rfl ?_
          exact k
        obtain ⟨cl16, Ar16, hin16, hat16, -, -⟩ := AS.get (j := ix) (own_nneg hi0) (own_lt2 hi1)
        refine own_go (X15.iaload hx (j := ix) (v := (.int (gS (ix).toNatClampNeg))) (by rw [e15]; exact Ar16.1) (State.isArrayOf_alike hZ.alike Ar16.2.1) Ar16.2.2 hin16 hat16 (g := (mkF m 32 #[.val (.ref a1), .val (.int vr), .val (.int p3), .val (.int p3), .val (.int ix), s5, s6] [(.int ix), (.ref S)])) rfl rfl (hb hby d7_32)) ?_
        refine own_go (B := T15.setTop (mkF m 37 #[.val (.ref a1), .val (.int vr), .val (.int p3), .val (.int p3), .val (.int ix), .val (.int ((gS (ix).toNatClampNeg) - (1 : Int32))), s6] [])) (fun t k => ?_) ?_
        · show Steps p.tables e below (T15.setTop (mkF m 33 #[.val (.ref a1), .val (.int vr), .val (.int p3), .val (.int p3), .val (.int ix), s5, s6] [(.int (gS (ix).toNatClampNeg))])) t
          refine XS.iconst X15.here hx rfl (hb hby d7_33) ?_
          refine XS.isub X15.here hx rfl (hb hby d7_34) rfl ?_
          refine XS.istore X15.here hx rfl (hb hby d7_35) rfl (l' := #[.val (.ref a1), .val (.int vr), .val (.int p3), .val (.int p3), .val (.int ix), .val (.int ((gS (ix).toNatClampNeg) - (1 : Int32))), s6]) (by rcases hs5 with rfl | ⟨z, rfl⟩ <;> rfl) ?_
          exact k
        obtain ⟨nd, hnd⟩ : ∃ z : Int32, z = ((gS (ix).toNatClampNeg) - (1 : Int32)) := ⟨_, rfl⟩
        rw [← hnd]
        obtain ⟨R', hR, P'⟩ := own_Pstep P hix hc23_14 (by omega)
        have hS := I.2.2.1 ix.toNatClampNeg (by omega)
        obtain ⟨c0, c9⟩ : 0 ≤ nd.toInt ∧ nd.toInt < sz.toInt := hnd ▸ own_nd hS.1 hS.2 I.2.1 hc23_14
        have c8 : nd.toInt ≤ 8 := by omega
        have mn := own_nat c0
        have mz := own_nat I.1
        have hvr : gN ((3 : Int32) * nd).toNatClampNeg = vr := by
          rw [(own_i3 c0 c8).2.2.1]
          exact I.2.2.2.1 _ (by omega)
        refine own_go (B := T15.setTop (mkF m 44 #[.val (.ref a1), .val (.int vr), .val (.int p3), .val (.int p3), .val (.int ix), .val (.int nd), .val (.int ((3 : Int32) * nd))] [(.ref a1)])) (fun t k => ?_) ?_
        · show Steps p.tables e below (T15.setTop (mkF m 37 #[.val (.ref a1), .val (.int vr), .val (.int p3), .val (.int p3), .val (.int ix), .val (.int nd), s6] [])) t
          refine XS.iconst X15.here hx rfl (hb hby d7_37) ?_
          refine XS.iload X15.here hx rfl (hb hby d7_38) rfl ?_
          refine XS.imul X15.here hx rfl (hb hby d7_40) rfl ?_
          refine XS.istore X15.here hx rfl (hb hby d7_41) rfl (l' := #[.val (.ref a1), .val (.int vr), .val (.int p3), .val (.int p3), .val (.int ix), .val (.int nd), .val (.int ((3 : Int32) * nd))]) (by rcases hs6 with rfl | ⟨z, rfl⟩ <;> rfl) ?_
          refine XS.aloadN X15.here hx rfl (hb hby d7_43) rfl rfl ?_
          exact k
        obtain ⟨T17, X17, e17, st17⟩ := getF X15 hx hZ hown (host := "") (Or.inl (own_at hw 10 rfl)) Via.refl e15 FN (g := (mkF m 44 #[.val (.ref a1), .val (.int vr), .val (.int p3), .val (.int p3), .val (.int ix), .val (.int nd), .val (.int ((3 : Int32) * nd))] [(.ref a1)])) rfl rfl (hb hby d7_44)
        refine own_go (fun t k => st17 t k) ?_
        refine own_go (B := T17.setTop (mkF m 49 #[.val (.ref a1), .val (.int vr), .val (.int p3), .val (.int p3), .val (.int ix), .val (.int nd), .val (.int ((3 : Int32) * nd))] [(.int ((3 : Int32) * nd)), (.ref N)])) (fun t k => ?_) ?_
        · show Steps p.tables e below (T17.setTop (mkF m 47 #[.val (.ref a1), .val (.int vr), .val (.int p3), .val (.int p3), .val (.int ix), .val (.int nd), .val (.int ((3 : Int32) * nd))] [(.ref N)])) t
          refine XS.iload X17.here hx rfl (hb hby d7_47) rfl ?_
          exact k
        obtain ⟨cl18, Ar18, hin18, hat18, -, -⟩ := AN.get (j := ((3 : Int32) * nd)) (own_i3 c0 c8).1 (own_i3 c0 c8).2.1
        refine own_go (X17.iaload hx (j := ((3 : Int32) * nd)) (v := (.int (gN (((3 : Int32) * nd)).toNatClampNeg))) (by rw [e17]; exact Ar18.1) (State.isArrayOf_alike hZ.alike Ar18.2.1) Ar18.2.2 hin18 hat18 (g := (mkF m 49 #[.val (.ref a1), .val (.int vr), .val (.int p3), .val (.int p3), .val (.int ix), .val (.int nd), .val (.int ((3 : Int32) * nd))] [(.int ((3 : Int32) * nd)), (.ref N)])) rfl rfl (hb hby d7_49)) ?_
        refine own_go (B := T17.setTop (mkF m 55 #[.val (.ref a1), .val (.int vr), .val (.int p3), .val (.int p3), .val (.int ix), .val (.int nd), .val (.int ((3 : Int32) * nd))] [(.ref a1)])) (fun t k => ?_) ?_
        · show Steps p.tables e below (T17.setTop (mkF m 50 #[.val (.ref a1), .val (.int vr), .val (.int p3), .val (.int p3), .val (.int ix), .val (.int nd), .val (.int ((3 : Int32) * nd))] [(.int (gN (((3 : Int32) * nd)).toNatClampNeg))])) t
          refine XS.iloadN X17.here hx rfl (hb hby d7_50) rfl ?_
          show Steps p.tables e below (T17.setTop (mkF m 51 #[.val (.ref a1), .val (.int vr), .val (.int p3), .val (.int p3), .val (.int ix), .val (.int nd), .val (.int ((3 : Int32) * nd))] [(.int vr), (.int (gN (((3 : Int32) * nd)).toNatClampNeg))])) t
          refine XS.icmpNo X17.here hx rfl (hb hby d7_51) rfl (teq (hvr : (gN (((3 : Int32) * nd)).toNatClampNeg) = vr)).2 ?_
          refine XS.aloadN X17.here hx rfl (hb hby d7_54) rfl rfl ?_
          exact k
        obtain ⟨T19, X19, e19, st19⟩ := getF X17 hx hZ hown (host := "") (Or.inl (own_at hw 10 rfl)) Via.refl e17 FN (g := (mkF m 55 #[.val (.ref a1), .val (.int vr), .val (.int p3), .val (.int p3), .val (.int ix), .val (.int nd), .val (.int ((3 : Int32) * nd))] [(.ref a1)])) rfl rfl (hb hby d7_55)
        refine own_go (fun t k => st19 t k) ?_
        refine own_go (B := T19.setTop (mkF m 62 #[.val (.ref a1), .val (.int vr), .val (.int p3), .val (.int p3), .val (.int ix), .val (.int nd), .val (.int ((3 : Int32) * nd))] [(.int (((3 : Int32) * nd) + (1 : Int32))), (.ref N)])) (fun t k => ?_) ?_
        · show Steps p.tables e below (T19.setTop (mkF m 58 #[.val (.ref a1), .val (.int vr), .val (.int p3), .val (.int p3), .val (.int ix), .val (.int nd), .val (.int ((3 : Int32) * nd))] [(.ref N)])) t
          refine XS.iload X19.here hx rfl (hb hby d7_58) rfl ?_
          refine XS.iconst X19.here hx rfl (hb hby d7_60) ?_
          refine XS.iadd X19.here hx rfl (hb hby d7_61) rfl ?_
          exact k
        obtain ⟨cl20, Ar20, hin20, hat20, -, -⟩ := AN.get (j := (((3 : Int32) * nd) + (1 : Int32))) (own_i3 c0 c8).2.2.2.1 (own_i3 c0 c8).2.2.2.2.1
        refine own_go (X19.iaload hx (j := (((3 : Int32) * nd) + (1 : Int32))) (v := (.int (gN ((((3 : Int32) * nd) + (1 : Int32))).toNatClampNeg))) (by rw [e19]; exact Ar20.1) (State.isArrayOf_alike hZ.alike Ar20.2.1) Ar20.2.2 hin20 hat20 (g := (mkF m 62 #[.val (.ref a1), .val (.int vr), .val (.int p3), .val (.int p3), .val (.int ix), .val (.int nd), .val (.int ((3 : Int32) * nd))] [(.int (((3 : Int32) * nd) + (1 : Int32))), (.ref N)])) rfl rfl (hb hby d7_62)) ?_
        refine own_go (B := T19.setTop (mkF m 64 #[.val (.ref a1), .val (.int vr), .val (.int p3), .val (.int p3), .val (.int ix), .val (.int nd), .val (.int ((3 : Int32) * nd))] [(.int p3), (.int (gN ((((3 : Int32) * nd) + (1 : Int32))).toNatClampNeg))])) (fun t k => ?_) ?_
        · show Steps p.tables e below (T19.setTop (mkF m 63 #[.val (.ref a1), .val (.int vr), .val (.int p3), .val (.int p3), .val (.int ix), .val (.int nd), .val (.int ((3 : Int32) * nd))] [(.int (gN ((((3 : Int32) * nd) + (1 : Int32))).toNatClampNeg))])) t
          refine XS.iloadN X19.here hx rfl (hb hby d7_63) rfl ?_
          exact k
        by_cases hc64_21 : (gN ((((3 : Int32) * nd) + (1 : Int32))).toNatClampNeg) = p3
        · refine own_go (B := T19.setTop (mkF m 67 #[.val (.ref a1), .val (.int vr), .val (.int p3), .val (.int p3), .val (.int ix), .val (.int nd), .val (.int ((3 : Int32) * nd))] [])) (fun t k => ?_) ?_
          · refine XS.icmpNo X19.here hx rfl (hb hby d7_64) rfl (teq hc64_21).2 ?_
            exact k
          refine own_go (B := T19.setTop (mkF m 68 #[.val (.ref a1), .val (.int vr), .val (.int p3), .val (.int p3), .val (.int ix), .val (.int nd), .val (.int ((3 : Int32) * nd))] [(.ref a1)])) (fun t k => ?_) ?_
          · refine XS.aloadN X19.here hx rfl (hb hby d7_67) rfl rfl ?_
            exact k
          obtain ⟨T22, X22, e22, st22⟩ := getF X19 hx hZ hown (host := "") (Or.inl (own_at hw 10 rfl)) Via.refl e19 FN (g := (mkF m 68 #[.val (.ref a1), .val (.int vr), .val (.int p3), .val (.int p3), .val (.int ix), .val (.int nd), .val (.int ((3 : Int32) * nd))] [(.ref a1)])) rfl rfl (hb hby d7_68)
          refine own_go (fun t k => st22 t k) ?_
          refine own_go (B := T22.setTop (mkF m 75 #[.val (.ref a1), .val (.int vr), .val (.int p3), .val (.int p3), .val (.int ix), .val (.int nd), .val (.int ((3 : Int32) * nd))] [(.int (((3 : Int32) * nd) + (2 : Int32))), (.ref N)])) (fun t k => ?_) ?_
          · show Steps p.tables e below (T22.setTop (mkF m 71 #[.val (.ref a1), .val (.int vr), .val (.int p3), .val (.int p3), .val (.int ix), .val (.int nd), .val (.int ((3 : Int32) * nd))] [(.ref N)])) t
            refine XS.iload X22.here hx rfl (hb hby d7_71) rfl ?_
            refine XS.iconst X22.here hx rfl (hb hby d7_73) ?_
            refine XS.iadd X22.here hx rfl (hb hby d7_74) rfl ?_
            exact k
          obtain ⟨cl23, Ar23, hin23, hat23, -, -⟩ := AN.get (j := (((3 : Int32) * nd) + (2 : Int32))) (own_i3 c0 c8).2.2.2.2.2.2.1 (own_i3 c0 c8).2.2.2.2.2.2.2.1
          refine own_go (X22.iaload hx (j := (((3 : Int32) * nd) + (2 : Int32))) (v := (.int (gN ((((3 : Int32) * nd) + (2 : Int32))).toNatClampNeg))) (by rw [e22]; exact Ar23.1) (State.isArrayOf_alike hZ.alike Ar23.2.1) Ar23.2.2 hin23 hat23 (g := (mkF m 75 #[.val (.ref a1), .val (.int vr), .val (.int p3), .val (.int p3), .val (.int ix), .val (.int nd), .val (.int ((3 : Int32) * nd))] [(.int (((3 : Int32) * nd) + (2 : Int32))), (.ref N)])) rfl rfl (hb hby d7_75)) ?_
          refine own_go (B := T22.setTop (mkF m 77 #[.val (.ref a1), .val (.int vr), .val (.int p3), .val (.int p3), .val (.int ix), .val (.int nd), .val (.int ((3 : Int32) * nd))] [(.int p3), (.int (gN ((((3 : Int32) * nd) + (2 : Int32))).toNatClampNeg))])) (fun t k => ?_) ?_
          · show Steps p.tables e below (T22.setTop (mkF m 76 #[.val (.ref a1), .val (.int vr), .val (.int p3), .val (.int p3), .val (.int ix), .val (.int nd), .val (.int ((3 : Int32) * nd))] [(.int (gN ((((3 : Int32) * nd) + (2 : Int32))).toNatClampNeg))])) t
            refine XS.iloadN X22.here hx rfl (hb hby d7_76) rfl ?_
            exact k
          by_cases hc77_24 : (gN ((((3 : Int32) * nd) + (2 : Int32))).toNatClampNeg) = p3
          · refine own_go (B := T22.setTop (mkF m 80 #[.val (.ref a1), .val (.int vr), .val (.int p3), .val (.int p3), .val (.int ix), .val (.int nd), .val (.int ((3 : Int32) * nd))] [])) (fun t k => ?_) ?_
            · refine XS.icmpNo X22.here hx rfl (hb hby d7_77) rfl (teq hc77_24).2 ?_
              exact k
            refine own_go (B := T22.setTop (mkF m 82 #[.val (.ref a1), .val (.int vr), .val (.int p3), .val (.int p3), .val (.int ix), .val (.int nd), .val (.int ((3 : Int32) * nd))] [(.int nd)])) (fun t k => ?_) ?_
            · refine XS.iload X22.here hx rfl (hb hby d7_80) rfl ?_
              exact k
            obtain ⟨fs, hr, hrun, hended, hW, hsame⟩ := X22.leave (v := some (.int nd)) (fun h => by rw [Bd.returns] at h; cases h)
            refine ⟨_, _, ?_, hrun, hended, _, _, rfl, ?_, ⟨_, rfl⟩, hW, hsame.mono (by decide) (by decide)⟩
            · show Steps p.tables e below (T22.setTop (mkF m 82 #[.val (.ref a1), .val (.int vr), .val (.int p3), .val (.int p3), .val (.int ix), .val (.int nd), .val (.int ((3 : Int32) * nd))] [(.int nd)])) _
              exact retI X22 hx Bd.returns (hb hby d7_82) hr
            · show Q7 Z a1 vr p3 N S sz gN gS w_variables w_kept w_held w_holding w_cache h0 n0 _ T22.heap _
              rw [e22]
              exact ⟨nd, sz, gN, gS, rfl, Nf, (Keep.refl h0 [a1, N, S]), FZ, AN, AS, I, ⟨Or.inl ⟨rfl, c0, c9⟩, (congrArg gN (own_i3 c0 c8).2.2.2.2.2.1).symm.trans hc64_21, fun j hj => rfl⟩, O_variables, FN, O_kept, O_held, O_holding, FS, O_cache⟩
          · refine own_go (B := T22.setTop (mkF m 83 #[.val (.ref a1), .val (.int vr), .val (.int p3), .val (.int p3), .val (.int ix), .val (.int nd), .val (.int ((3 : Int32) * nd))] [])) (fun t k => ?_) ?_
            · refine XS.icmpYes X22.here hx rfl (pc0 := 77) (pc' := 83) rfl (hb hby d7_77) rfl (feq hc77_24).2 (by decide) (by decide) ?_
              exact k
            refine own_go (B := T22.setTop (mkF m 88 #[.val (.ref a1), .val (.int vr), .val (.int p3), .val (.int p3), .val (.int ix), .val (.int nd), .val (.int ((3 : Int32) * nd))] [(.ref a1), (.int (ix + (1 : Int32)))])) (fun t k => ?_) ?_
            · refine XS.iload X22.here hx rfl (hb hby d7_83) rfl ?_
              refine XS.iconst X22.here hx rfl (hb hby d7_85) ?_
              refine XS.iadd X22.here hx rfl (hb hby d7_86) rfl ?_
              refine XS.aloadN X22.here hx rfl (hb hby d7_87) rfl rfl ?_
              exact k
            obtain ⟨T25, X25, e25, st25⟩ := getF X22 hx hZ hown (host := "") (Or.inl (own_at hw 16 rfl)) Via.refl e22 FS (g := (mkF m 88 #[.val (.ref a1), .val (.int vr), .val (.int p3), .val (.int p3), .val (.int ix), .val (.int nd), .val (.int ((3 : Int32) * nd))] [(.ref a1), (.int (ix + (1 : Int32)))])) rfl rfl (hb hby d7_88)
            refine own_go (fun t k => st25 t k) ?_
            obtain ⟨cl26, Ar26, S26, q26⟩ := AS.len
            refine own_go (X25.arraylength hx (by rw [e25]; exact Ar26.1) (State.isArrayOf_alike hZ.alike Ar26.2.1) (g := (mkF m 91 #[.val (.ref a1), .val (.int vr), .val (.int p3), .val (.int p3), .val (.int ix), .val (.int nd), .val (.int ((3 : Int32) * nd))] [(.ref S), (.int (ix + (1 : Int32)))])) rfl rfl (hb hby d7_91)) ?_
            rw [len_of S26 q26]
            refine own_go (B := T25.setTop (mkF m 16 #[.val (.ref a1), .val (.int vr), .val (.int p3), .val (.int p3), .val (.int ((ix + (1 : Int32)) &&& ((2048 : Int32) - (1 : Int32)))), .val (.int nd), .val (.int ((3 : Int32) * nd))] [])) (fun t k => ?_) ?_
            · show Steps p.tables e below (T25.setTop (mkF m 92 #[.val (.ref a1), .val (.int vr), .val (.int p3), .val (.int p3), .val (.int ix), .val (.int nd), .val (.int ((3 : Int32) * nd))] [(.int 2048), (.int (ix + (1 : Int32)))])) t
              refine XS.iconst X25.here hx rfl (hb hby d7_92) ?_
              refine XS.isub X25.here hx rfl (hb hby d7_93) rfl ?_
              refine XS.iand X25.here hx rfl (hb hby d7_94) rfl ?_
              refine XS.istore X25.here hx rfl (hb hby d7_95) rfl (l' := #[.val (.ref a1), .val (.int vr), .val (.int p3), .val (.int p3), .val (.int ((ix + (1 : Int32)) &&& ((2048 : Int32) - (1 : Int32)))), .val (.int nd), .val (.int ((3 : Int32) * nd))]) rfl ?_
              refine XS.goto X25.here hx rfl (pc0 := 97) (pc' := 16) rfl (hb hby d7_97) (by decide) (by decide) ?_
              exact k
            exact ih R' b (j + 1) _ _ _ _ _ (by omega) (by omega) P' (own_ix _).1 (own_ix _).2 (own_next hi0 hi1 hix) (Or.inr ⟨_, rfl⟩) (Or.inr ⟨_, rfl⟩) X25 e25 Nf
        · refine own_go (B := T19.setTop (mkF m 83 #[.val (.ref a1), .val (.int vr), .val (.int p3), .val (.int p3), .val (.int ix), .val (.int nd), .val (.int ((3 : Int32) * nd))] [])) (fun t k => ?_) ?_
          · refine XS.icmpYes X19.here hx rfl (pc0 := 64) (pc' := 83) rfl (hb hby d7_64) rfl (feq hc64_21).2 (by decide) (by decide) ?_
            exact k
          refine own_go (B := T19.setTop (mkF m 88 #[.val (.ref a1), .val (.int vr), .val (.int p3), .val (.int p3), .val (.int ix), .val (.int nd), .val (.int ((3 : Int32) * nd))] [(.ref a1), (.int (ix + (1 : Int32)))])) (fun t k => ?_) ?_
          · refine XS.iload X19.here hx rfl (hb hby d7_83) rfl ?_
            refine XS.iconst X19.here hx rfl (hb hby d7_85) ?_
            refine XS.iadd X19.here hx rfl (hb hby d7_86) rfl ?_
            refine XS.aloadN X19.here hx rfl (hb hby d7_87) rfl rfl ?_
            exact k
          obtain ⟨T27, X27, e27, st27⟩ := getF X19 hx hZ hown (host := "") (Or.inl (own_at hw 16 rfl)) Via.refl e19 FS (g := (mkF m 88 #[.val (.ref a1), .val (.int vr), .val (.int p3), .val (.int p3), .val (.int ix), .val (.int nd), .val (.int ((3 : Int32) * nd))] [(.ref a1), (.int (ix + (1 : Int32)))])) rfl rfl (hb hby d7_88)
          refine own_go (fun t k => st27 t k) ?_
          obtain ⟨cl28, Ar28, S28, q28⟩ := AS.len
          refine own_go (X27.arraylength hx (by rw [e27]; exact Ar28.1) (State.isArrayOf_alike hZ.alike Ar28.2.1) (g := (mkF m 91 #[.val (.ref a1), .val (.int vr), .val (.int p3), .val (.int p3), .val (.int ix), .val (.int nd), .val (.int ((3 : Int32) * nd))] [(.ref S), (.int (ix + (1 : Int32)))])) rfl rfl (hb hby d7_91)) ?_
          rw [len_of S28 q28]
          refine own_go (B := T27.setTop (mkF m 16 #[.val (.ref a1), .val (.int vr), .val (.int p3), .val (.int p3), .val (.int ((ix + (1 : Int32)) &&& ((2048 : Int32) - (1 : Int32)))), .val (.int nd), .val (.int ((3 : Int32) * nd))] [])) (fun t k => ?_) ?_
          · show Steps p.tables e below (T27.setTop (mkF m 92 #[.val (.ref a1), .val (.int vr), .val (.int p3), .val (.int p3), .val (.int ix), .val (.int nd), .val (.int ((3 : Int32) * nd))] [(.int 2048), (.int (ix + (1 : Int32)))])) t
            refine XS.iconst X27.here hx rfl (hb hby d7_92) ?_
            refine XS.isub X27.here hx rfl (hb hby d7_93) rfl ?_
            refine XS.iand X27.here hx rfl (hb hby d7_94) rfl ?_
            refine XS.istore X27.here hx rfl (hb hby d7_95) rfl (l' := #[.val (.ref a1), .val (.int vr), .val (.int p3), .val (.int p3), .val (.int ((ix + (1 : Int32)) &&& ((2048 : Int32) - (1 : Int32)))), .val (.int nd), .val (.int ((3 : Int32) * nd))]) rfl ?_
            refine XS.goto X27.here hx rfl (pc0 := 97) (pc' := 16) rfl (hb hby d7_97) (by decide) (by decide) ?_
            exact k
          exact ih R' b (j + 1) _ _ _ _ _ (by omega) (by omega) P' (own_ix _).1 (own_ix _).2 (own_next hi0 hi1 hix) (Or.inr ⟨_, rfl⟩) (Or.inr ⟨_, rfl⟩) X27 e27 Nf
  refine own_go (B := s₁.setTop (mkF m 3 #[.val (.ref a1), .val (.int vr), .val (.int p3), .val (.int p3), .unset, .unset, .unset] [(.int p3), (.int p3), (.int vr)])) (fun t k => ?_) ?_
  · show Steps p.tables e below (s₁.setTop (mkF m 0 #[.val (.ref a1), .val (.int vr), .val (.int p3), .val (.int p3), .unset, .unset, .unset] [])) t
    refine XS.iloadN X0.here hx rfl (hb hby d7_0) rfl ?_
    refine XS.iloadN X0.here hx rfl (hb hby d7_1) rfl ?_
    refine XS.iloadN X0.here hx rfl (hb hby d7_2) rfl ?_
    exact k
  obtain ⟨_, _, ⟨T29, L29, k29, n29⟩, -, X29, ⟨Lc29, hQ29, l29, y29, z29⟩, st29⟩ := Jvm.LawKit.callS X0 hx (y := (⟨"com/example/liaise/liaise/NodeTable", "hash", "(III)I"⟩ : MethodName)) hown (mvT hZ (own_at hw 43 rfl)) (mvT hZ (own_at hw 44 rfl)) (mvT hZ (own_at hw 2 rfl)) (mvT hZ (own_at hw 45 rfl)) (by decide) (backOf (W := 0) (rm8 l Z a0 hw [] vr p3 p3 h0 n0 Z0) hZ (own_at hw 45 rfl) (own_at hw 2 rfl) (by decide) (by decide)) (g := (mkF m 3 #[.val (.ref a1), .val (.int vr), .val (.int p3), .val (.int p3), .unset, .unset, .unset] [(.int p3), (.int p3), (.int vr)])) rfl (by rw [hml]; rfl) (argsL := [(.int vr), (.int p3), (.int p3)]) (rest := []) (lenOf pd_rm7_2 rfl) rfl (by show 2 * 0 + _ ≤ _; exact Nat.le_of_eq rfl) (hb hby d7_3) (fun _ _ => ⟨rfl, e0, (by decide : 0 + 0 ≤ _), (by decide : 0 + 0 ≤ _)⟩)
  dsimp only [Pt.U, Pt.locs, Pt.cells, Pt.slots] at X29 l29 y29 z29 st29 hQ29
  subst l29 y29 z29
  obtain ⟨r29, rfl, N29q, hh29⟩ := hQ29
  have N29 := Fr.app N0 N29q
  obtain ⟨LL29, X29, N29⟩ := own_abs X29 N29
  refine own_go (fun t k => st29 t k) ?_
  refine own_go (B := T29.setTop (mkF m 7 #[.val (.ref a1), .val (.int vr), .val (.int p3), .val (.int p3), .unset, .unset, .unset] [(.ref a1), (.int r29)])) (fun t k => ?_) ?_
  · show Steps p.tables e below (T29.setTop (mkF m 6 #[.val (.ref a1), .val (.int vr), .val (.int p3), .val (.int p3), .unset, .unset, .unset] [(.int r29)])) t
    refine XS.aloadN X29.here hx rfl (hb hby d7_6) rfl rfl ?_
    exact k
  obtain ⟨T30, X30, e30, st30⟩ := getF X29 hx hZ hown (host := "") (Or.inl (own_at hw 16 rfl)) Via.refl hh29 FS (g := (mkF m 7 #[.val (.ref a1), .val (.int vr), .val (.int p3), .val (.int p3), .unset, .unset, .unset] [(.ref a1), (.int r29)])) rfl rfl (hb hby d7_7)
  refine own_go (fun t k => st30 t k) ?_
  obtain ⟨cl31, Ar31, S31, q31⟩ := AS.len
  refine own_go (X30.arraylength hx (by rw [e30]; exact Ar31.1) (State.isArrayOf_alike hZ.alike Ar31.2.1) (g := (mkF m 10 #[.val (.ref a1), .val (.int vr), .val (.int p3), .val (.int p3), .unset, .unset, .unset] [(.ref S), (.int r29)])) rfl rfl (hb hby d7_10)) ?_
  rw [len_of S31 q31]
  refine own_go (B := T30.setTop (mkF m 16 #[.val (.ref a1), .val (.int vr), .val (.int p3), .val (.int p3), .val (.int (r29 &&& ((2048 : Int32) - (1 : Int32)))), .unset, .unset] [])) (fun t k => ?_) ?_
  · show Steps p.tables e below (T30.setTop (mkF m 11 #[.val (.ref a1), .val (.int vr), .val (.int p3), .val (.int p3), .unset, .unset, .unset] [(.int 2048), (.int r29)])) t
    refine XS.iconst X30.here hx rfl (hb hby d7_11) ?_
    refine XS.isub X30.here hx rfl (hb hby d7_12) rfl ?_
    refine XS.iand X30.here hx rfl (hb hby d7_13) rfl ?_
    refine XS.istore X30.here hx rfl (hb hby d7_14) rfl (l' := #[.val (.ref a1), .val (.int vr), .val (.int p3), .val (.int p3), .val (.int (r29 &&& ((2048 : Int32) - (1 : Int32)))), .unset, .unset]) rfl ?_
    exact k
  obtain ⟨z0, z8, -, -, Ls, hL, hM⟩ := id I
  have mi := own_nat (own_ix r29).1
  have ml := (own_ix r29).2
  exact loop Ls.length Ls _ 0 _ _ _ _ _ rfl (by omega) (fun i hi hn => Or.inl (hM i hi hn)) (own_ix _).1 (own_ix _).2 (by rw [Nat.add_zero]; exact (Nat.mod_eq_of_lt (by omega)).symm) (Or.inl rfl) (Or.inl rfl) X30 e30 N29
theorem d6_0 : decode prog_47_method_3_code 0 = .ok (.iload_n 1, 1) := by decide +kernel
theorem d6_1 : decode prog_47_method_3_code 1 = .ok (.ifCond .ge 17, 3) := by decide +kernel
theorem d6_18 : decode prog_47_method_3_code 18 = .ok (.aload_n 0, 1) := by decide +kernel
theorem d6_19 : decode prog_47_method_3_code 19 = .ok (.aload_n 0, 1) := by decide +kernel
theorem d6_20 : decode prog_47_method_3_code 20 = .ok (.getfield 32, 3) := by decide +kernel
theorem d6_23 : decode prog_47_method_3_code 23 = .ok (.iload_n 1, 1) := by decide +kernel
theorem d6_24 : decode prog_47_method_3_code 24 = .ok (.iload_n 1, 1) := by decide +kernel
theorem d6_25 : decode prog_47_method_3_code 25 = .ok (.invokevirtual 43, 3) := by decide +kernel
theorem d6_28 : decode prog_47_method_3_code 28 = .ok (.ireturn, 1) := by decide +kernel
theorem pn_rm6 : plainName "com/example/liaise/liaise/NodeTable" = true := by first | (simp [plainName, overriddenIn]; done) | decide +kernel
theorem pd_rm6_0 : parseMethodDescriptor "(III)I" = some ⟨[.int, .int, .int], some .int⟩ := by decide +kernel
theorem ef_rm6 (m : MethodId) (x0 : Addr) (x1 : Int32) : entryFrame m #[(.ref x0), (.int x1)] 2 = mkF m 0 #[.val (.ref x0), .val (.int x1)] [] := by first | (simp [entryFrame, mkF, argsToLocals, Value.category]; done) | rfl
def Q6 (Z : State) (a1 : Addr) (p2 : Int32) (N S : Addr) (sz : Int32) (gN gS : Nat → Int32) (vr : Int32) (w_kept w_held w_holding w_cache : Value) (h0 : Heap) (n0 : Nat) (v : Option Value) (h : Heap) (L : List Loc) : Prop := ∃ (r sz' : Int32) (gN' gS' : Nat → Int32), v = some (.int r) ∧ Fr n0 L ∧ Keep h0 h [a1, N, S] ∧ Fld Z h a1 "com/example/liaise/liaise/NodeTable" "size" "I" (.int sz') ∧ own_Ag Value.int Z h N .int (3072 : Int32) gN' ∧ own_Ag Value.int Z h S .int (2048 : Int32) gS' ∧ own_I vr sz' gN' gS' ∧ own_R sz sz' r p2 gN gN' ∧ Fld Z h a1 "com/example/liaise/liaise/NodeTable" "variables" "I" (.int vr) ∧ Fld Z h a1 "com/example/liaise/liaise/NodeTable" "nodes" "[I" (.ref N) ∧ Fld Z h a1 "com/example/liaise/liaise/NodeTable" "kept" "I" w_kept ∧ Fld Z h a1 "com/example/liaise/liaise/NodeTable" "held" "[I" w_held ∧ Fld Z h a1 "com/example/liaise/liaise/NodeTable" "holding" "I" w_holding ∧ Fld Z h a1 "com/example/liaise/liaise/NodeTable" "slots" "[I" (.ref S) ∧ Fld Z h a1 "com/example/liaise/liaise/NodeTable" "cache" "[I" w_cache
set_option maxRecDepth 65536 in
set_option maxHeartbeats 40000000 in
theorem rm6 (l : Launch) (Z : State) (a0 : Array Value) (hw : ∀ d ∈ tables_1, d.before a0 Z = true) (ws : List Jvm.Cond) (a1 : Addr) (p2 : Int32) (N S : Addr) (sz : Int32) (gN gS : Nat → Int32) (vr : Int32) (w_kept w_held w_holding w_cache : Value) (h0 : Heap) (n0 : Nat) (Z0 : n0 ≤ h0.size) (EX : Exa Z h0 a1 "com/example/liaise/liaise/NodeTable") (FN : Fld Z h0 a1 "com/example/liaise/liaise/NodeTable" "nodes" "[I" (.ref N)) (FS : Fld Z h0 a1 "com/example/liaise/liaise/NodeTable" "slots" "[I" (.ref S)) (FZ : Fld Z h0 a1 "com/example/liaise/liaise/NodeTable" "size" "I" (.int sz)) (AN : own_Ag Value.int Z h0 N .int (3072 : Int32) gN) (AS : own_Ag Value.int Z h0 S .int (2048 : Int32) gS) (g_a1 : n0 ≤ a1) (g_N : n0 ≤ N) (g_S : n0 ≤ S) (ne1 : a1 ≠ N) (ne2 : a1 ≠ S) (ne3 : N ≠ S) (I : own_I vr sz gN gS) (hm7 : sz.toInt ≤ 7) (FV : Fld Z h0 a1 "com/example/liaise/liaise/NodeTable" "variables" "I" (.int vr)) (hp : 0 ≤ p2.toInt) (O_kept : Fld Z h0 a1 "com/example/liaise/liaise/NodeTable" "kept" "I" w_kept) (O_held : Fld Z h0 a1 "com/example/liaise/liaise/NodeTable" "held" "[I" w_held) (O_holding : Fld Z h0 a1 "com/example/liaise/liaise/NodeTable" "holding" "I" w_holding) (O_cache : Fld Z h0 a1 "com/example/liaise/liaise/NodeTable" "cache" "[I" w_cache) :
    MetFree l (⟨"com/example/liaise/liaise/NodeTable", "terminal", "(I)I"⟩ : MethodName) (head1 (Jvm.Cond.code (⟨"com/example/liaise/liaise/NodeTable", "terminal", "(I)I"⟩ : MethodName) prog_47_method_3_code 2 (some .int) :: ws) ({ frames := 2, cells := 0, slots := 0, locals := 35 } : Room)) (fun a U => a = #[(.ref a1), (.int p2)] ∧ Z.Warmed39 U.vm ∧ U.heap = h0) (fun _ _ _ _ _ => True) (fun _ U o U' => ∃ v L, o = .returned v ∧ Q6 Z a1 p2 N S sz gN gS vr w_kept w_held w_holding w_cache h0 n0 v U'.heap L ∧ FrameEnd U o U' L ({ frames := 2, cells := 0, slots := 0, locals := 35 } : Room).cells ({ frames := 2, cells := 0, slots := 0, locals := 35 } : Room).slots) := by
  refine MetFree.of_bodySF (plainFor_of_name pn_rm6) hisR ?_
  intro p e s m args below meth c s₁ Bd hml0 hP hK
  obtain ⟨rfl, hZ, hh⟩ := hP
  have hx := Bd.exec
  have hby := Bd.bytes
  have hml : c.maxLocals = 2 := hml0
  have hown : s.vm.findClass "com/example/liaise/liaise/NodeTable" = some m.cls := findClass_of_methodNamed Bd.named
  have hnm := (name_of_methodNamed Bd.named Bd.method).1
  have X0 : Stand p l e ({ frames := 2, cells := 0, slots := 0, locals := 35 } : Room) s m #[(.ref a1), (.int p2)] below meth c s₁ [] 0 0 := Stand.of_body Bd
  have e0 : s₁.heap = h0 := by rw [← hh, Bd.state]; rfl
  have N0 := Fr.nil n0
  have pre0 : ∀ t, Steps p.tables e below (s₁.setTop (mkF m 0 #[.val (.ref a1), .val (.int p2)] [])) t → Steps p.tables e below (s₁.setTop (entryFrame m #[(.ref a1), (.int p2)] 2)) t := fun t k => castTop (ef_rm6 m a1 p2) k
  show own_Fin p e below _ _
  refine own_go pre0 ?_
  refine own_go (B := s₁.setTop (mkF m 20 #[.val (.ref a1), .val (.int p2)] [(.ref a1), (.ref a1)])) (fun t k => ?_) ?_
  · show Steps p.tables e below (s₁.setTop (mkF m 0 #[.val (.ref a1), .val (.int p2)] [])) t
    refine XS.iloadN X0.here hx rfl (hb hby d6_0) rfl ?_
    show Steps p.tables e below (s₁.setTop (mkF m 1 #[.val (.ref a1), .val (.int p2)] [(.int p2)])) t
    refine XS.ifYes X0.here hx rfl (pc0 := 1) (pc' := 18) rfl (hb hby d6_1) rfl ((if0 _ _).trans (flt (own_nneg hp : ¬ (p2 < (0 : Int32)))).2.1) (by decide) (by decide) ?_
    refine XS.aloadN X0.here hx rfl (hb hby d6_18) rfl rfl ?_
    refine XS.aloadN X0.here hx rfl (hb hby d6_19) rfl rfl ?_
    exact k
  obtain ⟨T1, X1, e1, st1⟩ := getF X0 hx hZ hown (host := "") (Or.inl (own_at hw 18 rfl)) Via.refl e0 FV (g := (mkF m 20 #[.val (.ref a1), .val (.int p2)] [(.ref a1), (.ref a1)])) rfl rfl (hb hby d6_20)
  refine own_go (fun t k => st1 t k) ?_
  refine own_go (B := T1.setTop (mkF m 25 #[.val (.ref a1), .val (.int p2)] [(.int p2), (.int p2), (.int vr), (.ref a1)])) (fun t k => ?_) ?_
  · show Steps p.tables e below (T1.setTop (mkF m 23 #[.val (.ref a1), .val (.int p2)] [(.int vr), (.ref a1)])) t
    refine XS.iloadN X1.here hx rfl (hb hby d6_23) rfl ?_
    refine XS.iloadN X1.here hx rfl (hb hby d6_24) rfl ?_
    exact k
  obtain ⟨cq2, q2, q2'⟩ := EX.cell
  obtain ⟨_, _, ⟨T2, L2, k2, n2⟩, -, X2, ⟨Lc2, hQ2, l2, y2, z2⟩, st2⟩ := X1.privateBack hx (y := (⟨"com/example/liaise/liaise/NodeTable", "unique", "(III)I"⟩ : MethodName)) hown (mvT hZ (own_at hw 39 rfl)) (mvT hZ (own_at hw 40 rfl)) (mvT hZ (own_selp (y := (⟨"com/example/liaise/liaise/NodeTable", "unique", "(III)I"⟩ : MethodName)) (own_at hw 1 rfl) (own_at hw 41 rfl) (own_at hw 40 rfl) (by decide))) (Cond.privateMethod_at (mvP hZ (own_at hw 41 rfl) (args := #[]))) (mvT hZ (own_at hw 42 rfl)) (by decide) (backOf (W := 0) (rm7 l Z a0 hw [] a1 vr p2 N S sz gN gS _ _ _ _ _ h0 n0 Z0 EX FN FS FZ AN AS g_a1 g_N g_S ne1 ne2 ne3 I hm7 FV O_kept O_held O_holding O_cache) hZ (own_at hw 42 rfl) (own_at hw 2 rfl) (by decide) (by decide)) (g := (mkF m 25 #[.val (.ref a1), .val (.int p2)] [(.int p2), (.int p2), (.int vr), (.ref a1)])) rfl (by rw [hml]; rfl) (Steps.refl _) (a := a1) (by rw [e1]; exact q2) q2' (argsL := [(.int vr), (.int p2), (.int p2)]) (rest := []) (lenOf pd_rm6_0 rfl) rfl (by show 2 * 0 + _ ≤ _; exact Nat.le_of_eq rfl) (hb hby d6_25) (fun _ _ => ⟨rfl, e1, (by decide : 0 + 0 ≤ _), (by decide : 0 + 0 ≤ _)⟩)
  dsimp only [Pt.U, Pt.locs, Pt.cells, Pt.slots] at X2 l2 y2 z2 st2 hQ2
  subst l2 y2 z2
  obtain ⟨r2, z2, gN2, gS2, rfl, N2q, K2, Fz2, An2, As2, I2, R2, G2_variables, G2_nodes, G2_kept, G2_held, G2_holding, G2_slots, G2_cache⟩ := hQ2
  have N2 := Fr.app N0 N2q
  obtain ⟨LL2, X2, N2⟩ := own_abs X2 N2
  refine own_go (fun t k => st2.trans k) ?_
  have KK2 : Keep h0 T2.heap [a1, N, S] := (Keep.refl h0 [a1, N, S]).trans K2 (allS (Or.inl (List.mem_of_getElem? (i := 0) rfl)) (allS (Or.inl (List.mem_of_getElem? (i := 1) rfl)) (allS (Or.inl (List.mem_of_getElem? (i := 2) rfl)) all0)))
  have f2_0 := EX.keep K2
  obtain ⟨fs, hr, hrun, hended, hW, hsame⟩ := X2.leave (v := some (.int r2)) (fun h => by rw [Bd.returns] at h; cases h)
  refine ⟨_, _, ?_, hrun, hended, _, _, rfl, ?_, ⟨_, rfl⟩, hW, hsame.mono (by decide) (by decide)⟩
  · show Steps p.tables e below (T2.setTop (mkF m 28 #[.val (.ref a1), .val (.int p2)] [(.int r2)])) _
    exact retI X2 hx Bd.returns (hb hby d6_28) hr
  · show Q6 Z a1 p2 N S sz gN gS vr w_kept w_held w_holding w_cache h0 n0 _ T2.heap _
    exact ⟨_, _, _, _, rfl, N2, KK2, Fz2, An2, As2, I2, R2, G2_variables, G2_nodes, G2_kept, G2_held, G2_holding, G2_slots, G2_cache⟩
theorem d10_0 : decode prog_47_method_22_code 0 = .ok (.aload_n 0, 1) := by decide +kernel
theorem d10_1 : decode prog_47_method_22_code 1 = .ok (.getfield 155, 3) := by decide +kernel
theorem d10_4 : decode prog_47_method_22_code 4 = .ok (.aload_n 0, 1) := by decide +kernel
theorem d10_5 : decode prog_47_method_22_code 5 = .ok (.getfield 17, 3) := by decide +kernel
theorem d10_8 : decode prog_47_method_22_code 8 = .ok (.arraylength, 1) := by decide +kernel
theorem d10_9 : decode prog_47_method_22_code 9 = .ok (.if_icmp .ne 21, 3) := by decide +kernel
theorem d10_30 : decode prog_47_method_22_code 30 = .ok (.aload_n 0, 1) := by decide +kernel
theorem d10_31 : decode prog_47_method_22_code 31 = .ok (.getfield 17, 3) := by decide +kernel
theorem d10_34 : decode prog_47_method_22_code 34 = .ok (.aload_n 0, 1) := by decide +kernel
theorem d10_35 : decode prog_47_method_22_code 35 = .ok (.getfield 155, 3) := by decide +kernel
theorem d10_38 : decode prog_47_method_22_code 38 = .ok (.iload_n 1, 1) := by decide +kernel
theorem d10_39 : decode prog_47_method_22_code 39 = .ok (.iastore, 1) := by decide +kernel
theorem d10_40 : decode prog_47_method_22_code 40 = .ok (.aload_n 0, 1) := by decide +kernel
theorem d10_41 : decode prog_47_method_22_code 41 = .ok (.dup, 1) := by decide +kernel
theorem d10_42 : decode prog_47_method_22_code 42 = .ok (.getfield 155, 3) := by decide +kernel
theorem d10_45 : decode prog_47_method_22_code 45 = .ok (.dup_x1, 1) := by decide +kernel
theorem d10_46 : decode prog_47_method_22_code 46 = .ok (.iconst 1, 1) := by decide +kernel
theorem d10_47 : decode prog_47_method_22_code 47 = .ok (.iadd, 1) := by decide +kernel
theorem d10_48 : decode prog_47_method_22_code 48 = .ok (.putfield 155, 3) := by decide +kernel
theorem d10_51 : decode prog_47_method_22_code 51 = .ok (.ireturn, 1) := by decide +kernel
theorem pn_rm10 : plainName "com/example/liaise/liaise/NodeTable" = true := by first | (simp [plainName, overriddenIn]; done) | decide +kernel
theorem ef_rm10 (m : MethodId) (x0 : Addr) (x1 : Int32) : entryFrame m #[(.ref x0), (.int x1)] 2 = mkF m 0 #[.val (.ref x0), .val (.int x1)] [] := by first | (simp [entryFrame, mkF, argsToLocals, Value.category]; done) | rfl
def Q10 (Z : State) (a1 : Addr) (p2 : Int32) (H : Addr) (hd : Int32) (gH : Nat → Int32) (w_variables w_nodes w_size w_kept w_slots w_cache : Value) (h0 : Heap) (n0 : Nat) (v : Option Value) (h : Heap) (L : List Loc) : Prop := ∃ r : Int32, v = some (.int r) ∧ Fr n0 L ∧ Keep h0 h [a1, H] ∧ Fld Z h a1 "com/example/liaise/liaise/NodeTable" "holding" "I" (.int (hd + (1 : Int32))) ∧ own_Ag Value.int Z h H .int (2 : Int32) (fun i => if i = (hd).toNatClampNeg then p2 else gH i) ∧ Fld Z h a1 "com/example/liaise/liaise/NodeTable" "variables" "I" w_variables ∧ Fld Z h a1 "com/example/liaise/liaise/NodeTable" "nodes" "[I" w_nodes ∧ Fld Z h a1 "com/example/liaise/liaise/NodeTable" "size" "I" w_size ∧ Fld Z h a1 "com/example/liaise/liaise/NodeTable" "kept" "I" w_kept ∧ Fld Z h a1 "com/example/liaise/liaise/NodeTable" "held" "[I" (.ref H) ∧ Fld Z h a1 "com/example/liaise/liaise/NodeTable" "slots" "[I" w_slots ∧ Fld Z h a1 "com/example/liaise/liaise/NodeTable" "cache" "[I" w_cache
set_option maxRecDepth 65536 in
set_option maxHeartbeats 40000000 in
theorem rm10 (l : Launch) (Z : State) (a0 : Array Value) (hw : ∀ d ∈ tables_1, d.before a0 Z = true) (ws : List Jvm.Cond) (a1 : Addr) (p2 : Int32) (H : Addr) (hd : Int32) (gH : Nat → Int32) (w_variables w_nodes w_size w_kept w_slots w_cache : Value) (h0 : Heap) (n0 : Nat) (Z0 : n0 ≤ h0.size) (EX : Exa Z h0 a1 "com/example/liaise/liaise/NodeTable") (FH : Fld Z h0 a1 "com/example/liaise/liaise/NodeTable" "held" "[I" (.ref H)) (FO : Fld Z h0 a1 "com/example/liaise/liaise/NodeTable" "holding" "I" (.int hd)) (AH : own_Ag Value.int Z h0 H .int (2 : Int32) gH) (g_a1 : n0 ≤ a1) (g_H : n0 ≤ H) (ne1 : a1 ≠ H) (hd01 : hd = (0 : Int32) ∨ hd = (1 : Int32)) (O_variables : Fld Z h0 a1 "com/example/liaise/liaise/NodeTable" "variables" "I" w_variables) (O_nodes : Fld Z h0 a1 "com/example/liaise/liaise/NodeTable" "nodes" "[I" w_nodes) (O_size : Fld Z h0 a1 "com/example/liaise/liaise/NodeTable" "size" "I" w_size) (O_kept : Fld Z h0 a1 "com/example/liaise/liaise/NodeTable" "kept" "I" w_kept) (O_slots : Fld Z h0 a1 "com/example/liaise/liaise/NodeTable" "slots" "[I" w_slots) (O_cache : Fld Z h0 a1 "com/example/liaise/liaise/NodeTable" "cache" "[I" w_cache) :
    MetFree l (⟨"com/example/liaise/liaise/NodeTable", "hold", "(I)I"⟩ : MethodName) (head1 (Jvm.Cond.code (⟨"com/example/liaise/liaise/NodeTable", "hold", "(I)I"⟩ : MethodName) prog_47_method_22_code 2 (some .int) :: ws) ({ frames := 0, cells := 0, slots := 0, locals := 0 } : Room)) (fun a U => a = #[(.ref a1), (.int p2)] ∧ Z.Warmed39 U.vm ∧ U.heap = h0) (fun _ _ _ _ _ => True) (fun _ U o U' => ∃ v L, o = .returned v ∧ Q10 Z a1 p2 H hd gH w_variables w_nodes w_size w_kept w_slots w_cache h0 n0 v U'.heap L ∧ FrameEnd U o U' L ({ frames := 0, cells := 0, slots := 0, locals := 0 } : Room).cells ({ frames := 0, cells := 0, slots := 0, locals := 0 } : Room).slots) := by
  refine MetFree.of_bodySF (plainFor_of_name pn_rm10) hisR ?_
  intro p e s m args below meth c s₁ Bd hml0 hP hK
  obtain ⟨rfl, hZ, hh⟩ := hP
  have hx := Bd.exec
  have hby := Bd.bytes
  have hml : c.maxLocals = 2 := hml0
  have hown : s.vm.findClass "com/example/liaise/liaise/NodeTable" = some m.cls := findClass_of_methodNamed Bd.named
  have hnm := (name_of_methodNamed Bd.named Bd.method).1
  have X0 : Stand p l e ({ frames := 0, cells := 0, slots := 0, locals := 0 } : Room) s m #[(.ref a1), (.int p2)] below meth c s₁ [] 0 0 := Stand.of_body Bd
  have e0 : s₁.heap = h0 := by rw [← hh, Bd.state]; rfl
  have N0 := Fr.nil n0
  have pre0 : ∀ t, Steps p.tables e below (s₁.setTop (mkF m 0 #[.val (.ref a1), .val (.int p2)] [])) t → Steps p.tables e below (s₁.setTop (entryFrame m #[(.ref a1), (.int p2)] 2)) t := fun t k => castTop (ef_rm10 m a1 p2) k
  show own_Fin p e below _ _
  refine own_go pre0 ?_
  refine own_go (B := s₁.setTop (mkF m 1 #[.val (.ref a1), .val (.int p2)] [(.ref a1)])) (fun t k => ?_) ?_
  · show Steps p.tables e below (s₁.setTop (mkF m 0 #[.val (.ref a1), .val (.int p2)] [])) t
    refine XS.aloadN X0.here hx rfl (hb hby d10_0) rfl rfl ?_
    exact k
  obtain ⟨T1, X1, e1, st1⟩ := getF X0 hx hZ hown (host := "") (Or.inl (own_at hw 61 rfl)) Via.refl e0 FO (g := (mkF m 1 #[.val (.ref a1), .val (.int p2)] [(.ref a1)])) rfl rfl (hb hby d10_1)
  refine own_go (fun t k => st1 t k) ?_
  refine own_go (B := T1.setTop (mkF m 5 #[.val (.ref a1), .val (.int p2)] [(.ref a1), (.int hd)])) (fun t k => ?_) ?_
  · show Steps p.tables e below (T1.setTop (mkF m 4 #[.val (.ref a1), .val (.int p2)] [(.int hd)])) t
    refine XS.aloadN X1.here hx rfl (hb hby d10_4) rfl rfl ?_
    exact k
  obtain ⟨T2, X2, e2, st2⟩ := getF X1 hx hZ hown (host := "") (Or.inl (own_at hw 14 rfl)) Via.refl e1 FH (g := (mkF m 5 #[.val (.ref a1), .val (.int p2)] [(.ref a1), (.int hd)])) rfl rfl (hb hby d10_5)
  refine own_go (fun t k => st2 t k) ?_
  obtain ⟨cl3, Ar3, S3, q3⟩ := AH.len
  refine own_go (X2.arraylength hx (by rw [e2]; exact Ar3.1) (State.isArrayOf_alike hZ.alike Ar3.2.1) (g := (mkF m 8 #[.val (.ref a1), .val (.int p2)] [(.ref H), (.int hd)])) rfl rfl (hb hby d10_8)) ?_
  rw [len_of S3 q3]
  refine own_go (B := T2.setTop (mkF m 31 #[.val (.ref a1), .val (.int p2)] [(.ref a1)])) (fun t k => ?_) ?_
  · show Steps p.tables e below (T2.setTop (mkF m 9 #[.val (.ref a1), .val (.int p2)] [(.int 2), (.int hd)])) t
    refine XS.icmpYes X2.here hx rfl (pc0 := 9) (pc' := 30) rfl (hb hby d10_9) rfl (feq (by rcases hd01 with rfl | rfl <;> decide : ¬ (hd = (2 : Int32)))).2 (by decide) (by decide) ?_
    refine XS.aloadN X2.here hx rfl (hb hby d10_30) rfl rfl ?_
    exact k
  obtain ⟨T4, X4, e4, st4⟩ := getF X2 hx hZ hown (host := "") (Or.inl (own_at hw 14 rfl)) Via.refl e2 FH (g := (mkF m 31 #[.val (.ref a1), .val (.int p2)] [(.ref a1)])) rfl rfl (hb hby d10_31)
  refine own_go (fun t k => st4 t k) ?_
  refine own_go (B := T4.setTop (mkF m 35 #[.val (.ref a1), .val (.int p2)] [(.ref a1), (.ref H)])) (fun t k => ?_) ?_
  · show Steps p.tables e below (T4.setTop (mkF m 34 #[.val (.ref a1), .val (.int p2)] [(.ref H)])) t
    refine XS.aloadN X4.here hx rfl (hb hby d10_34) rfl rfl ?_
    exact k
  obtain ⟨T5, X5, e5, st5⟩ := getF X4 hx hZ hown (host := "") (Or.inl (own_at hw 61 rfl)) Via.refl e4 FO (g := (mkF m 35 #[.val (.ref a1), .val (.int p2)] [(.ref a1), (.ref H)])) rfl rfl (hb hby d10_35)
  refine own_go (fun t k => st5 t k) ?_
  refine own_go (B := T5.setTop (mkF m 39 #[.val (.ref a1), .val (.int p2)] [(.int p2), (.int hd), (.ref H)])) (fun t k => ?_) ?_
  · show Steps p.tables e below (T5.setTop (mkF m 38 #[.val (.ref a1), .val (.int p2)] [(.int hd), (.ref H)])) t
    refine XS.iloadN X5.here hx rfl (hb hby d10_38) rfl ?_
    exact k
  obtain ⟨cl6, Ar6, hin6, -, -, -⟩ := AH.get (j := hd) (by rcases hd01 with rfl | rfl <;> decide) (by rcases hd01 with rfl | rfl <;> decide)
  obtain ⟨T6, h6, X6, e6, W6, st6⟩ := stI X5 hx hZ e5 Ar6 (j := hd) hin6 (g := (mkF m 39 #[.val (.ref a1), .val (.int p2)] [(.int p2), (.int hd), (.ref H)])) rfl rfl (hb hby d10_39)
  refine own_go (fun t k => st6 t k) ?_
  have N6 := Fr.snoc X6 N0 g_H
  obtain ⟨LL6, X6, N6⟩ := own_abs X6 N6
  have K6 : Keep h0 h6 [a1, H] := (Keep.refl h0 [a1, H]).wr W6 (Or.inl (List.mem_of_getElem? (i := 1) rfl))
  have f6_0 := EX.wr W6
  have f6_1 := FH.other W6 (Or.inl ne1)
  have f6_2 := FO.other W6 (Or.inl ne1)
  have f6_3 := AH.set W6
  have f6_4 := O_variables.other W6 (Or.inl ne1)
  have f6_5 := O_nodes.other W6 (Or.inl ne1)
  have f6_6 := O_size.other W6 (Or.inl ne1)
  have f6_7 := O_kept.other W6 (Or.inl ne1)
  have f6_8 := O_slots.other W6 (Or.inl ne1)
  have f6_9 := O_cache.other W6 (Or.inl ne1)
  refine own_go (B := T6.setTop (mkF m 42 #[.val (.ref a1), .val (.int p2)] [(.ref a1), (.ref a1)])) (fun t k => ?_) ?_
  · show Steps p.tables e below (T6.setTop (mkF m 40 #[.val (.ref a1), .val (.int p2)] [])) t
    refine XS.aloadN X6.here hx rfl (hb hby d10_40) rfl rfl ?_
    refine XS.dup X6.here hx rfl (hb hby d10_41) rfl rfl ?_
    exact k
  obtain ⟨T7, X7, e7, st7⟩ := getF X6 hx hZ hown (host := "") (Or.inl (own_at hw 61 rfl)) Via.refl e6 f6_2 (g := (mkF m 42 #[.val (.ref a1), .val (.int p2)] [(.ref a1), (.ref a1)])) rfl rfl (hb hby d10_42)
  refine own_go (fun t k => st7 t k) ?_
  refine own_go (B := T7.setTop (mkF m 48 #[.val (.ref a1), .val (.int p2)] [(.int (hd + 1)), (.ref a1), (.int hd)])) (fun t k => ?_) ?_
  · show Steps p.tables e below (T7.setTop (mkF m 45 #[.val (.ref a1), .val (.int p2)] [(.int hd), (.ref a1)])) t
    refine XS.dupX1 X7.here hx rfl (hb hby d10_45) rfl rfl rfl ?_
    refine XS.iconst X7.here hx rfl (hb hby d10_46) ?_
    refine XS.iadd X7.here hx rfl (hb hby d10_47) rfl ?_
    exact k
  obtain ⟨T8, h8, X8, e8, W8, st8⟩ := putF X7 hx hZ hown (host := "") (Or.inl (own_at hw 61 rfl)) Via.refl e7 f6_2 f6_0 (Or.inl (own_at hw 62 rfl)) (own_at hw 1 rfl) (ty := .int) (by decide) rfl rfl (g := (mkF m 48 #[.val (.ref a1), .val (.int p2)] [(.int (hd + 1)), (.ref a1), (.int hd)])) rfl rfl (hb hby d10_48)
  refine own_go (fun t k => st8 t k) ?_
  have N8 := Fr.snoc X8 N6 g_a1
  obtain ⟨LL8, X8, N8⟩ := own_abs X8 N8
  have K8 : Keep h0 h8 [a1, H] := K6.wr W8 (Or.inl (List.mem_of_getElem? (i := 0) rfl))
  have f8_0 := f6_0.wr W8
  have f8_1 := f6_1.other W8 (Or.inr (slot_ne (Or.inl (own_at hw 15 rfl)) (Or.inl (own_at hw 62 rfl)) (by decide) (t := (.array .int)) (t' := .int) (by decide) (by decide)))
  have f8_2 := f6_2.same W8
  have f8_3 := f6_3.other W8 (Ne.symm ne1)
  have f8_4 := f6_4.other W8 (Or.inr (slot_ne (Or.inr (own_at hw 19 rfl)) (Or.inl (own_at hw 62 rfl)) (by decide) (t := .int) (t' := .int) (by decide) (by decide)))
  have f8_5 := f6_5.other W8 (Or.inr (slot_ne (Or.inl (own_at hw 11 rfl)) (Or.inl (own_at hw 62 rfl)) (by decide) (t := (.array .int)) (t' := .int) (by decide) (by decide)))
  have f8_6 := f6_6.other W8 (Or.inr (slot_ne (Or.inl (own_at hw 50 rfl)) (Or.inl (own_at hw 62 rfl)) (by decide) (t := .int) (t' := .int) (by decide) (by decide)))
  have f8_7 := f6_7.other W8 (Or.inr (slot_ne (Or.inl (own_at hw 13 rfl)) (Or.inl (own_at hw 62 rfl)) (by decide) (t := .int) (t' := .int) (by decide) (by decide)))
  have f8_8 := f6_8.other W8 (Or.inr (slot_ne (Or.inl (own_at hw 17 rfl)) (Or.inl (own_at hw 62 rfl)) (by decide) (t := (.array .int)) (t' := .int) (by decide) (by decide)))
  have f8_9 := f6_9.other W8 (Or.inr (slot_ne (Or.inl (own_at hw 29 rfl)) (Or.inl (own_at hw 62 rfl)) (by decide) (t := (.array .int)) (t' := .int) (by decide) (by decide)))
  obtain ⟨fs, hr, hrun, hended, hW, hsame⟩ := X8.leave (v := some (.int hd)) (fun h => by rw [Bd.returns] at h; cases h)
  refine ⟨_, _, ?_, hrun, hended, _, _, rfl, ?_, ⟨_, rfl⟩, hW, hsame.mono (by decide) (by decide)⟩
  · show Steps p.tables e below (T8.setTop (mkF m 51 #[.val (.ref a1), .val (.int p2)] [(.int hd)])) _
    exact retI X8 hx Bd.returns (hb hby d10_51) hr
  · show Q10 Z a1 p2 H hd gH w_variables w_nodes w_size w_kept w_slots w_cache h0 n0 _ T8.heap _
    rw [e8]
    exact ⟨_, rfl, N8, K8, f8_2, f8_3, f8_4, f8_5, f8_6, f8_7, f8_1, f8_8, f8_9⟩
theorem d29_0 : decode prog_47_method_20_code 0 = .ok (.aload_n 0, 1) := by decide +kernel
theorem d29_1 : decode prog_47_method_20_code 1 = .ok (.getfield 82, 3) := by decide +kernel
theorem d29_4 : decode prog_47_method_20_code 4 = .ok (.ireturn, 1) := by decide +kernel
theorem pn_rm29 : plainName "com/example/liaise/liaise/NodeTable" = true := by first | (simp [plainName, overriddenIn]; done) | decide +kernel
theorem ef_rm29 (m : MethodId) (x0 : Addr) : entryFrame m #[(.ref x0)] 1 = mkF m 0 #[.val (.ref x0)] [] := by first | (simp [entryFrame, mkF, argsToLocals, Value.category]; done) | rfl
def Q29 (Z : State) (a1 : Addr) (sz : Int32) (h0 : Heap) (n0 : Nat) (v : Option Value) (h : Heap) (L : List Loc) : Prop := v = some (.int sz) ∧ Fr n0 L ∧ h = h0
set_option maxRecDepth 65536 in
set_option maxHeartbeats 40000000 in
theorem rm29 (l : Launch) (Z : State) (a0 : Array Value) (hw : ∀ d ∈ tables_1, d.before a0 Z = true) (ws : List Jvm.Cond) (a1 : Addr) (sz : Int32) (h0 : Heap) (n0 : Nat) (Z0 : n0 ≤ h0.size) (FZ : Fld Z h0 a1 "com/example/liaise/liaise/NodeTable" "size" "I" (.int sz)) :
    MetFree l (⟨"com/example/liaise/liaise/NodeTable", "size", "()I"⟩ : MethodName) (head1 (Jvm.Cond.code (⟨"com/example/liaise/liaise/NodeTable", "size", "()I"⟩ : MethodName) prog_47_method_20_code 1 (some .int) :: ws) ({ frames := 0, cells := 0, slots := 0, locals := 0 } : Room)) (fun a U => a = #[(.ref a1)] ∧ Z.Warmed39 U.vm ∧ U.heap = h0) (fun _ _ _ _ _ => True) (fun _ U o U' => ∃ v L, o = .returned v ∧ Q29 Z a1 sz h0 n0 v U'.heap L ∧ FrameEnd U o U' L ({ frames := 0, cells := 0, slots := 0, locals := 0 } : Room).cells ({ frames := 0, cells := 0, slots := 0, locals := 0 } : Room).slots) := by
  refine MetFree.of_bodySF (plainFor_of_name pn_rm29) hisR ?_
  intro p e s m args below meth c s₁ Bd hml0 hP hK
  obtain ⟨rfl, hZ, hh⟩ := hP
  have hx := Bd.exec
  have hby := Bd.bytes
  have hml : c.maxLocals = 1 := hml0
  have hown : s.vm.findClass "com/example/liaise/liaise/NodeTable" = some m.cls := findClass_of_methodNamed Bd.named
  have hnm := (name_of_methodNamed Bd.named Bd.method).1
  have X0 : Stand p l e ({ frames := 0, cells := 0, slots := 0, locals := 0 } : Room) s m #[(.ref a1)] below meth c s₁ [] 0 0 := Stand.of_body Bd
  have e0 : s₁.heap = h0 := by rw [← hh, Bd.state]; rfl
  have N0 := Fr.nil n0
  have pre0 : ∀ t, Steps p.tables e below (s₁.setTop (mkF m 0 #[.val (.ref a1)] [])) t → Steps p.tables e below (s₁.setTop (entryFrame m #[(.ref a1)] 1)) t := fun t k => castTop (ef_rm29 m a1) k
  show own_Fin p e below _ _
  refine own_go pre0 ?_
  refine own_go (B := s₁.setTop (mkF m 1 #[.val (.ref a1)] [(.ref a1)])) (fun t k => ?_) ?_
  · show Steps p.tables e below (s₁.setTop (mkF m 0 #[.val (.ref a1)] [])) t
    refine XS.aloadN X0.here hx rfl (hb hby d29_0) rfl rfl ?_
    exact k
  obtain ⟨T1, X1, e1, st1⟩ := getF X0 hx hZ hown (host := "") (Or.inl (own_at hw 49 rfl)) Via.refl e0 FZ (g := (mkF m 1 #[.val (.ref a1)] [(.ref a1)])) rfl rfl (hb hby d29_1)
  refine own_go (fun t k => st1 t k) ?_
  obtain ⟨fs, hr, hrun, hended, hW, hsame⟩ := X1.leave (v := some (.int sz)) (fun h => by rw [Bd.returns] at h; cases h)
  refine ⟨_, _, ?_, hrun, hended, _, _, rfl, ?_, ⟨_, rfl⟩, hW, hsame.mono (by decide) (by decide)⟩
  · show Steps p.tables e below (T1.setTop (mkF m 4 #[.val (.ref a1)] [(.int sz)])) _
    exact retI X1 hx Bd.returns (hb hby d29_4) hr
  · show Q29 Z a1 sz h0 n0 _ T1.heap _
    rw [e1]
    exact ⟨rfl, N0, rfl⟩
theorem d30_0 : decode prog_47_method_21_code 0 = .ok (.aload_n 0, 1) := by decide +kernel
theorem d30_1 : decode prog_47_method_21_code 1 = .ok (.getfield 82, 3) := by decide +kernel
theorem d30_4 : decode prog_47_method_21_code 4 = .ok (.iconst 2, 1) := by decide +kernel
theorem d30_5 : decode prog_47_method_21_code 5 = .ok (.aload_n 0, 1) := by decide +kernel
theorem d30_6 : decode prog_47_method_21_code 6 = .ok (.getfield 13, 3) := by decide +kernel
theorem d30_9 : decode prog_47_method_21_code 9 = .ok (.imul, 1) := by decide +kernel
theorem d30_10 : decode prog_47_method_21_code 10 = .ok (.aload_n 0, 1) := by decide +kernel
theorem d30_11 : decode prog_47_method_21_code 11 = .ok (.getfield 155, 3) := by decide +kernel
theorem d30_14 : decode prog_47_method_21_code 14 = .ok (.iadd, 1) := by decide +kernel
theorem d30_15 : decode prog_47_method_21_code 15 = .ok (.if_icmp .lt 7, 3) := by decide +kernel
theorem d30_18 : decode prog_47_method_21_code 18 = .ok (.iconst 1, 1) := by decide +kernel
theorem d30_19 : decode prog_47_method_21_code 19 = .ok (.goto 4, 3) := by decide +kernel
theorem d30_22 : decode prog_47_method_21_code 22 = .ok (.iconst 0, 1) := by decide +kernel
theorem d30_23 : decode prog_47_method_21_code 23 = .ok (.ireturn, 1) := by decide +kernel
theorem pn_rm30 : plainName "com/example/liaise/liaise/NodeTable" = true := by first | (simp [plainName, overriddenIn]; done) | decide +kernel
theorem ef_rm30 (m : MethodId) (x0 : Addr) : entryFrame m #[(.ref x0)] 1 = mkF m 0 #[.val (.ref x0)] [] := by first | (simp [entryFrame, mkF, argsToLocals, Value.category]; done) | rfl
def Q30 (Z : State) (a1 : Addr) (sz kp hd : Int32) (h0 : Heap) (n0 : Nat) (v : Option Value) (h : Heap) (L : List Loc) : Prop := v = some (.int (if sz < (((2 : Int32) * kp) + hd) then (0 : Int32) else (1 : Int32))) ∧ Fr n0 L ∧ h = h0
set_option maxRecDepth 65536 in
set_option maxHeartbeats 40000000 in
theorem rm30 (l : Launch) (Z : State) (a0 : Array Value) (hw : ∀ d ∈ tables_1, d.before a0 Z = true) (ws : List Jvm.Cond) (a1 : Addr) (sz kp hd : Int32) (h0 : Heap) (n0 : Nat) (Z0 : n0 ≤ h0.size) (FZ : Fld Z h0 a1 "com/example/liaise/liaise/NodeTable" "size" "I" (.int sz)) (FK : Fld Z h0 a1 "com/example/liaise/liaise/NodeTable" "kept" "I" (.int kp)) (FO : Fld Z h0 a1 "com/example/liaise/liaise/NodeTable" "holding" "I" (.int hd)) :
    MetFree l (⟨"com/example/liaise/liaise/NodeTable", "crowded", "()Z"⟩ : MethodName) (head1 (Jvm.Cond.code (⟨"com/example/liaise/liaise/NodeTable", "crowded", "()Z"⟩ : MethodName) prog_47_method_21_code 1 (some .boolean) :: ws) ({ frames := 0, cells := 0, slots := 0, locals := 0 } : Room)) (fun a U => a = #[(.ref a1)] ∧ Z.Warmed39 U.vm ∧ U.heap = h0) (fun _ _ _ _ _ => True) (fun _ U o U' => ∃ v L, o = .returned v ∧ Q30 Z a1 sz kp hd h0 n0 v U'.heap L ∧ FrameEnd U o U' L ({ frames := 0, cells := 0, slots := 0, locals := 0 } : Room).cells ({ frames := 0, cells := 0, slots := 0, locals := 0 } : Room).slots) := by
  refine MetFree.of_bodySF (plainFor_of_name pn_rm30) hisR ?_
  intro p e s m args below meth c s₁ Bd hml0 hP hK
  obtain ⟨rfl, hZ, hh⟩ := hP
  have hx := Bd.exec
  have hby := Bd.bytes
  have hml : c.maxLocals = 1 := hml0
  have hown : s.vm.findClass "com/example/liaise/liaise/NodeTable" = some m.cls := findClass_of_methodNamed Bd.named
  have hnm := (name_of_methodNamed Bd.named Bd.method).1
  have X0 : Stand p l e ({ frames := 0, cells := 0, slots := 0, locals := 0 } : Room) s m #[(.ref a1)] below meth c s₁ [] 0 0 := Stand.of_body Bd
  have e0 : s₁.heap = h0 := by rw [← hh, Bd.state]; rfl
  have N0 := Fr.nil n0
  have pre0 : ∀ t, Steps p.tables e below (s₁.setTop (mkF m 0 #[.val (.ref a1)] [])) t → Steps p.tables e below (s₁.setTop (entryFrame m #[(.ref a1)] 1)) t := fun t k => castTop (ef_rm30 m a1) k
  show own_Fin p e below _ _
  refine own_go pre0 ?_
  refine own_go (B := s₁.setTop (mkF m 1 #[.val (.ref a1)] [(.ref a1)])) (fun t k => ?_) ?_
  · show Steps p.tables e below (s₁.setTop (mkF m 0 #[.val (.ref a1)] [])) t
    refine XS.aloadN X0.here hx rfl (hb hby d30_0) rfl rfl ?_
    exact k
  obtain ⟨T1, X1, e1, st1⟩ := getF X0 hx hZ hown (host := "") (Or.inl (own_at hw 49 rfl)) Via.refl e0 FZ (g := (mkF m 1 #[.val (.ref a1)] [(.ref a1)])) rfl rfl (hb hby d30_1)
  refine own_go (fun t k => st1 t k) ?_
  refine own_go (B := T1.setTop (mkF m 6 #[.val (.ref a1)] [(.ref a1), (.int 2), (.int sz)])) (fun t k => ?_) ?_
  · show Steps p.tables e below (T1.setTop (mkF m 4 #[.val (.ref a1)] [(.int sz)])) t
    refine XS.iconst X1.here hx rfl (hb hby d30_4) ?_
    refine XS.aloadN X1.here hx rfl (hb hby d30_5) rfl rfl ?_
    exact k
  obtain ⟨T2, X2, e2, st2⟩ := getF X1 hx hZ hown (host := "") (Or.inl (own_at hw 12 rfl)) Via.refl e1 FK (g := (mkF m 6 #[.val (.ref a1)] [(.ref a1), (.int 2), (.int sz)])) rfl rfl (hb hby d30_6)
  refine own_go (fun t k => st2 t k) ?_
  refine own_go (B := T2.setTop (mkF m 11 #[.val (.ref a1)] [(.ref a1), (.int ((2 : Int32) * kp)), (.int sz)])) (fun t k => ?_) ?_
  · show Steps p.tables e below (T2.setTop (mkF m 9 #[.val (.ref a1)] [(.int kp), (.int 2), (.int sz)])) t
    refine XS.imul X2.here hx rfl (hb hby d30_9) rfl ?_
    refine XS.aloadN X2.here hx rfl (hb hby d30_10) rfl rfl ?_
    exact k
  obtain ⟨T3, X3, e3, st3⟩ := getF X2 hx hZ hown (host := "") (Or.inl (own_at hw 61 rfl)) Via.refl e2 FO (g := (mkF m 11 #[.val (.ref a1)] [(.ref a1), (.int ((2 : Int32) * kp)), (.int sz)])) rfl rfl (hb hby d30_11)
  refine own_go (fun t k => st3 t k) ?_
  refine own_go (B := T3.setTop (mkF m 15 #[.val (.ref a1)] [(.int (((2 : Int32) * kp) + hd)), (.int sz)])) (fun t k => ?_) ?_
  · show Steps p.tables e below (T3.setTop (mkF m 14 #[.val (.ref a1)] [(.int hd), (.int ((2 : Int32) * kp)), (.int sz)])) t
    refine XS.iadd X3.here hx rfl (hb hby d30_14) rfl ?_
    exact k
  by_cases hc15_4 : sz < (((2 : Int32) * kp) + hd)
  · refine own_go (B := T3.setTop (mkF m 22 #[.val (.ref a1)] [])) (fun t k => ?_) ?_
    · refine XS.icmpYes X3.here hx rfl (pc0 := 15) (pc' := 22) rfl (hb hby d30_15) rfl (tlt hc15_4).1 (by decide) (by decide) ?_
      exact k
    refine own_go (B := T3.setTop (mkF m 23 #[.val (.ref a1)] [(.int 0)])) (fun t k => ?_) ?_
    · refine XS.iconst X3.here hx rfl (hb hby d30_22) ?_
      exact k
    obtain ⟨fs, hr, hrun, hended, hW, hsame⟩ := X3.leave (v := some (.int 0)) (fun h => by rw [Bd.returns] at h; cases h)
    refine ⟨_, _, ?_, hrun, hended, _, _, rfl, ?_, ⟨_, rfl⟩, hW, hsame.mono (by decide) (by decide)⟩
    · show Steps p.tables e below (T3.setTop (mkF m 23 #[.val (.ref a1)] [(.int 0)])) _
      exact retN X3 hx (t := .boolean) Bd.returns (by simp) (hb hby d30_23) hr
    · show Q30 Z a1 sz kp hd h0 n0 _ T3.heap _
      rw [e3]
      exact ⟨by rw [if_pos hc15_4], N0, rfl⟩
  · refine own_go (B := T3.setTop (mkF m 18 #[.val (.ref a1)] [])) (fun t k => ?_) ?_
    · refine XS.icmpNo X3.here hx rfl (hb hby d30_15) rfl (flt hc15_4).1 ?_
      exact k
    refine own_go (B := T3.setTop (mkF m 23 #[.val (.ref a1)] [(.int 1)])) (fun t k => ?_) ?_
    · refine XS.iconst X3.here hx rfl (hb hby d30_18) ?_
      refine XS.goto X3.here hx rfl (pc0 := 19) (pc' := 23) rfl (hb hby d30_19) (by decide) (by decide) ?_
      exact k
    obtain ⟨fs, hr, hrun, hended, hW, hsame⟩ := X3.leave (v := some (.int 1)) (fun h => by rw [Bd.returns] at h; cases h)
    refine ⟨_, _, ?_, hrun, hended, _, _, rfl, ?_, ⟨_, rfl⟩, hW, hsame.mono (by decide) (by decide)⟩
    · show Steps p.tables e below (T3.setTop (mkF m 23 #[.val (.ref a1)] [(.int 1)])) _
      exact retN X3 hx (t := .boolean) Bd.returns (by simp) (hb hby d30_23) hr
    · show Q30 Z a1 sz kp hd h0 n0 _ T3.heap _
      rw [e3]
      exact ⟨by rw [if_neg hc15_4], N0, rfl⟩
def own_D (a b c d e : Addr) : Prop := a ≠ b ∧ a ≠ c ∧ a ≠ d ∧ a ≠ e ∧ b ≠ c ∧ b ≠ d ∧ b ≠ e ∧ c ≠ d ∧ c ≠ e ∧ d ≠ e
theorem own_I0 (vr : Int32) (gN : Nat → Int32) : own_I vr (0 : Int32) gN (fun _ => (0 : Int32)) := by
  refine ⟨by decide, by decide, fun i hi => ⟨(by decide : (0 : Int) ≤ (0 : Int32).toInt), (by decide : (0 : Int32).toInt ≤ (0 : Int32).toInt)⟩, fun i hi => ?_, [], by decide, fun i hi hn => absurd rfl hn⟩
  rw [show (0 : Int32).toNatClampNeg = 0 by decide] at hi
  omega
theorem own_first {z r lo : Int32} {gN gN' : Nat → Int32} (h : own_R (0 : Int32) z r lo gN gN') : z = (1 : Int32) ∧ gN' 1 = lo := by
  obtain ⟨⟨-, a, b⟩ | ⟨a, b⟩, c, -⟩ := h
  · rw [own_z0] at b; omega
  · subst a b; exact ⟨by decide, c⟩
theorem own_second {z1 z r lo : Int32} {gN gN' : Nat → Int32} (h : own_R z1 z r lo gN gN') (e : z1 = (1 : Int32)) (hn : gN 1 ≠ lo) : z = (2 : Int32) := by
  subst e
  obtain ⟨⟨-, a, b⟩ | ⟨a, b⟩, c, d⟩ := h
  · have m := own_nat a
    have k : (1 : Int32).toInt = 1 := by decide
    have r0 : r.toNatClampNeg = 0 := by omega
    rw [r0] at c
    exact absurd ((d 1 (by decide)).symm.trans c) hn
  · subst a; decide
theorem d3_0 : decode prog_47_method_45_code 0 = .ok (.iconst 4, 1) := by decide +kernel
theorem d3_1 : decode prog_47_method_45_code 1 = .ok (.aload_n 0, 1) := by decide +kernel
theorem d3_2 : decode prog_47_method_45_code 2 = .ok (.invokevirtual 174, 3) := by decide +kernel
theorem d3_5 : decode prog_47_method_45_code 5 = .ok (.iconst 2, 1) := by decide +kernel
theorem d3_6 : decode prog_47_method_45_code 6 = .ok (.idiv, 1) := by decide +kernel
theorem d3_7 : decode prog_47_method_45_code 7 = .ok (.imul, 1) := by decide +kernel
theorem d3_8 : decode prog_47_method_45_code 8 = .ok (.istore_n 1, 1) := by decide +kernel
theorem d3_9 : decode prog_47_method_45_code 9 = .ok (.aload_n 0, 1) := by decide +kernel
theorem d3_10 : decode prog_47_method_45_code 10 = .ok (.getfield 186, 3) := by decide +kernel
theorem d3_13 : decode prog_47_method_45_code 13 = .ok (.ifnull 12, 3) := by decide +kernel
theorem d3_25 : decode prog_47_method_45_code 25 = .ok (.aload_n 0, 1) := by decide +kernel
theorem d3_26 : decode prog_47_method_45_code 26 = .ok (.iload_n 1, 1) := by decide +kernel
theorem d3_27 : decode prog_47_method_45_code 27 = .ok (.newarray .int, 2) := by decide +kernel
theorem d3_29 : decode prog_47_method_45_code 29 = .ok (.putfield 186, 3) := by decide +kernel
theorem d3_32 : decode prog_47_method_45_code 32 = .ok (.aload_n 0, 1) := by decide +kernel
theorem d3_33 : decode prog_47_method_45_code 33 = .ok (.getfield 186, 3) := by decide +kernel
theorem d3_36 : decode prog_47_method_45_code 36 = .ok (.iconst (-1), 1) := by decide +kernel
theorem d3_37 : decode prog_47_method_45_code 37 = .ok (.invokestatic 84, 3) := by decide +kernel
theorem d3_40 : decode prog_47_method_45_code 40 = .ok (.return_, 1) := by decide +kernel
theorem pn_rm3 : plainName "com/example/liaise/liaise/NodeTable" = true := by first | (simp [plainName, overriddenIn]; done) | decide +kernel
theorem pd_rm3_0 : parseMethodDescriptor "()I" = some ⟨[], some .int⟩ := by decide +kernel
theorem pd_rm3_1 : parseMethodDescriptor "([II)V" = some ⟨[(.array .int), .int], none⟩ := by decide +kernel
theorem ef_rm3 (m : MethodId) (x0 : Addr) : entryFrame m #[(.ref x0)] 2 = mkF m 0 #[.val (.ref x0), .unset] [] := by first | (simp [entryFrame, mkF, argsToLocals, Value.category]; done) | rfl
def Q3 (Z : State) (a1 : Addr) (N : Addr) (gN : Nat → Int32) (w_variables w_size w_kept w_held w_holding w_slots : Value) (h0 : Heap) (n0 : Nat) (v : Option Value) (h : Heap) (L : List Loc) : Prop := ∃ (C : Addr) (gC : Nat → Int32), v = none ∧ Fr n0 L ∧ Keep h0 h [a1] ∧ Fld Z h a1 "com/example/liaise/liaise/NodeTable" "cache" "[I" (.ref C) ∧ own_Ag Value.int Z h C .int (2048 : Int32) gC ∧ n0 ≤ C ∧ h0.size ≤ C ∧ Fld Z h a1 "com/example/liaise/liaise/NodeTable" "variables" "I" w_variables ∧ Fld Z h a1 "com/example/liaise/liaise/NodeTable" "nodes" "[I" (.ref N) ∧ Fld Z h a1 "com/example/liaise/liaise/NodeTable" "size" "I" w_size ∧ Fld Z h a1 "com/example/liaise/liaise/NodeTable" "kept" "I" w_kept ∧ Fld Z h a1 "com/example/liaise/liaise/NodeTable" "held" "[I" w_held ∧ Fld Z h a1 "com/example/liaise/liaise/NodeTable" "holding" "I" w_holding ∧ Fld Z h a1 "com/example/liaise/liaise/NodeTable" "slots" "[I" w_slots
set_option maxRecDepth 65536 in
set_option maxHeartbeats 40000000 in
theorem rm3 (l : Launch) (Z : State) (a0 : Array Value) (hw : ∀ d ∈ tables_1, d.before a0 Z = true) (ws : List Jvm.Cond) (a1 : Addr) (N : Addr) (gN : Nat → Int32) (w_variables w_size w_kept w_held w_holding w_slots : Value) (h0 : Heap) (n0 : Nat) (Z0 : n0 ≤ h0.size) (EX : Exa Z h0 a1 "com/example/liaise/liaise/NodeTable") (FN : Fld Z h0 a1 "com/example/liaise/liaise/NodeTable" "nodes" "[I" (.ref N)) (AN : own_Ag Value.int Z h0 N .int (3072 : Int32) gN) (g_a1 : n0 ≤ a1) (FC : Fld Z h0 a1 "com/example/liaise/liaise/NodeTable" "cache" "[I" .null) (ne1 : N ≠ a1) (O_variables : Fld Z h0 a1 "com/example/liaise/liaise/NodeTable" "variables" "I" w_variables) (O_size : Fld Z h0 a1 "com/example/liaise/liaise/NodeTable" "size" "I" w_size) (O_kept : Fld Z h0 a1 "com/example/liaise/liaise/NodeTable" "kept" "I" w_kept) (O_held : Fld Z h0 a1 "com/example/liaise/liaise/NodeTable" "held" "[I" w_held) (O_holding : Fld Z h0 a1 "com/example/liaise/liaise/NodeTable" "holding" "I" w_holding) (O_slots : Fld Z h0 a1 "com/example/liaise/liaise/NodeTable" "slots" "[I" w_slots) :
    MetFree l (⟨"com/example/liaise/liaise/NodeTable", "emptyCache", "()V"⟩ : MethodName) (head1 (Jvm.Cond.code (⟨"com/example/liaise/liaise/NodeTable", "emptyCache", "()V"⟩ : MethodName) prog_47_method_45_code 2 none :: ws) ({ frames := 1, cells := 1, slots := 2048, locals := 15 } : Room)) (fun a U => a = #[(.ref a1)] ∧ Z.Warmed39 U.vm ∧ U.heap = h0) (fun _ _ _ _ _ => True) (fun _ U o U' => ∃ v L, o = .returned v ∧ Q3 Z a1 N gN w_variables w_size w_kept w_held w_holding w_slots h0 n0 v U'.heap L ∧ FrameEnd U o U' L ({ frames := 1, cells := 1, slots := 2048, locals := 15 } : Room).cells ({ frames := 1, cells := 1, slots := 2048, locals := 15 } : Room).slots) := by
  refine MetFree.of_bodySF (plainFor_of_name pn_rm3) hisR ?_
  intro p e s m args below meth c s₁ Bd hml0 hP hK
  obtain ⟨rfl, hZ, hh⟩ := hP
  have hx := Bd.exec
  have hby := Bd.bytes
  have hml : c.maxLocals = 2 := hml0
  have hown : s.vm.findClass "com/example/liaise/liaise/NodeTable" = some m.cls := findClass_of_methodNamed Bd.named
  have hnm := (name_of_methodNamed Bd.named Bd.method).1
  have X0 : Stand p l e ({ frames := 1, cells := 1, slots := 2048, locals := 15 } : Room) s m #[(.ref a1)] below meth c s₁ [] 0 0 := Stand.of_body Bd
  have e0 : s₁.heap = h0 := by rw [← hh, Bd.state]; rfl
  have N0 := Fr.nil n0
  have pre0 : ∀ t, Steps p.tables e below (s₁.setTop (mkF m 0 #[.val (.ref a1), .unset] [])) t → Steps p.tables e below (s₁.setTop (entryFrame m #[(.ref a1)] 2)) t := fun t k => castTop (ef_rm3 m a1) k
  show own_Fin p e below _ _
  refine own_go pre0 ?_
  refine own_go (B := s₁.setTop (mkF m 2 #[.val (.ref a1), .unset] [(.ref a1), (.int 4)])) (fun t k => ?_) ?_
  · show Steps p.tables e below (s₁.setTop (mkF m 0 #[.val (.ref a1), .unset] [])) t
    refine XS.iconst X0.here hx rfl (hb hby d3_0) ?_
    refine XS.aloadN X0.here hx rfl (hb hby d3_1) rfl rfl ?_
    exact k
  obtain ⟨cq1, q1, q1'⟩ := EX.cell
  obtain ⟨_, _, ⟨T1, L1, k1, n1⟩, -, X1, ⟨Lc1, hQ1, l1, y1, z1⟩, st1⟩ := X0.privateBack hx (y := (⟨"com/example/liaise/liaise/NodeTable", "capacity", "()I"⟩ : MethodName)) hown (mvT hZ (own_at hw 24 rfl)) (mvT hZ (own_at hw 25 rfl)) (mvT hZ (own_selp (y := (⟨"com/example/liaise/liaise/NodeTable", "capacity", "()I"⟩ : MethodName)) (own_at hw 1 rfl) (own_at hw 26 rfl) (own_at hw 25 rfl) (by decide))) (Cond.privateMethod_at (mvP hZ (own_at hw 26 rfl) (args := #[]))) (mvT hZ (own_at hw 27 rfl)) (by decide) (backOf (W := 1) (rm4 l Z a0 hw [] a1 N gN h0 n0 Z0 FN AN) hZ (own_at hw 27 rfl) (own_at hw 2 rfl) (by decide) (by decide)) (g := (mkF m 2 #[.val (.ref a1), .unset] [(.ref a1), (.int 4)])) rfl (by rw [hml]; rfl) (Steps.refl _) (a := a1) (by rw [e0]; exact q1) q1' (argsL := []) (rest := [(.int 4)]) (lenOf pd_rm3_0 rfl) rfl (by show 2 * 0 + _ ≤ _; exact Nat.le_of_eq rfl) (hb hby d3_2) (fun _ _ => ⟨rfl, e0, (by decide : 0 + 0 ≤ _), (by decide : 0 + 0 ≤ _)⟩)
  dsimp only [Pt.U, Pt.locs, Pt.cells, Pt.slots] at X1 l1 y1 z1 st1 hQ1
  subst l1 y1 z1
  obtain ⟨rfl, N1q, hh1⟩ := hQ1
  have N1 := Fr.app N0 N1q
  obtain ⟨LL1, X1, N1⟩ := own_abs X1 N1
  refine own_go (fun t k => st1.trans k) ?_
  refine own_go (B := T1.setTop (mkF m 10 #[.val (.ref a1), .val (.int ((4 : Int32) * ((1024 : Int32) / (2 : Int32))))] [(.ref a1)])) (fun t k => ?_) ?_
  · show Steps p.tables e below (T1.setTop (mkF m 5 #[.val (.ref a1), .unset] [(.int 1024), (.int 4)])) t
    refine XS.iconst X1.here hx rfl (hb hby d3_5) ?_
    refine XS.idiv X1.here hx rfl (hb hby d3_6) rfl (by decide) ?_
    refine XS.imul X1.here hx rfl (hb hby d3_7) rfl ?_
    refine XS.istoreN X1.here hx rfl (hb hby d3_8) rfl (l' := #[.val (.ref a1), .val (.int ((4 : Int32) * ((1024 : Int32) / (2 : Int32))))]) rfl ?_
    refine XS.aloadN X1.here hx rfl (hb hby d3_9) rfl rfl ?_
    exact k
  obtain ⟨T2, X2, e2, st2⟩ := getF X1 hx hZ hown (host := "") (Or.inl (own_at hw 28 rfl)) Via.refl hh1 FC (g := (mkF m 10 #[.val (.ref a1), .val (.int ((4 : Int32) * ((1024 : Int32) / (2 : Int32))))] [(.ref a1)])) rfl rfl (hb hby d3_10)
  refine own_go (fun t k => st2 t k) ?_
  refine own_go (B := T2.setTop (mkF m 27 #[.val (.ref a1), .val (.int ((4 : Int32) * ((1024 : Int32) / (2 : Int32))))] [(.int ((4 : Int32) * ((1024 : Int32) / (2 : Int32)))), (.ref a1)])) (fun t k => ?_) ?_
  · show Steps p.tables e below (T2.setTop (mkF m 13 #[.val (.ref a1), .val (.int ((4 : Int32) * ((1024 : Int32) / (2 : Int32))))] [.null])) t
    refine XS.ifnullYes X2.here hx rfl (pc0 := 13) (pc' := 25) rfl (hb hby d3_13) rfl (by decide) (by decide) ?_
    refine XS.aloadN X2.here hx rfl (hb hby d3_25) rfl rfl ?_
    refine XS.iloadN X2.here hx rfl (hb hby d3_26) rfl ?_
    exact k
  obtain ⟨T3, h3, k3, X3, e3, E3, A3, st3⟩ := newP X2 hx hZ (own_at hw 9 rfl) e2 (g := (mkF m 27 #[.val (.ref a1), .val (.int ((4 : Int32) * ((1024 : Int32) / (2 : Int32))))] [(.int ((4 : Int32) * ((1024 : Int32) / (2 : Int32)))), (.ref a1)])) rfl (hb hby d3_27) rfl (by decide) (cap := 2048) (by decide) (by decide) (by decide) (by decide)
  obtain ⟨b3, g3⟩ : ∃ z, z = h0.size := ⟨_, rfl⟩
  rw [← g3] at A3 st3
  refine own_go (fun t k => st3 t k) ?_
  have g_b3 : n0 ≤ b3 := Nat.le_trans Z0 (Nat.le_of_eq g3.symm)
  have sz_b3 : h0.size ≤ b3 := Nat.le_trans (Keep.refl h0 [a1]).1 (Nat.le_of_eq g3.symm)
  have ne3_a1 : a1 ≠ b3 := Nat.ne_of_lt (Nat.lt_of_lt_of_le EX.lt (Nat.le_of_eq g3.symm))
  have ne3_N : N ≠ b3 := Nat.ne_of_lt (Nat.lt_of_lt_of_le AN.lt (Nat.le_of_eq g3.symm))
  have K3 : Keep h0 h3 [a1] := (Keep.refl h0 [a1]).ext E3
  have f3_0 := EX.ext E3
  have f3_1 := FN.ext E3
  have f3_2 := AN.ext E3
  have f3_3 := FC.ext E3
  have f3_4 := O_variables.ext E3
  have f3_5 := O_size.ext E3
  have f3_6 := O_kept.ext E3
  have f3_7 := O_held.ext E3
  have f3_8 := O_holding.ext E3
  have f3_9 := O_slots.ext E3
  have V3 : own_Ag Value.int Z h3 b3 .int ((4 : Int32) * ((1024 : Int32) / (2 : Int32))) (fun _ => (0 : Int32)) := own_Ag.new (Arv.new A3 (by decide))
  obtain ⟨T4, h4, X4, e4, W4, st4⟩ := putF X3 hx hZ hown (host := "") (Or.inl (own_at hw 28 rfl)) Via.refl e3 f3_3 f3_0 (Or.inl (own_at hw 29 rfl)) (own_at hw 1 rfl) (ty := (.array .int)) (by decide) rfl rfl (g := (mkF m 29 #[.val (.ref a1), .val (.int ((4 : Int32) * ((1024 : Int32) / (2 : Int32))))] [(.ref b3), (.ref a1)])) rfl rfl (hb hby d3_29)
  refine own_go (fun t k => st4 t k) ?_
  have N4 := Fr.snoc X4 N1 g_a1
  obtain ⟨LL4, X4, N4⟩ := own_abs X4 N4
  have K4 : Keep h0 h4 [a1] := K3.wr W4 (Or.inl (List.mem_of_getElem? (i := 0) rfl))
  have f4_0 := f3_0.wr W4
  have f4_1 := f3_1.other W4 (Or.inr (slot_ne (Or.inl (own_at hw 11 rfl)) (Or.inl (own_at hw 29 rfl)) (by decide) (t := (.array .int)) (t' := (.array .int)) (by decide) (by decide)))
  have f4_2 := f3_2.other W4 (Ne.symm (Ne.symm ne1))
  have f4_3 := f3_3.same W4
  have f4_4 := f3_4.other W4 (Or.inr (slot_ne (Or.inr (own_at hw 19 rfl)) (Or.inl (own_at hw 29 rfl)) (by decide) (t := .int) (t' := (.array .int)) (by decide) (by decide)))
  have f4_5 := f3_5.other W4 (Or.inr (slot_ne (Or.inl (own_at hw 50 rfl)) (Or.inl (own_at hw 29 rfl)) (by decide) (t := .int) (t' := (.array .int)) (by decide) (by decide)))
  have f4_6 := f3_6.other W4 (Or.inr (slot_ne (Or.inl (own_at hw 13 rfl)) (Or.inl (own_at hw 29 rfl)) (by decide) (t := .int) (t' := (.array .int)) (by decide) (by decide)))
  have f4_7 := f3_7.other W4 (Or.inr (slot_ne (Or.inl (own_at hw 15 rfl)) (Or.inl (own_at hw 29 rfl)) (by decide) (t := (.array .int)) (t' := (.array .int)) (by decide) (by decide)))
  have f4_8 := f3_8.other W4 (Or.inr (slot_ne (Or.inl (own_at hw 62 rfl)) (Or.inl (own_at hw 29 rfl)) (by decide) (t := .int) (t' := (.array .int)) (by decide) (by decide)))
  have f4_9 := f3_9.other W4 (Or.inr (slot_ne (Or.inl (own_at hw 17 rfl)) (Or.inl (own_at hw 29 rfl)) (by decide) (t := (.array .int)) (t' := (.array .int)) (by decide) (by decide)))
  have f4_10 := V3.other W4 (Ne.symm ne3_a1)
  refine own_go (B := T4.setTop (mkF m 33 #[.val (.ref a1), .val (.int ((4 : Int32) * ((1024 : Int32) / (2 : Int32))))] [(.ref a1)])) (fun t k => ?_) ?_
  · show Steps p.tables e below (T4.setTop (mkF m 32 #[.val (.ref a1), .val (.int ((4 : Int32) * ((1024 : Int32) / (2 : Int32))))] [])) t
    refine XS.aloadN X4.here hx rfl (hb hby d3_32) rfl rfl ?_
    exact k
  obtain ⟨T5, X5, e5, st5⟩ := getF X4 hx hZ hown (host := "") (Or.inl (own_at hw 28 rfl)) Via.refl e4 f4_3 (g := (mkF m 33 #[.val (.ref a1), .val (.int ((4 : Int32) * ((1024 : Int32) / (2 : Int32))))] [(.ref a1)])) rfl rfl (hb hby d3_33)
  refine own_go (fun t k => st5 t k) ?_
  refine own_go (B := T5.setTop (mkF m 37 #[.val (.ref a1), .val (.int ((4 : Int32) * ((1024 : Int32) / (2 : Int32))))] [(.int (-1)), (.ref b3)])) (fun t k => ?_) ?_
  · show Steps p.tables e below (T5.setTop (mkF m 36 #[.val (.ref a1), .val (.int ((4 : Int32) * ((1024 : Int32) / (2 : Int32))))] [(.ref b3)])) t
    refine XS.iconst X5.here hx rfl (hb hby d3_36) ?_
    exact k
  obtain ⟨_, _, ⟨T6, L6, k6, n6⟩, -, X6, ⟨Lc6, hQ6, l6, y6, z6⟩, st6⟩ := Jvm.LawKit.callS X5 hx (y := (⟨"java/util/Arrays", "fill", "([II)V"⟩ : MethodName)) hown (mvT hZ (own_at hw 30 rfl)) (mvT hZ (own_at hw 31 rfl)) (mvT hZ (own_at hw 32 rfl)) (mvT hZ (own_at hw 33 rfl)) (by decide) (backOf (W := 0) (rm5 l Z a0 hw [] b3 (-1 : Int32) ((4 : Int32) * ((1024 : Int32) / (2 : Int32))) (fun _ => (0 : Int32)) h4 n0 (Nat.le_trans (Nat.le_trans Z0 E3.1) (Keep.of_wr W4).1) f4_10 g_b3 (by decide)) hZ (own_at hw 33 rfl) (own_at hw 32 rfl) (by decide) (by decide)) (g := (mkF m 37 #[.val (.ref a1), .val (.int ((4 : Int32) * ((1024 : Int32) / (2 : Int32))))] [(.int (-1)), (.ref b3)])) rfl (by rw [hml]; rfl) (argsL := [(.ref b3), (.int (-1))]) (rest := []) (lenOf pd_rm3_1 rfl) rfl (by show 2 * 0 + _ ≤ _; exact Nat.le_of_eq rfl) (hb hby d3_37) (fun _ _ => ⟨rfl, e5, (by decide : 1 + 0 ≤ _), (by decide : 2048 + 0 ≤ _)⟩)
  dsimp only [Pt.U, Pt.locs, Pt.cells, Pt.slots] at X6 l6 y6 z6 st6 hQ6
  subst l6 y6 z6
  obtain ⟨rfl, N6q, K6, Af6⟩ := hQ6
  have N6 := Fr.app N4 N6q
  obtain ⟨LL6, X6, N6⟩ := own_abs X6 N6
  refine own_go (fun t k => st6 t k) ?_
  have KK6 : Keep h0 T6.heap [a1] := K4.trans K6 (allS (Or.inr sz_b3) all0)
  have f6_0 := f4_0.keep K6
  have ni7 : a1 ∉ [b3] := (ninS ne3_a1 nin0)
  have f6_1 := f4_1.keep K6 ni7
  have ni8 : N ∉ [b3] := (ninS ne3_N nin0)
  have f6_2 := f4_2.keep K6 ni8
  have f6_3 := f4_3.keep K6 ni7
  have f6_4 := f4_4.keep K6 ni7
  have f6_5 := f4_5.keep K6 ni7
  have f6_6 := f4_6.keep K6 ni7
  have f6_7 := f4_7.keep K6 ni7
  have f6_8 := f4_8.keep K6 ni7
  have f6_9 := f4_9.keep K6 ni7
  obtain ⟨fs, hr, hrun, hended, hW, hsame⟩ := X6.leave (v := none) (fun _ => rfl)
  refine ⟨_, _, ?_, hrun, hended, _, _, rfl, ?_, ⟨_, rfl⟩, hW, hsame.mono (by decide) (by decide)⟩
  · show Steps p.tables e below (T6.setTop (mkF m 40 #[.val (.ref a1), .val (.int ((4 : Int32) * ((1024 : Int32) / (2 : Int32))))] [])) _
    exact X6.returnOut hx Bd.returns (hb hby d3_40) hr
  · show Q3 Z a1 N gN w_variables w_size w_kept w_held w_holding w_slots h0 n0 _ T6.heap _
    have e2 : ((4 : Int32) * ((1024 : Int32) / (2 : Int32))) = (2048 : Int32) := by decide
    rw [e2] at Af6
    exact ⟨_, _, rfl, N6, KK6, f6_3, Af6, g_b3, sz_b3, f6_4, f6_1, f6_5, f6_6, f6_7, f6_8, f6_9⟩
theorem d3_16 : decode prog_47_method_45_code 16 = .ok (.aload_n 0, 1) := by decide +kernel
theorem d3_17 : decode prog_47_method_45_code 17 = .ok (.getfield 186, 3) := by decide +kernel
theorem d3_20 : decode prog_47_method_45_code 20 = .ok (.arraylength, 1) := by decide +kernel
theorem d3_21 : decode prog_47_method_45_code 21 = .ok (.iload_n 1, 1) := by decide +kernel
theorem d3_22 : decode prog_47_method_45_code 22 = .ok (.if_icmp .eq 10, 3) := by decide +kernel
theorem pn_rm3b : plainName "com/example/liaise/liaise/NodeTable" = true := by first | (simp [plainName, overriddenIn]; done) | decide +kernel
theorem pd_rm3b_0 : parseMethodDescriptor "()I" = some ⟨[], some .int⟩ := by decide +kernel
theorem pd_rm3b_1 : parseMethodDescriptor "([II)V" = some ⟨[(.array .int), .int], none⟩ := by decide +kernel
theorem ef_rm3b (m : MethodId) (x0 : Addr) : entryFrame m #[(.ref x0)] 2 = mkF m 0 #[.val (.ref x0), .unset] [] := by first | (simp [entryFrame, mkF, argsToLocals, Value.category]; done) | rfl
def Q3b (Z : State) (a1 : Addr) (N C : Addr) (gN gC : Nat → Int32) (h0 : Heap) (n0 : Nat) (v : Option Value) (h : Heap) (L : List Loc) : Prop := ∃ gC' : Nat → Int32, v = none ∧ Fr n0 L ∧ Keep h0 h [C] ∧ own_Ag Value.int Z h C .int (2048 : Int32) gC'
set_option maxRecDepth 65536 in
set_option maxHeartbeats 40000000 in
theorem rm3b (l : Launch) (Z : State) (a0 : Array Value) (hw : ∀ d ∈ tables_1, d.before a0 Z = true) (ws : List Jvm.Cond) (a1 : Addr) (N C : Addr) (gN gC : Nat → Int32) (h0 : Heap) (n0 : Nat) (Z0 : n0 ≤ h0.size) (EX : Exa Z h0 a1 "com/example/liaise/liaise/NodeTable") (FN : Fld Z h0 a1 "com/example/liaise/liaise/NodeTable" "nodes" "[I" (.ref N)) (AN : own_Ag Value.int Z h0 N .int (3072 : Int32) gN) (FC : Fld Z h0 a1 "com/example/liaise/liaise/NodeTable" "cache" "[I" (.ref C)) (AC : own_Ag Value.int Z h0 C .int (2048 : Int32) gC) (g_C : n0 ≤ C) (ne1 : a1 ≠ C) (ne2 : N ≠ C) :
    MetFree l (⟨"com/example/liaise/liaise/NodeTable", "emptyCache", "()V"⟩ : MethodName) (head1 (Jvm.Cond.code (⟨"com/example/liaise/liaise/NodeTable", "emptyCache", "()V"⟩ : MethodName) prog_47_method_45_code 2 none :: ws) ({ frames := 1, cells := 0, slots := 0, locals := 15 } : Room)) (fun a U => a = #[(.ref a1)] ∧ Z.Warmed39 U.vm ∧ U.heap = h0) (fun _ _ _ _ _ => True) (fun _ U o U' => ∃ v L, o = .returned v ∧ Q3b Z a1 N C gN gC h0 n0 v U'.heap L ∧ FrameEnd U o U' L ({ frames := 1, cells := 0, slots := 0, locals := 15 } : Room).cells ({ frames := 1, cells := 0, slots := 0, locals := 15 } : Room).slots) := by
  refine MetFree.of_bodySF (plainFor_of_name pn_rm3b) hisR ?_
  intro p e s m args below meth c s₁ Bd hml0 hP hK
  obtain ⟨rfl, hZ, hh⟩ := hP
  have hx := Bd.exec
  have hby := Bd.bytes
  have hml : c.maxLocals = 2 := hml0
  have hown : s.vm.findClass "com/example/liaise/liaise/NodeTable" = some m.cls := findClass_of_methodNamed Bd.named
  have hnm := (name_of_methodNamed Bd.named Bd.method).1
  have X0 : Stand p l e ({ frames := 1, cells := 0, slots := 0, locals := 15 } : Room) s m #[(.ref a1)] below meth c s₁ [] 0 0 := Stand.of_body Bd
  have e0 : s₁.heap = h0 := by rw [← hh, Bd.state]; rfl
  have N0 := Fr.nil n0
  have pre0 : ∀ t, Steps p.tables e below (s₁.setTop (mkF m 0 #[.val (.ref a1), .unset] [])) t → Steps p.tables e below (s₁.setTop (entryFrame m #[(.ref a1)] 2)) t := fun t k => castTop (ef_rm3b m a1) k
  show own_Fin p e below _ _
  refine own_go pre0 ?_
  refine own_go (B := s₁.setTop (mkF m 2 #[.val (.ref a1), .unset] [(.ref a1), (.int 4)])) (fun t k => ?_) ?_
  · show Steps p.tables e below (s₁.setTop (mkF m 0 #[.val (.ref a1), .unset] [])) t
    refine XS.iconst X0.here hx rfl (hb hby d3_0) ?_
    refine XS.aloadN X0.here hx rfl (hb hby d3_1) rfl rfl ?_
    exact k
  obtain ⟨cq1, q1, q1'⟩ := EX.cell
  obtain ⟨_, _, ⟨T1, L1, k1, n1⟩, -, X1, ⟨Lc1, hQ1, l1, y1, z1⟩, st1⟩ := X0.privateBack hx (y := (⟨"com/example/liaise/liaise/NodeTable", "capacity", "()I"⟩ : MethodName)) hown (mvT hZ (own_at hw 24 rfl)) (mvT hZ (own_at hw 25 rfl)) (mvT hZ (own_selp (y := (⟨"com/example/liaise/liaise/NodeTable", "capacity", "()I"⟩ : MethodName)) (own_at hw 1 rfl) (own_at hw 26 rfl) (own_at hw 25 rfl) (by decide))) (Cond.privateMethod_at (mvP hZ (own_at hw 26 rfl) (args := #[]))) (mvT hZ (own_at hw 27 rfl)) (by decide) (backOf (W := 1) (rm4 l Z a0 hw [] a1 N gN h0 n0 Z0 FN AN) hZ (own_at hw 27 rfl) (own_at hw 2 rfl) (by decide) (by decide)) (g := (mkF m 2 #[.val (.ref a1), .unset] [(.ref a1), (.int 4)])) rfl (by rw [hml]; rfl) (Steps.refl _) (a := a1) (by rw [e0]; exact q1) q1' (argsL := []) (rest := [(.int 4)]) (lenOf pd_rm3b_0 rfl) rfl (by show 2 * 0 + _ ≤ _; exact Nat.le_of_eq rfl) (hb hby d3_2) (fun _ _ => ⟨rfl, e0, (by decide : 0 + 0 ≤ _), (by decide : 0 + 0 ≤ _)⟩)
  dsimp only [Pt.U, Pt.locs, Pt.cells, Pt.slots] at X1 l1 y1 z1 st1 hQ1
  subst l1 y1 z1
  obtain ⟨rfl, N1q, hh1⟩ := hQ1
  have N1 := Fr.app N0 N1q
  obtain ⟨LL1, X1, N1⟩ := own_abs X1 N1
  refine own_go (fun t k => st1.trans k) ?_
  refine own_go (B := T1.setTop (mkF m 10 #[.val (.ref a1), .val (.int ((4 : Int32) * ((1024 : Int32) / (2 : Int32))))] [(.ref a1)])) (fun t k => ?_) ?_
  · show Steps p.tables e below (T1.setTop (mkF m 5 #[.val (.ref a1), .unset] [(.int 1024), (.int 4)])) t
    refine XS.iconst X1.here hx rfl (hb hby d3_5) ?_
    refine XS.idiv X1.here hx rfl (hb hby d3_6) rfl (by decide) ?_
    refine XS.imul X1.here hx rfl (hb hby d3_7) rfl ?_
    refine XS.istoreN X1.here hx rfl (hb hby d3_8) rfl (l' := #[.val (.ref a1), .val (.int ((4 : Int32) * ((1024 : Int32) / (2 : Int32))))]) rfl ?_
    refine XS.aloadN X1.here hx rfl (hb hby d3_9) rfl rfl ?_
    exact k
  obtain ⟨T2, X2, e2, st2⟩ := getF X1 hx hZ hown (host := "") (Or.inl (own_at hw 28 rfl)) Via.refl hh1 FC (g := (mkF m 10 #[.val (.ref a1), .val (.int ((4 : Int32) * ((1024 : Int32) / (2 : Int32))))] [(.ref a1)])) rfl rfl (hb hby d3_10)
  refine own_go (fun t k => st2 t k) ?_
  refine own_go (B := T2.setTop (mkF m 17 #[.val (.ref a1), .val (.int ((4 : Int32) * ((1024 : Int32) / (2 : Int32))))] [(.ref a1)])) (fun t k => ?_) ?_
  · show Steps p.tables e below (T2.setTop (mkF m 13 #[.val (.ref a1), .val (.int ((4 : Int32) * ((1024 : Int32) / (2 : Int32))))] [(.ref C)])) t
    refine XS.ifnullNo X2.here hx rfl (hb hby d3_13) rfl ?_
    refine XS.aloadN X2.here hx rfl (hb hby d3_16) rfl rfl ?_
    exact k
  obtain ⟨T3, X3, e3, st3⟩ := getF X2 hx hZ hown (host := "") (Or.inl (own_at hw 28 rfl)) Via.refl e2 FC (g := (mkF m 17 #[.val (.ref a1), .val (.int ((4 : Int32) * ((1024 : Int32) / (2 : Int32))))] [(.ref a1)])) rfl rfl (hb hby d3_17)
  refine own_go (fun t k => st3 t k) ?_
  obtain ⟨cl4, Ar4, S4, q4⟩ := AC.len
  refine own_go (X3.arraylength hx (by rw [e3]; exact Ar4.1) (State.isArrayOf_alike hZ.alike Ar4.2.1) (g := (mkF m 20 #[.val (.ref a1), .val (.int ((4 : Int32) * ((1024 : Int32) / (2 : Int32))))] [(.ref C)])) rfl rfl (hb hby d3_20)) ?_
  rw [len_of S4 q4]
  refine own_go (B := T3.setTop (mkF m 33 #[.val (.ref a1), .val (.int ((4 : Int32) * ((1024 : Int32) / (2 : Int32))))] [(.ref a1)])) (fun t k => ?_) ?_
  · show Steps p.tables e below (T3.setTop (mkF m 21 #[.val (.ref a1), .val (.int ((4 : Int32) * ((1024 : Int32) / (2 : Int32))))] [(.int 2048)])) t
    refine XS.iloadN X3.here hx rfl (hb hby d3_21) rfl ?_
    show Steps p.tables e below (T3.setTop (mkF m 22 #[.val (.ref a1), .val (.int ((4 : Int32) * ((1024 : Int32) / (2 : Int32))))] [(.int ((4 : Int32) * ((1024 : Int32) / (2 : Int32)))), (.int 2048)])) t
    refine XS.icmpYes X3.here hx rfl (pc0 := 22) (pc' := 32) rfl (hb hby d3_22) rfl (teq (by decide : (2048 : Int32) = ((4 : Int32) * ((1024 : Int32) / (2 : Int32))))).1 (by decide) (by decide) ?_
    refine XS.aloadN X3.here hx rfl (hb hby d3_32) rfl rfl ?_
    exact k
  obtain ⟨T5, X5, e5, st5⟩ := getF X3 hx hZ hown (host := "") (Or.inl (own_at hw 28 rfl)) Via.refl e3 FC (g := (mkF m 33 #[.val (.ref a1), .val (.int ((4 : Int32) * ((1024 : Int32) / (2 : Int32))))] [(.ref a1)])) rfl rfl (hb hby d3_33)
  refine own_go (fun t k => st5 t k) ?_
  refine own_go (B := T5.setTop (mkF m 37 #[.val (.ref a1), .val (.int ((4 : Int32) * ((1024 : Int32) / (2 : Int32))))] [(.int (-1)), (.ref C)])) (fun t k => ?_) ?_
  · show Steps p.tables e below (T5.setTop (mkF m 36 #[.val (.ref a1), .val (.int ((4 : Int32) * ((1024 : Int32) / (2 : Int32))))] [(.ref C)])) t
    refine XS.iconst X5.here hx rfl (hb hby d3_36) ?_
    exact k
  obtain ⟨_, _, ⟨T6, L6, k6, n6⟩, -, X6, ⟨Lc6, hQ6, l6, y6, z6⟩, st6⟩ := Jvm.LawKit.callS X5 hx (y := (⟨"java/util/Arrays", "fill", "([II)V"⟩ : MethodName)) hown (mvT hZ (own_at hw 30 rfl)) (mvT hZ (own_at hw 31 rfl)) (mvT hZ (own_at hw 32 rfl)) (mvT hZ (own_at hw 33 rfl)) (by decide) (backOf (W := 0) (rm5 l Z a0 hw [] C (-1 : Int32) (2048 : Int32) gC h0 n0 Z0 AC g_C (by decide)) hZ (own_at hw 33 rfl) (own_at hw 32 rfl) (by decide) (by decide)) (g := (mkF m 37 #[.val (.ref a1), .val (.int ((4 : Int32) * ((1024 : Int32) / (2 : Int32))))] [(.int (-1)), (.ref C)])) rfl (by rw [hml]; rfl) (argsL := [(.ref C), (.int (-1))]) (rest := []) (lenOf pd_rm3b_1 rfl) rfl (by show 2 * 0 + _ ≤ _; exact Nat.le_of_eq rfl) (hb hby d3_37) (fun _ _ => ⟨rfl, e5, (by decide : 0 + 0 ≤ _), (by decide : 0 + 0 ≤ _)⟩)
  dsimp only [Pt.U, Pt.locs, Pt.cells, Pt.slots] at X6 l6 y6 z6 st6 hQ6
  subst l6 y6 z6
  obtain ⟨rfl, N6q, K6, Af6⟩ := hQ6
  have N6 := Fr.app N1 N6q
  obtain ⟨LL6, X6, N6⟩ := own_abs X6 N6
  refine own_go (fun t k => st6 t k) ?_
  have KK6 : Keep h0 T6.heap [C] := (Keep.refl h0 [C]).trans K6 (allS (Or.inl (List.mem_of_getElem? (i := 0) rfl)) all0)
  have f6_0 := EX.keep K6
  have ni7 : a1 ∉ [C] := (ninS ne1 nin0)
  have f6_1 := FN.keep K6 ni7
  have ni8 : N ∉ [C] := (ninS ne2 nin0)
  have f6_2 := AN.keep K6 ni8
  have f6_3 := FC.keep K6 ni7
  obtain ⟨fs, hr, hrun, hended, hW, hsame⟩ := X6.leave (v := none) (fun _ => rfl)
  refine ⟨_, _, ?_, hrun, hended, _, _, rfl, ?_, ⟨_, rfl⟩, hW, hsame.mono (by decide) (by decide)⟩
  · show Steps p.tables e below (T6.setTop (mkF m 40 #[.val (.ref a1), .val (.int ((4 : Int32) * ((1024 : Int32) / (2 : Int32))))] [])) _
    exact X6.returnOut hx Bd.returns (hb hby d3_40) hr
  · show Q3b Z a1 N C gN gC h0 n0 _ T6.heap _
    exact ⟨_, rfl, N6, KK6, Af6⟩
theorem d1_0 : decode prog_47_method_1_code 0 = .ok (.aload_n 0, 1) := by decide +kernel
theorem d1_1 : decode prog_47_method_1_code 1 = .ok (.invokespecial 1, 3) := by decide +kernel
theorem d1_4 : decode prog_47_method_1_code 4 = .ok (.aload_n 0, 1) := by decide +kernel
theorem d1_5 : decode prog_47_method_1_code 5 = .ok (.sipush 3072, 3) := by decide +kernel
theorem d1_8 : decode prog_47_method_1_code 8 = .ok (.newarray .int, 2) := by decide +kernel
theorem d1_10 : decode prog_47_method_1_code 10 = .ok (.putfield 9, 3) := by decide +kernel
theorem d1_13 : decode prog_47_method_1_code 13 = .ok (.aload_n 0, 1) := by decide +kernel
theorem d1_14 : decode prog_47_method_1_code 14 = .ok (.iconst 2, 1) := by decide +kernel
theorem d1_15 : decode prog_47_method_1_code 15 = .ok (.putfield 13, 3) := by decide +kernel
theorem d1_18 : decode prog_47_method_1_code 18 = .ok (.aload_n 0, 1) := by decide +kernel
theorem d1_19 : decode prog_47_method_1_code 19 = .ok (.iconst 2, 1) := by decide +kernel
theorem d1_20 : decode prog_47_method_1_code 20 = .ok (.newarray .int, 2) := by decide +kernel
theorem d1_22 : decode prog_47_method_1_code 22 = .ok (.putfield 17, 3) := by decide +kernel
theorem d1_25 : decode prog_47_method_1_code 25 = .ok (.aload_n 0, 1) := by decide +kernel
theorem d1_26 : decode prog_47_method_1_code 26 = .ok (.sipush 2048, 3) := by decide +kernel
theorem d1_29 : decode prog_47_method_1_code 29 = .ok (.newarray .int, 2) := by decide +kernel
theorem d1_31 : decode prog_47_method_1_code 31 = .ok (.putfield 20, 3) := by decide +kernel
theorem d1_34 : decode prog_47_method_1_code 34 = .ok (.iload_n 1, 1) := by decide +kernel
theorem d1_35 : decode prog_47_method_1_code 35 = .ok (.ifCond .ge 17, 3) := by decide +kernel
theorem d1_52 : decode prog_47_method_1_code 52 = .ok (.aload_n 0, 1) := by decide +kernel
theorem d1_53 : decode prog_47_method_1_code 53 = .ok (.iload_n 1, 1) := by decide +kernel
theorem d1_54 : decode prog_47_method_1_code 54 = .ok (.putfield 32, 3) := by decide +kernel
theorem d1_57 : decode prog_47_method_1_code 57 = .ok (.aload_n 0, 1) := by decide +kernel
theorem d1_58 : decode prog_47_method_1_code 58 = .ok (.invokevirtual 35, 3) := by decide +kernel
theorem d1_61 : decode prog_47_method_1_code 61 = .ok (.aload_n 0, 1) := by decide +kernel
theorem d1_62 : decode prog_47_method_1_code 62 = .ok (.iconst 0, 1) := by decide +kernel
theorem d1_63 : decode prog_47_method_1_code 63 = .ok (.invokevirtual 38, 3) := by decide +kernel
theorem d1_66 : decode prog_47_method_1_code 66 = .ok (.pop, 1) := by decide +kernel
theorem d1_67 : decode prog_47_method_1_code 67 = .ok (.aload_n 0, 1) := by decide +kernel
theorem d1_68 : decode prog_47_method_1_code 68 = .ok (.iconst 1, 1) := by decide +kernel
theorem d1_69 : decode prog_47_method_1_code 69 = .ok (.invokevirtual 38, 3) := by decide +kernel
theorem d1_72 : decode prog_47_method_1_code 72 = .ok (.pop, 1) := by decide +kernel
theorem d1_73 : decode prog_47_method_1_code 73 = .ok (.return_, 1) := by decide +kernel
theorem pn_rm1 : plainName "com/example/liaise/liaise/NodeTable" = true := by first | (simp [plainName, overriddenIn]; done) | decide +kernel
theorem pd_rm1_0 : parseMethodDescriptor "()V" = some ⟨[], none⟩ := by decide +kernel
theorem pd_rm1_1 : parseMethodDescriptor "(I)I" = some ⟨[.int], some .int⟩ := by decide +kernel
theorem ef_rm1 (m : MethodId) (x0 : Addr) (x1 : Int32) : entryFrame m #[(.ref x0), (.int x1)] 2 = mkF m 0 #[.val (.ref x0), .val (.int x1)] [] := by first | (simp [entryFrame, mkF, argsToLocals, Value.category]; done) | rfl
def Q1 (Z : State) (a1 : Addr) (p2 : Int32) (h0 : Heap) (n0 : Nat) (v : Option Value) (h : Heap) (L : List Loc) : Prop := ∃ (N H S C : Addr) (sz : Int32) (gN gH gS gC : Nat → Int32), v = none ∧ Fr n0 L ∧ Keep h0 h [a1] ∧ sz = (2 : Int32) ∧ Fld Z h a1 "com/example/liaise/liaise/NodeTable" "variables" "I" (.int p2) ∧ Fld Z h a1 "com/example/liaise/liaise/NodeTable" "nodes" "[I" (.ref N) ∧ Fld Z h a1 "com/example/liaise/liaise/NodeTable" "size" "I" (.int sz) ∧ Fld Z h a1 "com/example/liaise/liaise/NodeTable" "kept" "I" (.int (2 : Int32)) ∧ Fld Z h a1 "com/example/liaise/liaise/NodeTable" "held" "[I" (.ref H) ∧ Fld Z h a1 "com/example/liaise/liaise/NodeTable" "holding" "I" (.int (0 : Int32)) ∧ Fld Z h a1 "com/example/liaise/liaise/NodeTable" "slots" "[I" (.ref S) ∧ Fld Z h a1 "com/example/liaise/liaise/NodeTable" "cache" "[I" (.ref C) ∧ own_Ag Value.int Z h N .int (3072 : Int32) gN ∧ own_Ag Value.int Z h H .int (2 : Int32) gH ∧ own_Ag Value.int Z h S .int (2048 : Int32) gS ∧ own_Ag Value.int Z h C .int (2048 : Int32) gC ∧ own_I p2 sz gN gS ∧ (n0 ≤ N ∧ n0 ≤ H ∧ n0 ≤ S ∧ n0 ≤ C) ∧ own_D a1 N H S C
set_option maxRecDepth 65536 in
set_option maxHeartbeats 40000000 in
theorem rm1 (l : Launch) (Z : State) (a0 : Array Value) (hw : ∀ d ∈ tables_1, d.before a0 Z = true) (ws : List Jvm.Cond) (a1 : Addr) (p2 : Int32) (h0 : Heap) (n0 : Nat) (Z0 : n0 ≤ h0.size) (EX : Exa Z h0 a1 "com/example/liaise/liaise/NodeTable") (F_variables : Fld Z h0 a1 "com/example/liaise/liaise/NodeTable" "variables" "I" (.int (0 : Int32))) (F_nodes : Fld Z h0 a1 "com/example/liaise/liaise/NodeTable" "nodes" "[I" .null) (F_size : Fld Z h0 a1 "com/example/liaise/liaise/NodeTable" "size" "I" (.int (0 : Int32))) (F_kept : Fld Z h0 a1 "com/example/liaise/liaise/NodeTable" "kept" "I" (.int (0 : Int32))) (F_held : Fld Z h0 a1 "com/example/liaise/liaise/NodeTable" "held" "[I" .null) (F_holding : Fld Z h0 a1 "com/example/liaise/liaise/NodeTable" "holding" "I" (.int (0 : Int32))) (F_slots : Fld Z h0 a1 "com/example/liaise/liaise/NodeTable" "slots" "[I" .null) (F_cache : Fld Z h0 a1 "com/example/liaise/liaise/NodeTable" "cache" "[I" .null) (g_a1 : n0 ≤ a1) (hp : 0 ≤ p2.toInt) :
    MetFree l (⟨"com/example/liaise/liaise/NodeTable", "<init>", "(I)V"⟩ : MethodName) (head1 (Jvm.Cond.code (⟨"com/example/liaise/liaise/NodeTable", "<init>", "(I)V"⟩ : MethodName) prog_47_method_1_code 2 none :: ws) ({ frames := 3, cells := 4, slots := 7170, locals := 48 } : Room)) (fun a U => a = #[(.ref a1), (.int p2)] ∧ Z.Warmed39 U.vm ∧ U.heap = h0) (fun _ _ _ _ _ => True) (fun _ U o U' => ∃ v L, o = .returned v ∧ Q1 Z a1 p2 h0 n0 v U'.heap L ∧ FrameEnd U o U' L ({ frames := 3, cells := 4, slots := 7170, locals := 48 } : Room).cells ({ frames := 3, cells := 4, slots := 7170, locals := 48 } : Room).slots) := by
  refine MetFree.of_bodySF (plainFor_of_name pn_rm1) hisR ?_
  intro p e s m args below meth c s₁ Bd hml0 hP hK
  obtain ⟨rfl, hZ, hh⟩ := hP
  have hx := Bd.exec
  have hby := Bd.bytes
  have hml : c.maxLocals = 2 := hml0
  have hown : s.vm.findClass "com/example/liaise/liaise/NodeTable" = some m.cls := findClass_of_methodNamed Bd.named
  have hnm := (name_of_methodNamed Bd.named Bd.method).1
  have X0 : Stand p l e ({ frames := 3, cells := 4, slots := 7170, locals := 48 } : Room) s m #[(.ref a1), (.int p2)] below meth c s₁ [] 0 0 := Stand.of_body Bd
  have e0 : s₁.heap = h0 := by rw [← hh, Bd.state]; rfl
  have N0 := Fr.nil n0
  have pre0 : ∀ t, Steps p.tables e below (s₁.setTop (mkF m 0 #[.val (.ref a1), .val (.int p2)] [])) t → Steps p.tables e below (s₁.setTop (entryFrame m #[(.ref a1), (.int p2)] 2)) t := fun t k => castTop (ef_rm1 m a1 p2) k
  show own_Fin p e below _ _
  refine own_go pre0 ?_
  refine own_go (B := s₁.setTop (mkF m 1 #[.val (.ref a1), .val (.int p2)] [(.ref a1)])) (fun t k => ?_) ?_
  · show Steps p.tables e below (s₁.setTop (mkF m 0 #[.val (.ref a1), .val (.int p2)] [])) t
    refine XS.aloadN X0.here hx rfl (hb hby d1_0) rfl rfl ?_
    exact k
  obtain ⟨T1, X1, e1, st1⟩ := initO X0 hx hZ hown (own_at hw 6 rfl) (own_at hw 7 rfl) (own_at hw 8 rfl) e0 (g := (mkF m 1 #[.val (.ref a1), .val (.int p2)] [(.ref a1)])) rfl (by rw [hml]; rfl) rfl (hb hby d1_1) (by decide) (W := 0) (by show 2 * 0 + _ ≤ _; exact Nat.le_of_eq rfl) (by decide)
  refine own_go (fun t k => st1 t k) ?_
  refine own_go (B := T1.setTop (mkF m 8 #[.val (.ref a1), .val (.int p2)] [(.int 3072), (.ref a1)])) (fun t k => ?_) ?_
  · show Steps p.tables e below (T1.setTop (mkF m 4 #[.val (.ref a1), .val (.int p2)] [])) t
    refine XS.aloadN X1.here hx rfl (hb hby d1_4) rfl rfl ?_
    refine XS.sipush X1.here hx rfl (hb hby d1_5) ?_
    exact k
  obtain ⟨T2, h2, k2, X2, e2, E2, A2, st2⟩ := newP X1 hx hZ (own_at hw 9 rfl) e1 (g := (mkF m 8 #[.val (.ref a1), .val (.int p2)] [(.int 3072), (.ref a1)])) rfl (hb hby d1_8) rfl (by decide) (cap := 3072) (by decide) (by decide) (by decide) (by decide)
  obtain ⟨b2, g2⟩ : ∃ z, z = h0.size := ⟨_, rfl⟩
  rw [← g2] at A2 st2
  refine own_go (fun t k => st2 t k) ?_
  have g_b2 : n0 ≤ b2 := Nat.le_trans Z0 (Nat.le_of_eq g2.symm)
  have sz_b2 : h0.size ≤ b2 := Nat.le_trans (Keep.refl h0 [a1]).1 (Nat.le_of_eq g2.symm)
  have ne2_a1 : a1 ≠ b2 := Nat.ne_of_lt (Nat.lt_of_lt_of_le EX.lt (Nat.le_of_eq g2.symm))
  have K2 : Keep h0 h2 [a1] := (Keep.refl h0 [a1]).ext E2
  have f2_0 := EX.ext E2
  have f2_1 := F_variables.ext E2
  have f2_2 := F_nodes.ext E2
  have f2_3 := F_size.ext E2
  have f2_4 := F_kept.ext E2
  have f2_5 := F_held.ext E2
  have f2_6 := F_holding.ext E2
  have f2_7 := F_slots.ext E2
  have f2_8 := F_cache.ext E2
  have V2 : own_Ag Value.int Z h2 b2 .int (3072 : Int32) (fun _ => (0 : Int32)) := own_Ag.new (Arv.new A2 (by decide))
  obtain ⟨T3, h3, X3, e3, W3, st3⟩ := putF X2 hx hZ hown (host := "") (Or.inl (own_at hw 10 rfl)) Via.refl e2 f2_2 f2_0 (Or.inl (own_at hw 11 rfl)) (own_at hw 1 rfl) (ty := (.array .int)) (by decide) rfl rfl (g := (mkF m 10 #[.val (.ref a1), .val (.int p2)] [(.ref b2), (.ref a1)])) rfl rfl (hb hby d1_10)
  refine own_go (fun t k => st3 t k) ?_
  have N3 := Fr.snoc X3 N0 g_a1
  obtain ⟨LL3, X3, N3⟩ := own_abs X3 N3
  have K3 : Keep h0 h3 [a1] := K2.wr W3 (Or.inl (List.mem_of_getElem? (i := 0) rfl))
  have f3_0 := f2_0.wr W3
  have f3_1 := f2_1.other W3 (Or.inr (slot_ne (Or.inr (own_at hw 19 rfl)) (Or.inl (own_at hw 11 rfl)) (by decide) (t := .int) (t' := (.array .int)) (by decide) (by decide)))
  have f3_2 := f2_2.same W3
  have f3_3 := f2_3.other W3 (Or.inr (slot_ne (Or.inl (own_at hw 50 rfl)) (Or.inl (own_at hw 11 rfl)) (by decide) (t := .int) (t' := (.array .int)) (by decide) (by decide)))
  have f3_4 := f2_4.other W3 (Or.inr (slot_ne (Or.inl (own_at hw 13 rfl)) (Or.inl (own_at hw 11 rfl)) (by decide) (t := .int) (t' := (.array .int)) (by decide) (by decide)))
  have f3_5 := f2_5.other W3 (Or.inr (slot_ne (Or.inl (own_at hw 15 rfl)) (Or.inl (own_at hw 11 rfl)) (by decide) (t := (.array .int)) (t' := (.array .int)) (by decide) (by decide)))
  have f3_6 := f2_6.other W3 (Or.inr (slot_ne (Or.inl (own_at hw 62 rfl)) (Or.inl (own_at hw 11 rfl)) (by decide) (t := .int) (t' := (.array .int)) (by decide) (by decide)))
  have f3_7 := f2_7.other W3 (Or.inr (slot_ne (Or.inl (own_at hw 17 rfl)) (Or.inl (own_at hw 11 rfl)) (by decide) (t := (.array .int)) (t' := (.array .int)) (by decide) (by decide)))
  have f3_8 := f2_8.other W3 (Or.inr (slot_ne (Or.inl (own_at hw 29 rfl)) (Or.inl (own_at hw 11 rfl)) (by decide) (t := (.array .int)) (t' := (.array .int)) (by decide) (by decide)))
  have f3_9 := V2.other W3 (Ne.symm ne2_a1)
  refine own_go (B := T3.setTop (mkF m 15 #[.val (.ref a1), .val (.int p2)] [(.int 2), (.ref a1)])) (fun t k => ?_) ?_
  · show Steps p.tables e below (T3.setTop (mkF m 13 #[.val (.ref a1), .val (.int p2)] [])) t
    refine XS.aloadN X3.here hx rfl (hb hby d1_13) rfl rfl ?_
    refine XS.iconst X3.here hx rfl (hb hby d1_14) ?_
    exact k
  obtain ⟨T4, h4, X4, e4, W4, st4⟩ := putF X3 hx hZ hown (host := "") (Or.inl (own_at hw 12 rfl)) Via.refl e3 f3_4 f3_0 (Or.inl (own_at hw 13 rfl)) (own_at hw 1 rfl) (ty := .int) (by decide) rfl rfl (g := (mkF m 15 #[.val (.ref a1), .val (.int p2)] [(.int 2), (.ref a1)])) rfl rfl (hb hby d1_15)
  refine own_go (fun t k => st4 t k) ?_
  have N4 := Fr.snoc X4 N3 g_a1
  obtain ⟨LL4, X4, N4⟩ := own_abs X4 N4
  have K4 : Keep h0 h4 [a1] := K3.wr W4 (Or.inl (List.mem_of_getElem? (i := 0) rfl))
  have f4_0 := f3_0.wr W4
  have f4_1 := f3_1.other W4 (Or.inr (slot_ne (Or.inr (own_at hw 19 rfl)) (Or.inl (own_at hw 13 rfl)) (by decide) (t := .int) (t' := .int) (by decide) (by decide)))
  have f4_2 := f3_2.other W4 (Or.inr (slot_ne (Or.inl (own_at hw 11 rfl)) (Or.inl (own_at hw 13 rfl)) (by decide) (t := (.array .int)) (t' := .int) (by decide) (by decide)))
  have f4_3 := f3_3.other W4 (Or.inr (slot_ne (Or.inl (own_at hw 50 rfl)) (Or.inl (own_at hw 13 rfl)) (by decide) (t := .int) (t' := .int) (by decide) (by decide)))
  have f4_4 := f3_4.same W4
  have f4_5 := f3_5.other W4 (Or.inr (slot_ne (Or.inl (own_at hw 15 rfl)) (Or.inl (own_at hw 13 rfl)) (by decide) (t := (.array .int)) (t' := .int) (by decide) (by decide)))
  have f4_6 := f3_6.other W4 (Or.inr (slot_ne (Or.inl (own_at hw 62 rfl)) (Or.inl (own_at hw 13 rfl)) (by decide) (t := .int) (t' := .int) (by decide) (by decide)))
  have f4_7 := f3_7.other W4 (Or.inr (slot_ne (Or.inl (own_at hw 17 rfl)) (Or.inl (own_at hw 13 rfl)) (by decide) (t := (.array .int)) (t' := .int) (by decide) (by decide)))
  have f4_8 := f3_8.other W4 (Or.inr (slot_ne (Or.inl (own_at hw 29 rfl)) (Or.inl (own_at hw 13 rfl)) (by decide) (t := (.array .int)) (t' := .int) (by decide) (by decide)))
  have f4_9 := f3_9.other W4 (Ne.symm ne2_a1)
  refine own_go (B := T4.setTop (mkF m 20 #[.val (.ref a1), .val (.int p2)] [(.int 2), (.ref a1)])) (fun t k => ?_) ?_
  · show Steps p.tables e below (T4.setTop (mkF m 18 #[.val (.ref a1), .val (.int p2)] [])) t
    refine XS.aloadN X4.here hx rfl (hb hby d1_18) rfl rfl ?_
    refine XS.iconst X4.here hx rfl (hb hby d1_19) ?_
    exact k
  obtain ⟨T5, h5, k5, X5, e5, E5, A5, st5⟩ := newP X4 hx hZ (own_at hw 9 rfl) e4 (g := (mkF m 20 #[.val (.ref a1), .val (.int p2)] [(.int 2), (.ref a1)])) rfl (hb hby d1_20) rfl (by decide) (cap := 2) (by decide) (by decide) (by decide) (by decide)
  obtain ⟨b5, g5⟩ : ∃ z, z = h4.size := ⟨_, rfl⟩
  rw [← g5] at A5 st5
  refine own_go (fun t k => st5 t k) ?_
  have g_b5 : n0 ≤ b5 := Nat.le_trans (Nat.le_trans (Nat.le_trans (Nat.le_trans Z0 E2.1) (Keep.of_wr W3).1) (Keep.of_wr W4).1) (Nat.le_of_eq g5.symm)
  have sz_b5 : h0.size ≤ b5 := Nat.le_trans K4.1 (Nat.le_of_eq g5.symm)
  have ne5_a1 : a1 ≠ b5 := Nat.ne_of_lt (Nat.lt_of_lt_of_le f4_0.lt (Nat.le_of_eq g5.symm))
  have ne5_b2 : b2 ≠ b5 := Nat.ne_of_lt (Nat.lt_of_lt_of_le f4_9.lt (Nat.le_of_eq g5.symm))
  have K5 : Keep h0 h5 [a1] := K4.ext E5
  have f5_0 := f4_0.ext E5
  have f5_1 := f4_1.ext E5
  have f5_2 := f4_2.ext E5
  have f5_3 := f4_3.ext E5
  have f5_4 := f4_4.ext E5
  have f5_5 := f4_5.ext E5
  have f5_6 := f4_6.ext E5
  have f5_7 := f4_7.ext E5
  have f5_8 := f4_8.ext E5
  have f5_9 := f4_9.ext E5
  have V5 : own_Ag Value.int Z h5 b5 .int (2 : Int32) (fun _ => (0 : Int32)) := own_Ag.new (Arv.new A5 (by decide))
  obtain ⟨T6, h6, X6, e6, W6, st6⟩ := putF X5 hx hZ hown (host := "") (Or.inl (own_at hw 14 rfl)) Via.refl e5 f5_5 f5_0 (Or.inl (own_at hw 15 rfl)) (own_at hw 1 rfl) (ty := (.array .int)) (by decide) rfl rfl (g := (mkF m 22 #[.val (.ref a1), .val (.int p2)] [(.ref b5), (.ref a1)])) rfl rfl (hb hby d1_22)
  refine own_go (fun t k => st6 t k) ?_
  have N6 := Fr.snoc X6 N4 g_a1
  obtain ⟨LL6, X6, N6⟩ := own_abs X6 N6
  have K6 : Keep h0 h6 [a1] := K5.wr W6 (Or.inl (List.mem_of_getElem? (i := 0) rfl))
  have f6_0 := f5_0.wr W6
  have f6_1 := f5_1.other W6 (Or.inr (slot_ne (Or.inr (own_at hw 19 rfl)) (Or.inl (own_at hw 15 rfl)) (by decide) (t := .int) (t' := (.array .int)) (by decide) (by decide)))
  have f6_2 := f5_2.other W6 (Or.inr (slot_ne (Or.inl (own_at hw 11 rfl)) (Or.inl (own_at hw 15 rfl)) (by decide) (t := (.array .int)) (t' := (.array .int)) (by decide) (by decide)))
  have f6_3 := f5_3.other W6 (Or.inr (slot_ne (Or.inl (own_at hw 50 rfl)) (Or.inl (own_at hw 15 rfl)) (by decide) (t := .int) (t' := (.array .int)) (by decide) (by decide)))
  have f6_4 := f5_4.other W6 (Or.inr (slot_ne (Or.inl (own_at hw 13 rfl)) (Or.inl (own_at hw 15 rfl)) (by decide) (t := .int) (t' := (.array .int)) (by decide) (by decide)))
  have f6_5 := f5_5.same W6
  have f6_6 := f5_6.other W6 (Or.inr (slot_ne (Or.inl (own_at hw 62 rfl)) (Or.inl (own_at hw 15 rfl)) (by decide) (t := .int) (t' := (.array .int)) (by decide) (by decide)))
  have f6_7 := f5_7.other W6 (Or.inr (slot_ne (Or.inl (own_at hw 17 rfl)) (Or.inl (own_at hw 15 rfl)) (by decide) (t := (.array .int)) (t' := (.array .int)) (by decide) (by decide)))
  have f6_8 := f5_8.other W6 (Or.inr (slot_ne (Or.inl (own_at hw 29 rfl)) (Or.inl (own_at hw 15 rfl)) (by decide) (t := (.array .int)) (t' := (.array .int)) (by decide) (by decide)))
  have f6_9 := f5_9.other W6 (Ne.symm ne2_a1)
  have f6_10 := V5.other W6 (Ne.symm ne5_a1)
  refine own_go (B := T6.setTop (mkF m 29 #[.val (.ref a1), .val (.int p2)] [(.int 2048), (.ref a1)])) (fun t k => ?_) ?_
  · show Steps p.tables e below (T6.setTop (mkF m 25 #[.val (.ref a1), .val (.int p2)] [])) t
    refine XS.aloadN X6.here hx rfl (hb hby d1_25) rfl rfl ?_
    refine XS.sipush X6.here hx rfl (hb hby d1_26) ?_
    exact k
  obtain ⟨T7, h7, k7, X7, e7, E7, A7, st7⟩ := newP X6 hx hZ (own_at hw 9 rfl) e6 (g := (mkF m 29 #[.val (.ref a1), .val (.int p2)] [(.int 2048), (.ref a1)])) rfl (hb hby d1_29) rfl (by decide) (cap := 2048) (by decide) (by decide) (by decide) (by decide)
  obtain ⟨b7, g7⟩ : ∃ z, z = h6.size := ⟨_, rfl⟩
  rw [← g7] at A7 st7
  refine own_go (fun t k => st7 t k) ?_
  have g_b7 : n0 ≤ b7 := Nat.le_trans (Nat.le_trans (Nat.le_trans (Nat.le_trans (Nat.le_trans (Nat.le_trans Z0 E2.1) (Keep.of_wr W3).1) (Keep.of_wr W4).1) E5.1) (Keep.of_wr W6).1) (Nat.le_of_eq g7.symm)
  have sz_b7 : h0.size ≤ b7 := Nat.le_trans K6.1 (Nat.le_of_eq g7.symm)
  have ne7_a1 : a1 ≠ b7 := Nat.ne_of_lt (Nat.lt_of_lt_of_le f6_0.lt (Nat.le_of_eq g7.symm))
  have ne7_b2 : b2 ≠ b7 := Nat.ne_of_lt (Nat.lt_of_lt_of_le f6_9.lt (Nat.le_of_eq g7.symm))
  have ne7_b5 : b5 ≠ b7 := Nat.ne_of_lt (Nat.lt_of_lt_of_le f6_10.lt (Nat.le_of_eq g7.symm))
  have K7 : Keep h0 h7 [a1] := K6.ext E7
  have f7_0 := f6_0.ext E7
  have f7_1 := f6_1.ext E7
  have f7_2 := f6_2.ext E7
  have f7_3 := f6_3.ext E7
  have f7_4 := f6_4.ext E7
  have f7_5 := f6_5.ext E7
  have f7_6 := f6_6.ext E7
  have f7_7 := f6_7.ext E7
  have f7_8 := f6_8.ext E7
  have f7_9 := f6_9.ext E7
  have f7_10 := f6_10.ext E7
  have V7 : own_Ag Value.int Z h7 b7 .int (2048 : Int32) (fun _ => (0 : Int32)) := own_Ag.new (Arv.new A7 (by decide))
  obtain ⟨T8, h8, X8, e8, W8, st8⟩ := putF X7 hx hZ hown (host := "") (Or.inl (own_at hw 16 rfl)) Via.refl e7 f7_7 f7_0 (Or.inl (own_at hw 17 rfl)) (own_at hw 1 rfl) (ty := (.array .int)) (by decide) rfl rfl (g := (mkF m 31 #[.val (.ref a1), .val (.int p2)] [(.ref b7), (.ref a1)])) rfl rfl (hb hby d1_31)
  refine own_go (fun t k => st8 t k) ?_
  have N8 := Fr.snoc X8 N6 g_a1
  obtain ⟨LL8, X8, N8⟩ := own_abs X8 N8
  have K8 : Keep h0 h8 [a1] := K7.wr W8 (Or.inl (List.mem_of_getElem? (i := 0) rfl))
  have f8_0 := f7_0.wr W8
  have f8_1 := f7_1.other W8 (Or.inr (slot_ne (Or.inr (own_at hw 19 rfl)) (Or.inl (own_at hw 17 rfl)) (by decide) (t := .int) (t' := (.array .int)) (by decide) (by decide)))
  have f8_2 := f7_2.other W8 (Or.inr (slot_ne (Or.inl (own_at hw 11 rfl)) (Or.inl (own_at hw 17 rfl)) (by decide) (t := (.array .int)) (t' := (.array .int)) (by decide) (by decide)))
  have f8_3 := f7_3.other W8 (Or.inr (slot_ne (Or.inl (own_at hw 50 rfl)) (Or.inl (own_at hw 17 rfl)) (by decide) (t := .int) (t' := (.array .int)) (by decide) (by decide)))
  have f8_4 := f7_4.other W8 (Or.inr (slot_ne (Or.inl (own_at hw 13 rfl)) (Or.inl (own_at hw 17 rfl)) (by decide) (t := .int) (t' := (.array .int)) (by decide) (by decide)))
  have f8_5 := f7_5.other W8 (Or.inr (slot_ne (Or.inl (own_at hw 15 rfl)) (Or.inl (own_at hw 17 rfl)) (by decide) (t := (.array .int)) (t' := (.array .int)) (by decide) (by decide)))
  have f8_6 := f7_6.other W8 (Or.inr (slot_ne (Or.inl (own_at hw 62 rfl)) (Or.inl (own_at hw 17 rfl)) (by decide) (t := .int) (t' := (.array .int)) (by decide) (by decide)))
  have f8_7 := f7_7.same W8
  have f8_8 := f7_8.other W8 (Or.inr (slot_ne (Or.inl (own_at hw 29 rfl)) (Or.inl (own_at hw 17 rfl)) (by decide) (t := (.array .int)) (t' := (.array .int)) (by decide) (by decide)))
  have f8_9 := f7_9.other W8 (Ne.symm ne2_a1)
  have f8_10 := f7_10.other W8 (Ne.symm ne5_a1)
  have f8_11 := V7.other W8 (Ne.symm ne7_a1)
  refine own_go (B := T8.setTop (mkF m 54 #[.val (.ref a1), .val (.int p2)] [(.int p2), (.ref a1)])) (fun t k => ?_) ?_
  · show Steps p.tables e below (T8.setTop (mkF m 34 #[.val (.ref a1), .val (.int p2)] [])) t
    refine XS.iloadN X8.here hx rfl (hb hby d1_34) rfl ?_
    show Steps p.tables e below (T8.setTop (mkF m 35 #[.val (.ref a1), .val (.int p2)] [(.int p2)])) t
    refine XS.ifYes X8.here hx rfl (pc0 := 35) (pc' := 52) rfl (hb hby d1_35) rfl ((if0 _ _).trans (flt (own_nneg hp : ¬ (p2 < (0 : Int32)))).2.1) (by decide) (by decide) ?_
    refine XS.aloadN X8.here hx rfl (hb hby d1_52) rfl rfl ?_
    refine XS.iloadN X8.here hx rfl (hb hby d1_53) rfl ?_
    exact k
  obtain ⟨T9, h9, X9, e9, W9, st9⟩ := putF X8 hx hZ hown (host := "") (Or.inl (own_at hw 18 rfl)) Via.refl e8 f8_1 f8_0 (Or.inr ⟨(own_at hw 19 rfl), rfl, hnm⟩) (own_at hw 1 rfl) (ty := .int) (by decide) rfl rfl (g := (mkF m 54 #[.val (.ref a1), .val (.int p2)] [(.int p2), (.ref a1)])) rfl rfl (hb hby d1_54)
  refine own_go (fun t k => st9 t k) ?_
  have N9 := Fr.snoc X9 N8 g_a1
  obtain ⟨LL9, X9, N9⟩ := own_abs X9 N9
  have K9 : Keep h0 h9 [a1] := K8.wr W9 (Or.inl (List.mem_of_getElem? (i := 0) rfl))
  have f9_0 := f8_0.wr W9
  have f9_1 := f8_1.same W9
  have f9_2 := f8_2.other W9 (Or.inr (slot_ne (Or.inl (own_at hw 11 rfl)) (Or.inr (own_at hw 19 rfl)) (by decide) (t := (.array .int)) (t' := .int) (by decide) (by decide)))
  have f9_3 := f8_3.other W9 (Or.inr (slot_ne (Or.inl (own_at hw 50 rfl)) (Or.inr (own_at hw 19 rfl)) (by decide) (t := .int) (t' := .int) (by decide) (by decide)))
  have f9_4 := f8_4.other W9 (Or.inr (slot_ne (Or.inl (own_at hw 13 rfl)) (Or.inr (own_at hw 19 rfl)) (by decide) (t := .int) (t' := .int) (by decide) (by decide)))
  have f9_5 := f8_5.other W9 (Or.inr (slot_ne (Or.inl (own_at hw 15 rfl)) (Or.inr (own_at hw 19 rfl)) (by decide) (t := (.array .int)) (t' := .int) (by decide) (by decide)))
  have f9_6 := f8_6.other W9 (Or.inr (slot_ne (Or.inl (own_at hw 62 rfl)) (Or.inr (own_at hw 19 rfl)) (by decide) (t := .int) (t' := .int) (by decide) (by decide)))
  have f9_7 := f8_7.other W9 (Or.inr (slot_ne (Or.inl (own_at hw 17 rfl)) (Or.inr (own_at hw 19 rfl)) (by decide) (t := (.array .int)) (t' := .int) (by decide) (by decide)))
  have f9_8 := f8_8.other W9 (Or.inr (slot_ne (Or.inl (own_at hw 29 rfl)) (Or.inr (own_at hw 19 rfl)) (by decide) (t := (.array .int)) (t' := .int) (by decide) (by decide)))
  have f9_9 := f8_9.other W9 (Ne.symm ne2_a1)
  have f9_10 := f8_10.other W9 (Ne.symm ne5_a1)
  have f9_11 := f8_11.other W9 (Ne.symm ne7_a1)
  refine own_go (B := T9.setTop (mkF m 58 #[.val (.ref a1), .val (.int p2)] [(.ref a1)])) (fun t k => ?_) ?_
  · show Steps p.tables e below (T9.setTop (mkF m 57 #[.val (.ref a1), .val (.int p2)] [])) t
    refine XS.aloadN X9.here hx rfl (hb hby d1_57) rfl rfl ?_
    exact k
  obtain ⟨cq10, q10, q10'⟩ := f9_0.cell
  obtain ⟨_, _, ⟨T10, L10, k10, n10⟩, -, X10, ⟨Lc10, hQ10, l10, y10, z10⟩, st10⟩ := X9.privateBack hx (y := (⟨"com/example/liaise/liaise/NodeTable", "emptyCache", "()V"⟩ : MethodName)) hown (mvT hZ (own_at hw 20 rfl)) (mvT hZ (own_at hw 21 rfl)) (mvT hZ (own_selp (y := (⟨"com/example/liaise/liaise/NodeTable", "emptyCache", "()V"⟩ : MethodName)) (own_at hw 1 rfl) (own_at hw 22 rfl) (own_at hw 21 rfl) (by decide))) (Cond.privateMethod_at (mvP hZ (own_at hw 22 rfl) (args := #[]))) (mvT hZ (own_at hw 23 rfl)) (by decide) (backOf (W := 0) (rm3 l Z a0 hw [] a1 b2 (fun _ => (0 : Int32)) _ _ _ _ _ _ h9 n0 (Nat.le_trans (Nat.le_trans (Nat.le_trans (Nat.le_trans (Nat.le_trans (Nat.le_trans (Nat.le_trans (Nat.le_trans Z0 E2.1) (Keep.of_wr W3).1) (Keep.of_wr W4).1) E5.1) (Keep.of_wr W6).1) E7.1) (Keep.of_wr W8).1) (Keep.of_wr W9).1) f9_0 f9_2 f9_9 g_a1 f9_8 (Ne.symm ne2_a1) f9_1 f9_3 f9_4 f9_5 f9_6 f9_7) hZ (own_at hw 23 rfl) (own_at hw 2 rfl) (by decide) (by decide)) (g := (mkF m 58 #[.val (.ref a1), .val (.int p2)] [(.ref a1)])) rfl (by rw [hml]; rfl) (Steps.refl _) (a := a1) (by rw [e9]; exact q10) q10' (argsL := []) (rest := []) (lenOf pd_rm1_0 rfl) rfl (by show 2 * 0 + _ ≤ _; exact Nat.le_of_eq rfl) (hb hby d1_58) (fun _ _ => ⟨rfl, e9, (by decide : 3 + 1 ≤ _), (by decide : 5122 + 2048 ≤ _)⟩)
  dsimp only [Pt.U, Pt.locs, Pt.cells, Pt.slots] at X10 l10 y10 z10 st10 hQ10
  subst l10 y10 z10
  obtain ⟨C10, gC10, rfl, N10q, K10, Fc10, Ac10, gc10, sc10, G10_variables, G10_nodes, G10_size, G10_kept, G10_held, G10_holding, G10_slots⟩ := hQ10
  have N10 := Fr.app N9 N10q
  obtain ⟨LL10, X10, N10⟩ := own_abs X10 N10
  refine own_go (fun t k => st10.trans k) ?_
  have KK10 : Keep h0 T10.heap [a1] := K9.trans K10 (allS (Or.inl (List.mem_of_getElem? (i := 0) rfl)) all0)
  have f10_0 := f9_0.keep K10
  have ni11 : b2 ∉ [a1] := (ninS (Ne.symm ne2_a1) nin0)
  have f10_9 := f9_9.keep K10 ni11
  have ni12 : b5 ∉ [a1] := (ninS (Ne.symm ne5_a1) nin0)
  have f10_10 := f9_10.keep K10 ni12
  have ni13 : b7 ∉ [a1] := (ninS (Ne.symm ne7_a1) nin0)
  have f10_11 := f9_11.keep K10 ni13
  refine own_go (B := T10.setTop (mkF m 63 #[.val (.ref a1), .val (.int p2)] [(.int 0), (.ref a1)])) (fun t k => ?_) ?_
  · show Steps p.tables e below (T10.setTop (mkF m 61 #[.val (.ref a1), .val (.int p2)] [])) t
    refine XS.aloadN X10.here hx rfl (hb hby d1_61) rfl rfl ?_
    refine XS.iconst X10.here hx rfl (hb hby d1_62) ?_
    exact k
  obtain ⟨cq14, kq14, q14a, q14b, q14c⟩ := isOf hZ rfl f10_0
  obtain ⟨_, _, ⟨T14, L14, k14, n14⟩, -, X14, ⟨Lc14, hQ14, l14, y14, z14⟩, st14⟩ := X10.virtualBack hx (y := (⟨"com/example/liaise/liaise/NodeTable", "terminal", "(I)I"⟩ : MethodName)) (z := (⟨"com/example/liaise/liaise/NodeTable", "terminal", "(I)I"⟩ : MethodName)) hown (mvT hZ (own_at hw 34 rfl)) (mvT hZ (own_at hw 35 rfl)) (notFace_of_selects (args := #[]) (mvT hZ (own_at hw 37 rfl))) (mvT hZ (own_at hw 37 rfl)) (mvT hZ (own_at hw 36 rfl)) (by decide) (backOf (W := 0) (rm6 l Z a0 hw [] a1 (0 : Int32) b2 b7 (0 : Int32) (fun _ => (0 : Int32)) (fun _ => (0 : Int32)) p2 _ _ _ _ T10.heap n0 (Nat.le_trans (Nat.le_trans (Nat.le_trans (Nat.le_trans (Nat.le_trans (Nat.le_trans (Nat.le_trans (Nat.le_trans (Nat.le_trans Z0 E2.1) (Keep.of_wr W3).1) (Keep.of_wr W4).1) E5.1) (Keep.of_wr W6).1) E7.1) (Keep.of_wr W8).1) (Keep.of_wr W9).1) K10.1) f10_0 G10_nodes G10_slots G10_size f10_9 f10_11 g_a1 g_b2 g_b7 ne2_a1 ne7_a1 ne7_b2 (own_I0 p2 _) (by decide) G10_variables (by decide) G10_kept G10_held G10_holding Fc10) hZ (own_at hw 38 rfl) (own_at hw 2 rfl) (by decide) (by decide)) q14a q14c (g := (mkF m 63 #[.val (.ref a1), .val (.int p2)] [(.int 0), (.ref a1)])) rfl (by rw [hml]; rfl) (Steps.refl _) (argsL := [(.int 0)]) (rest := []) (lenOf pd_rm1_1 rfl) rfl (by show 2 * 0 + _ ≤ _; exact Nat.le_of_eq rfl) (hb hby d1_63) (fun _ _ => ⟨rfl, rfl, (by decide : 4 + 0 ≤ _), (by decide : 7170 + 0 ≤ _)⟩)
  dsimp only [Pt.U, Pt.locs, Pt.cells, Pt.slots] at X14 l14 y14 z14 st14 hQ14
  subst l14 y14 z14
  obtain ⟨r14, z14, gN14, gS14, rfl, N14q, K14, Fz14, An14, As14, I14, R14, G14_variables, G14_nodes, G14_kept, G14_held, G14_holding, G14_slots, G14_cache⟩ := hQ14
  have N14 := Fr.app N10 N14q
  obtain ⟨LL14, X14, N14⟩ := own_abs X14 N14
  refine own_go (fun t k => st14.trans k) ?_
  have KK14 : Keep h0 T14.heap [a1] := KK10.trans K14 (allS (Or.inl (List.mem_of_getElem? (i := 0) rfl)) (allS (Or.inr sz_b2) (allS (Or.inr sz_b7) all0)))
  have f14_0 := f10_0.keep K14
  have ni15 : b5 ∉ [a1, b2, b7] := (ninS (Ne.symm ne5_a1) (ninS (Ne.symm ne5_b2) (ninS ne7_b5 nin0)))
  have f14_2 := f10_10.keep K14 ni15
  have ni16 : C10 ∉ [a1, b2, b7] := (ninS (Ne.symm (Nat.ne_of_lt (Nat.lt_of_lt_of_le f9_0.lt sc10))) (ninS (Ne.symm (Nat.ne_of_lt (Nat.lt_of_lt_of_le f9_9.lt sc10))) (ninS (Ne.symm (Nat.ne_of_lt (Nat.lt_of_lt_of_le f9_11.lt sc10))) nin0)))
  have f14_12 := Ac10.keep K14 ni16
  obtain ⟨hz1, hz2⟩ := own_first R14
  refine own_go (B := T14.setTop (mkF m 69 #[.val (.ref a1), .val (.int p2)] [(.int 1), (.ref a1)])) (fun t k => ?_) ?_
  · show Steps p.tables e below (T14.setTop (mkF m 66 #[.val (.ref a1), .val (.int p2)] [(.int r14)])) t
    refine XS.pop X14.here hx rfl (hb hby d1_66) rfl rfl ?_
    refine XS.aloadN X14.here hx rfl (hb hby d1_67) rfl rfl ?_
    refine XS.iconst X14.here hx rfl (hb hby d1_68) ?_
    exact k
  obtain ⟨cq17, kq17, q17a, q17b, q17c⟩ := isOf hZ rfl f14_0
  obtain ⟨_, _, ⟨T17, L17, k17, n17⟩, -, X17, ⟨Lc17, hQ17, l17, y17, z17⟩, st17⟩ := X14.virtualBack hx (y := (⟨"com/example/liaise/liaise/NodeTable", "terminal", "(I)I"⟩ : MethodName)) (z := (⟨"com/example/liaise/liaise/NodeTable", "terminal", "(I)I"⟩ : MethodName)) hown (mvT hZ (own_at hw 34 rfl)) (mvT hZ (own_at hw 35 rfl)) (notFace_of_selects (args := #[]) (mvT hZ (own_at hw 37 rfl))) (mvT hZ (own_at hw 37 rfl)) (mvT hZ (own_at hw 36 rfl)) (by decide) (backOf (W := 0) (rm6 l Z a0 hw [] a1 (1 : Int32) b2 b7 z14 gN14 gS14 p2 _ _ _ _ T14.heap n0 (Nat.le_trans (Nat.le_trans (Nat.le_trans (Nat.le_trans (Nat.le_trans (Nat.le_trans (Nat.le_trans (Nat.le_trans (Nat.le_trans (Nat.le_trans Z0 E2.1) (Keep.of_wr W3).1) (Keep.of_wr W4).1) E5.1) (Keep.of_wr W6).1) E7.1) (Keep.of_wr W8).1) (Keep.of_wr W9).1) K10.1) K14.1) f14_0 G14_nodes G14_slots Fz14 An14 As14 g_a1 g_b2 g_b7 ne2_a1 ne7_a1 ne7_b2 I14 (by rw [hz1]; decide) G14_variables (by decide) G14_kept G14_held G14_holding G14_cache) hZ (own_at hw 38 rfl) (own_at hw 2 rfl) (by decide) (by decide)) q17a q17c (g := (mkF m 69 #[.val (.ref a1), .val (.int p2)] [(.int 1), (.ref a1)])) rfl (by rw [hml]; rfl) (Steps.refl _) (argsL := [(.int 1)]) (rest := []) (lenOf pd_rm1_1 rfl) rfl (by show 2 * 0 + _ ≤ _; exact Nat.le_of_eq rfl) (hb hby d1_69) (fun _ _ => ⟨rfl, rfl, (by decide : 4 + 0 ≤ _), (by decide : 7170 + 0 ≤ _)⟩)
  dsimp only [Pt.U, Pt.locs, Pt.cells, Pt.slots] at X17 l17 y17 z17 st17 hQ17
  subst l17 y17 z17
  obtain ⟨r17, z17, gN17, gS17, rfl, N17q, K17, Fz17, An17, As17, I17, R17, G17_variables, G17_nodes, G17_kept, G17_held, G17_holding, G17_slots, G17_cache⟩ := hQ17
  have N17 := Fr.app N14 N17q
  obtain ⟨LL17, X17, N17⟩ := own_abs X17 N17
  refine own_go (fun t k => st17.trans k) ?_
  have KK17 : Keep h0 T17.heap [a1] := KK14.trans K17 (allS (Or.inl (List.mem_of_getElem? (i := 0) rfl)) (allS (Or.inr sz_b2) (allS (Or.inr sz_b7) all0)))
  have f17_0 := f14_0.keep K17
  have f17_1 := f14_2.keep K17 ni15
  have f17_2 := f14_12.keep K17 ni16
  have hz3 := own_second R17 hz1 (by rw [hz2]; decide)
  refine own_go (B := T17.setTop (mkF m 73 #[.val (.ref a1), .val (.int p2)] [])) (fun t k => ?_) ?_
  · show Steps p.tables e below (T17.setTop (mkF m 72 #[.val (.ref a1), .val (.int p2)] [(.int r17)])) t
    refine XS.pop X17.here hx rfl (hb hby d1_72) rfl rfl ?_
    exact k
  obtain ⟨fs, hr, hrun, hended, hW, hsame⟩ := X17.leave (v := none) (fun _ => rfl)
  refine ⟨_, _, ?_, hrun, hended, _, _, rfl, ?_, ⟨_, rfl⟩, hW, hsame.mono (by decide) (by decide)⟩
  · show Steps p.tables e below (T17.setTop (mkF m 73 #[.val (.ref a1), .val (.int p2)] [])) _
    exact X17.returnOut hx Bd.returns (hb hby d1_73) hr
  · show Q1 Z a1 p2 h0 n0 _ T17.heap _
    exact ⟨b2, b5, b7, C10, _, _, _, _, _, rfl, N17, KK17, hz3, G17_variables, G17_nodes, Fz17, G17_kept, G17_held, G17_holding, G17_slots, G17_cache, An17, f17_1, As17, f17_2, I17, ⟨g_b2, g_b5, g_b7, gc10⟩, ⟨ne2_a1, ne5_a1, ne7_a1, (Nat.ne_of_lt (Nat.lt_of_lt_of_le f9_0.lt sc10)), ne5_b2, ne7_b2, (Nat.ne_of_lt (Nat.lt_of_lt_of_le f9_9.lt sc10)), ne7_b5, (Nat.ne_of_lt (Nat.lt_of_lt_of_le f9_10.lt sc10)), (Nat.ne_of_lt (Nat.lt_of_lt_of_le f9_11.lt sc10))⟩⟩
theorem d28_0 : decode prog_47_method_44_code 0 = .ok (.aload_n 0, 1) := by decide +kernel
theorem d28_1 : decode prog_47_method_44_code 1 = .ok (.getfield 20, 3) := by decide +kernel
theorem d28_4 : decode prog_47_method_44_code 4 = .ok (.iconst 0, 1) := by decide +kernel
theorem d28_5 : decode prog_47_method_44_code 5 = .ok (.invokestatic 84, 3) := by decide +kernel
theorem d28_8 : decode prog_47_method_44_code 8 = .ok (.iconst 0, 1) := by decide +kernel
theorem d28_9 : decode prog_47_method_44_code 9 = .ok (.istore_n 1, 1) := by decide +kernel
theorem d28_10 : decode prog_47_method_44_code 10 = .ok (.iload_n 1, 1) := by decide +kernel
theorem d28_11 : decode prog_47_method_44_code 11 = .ok (.aload_n 0, 1) := by decide +kernel
theorem d28_12 : decode prog_47_method_44_code 12 = .ok (.getfield 82, 3) := by decide +kernel
theorem d28_15 : decode prog_47_method_44_code 15 = .ok (.if_icmp .ge 69, 3) := by decide +kernel
theorem d28_18 : decode prog_47_method_44_code 18 = .ok (.aload_n 0, 1) := by decide +kernel
theorem d28_19 : decode prog_47_method_44_code 19 = .ok (.iload_n 1, 1) := by decide +kernel
theorem d28_20 : decode prog_47_method_44_code 20 = .ok (.invokevirtual 47, 3) := by decide +kernel
theorem d28_23 : decode prog_47_method_44_code 23 = .ok (.aload_n 0, 1) := by decide +kernel
theorem d28_24 : decode prog_47_method_44_code 24 = .ok (.iload_n 1, 1) := by decide +kernel
theorem d28_25 : decode prog_47_method_44_code 25 = .ok (.invokevirtual 109, 3) := by decide +kernel
theorem d28_28 : decode prog_47_method_44_code 28 = .ok (.aload_n 0, 1) := by decide +kernel
theorem d28_29 : decode prog_47_method_44_code 29 = .ok (.iload_n 1, 1) := by decide +kernel
theorem d28_30 : decode prog_47_method_44_code 30 = .ok (.invokevirtual 106, 3) := by decide +kernel
theorem d28_33 : decode prog_47_method_44_code 33 = .ok (.invokestatic 229, 3) := by decide +kernel
theorem d28_36 : decode prog_47_method_44_code 36 = .ok (.aload_n 0, 1) := by decide +kernel
theorem d28_37 : decode prog_47_method_44_code 37 = .ok (.getfield 20, 3) := by decide +kernel
theorem d28_40 : decode prog_47_method_44_code 40 = .ok (.arraylength, 1) := by decide +kernel
theorem d28_41 : decode prog_47_method_44_code 41 = .ok (.iconst 1, 1) := by decide +kernel
theorem d28_42 : decode prog_47_method_44_code 42 = .ok (.isub, 1) := by decide +kernel
theorem d28_43 : decode prog_47_method_44_code 43 = .ok (.iand, 1) := by decide +kernel
theorem d28_44 : decode prog_47_method_44_code 44 = .ok (.istore_n 2, 1) := by decide +kernel
theorem d28_45 : decode prog_47_method_44_code 45 = .ok (.aload_n 0, 1) := by decide +kernel
theorem d28_46 : decode prog_47_method_44_code 46 = .ok (.getfield 20, 3) := by decide +kernel
theorem d28_49 : decode prog_47_method_44_code 49 = .ok (.iload_n 2, 1) := by decide +kernel
theorem d28_50 : decode prog_47_method_44_code 50 = .ok (.iaload, 1) := by decide +kernel
theorem d28_51 : decode prog_47_method_44_code 51 = .ok (.ifCond .eq 18, 3) := by decide +kernel
theorem d28_54 : decode prog_47_method_44_code 54 = .ok (.iload_n 2, 1) := by decide +kernel
theorem d28_55 : decode prog_47_method_44_code 55 = .ok (.iconst 1, 1) := by decide +kernel
theorem d28_56 : decode prog_47_method_44_code 56 = .ok (.iadd, 1) := by decide +kernel
theorem d28_57 : decode prog_47_method_44_code 57 = .ok (.aload_n 0, 1) := by decide +kernel
theorem d28_58 : decode prog_47_method_44_code 58 = .ok (.getfield 20, 3) := by decide +kernel
theorem d28_61 : decode prog_47_method_44_code 61 = .ok (.arraylength, 1) := by decide +kernel
theorem d28_62 : decode prog_47_method_44_code 62 = .ok (.iconst 1, 1) := by decide +kernel
theorem d28_63 : decode prog_47_method_44_code 63 = .ok (.isub, 1) := by decide +kernel
theorem d28_64 : decode prog_47_method_44_code 64 = .ok (.iand, 1) := by decide +kernel
theorem d28_65 : decode prog_47_method_44_code 65 = .ok (.istore_n 2, 1) := by decide +kernel
theorem d28_66 : decode prog_47_method_44_code 66 = .ok (.goto (-21), 3) := by decide +kernel
theorem d28_69 : decode prog_47_method_44_code 69 = .ok (.aload_n 0, 1) := by decide +kernel
theorem d28_70 : decode prog_47_method_44_code 70 = .ok (.getfield 20, 3) := by decide +kernel
theorem d28_73 : decode prog_47_method_44_code 73 = .ok (.iload_n 2, 1) := by decide +kernel
theorem d28_74 : decode prog_47_method_44_code 74 = .ok (.iload_n 1, 1) := by decide +kernel
theorem d28_75 : decode prog_47_method_44_code 75 = .ok (.iconst 1, 1) := by decide +kernel
theorem d28_76 : decode prog_47_method_44_code 76 = .ok (.iadd, 1) := by decide +kernel
theorem d28_77 : decode prog_47_method_44_code 77 = .ok (.iastore, 1) := by decide +kernel
theorem d28_78 : decode prog_47_method_44_code 78 = .ok (.iinc 1 1, 3) := by decide +kernel
theorem d28_81 : decode prog_47_method_44_code 81 = .ok (.goto (-71), 3) := by decide +kernel
theorem d28_84 : decode prog_47_method_44_code 84 = .ok (.return_, 1) := by decide +kernel
theorem pn_rm28 : plainName "com/example/liaise/liaise/NodeTable" = true := by first | (simp [plainName, overriddenIn]; done) | decide +kernel
theorem pd_rm28_0 : parseMethodDescriptor "(I)I" = some ⟨[.int], some .int⟩ := by decide +kernel
theorem pd_rm28_1 : parseMethodDescriptor "(III)I" = some ⟨[.int, .int, .int], some .int⟩ := by decide +kernel
theorem pd_rm28_2 : parseMethodDescriptor "([II)V" = some ⟨[(.array .int), .int], none⟩ := by decide +kernel
theorem ef_rm28 (m : MethodId) (x0 : Addr) : entryFrame m #[(.ref x0)] 3 = mkF m 0 #[.val (.ref x0), .unset, .unset] [] := by first | (simp [entryFrame, mkF, argsToLocals, Value.category]; done) | rfl
def Q28 (Z : State) (a1 : Addr) (N S : Addr) (sz vr : Int32) (gN gS : Nat → Int32) (h0 : Heap) (n0 : Nat) (v : Option Value) (h : Heap) (L : List Loc) : Prop := ∃ gS' : Nat → Int32, v = none ∧ Fr n0 L ∧ Keep h0 h [S] ∧ own_Ag Value.int Z h S .int (2048 : Int32) gS' ∧ own_I vr sz gN gS'
set_option maxRecDepth 65536 in
set_option maxHeartbeats 40000000 in
theorem rm28 (l : Launch) (Z : State) (a0 : Array Value) (hw : ∀ d ∈ tables_1, d.before a0 Z = true) (ws : List Jvm.Cond) (a1 : Addr) (N S : Addr) (sz vr : Int32) (gN gS : Nat → Int32) (h0 : Heap) (n0 : Nat) (Z0 : n0 ≤ h0.size) (EX : Exa Z h0 a1 "com/example/liaise/liaise/NodeTable") (FN : Fld Z h0 a1 "com/example/liaise/liaise/NodeTable" "nodes" "[I" (.ref N)) (FS : Fld Z h0 a1 "com/example/liaise/liaise/NodeTable" "slots" "[I" (.ref S)) (FZ : Fld Z h0 a1 "com/example/liaise/liaise/NodeTable" "size" "I" (.int sz)) (AN : own_Ag Value.int Z h0 N .int (3072 : Int32) gN) (AS : own_Ag Value.int Z h0 S .int (2048 : Int32) gS) (g_S : n0 ≤ S) (ne2 : a1 ≠ S) (ne3 : N ≠ S) (hz0 : 0 ≤ sz.toInt) (hz8 : sz.toInt ≤ 8) (hN : ∀ i, i < sz.toNatClampNeg → gN (3 * i) = vr) :
    MetFree l (⟨"com/example/liaise/liaise/NodeTable", "rehash", "()V"⟩ : MethodName) (head1 (Jvm.Cond.code (⟨"com/example/liaise/liaise/NodeTable", "rehash", "()V"⟩ : MethodName) prog_47_method_44_code 3 none :: ws) ({ frames := 1, cells := 0, slots := 0, locals := 15 } : Room)) (fun a U => a = #[(.ref a1)] ∧ Z.Warmed39 U.vm ∧ U.heap = h0) (fun _ _ _ _ _ => True) (fun _ U o U' => ∃ v L, o = .returned v ∧ Q28 Z a1 N S sz vr gN gS h0 n0 v U'.heap L ∧ FrameEnd U o U' L ({ frames := 1, cells := 0, slots := 0, locals := 15 } : Room).cells ({ frames := 1, cells := 0, slots := 0, locals := 15 } : Room).slots) := by
  refine MetFree.of_bodySF (plainFor_of_name pn_rm28) hisR ?_
  intro p e s m args below meth c s₁ Bd hml0 hP hK
  obtain ⟨rfl, hZ, hh⟩ := hP
  have hx := Bd.exec
  have hby := Bd.bytes
  have hml : c.maxLocals = 3 := hml0
  have hown : s.vm.findClass "com/example/liaise/liaise/NodeTable" = some m.cls := findClass_of_methodNamed Bd.named
  have hnm := (name_of_methodNamed Bd.named Bd.method).1
  have X0 : Stand p l e ({ frames := 1, cells := 0, slots := 0, locals := 15 } : Room) s m #[(.ref a1)] below meth c s₁ [] 0 0 := Stand.of_body Bd
  have e0 : s₁.heap = h0 := by rw [← hh, Bd.state]; rfl
  have N0 := Fr.nil n0
  have pre0 : ∀ t, Steps p.tables e below (s₁.setTop (mkF m 0 #[.val (.ref a1), .unset, .unset] [])) t → Steps p.tables e below (s₁.setTop (entryFrame m #[(.ref a1)] 3)) t := fun t k => castTop (ef_rm28 m a1) k
  show own_Fin p e below _ _
  refine own_go pre0 ?_
  have loop : ∀ (k : Nat) (i : Int32) (s2 : Slot) (T : State) (locs : List Loc) (hp : Heap) (gi : Nat → Int32), i.toInt + k = sz.toInt → 0 ≤ i.toInt → own_I vr i gN gi → (s2 = .unset ∨ ∃ z : Int32, s2 = .val (.int z)) → Stand p l e ({ frames := 1, cells := 0, slots := 0, locals := 15 } : Room) s m #[(.ref a1)] below meth c T locs 0 0 → T.heap = hp → Fr n0 locs → n0 ≤ hp.size → Keep h0 hp [S] → own_Ag Value.int Z hp S .int (2048 : Int32) gi → own_Fin p e below (fun o U' => ∃ v L, o = .returned v ∧ Q28 Z a1 N S sz vr gN gS h0 n0 v U'.heap L ∧ FrameEnd s o U' L ({ frames := 1, cells := 0, slots := 0, locals := 15 } : Room).cells ({ frames := 1, cells := 0, slots := 0, locals := 15 } : Room).slots) (T.setTop (mkF m 10 #[.val (.ref a1), .val (.int i), s2] [])) := by
    intro k
    induction k with
    | zero =>
      intro i s2 T locs hp gi hk hi Ii hs2 X eT Nf Zs Kp AS'
      have EX' := EX.keep Kp
      have FN' := FN.keep Kp (ninS ne2 nin0)
      have FS' := FS.keep Kp (ninS ne2 nin0)
      have FZ' := FZ.keep Kp (ninS ne2 nin0)
      have AN' := AN.keep Kp (ninS ne3 nin0)
      have hic : i = sz := Int32.toInt_inj.mp (by omega)
      refine own_go (B := T.setTop (mkF m 12 #[.val (.ref a1), .val (.int i), s2] [(.ref a1), (.int i)])) (fun t k => ?_) ?_
      · show Steps p.tables e below (T.setTop (mkF m 10 #[.val (.ref a1), .val (.int i), s2] [])) t
        refine XS.iloadN X.here hx rfl (hb hby d28_10) rfl ?_
        refine XS.aloadN X.here hx rfl (hb hby d28_11) rfl rfl ?_
        exact k
      obtain ⟨T1, X1, e1, st1⟩ := getF X hx hZ hown (host := "") (Or.inl (own_at hw 49 rfl)) Via.refl eT FZ' (g := (mkF m 12 #[.val (.ref a1), .val (.int i), s2] [(.ref a1), (.int i)])) rfl rfl (hb hby d28_12)
      refine own_go (fun t k => st1 t k) ?_
      refine own_go (B := T1.setTop (mkF m 84 #[.val (.ref a1), .val (.int i), s2] [])) (fun t k => ?_) ?_
      · show Steps p.tables e below (T1.setTop (mkF m 15 #[.val (.ref a1), .val (.int i), s2] [(.int sz), (.int i)])) t
        refine XS.icmpYes X1.here hx rfl (pc0 := 15) (pc' := 84) rfl (hb hby d28_15) rfl (flt (by rw [hic]; exact Int32.lt_irrefl : ¬ (i < sz))).2.1 (by decide) (by decide) ?_
        exact k
      obtain ⟨fs, hr, hrun, hended, hW, hsame⟩ := X1.leave (v := none) (fun _ => rfl)
      refine ⟨_, _, ?_, hrun, hended, _, _, rfl, ?_, ⟨_, rfl⟩, hW, hsame.mono (by decide) (by decide)⟩
      · show Steps p.tables e below (T1.setTop (mkF m 84 #[.val (.ref a1), .val (.int i), s2] [])) _
        exact X1.returnOut hx Bd.returns (hb hby d28_84) hr
      · show Q28 Z a1 N S sz vr gN gS h0 n0 _ T1.heap _
        rw [e1]
        exact ⟨_, rfl, Nf, Kp, AS', hic ▸ Ii⟩
    | succ k ih =>
      intro i s2 T locs hp gi hk hi Ii hs2 X eT Nf Zs Kp AS'
      have EX' := EX.keep Kp
      have FN' := FN.keep Kp (ninS ne2 nin0)
      have FS' := FS.keep Kp (ninS ne2 nin0)
      have FZ' := FZ.keep Kp (ninS ne2 nin0)
      have AN' := AN.keep Kp (ninS ne3 nin0)
      have hlt : i < sz := own_lt (by omega)
      have i8 : i.toInt ≤ 8 := by omega
      have mi := own_nat hi
      have mz := own_nat hz0
      have inner : ∀ (k' : Nat) (Rem : List Nat) (b j : Nat) (ix : Int32) (T : State) (locs : List Loc), Rem.length = k' → j + k' ≤ 8 → own_P gi b j Rem → 0 ≤ ix.toInt → ix.toInt < 2048 → ix.toNatClampNeg = (b + j) % 2048 → Stand p l e ({ frames := 1, cells := 0, slots := 0, locals := 15 } : Room) s m #[(.ref a1)] below meth c T locs 0 0 → T.heap = hp → Fr n0 locs → own_Fin p e below (fun o U' => ∃ v L, o = .returned v ∧ Q28 Z a1 N S sz vr gN gS h0 n0 v U'.heap L ∧ FrameEnd s o U' L ({ frames := 1, cells := 0, slots := 0, locals := 15 } : Room).cells ({ frames := 1, cells := 0, slots := 0, locals := 15 } : Room).slots) (T.setTop (mkF m 45 #[.val (.ref a1), .val (.int i), .val (.int ix)] [])) := by
        intro k'
        induction k' with
        | zero =>
          intro Rem b j ix T locs hl hj P hi0 hi1 hix X eT Nf
          have hz : gi (ix).toNatClampNeg = (0 : Int32) := Classical.byContradiction fun q => by
            obtain ⟨R', hR, -⟩ := own_Pstep P hix q (by omega)
            omega
          refine own_go (B := T.setTop (mkF m 46 #[.val (.ref a1), .val (.int i), .val (.int ix)] [(.ref a1)])) (fun t k => ?_) ?_
          · show Steps p.tables e below (T.setTop (mkF m 45 #[.val (.ref a1), .val (.int i), .val (.int ix)] [])) t
            refine XS.aloadN X.here hx rfl (hb hby d28_45) rfl rfl ?_
            exact k
          obtain ⟨T2, X2, e2, st2⟩ := getF X hx hZ hown (host := "") (Or.inl (own_at hw 16 rfl)) Via.refl eT FS' (g := (mkF m 46 #[.val (.ref a1), .val (.int i), .val (.int ix)] [(.ref a1)])) rfl rfl (hb hby d28_46)
          refine own_go (fun t k => st2 t k) ?_
          refine own_go (B := T2.setTop (mkF m 50 #[.val (.ref a1), .val (.int i), .val (.int ix)] [(.int ix), (.ref S)])) (fun t k => ?_) ?_
          · show Steps p.tables e below (T2.setTop (mkF m 49 #[.val (.ref a1), .val (.int i), .val (.int ix)] [(.ref S)])) t
            refine XS.iloadN X2.here hx rfl (hb hby d28_49) rfl ?_
            exact k
          obtain ⟨cl3, Ar3, hin3, hat3, -, -⟩ := AS'.get (j := ix) (own_nneg hi0) (own_lt2 hi1)
          refine own_go (X2.iaload hx (j := ix) (v := (.int (gi (ix).toNatClampNeg))) (by rw [e2]; exact Ar3.1) (State.isArrayOf_alike hZ.alike Ar3.2.1) Ar3.2.2 hin3 hat3 (g := (mkF m 50 #[.val (.ref a1), .val (.int i), .val (.int ix)] [(.int ix), (.ref S)])) rfl rfl (hb hby d28_50)) ?_
          refine own_go (B := T2.setTop (mkF m 70 #[.val (.ref a1), .val (.int i), .val (.int ix)] [(.ref a1)])) (fun t k => ?_) ?_
          · show Steps p.tables e below (T2.setTop (mkF m 51 #[.val (.ref a1), .val (.int i), .val (.int ix)] [(.int (gi (ix).toNatClampNeg))])) t
            refine XS.ifYes X2.here hx rfl (pc0 := 51) (pc' := 69) rfl (hb hby d28_51) rfl ((if0 _ _).trans (teq (hz : (gi (ix).toNatClampNeg) = (0 : Int32))).1) (by decide) (by decide) ?_
            refine XS.aloadN X2.here hx rfl (hb hby d28_69) rfl rfl ?_
            exact k
          obtain ⟨T4, X4, e4, st4⟩ := getF X2 hx hZ hown (host := "") (Or.inl (own_at hw 16 rfl)) Via.refl e2 FS' (g := (mkF m 70 #[.val (.ref a1), .val (.int i), .val (.int ix)] [(.ref a1)])) rfl rfl (hb hby d28_70)
          refine own_go (fun t k => st4 t k) ?_
          refine own_go (B := T4.setTop (mkF m 77 #[.val (.ref a1), .val (.int i), .val (.int ix)] [(.int (i + (1 : Int32))), (.int ix), (.ref S)])) (fun t k => ?_) ?_
          · show Steps p.tables e below (T4.setTop (mkF m 73 #[.val (.ref a1), .val (.int i), .val (.int ix)] [(.ref S)])) t
            refine XS.iloadN X4.here hx rfl (hb hby d28_73) rfl ?_
            refine XS.iloadN X4.here hx rfl (hb hby d28_74) rfl ?_
            refine XS.iconst X4.here hx rfl (hb hby d28_75) ?_
            refine XS.iadd X4.here hx rfl (hb hby d28_76) rfl ?_
            exact k
          obtain ⟨cl5, Ar5, hin5, -, -, -⟩ := AS'.get (j := ix) (own_nneg hi0) (own_lt2 hi1)
          obtain ⟨T5, h5, X5, e5, W5, st5⟩ := stI X4 hx hZ e4 Ar5 (j := ix) hin5 (g := (mkF m 77 #[.val (.ref a1), .val (.int i), .val (.int ix)] [(.int (i + (1 : Int32))), (.int ix), (.ref S)])) rfl rfl (hb hby d28_77)
          refine own_go (fun t k => st5 t k) ?_
          have N5 := Fr.snoc X5 Nf g_S
          obtain ⟨LL5, X5, N5⟩ := own_abs X5 N5
          have K5 : Keep h0 h5 [S] := Kp.wr W5 (Or.inl (List.mem_of_getElem? (i := 0) rfl))
          have f5_0 := EX'.wr W5
          have f5_1 := FN'.other W5 (Or.inl ne2)
          have f5_2 := FS'.other W5 (Or.inl ne2)
          have f5_3 := FZ'.other W5 (Or.inl ne2)
          have f5_4 := AN'.other W5 ne3
          have f5_5 := AS'.set W5
          refine own_go (B := T5.setTop (mkF m 10 #[.val (.ref a1), .val (.int (i + (1 : Int32))), .val (.int ix)] [])) (fun t k => ?_) ?_
          · show Steps p.tables e below (T5.setTop (mkF m 78 #[.val (.ref a1), .val (.int i), .val (.int ix)] [])) t
            refine XS.iinc X5.here hx rfl (hb hby d28_78) rfl (l' := #[.val (.ref a1), .val (.int (i + (1 : Int32))), .val (.int ix)]) rfl ?_
            refine XS.goto X5.here hx rfl (pc0 := 81) (pc' := 10) rfl (hb hby d28_81) (by decide) (by decide) ?_
            exact k
          have hi9 := own_addk (x := i) (k := 1) (n := 1) (by decide) hi (by omega) (by omega)
          exact ih (i + (1 : Int32)) _ _ _ _ _ (by omega) (by omega) (own_Inew Ii (by omega) (hN _ (by omega)) (fun _ _ => rfl)) (Or.inr ⟨_, rfl⟩) X5 e5 N5 (Nat.le_trans Zs (Keep.of_wr W5).1) K5 f5_5
        | succ k' ih' =>
          intro Rem b j ix T locs hl hj P hi0 hi1 hix X eT Nf
          refine own_go (B := T.setTop (mkF m 46 #[.val (.ref a1), .val (.int i), .val (.int ix)] [(.ref a1)])) (fun t k => ?_) ?_
          · show Steps p.tables e below (T.setTop (mkF m 45 #[.val (.ref a1), .val (.int i), .val (.int ix)] [])) t
            refine XS.aloadN X.here hx rfl (hb hby d28_45) rfl rfl ?_
            exact k
          obtain ⟨T6, X6, e6, st6⟩ := getF X hx hZ hown (host := "") (Or.inl (own_at hw 16 rfl)) Via.refl eT FS' (g := (mkF m 46 #[.val (.ref a1), .val (.int i), .val (.int ix)] [(.ref a1)])) rfl rfl (hb hby d28_46)
          refine own_go (fun t k => st6 t k) ?_
          refine own_go (B := T6.setTop (mkF m 50 #[.val (.ref a1), .val (.int i), .val (.int ix)] [(.int ix), (.ref S)])) (fun t k => ?_) ?_
          · show Steps p.tables e below (T6.setTop (mkF m 49 #[.val (.ref a1), .val (.int i), .val (.int ix)] [(.ref S)])) t
            refine XS.iloadN X6.here hx rfl (hb hby d28_49) rfl ?_
            exact k
          obtain ⟨cl7, Ar7, hin7, hat7, -, -⟩ := AS'.get (j := ix) (own_nneg hi0) (own_lt2 hi1)
          refine own_go (X6.iaload hx (j := ix) (v := (.int (gi (ix).toNatClampNeg))) (by rw [e6]; exact Ar7.1) (State.isArrayOf_alike hZ.alike Ar7.2.1) Ar7.2.2 hin7 hat7 (g := (mkF m 50 #[.val (.ref a1), .val (.int i), .val (.int ix)] [(.int ix), (.ref S)])) rfl rfl (hb hby d28_50)) ?_
          by_cases hc51_8 : (gi (ix).toNatClampNeg) = (0 : Int32)
          · refine own_go (B := T6.setTop (mkF m 69 #[.val (.ref a1), .val (.int i), .val (.int ix)] [])) (fun t k => ?_) ?_
            · show Steps p.tables e below (T6.setTop (mkF m 51 #[.val (.ref a1), .val (.int i), .val (.int ix)] [(.int (gi (ix).toNatClampNeg))])) t
              refine XS.ifYes X6.here hx rfl (pc0 := 51) (pc' := 69) rfl (hb hby d28_51) rfl ((if0 _ _).trans (teq hc51_8).1) (by decide) (by decide) ?_
              exact k
            refine own_go (B := T6.setTop (mkF m 70 #[.val (.ref a1), .val (.int i), .val (.int ix)] [(.ref a1)])) (fun t k => ?_) ?_
            · refine XS.aloadN X6.here hx rfl (hb hby d28_69) rfl rfl ?_
              exact k
            obtain ⟨T9, X9, e9, st9⟩ := getF X6 hx hZ hown (host := "") (Or.inl (own_at hw 16 rfl)) Via.refl e6 FS' (g := (mkF m 70 #[.val (.ref a1), .val (.int i), .val (.int ix)] [(.ref a1)])) rfl rfl (hb hby d28_70)
            refine own_go (fun t k => st9 t k) ?_
            refine own_go (B := T9.setTop (mkF m 77 #[.val (.ref a1), .val (.int i), .val (.int ix)] [(.int (i + (1 : Int32))), (.int ix), (.ref S)])) (fun t k => ?_) ?_
            · show Steps p.tables e below (T9.setTop (mkF m 73 #[.val (.ref a1), .val (.int i), .val (.int ix)] [(.ref S)])) t
              refine XS.iloadN X9.here hx rfl (hb hby d28_73) rfl ?_
              refine XS.iloadN X9.here hx rfl (hb hby d28_74) rfl ?_
              refine XS.iconst X9.here hx rfl (hb hby d28_75) ?_
              refine XS.iadd X9.here hx rfl (hb hby d28_76) rfl ?_
              exact k
            obtain ⟨cl10, Ar10, hin10, -, -, -⟩ := AS'.get (j := ix) (own_nneg hi0) (own_lt2 hi1)
            obtain ⟨T10, h10, X10, e10, W10, st10⟩ := stI X9 hx hZ e9 Ar10 (j := ix) hin10 (g := (mkF m 77 #[.val (.ref a1), .val (.int i), .val (.int ix)] [(.int (i + (1 : Int32))), (.int ix), (.ref S)])) rfl rfl (hb hby d28_77)
            refine own_go (fun t k => st10 t k) ?_
            have N10 := Fr.snoc X10 Nf g_S
            obtain ⟨LL10, X10, N10⟩ := own_abs X10 N10
            have K10 : Keep h0 h10 [S] := Kp.wr W10 (Or.inl (List.mem_of_getElem? (i := 0) rfl))
            have f10_0 := EX'.wr W10
            have f10_1 := FN'.other W10 (Or.inl ne2)
            have f10_2 := FS'.other W10 (Or.inl ne2)
            have f10_3 := FZ'.other W10 (Or.inl ne2)
            have f10_4 := AN'.other W10 ne3
            have f10_5 := AS'.set W10
            refine own_go (B := T10.setTop (mkF m 10 #[.val (.ref a1), .val (.int (i + (1 : Int32))), .val (.int ix)] [])) (fun t k => ?_) ?_
            · show Steps p.tables e below (T10.setTop (mkF m 78 #[.val (.ref a1), .val (.int i), .val (.int ix)] [])) t
              refine XS.iinc X10.here hx rfl (hb hby d28_78) rfl (l' := #[.val (.ref a1), .val (.int (i + (1 : Int32))), .val (.int ix)]) rfl ?_
              refine XS.goto X10.here hx rfl (pc0 := 81) (pc' := 10) rfl (hb hby d28_81) (by decide) (by decide) ?_
              exact k
            have hi9 := own_addk (x := i) (k := 1) (n := 1) (by decide) hi (by omega) (by omega)
            exact ih (i + (1 : Int32)) _ _ _ _ _ (by omega) (by omega) (own_Inew Ii (by omega) (hN _ (by omega)) (fun _ _ => rfl)) (Or.inr ⟨_, rfl⟩) X10 e10 N10 (Nat.le_trans Zs (Keep.of_wr W10).1) K10 f10_5
          · refine own_go (B := T6.setTop (mkF m 54 #[.val (.ref a1), .val (.int i), .val (.int ix)] [])) (fun t k => ?_) ?_
            · show Steps p.tables e below (T6.setTop (mkF m 51 #[.val (.ref a1), .val (.int i), .val (.int ix)] [(.int (gi (ix).toNatClampNeg))])) t
              refine XS.ifNo X6.here hx rfl (hb hby d28_51) rfl ((if0 _ _).trans (feq hc51_8).1) ?_
              exact k
            refine own_go (B := T6.setTop (mkF m 58 #[.val (.ref a1), .val (.int i), .val (.int ix)] [(.ref a1), (.int (ix + (1 : Int32)))])) (fun t k => ?_) ?_
            · refine XS.iloadN X6.here hx rfl (hb hby d28_54) rfl ?_
              refine XS.iconst X6.here hx rfl (hb hby d28_55) ?_
              refine XS.iadd X6.here hx rfl (hb hby d28_56) rfl ?_
              refine XS.aloadN X6.here hx rfl (hb hby d28_57) rfl rfl ?_
              exact k
            obtain ⟨T11, X11, e11, st11⟩ := getF X6 hx hZ hown (host := "") (Or.inl (own_at hw 16 rfl)) Via.refl e6 FS' (g := (mkF m 58 #[.val (.ref a1), .val (.int i), .val (.int ix)] [(.ref a1), (.int (ix + (1 : Int32)))])) rfl rfl (hb hby d28_58)
            refine own_go (fun t k => st11 t k) ?_
            obtain ⟨cl12, Ar12, S12, q12⟩ := AS'.len
            refine own_go (X11.arraylength hx (by rw [e11]; exact Ar12.1) (State.isArrayOf_alike hZ.alike Ar12.2.1) (g := (mkF m 61 #[.val (.ref a1), .val (.int i), .val (.int ix)] [(.ref S), (.int (ix + (1 : Int32)))])) rfl rfl (hb hby d28_61)) ?_
            rw [len_of S12 q12]
            refine own_go (B := T11.setTop (mkF m 45 #[.val (.ref a1), .val (.int i), .val (.int ((ix + (1 : Int32)) &&& ((2048 : Int32) - (1 : Int32))))] [])) (fun t k => ?_) ?_
            · show Steps p.tables e below (T11.setTop (mkF m 62 #[.val (.ref a1), .val (.int i), .val (.int ix)] [(.int 2048), (.int (ix + (1 : Int32)))])) t
              refine XS.iconst X11.here hx rfl (hb hby d28_62) ?_
              refine XS.isub X11.here hx rfl (hb hby d28_63) rfl ?_
              refine XS.iand X11.here hx rfl (hb hby d28_64) rfl ?_
              refine XS.istoreN X11.here hx rfl (hb hby d28_65) rfl (l' := #[.val (.ref a1), .val (.int i), .val (.int ((ix + (1 : Int32)) &&& ((2048 : Int32) - (1 : Int32))))]) rfl ?_
              refine XS.goto X11.here hx rfl (pc0 := 66) (pc' := 45) rfl (hb hby d28_66) (by decide) (by decide) ?_
              exact k
            obtain ⟨R', hR, P'⟩ := own_Pstep P hix hc51_8 (by omega)
            exact ih' R' b (j + 1) _ _ _ (by omega) (by omega) P' (own_ix _).1 (own_ix _).2 (own_next hi0 hi1 hix) X11 e11 Nf
      refine own_go (B := T.setTop (mkF m 12 #[.val (.ref a1), .val (.int i), s2] [(.ref a1), (.int i)])) (fun t k => ?_) ?_
      · show Steps p.tables e below (T.setTop (mkF m 10 #[.val (.ref a1), .val (.int i), s2] [])) t
        refine XS.iloadN X.here hx rfl (hb hby d28_10) rfl ?_
        refine XS.aloadN X.here hx rfl (hb hby d28_11) rfl rfl ?_
        exact k
      obtain ⟨T13, X13, e13, st13⟩ := getF X hx hZ hown (host := "") (Or.inl (own_at hw 49 rfl)) Via.refl eT FZ' (g := (mkF m 12 #[.val (.ref a1), .val (.int i), s2] [(.ref a1), (.int i)])) rfl rfl (hb hby d28_12)
      refine own_go (fun t k => st13 t k) ?_
      refine own_go (B := T13.setTop (mkF m 20 #[.val (.ref a1), .val (.int i), s2] [(.int i), (.ref a1)])) (fun t k => ?_) ?_
      · show Steps p.tables e below (T13.setTop (mkF m 15 #[.val (.ref a1), .val (.int i), s2] [(.int sz), (.int i)])) t
        refine XS.icmpNo X13.here hx rfl (hb hby d28_15) rfl (tlt (hlt : i < sz)).2.1 ?_
        refine XS.aloadN X13.here hx rfl (hb hby d28_18) rfl rfl ?_
        refine XS.iloadN X13.here hx rfl (hb hby d28_19) rfl ?_
        exact k
      obtain ⟨cq14, kq14, q14a, q14b, q14c⟩ := isOf hZ e13 EX'
      obtain ⟨_, _, ⟨T14, L14, k14, n14⟩, -, X14, ⟨Lc14, hQ14, l14, y14, z14⟩, st14⟩ := X13.virtualBack hx (y := (⟨"com/example/liaise/liaise/NodeTable", "variable", "(I)I"⟩ : MethodName)) (z := (⟨"com/example/liaise/liaise/NodeTable", "variable", "(I)I"⟩ : MethodName)) hown (mvT hZ (own_at hw 116 rfl)) (mvT hZ (own_at hw 117 rfl)) (notFace_of_selects (args := #[]) (mvT hZ (own_at hw 119 rfl))) (mvT hZ (own_at hw 119 rfl)) (mvT hZ (own_at hw 118 rfl)) (by decide) (backOf (W := 0) (rm20 l Z a0 hw [] a1 i N gN hp n0 Zs FN' AN' hi i8) hZ (own_at hw 120 rfl) (own_at hw 2 rfl) (by decide) (by decide)) q14a q14c (g := (mkF m 20 #[.val (.ref a1), .val (.int i), s2] [(.int i), (.ref a1)])) rfl (by rw [hml]; rfl) (Steps.refl _) (argsL := [(.int i)]) (rest := []) (lenOf pd_rm28_0 rfl) rfl (by show 2 * 0 + _ ≤ _; exact Nat.le_of_eq rfl) (hb hby d28_20) (fun _ _ => ⟨rfl, e13, (by decide : 0 + 0 ≤ _), (by decide : 0 + 0 ≤ _)⟩)
      dsimp only [Pt.U, Pt.locs, Pt.cells, Pt.slots] at X14 l14 y14 z14 st14 hQ14
      subst l14 y14 z14
      obtain ⟨rfl, N14q, hh14⟩ := hQ14
      have N14 := Fr.app Nf N14q
      obtain ⟨LL14, X14, N14⟩ := own_abs X14 N14
      refine own_go (fun t k => st14.trans k) ?_
      refine own_go (B := T14.setTop (mkF m 25 #[.val (.ref a1), .val (.int i), s2] [(.int i), (.ref a1), (.int (gN (((3 : Int32) * i)).toNatClampNeg))])) (fun t k => ?_) ?_
      · show Steps p.tables e below (T14.setTop (mkF m 23 #[.val (.ref a1), .val (.int i), s2] [(.int (gN (((3 : Int32) * i)).toNatClampNeg))])) t
        refine XS.aloadN X14.here hx rfl (hb hby d28_23) rfl rfl ?_
        refine XS.iloadN X14.here hx rfl (hb hby d28_24) rfl ?_
        exact k
      obtain ⟨cq15, kq15, q15a, q15b, q15c⟩ := isOf hZ hh14 EX'
      obtain ⟨_, _, ⟨T15, L15, k15, n15⟩, -, X15, ⟨Lc15, hQ15, l15, y15, z15⟩, st15⟩ := X14.virtualBack hx (y := (⟨"com/example/liaise/liaise/NodeTable", "low", "(I)I"⟩ : MethodName)) (z := (⟨"com/example/liaise/liaise/NodeTable", "low", "(I)I"⟩ : MethodName)) hown (mvT hZ (own_at hw 135 rfl)) (mvT hZ (own_at hw 136 rfl)) (notFace_of_selects (args := #[]) (mvT hZ (own_at hw 138 rfl))) (mvT hZ (own_at hw 138 rfl)) (mvT hZ (own_at hw 137 rfl)) (by decide) (backOf (W := 1) (rm24 l Z a0 hw [] a1 i N gN hp n0 Zs FN' AN' hi i8) hZ (own_at hw 139 rfl) (own_at hw 2 rfl) (by decide) (by decide)) q15a q15c (g := (mkF m 25 #[.val (.ref a1), .val (.int i), s2] [(.int i), (.ref a1), (.int (gN (((3 : Int32) * i)).toNatClampNeg))])) rfl (by rw [hml]; rfl) (Steps.refl _) (argsL := [(.int i)]) (rest := [(.int (gN (((3 : Int32) * i)).toNatClampNeg))]) (lenOf pd_rm28_0 rfl) rfl (by show 2 * 0 + _ ≤ _; exact Nat.le_of_eq rfl) (hb hby d28_25) (fun _ _ => ⟨rfl, hh14, (by decide : 0 + 0 ≤ _), (by decide : 0 + 0 ≤ _)⟩)
      dsimp only [Pt.U, Pt.locs, Pt.cells, Pt.slots] at X15 l15 y15 z15 st15 hQ15
      subst l15 y15 z15
      obtain ⟨rfl, N15q, hh15⟩ := hQ15
      have N15 := Fr.app N14 N15q
      obtain ⟨LL15, X15, N15⟩ := own_abs X15 N15
      refine own_go (fun t k => st15.trans k) ?_
      refine own_go (B := T15.setTop (mkF m 30 #[.val (.ref a1), .val (.int i), s2] [(.int i), (.ref a1), (.int (gN ((((3 : Int32) * i) + (1 : Int32))).toNatClampNeg)), (.int (gN (((3 : Int32) * i)).toNatClampNeg))])) (fun t k => ?_) ?_
      · show Steps p.tables e below (T15.setTop (mkF m 28 #[.val (.ref a1), .val (.int i), s2] [(.int (gN ((((3 : Int32) * i) + (1 : Int32))).toNatClampNeg)), (.int (gN (((3 : Int32) * i)).toNatClampNeg))])) t
        refine XS.aloadN X15.here hx rfl (hb hby d28_28) rfl rfl ?_
        refine XS.iloadN X15.here hx rfl (hb hby d28_29) rfl ?_
        exact k
      obtain ⟨cq16, kq16, q16a, q16b, q16c⟩ := isOf hZ hh15 EX'
      obtain ⟨_, _, ⟨T16, L16, k16, n16⟩, -, X16, ⟨Lc16, hQ16, l16, y16, z16⟩, st16⟩ := X15.virtualBack hx (y := (⟨"com/example/liaise/liaise/NodeTable", "high", "(I)I"⟩ : MethodName)) (z := (⟨"com/example/liaise/liaise/NodeTable", "high", "(I)I"⟩ : MethodName)) hown (mvT hZ (own_at hw 140 rfl)) (mvT hZ (own_at hw 141 rfl)) (notFace_of_selects (args := #[]) (mvT hZ (own_at hw 143 rfl))) (mvT hZ (own_at hw 143 rfl)) (mvT hZ (own_at hw 142 rfl)) (by decide) (backOf (W := 2) (rm25 l Z a0 hw [] a1 i N gN hp n0 Zs FN' AN' hi i8) hZ (own_at hw 144 rfl) (own_at hw 2 rfl) (by decide) (by decide)) q16a q16c (g := (mkF m 30 #[.val (.ref a1), .val (.int i), s2] [(.int i), (.ref a1), (.int (gN ((((3 : Int32) * i) + (1 : Int32))).toNatClampNeg)), (.int (gN (((3 : Int32) * i)).toNatClampNeg))])) rfl (by rw [hml]; rfl) (Steps.refl _) (argsL := [(.int i)]) (rest := [(.int (gN ((((3 : Int32) * i) + (1 : Int32))).toNatClampNeg)), (.int (gN (((3 : Int32) * i)).toNatClampNeg))]) (lenOf pd_rm28_0 rfl) rfl (by show 2 * 0 + _ ≤ _; exact Nat.le_of_eq rfl) (hb hby d28_30) (fun _ _ => ⟨rfl, hh15, (by decide : 0 + 0 ≤ _), (by decide : 0 + 0 ≤ _)⟩)
      dsimp only [Pt.U, Pt.locs, Pt.cells, Pt.slots] at X16 l16 y16 z16 st16 hQ16
      subst l16 y16 z16
      obtain ⟨rfl, N16q, hh16⟩ := hQ16
      have N16 := Fr.app N15 N16q
      obtain ⟨LL16, X16, N16⟩ := own_abs X16 N16
      refine own_go (fun t k => st16.trans k) ?_
      obtain ⟨_, _, ⟨T17, L17, k17, n17⟩, -, X17, ⟨Lc17, hQ17, l17, y17, z17⟩, st17⟩ := Jvm.LawKit.callS X16 hx (y := (⟨"com/example/liaise/liaise/NodeTable", "hash", "(III)I"⟩ : MethodName)) hown (mvT hZ (own_at hw 43 rfl)) (mvT hZ (own_at hw 44 rfl)) (mvT hZ (own_at hw 2 rfl)) (mvT hZ (own_at hw 45 rfl)) (by decide) (backOf (W := 0) (rm8 l Z a0 hw [] (gN (((3 : Int32) * i)).toNatClampNeg) (gN ((((3 : Int32) * i) + (1 : Int32))).toNatClampNeg) (gN ((((3 : Int32) * i) + (2 : Int32))).toNatClampNeg) hp n0 Zs) hZ (own_at hw 45 rfl) (own_at hw 2 rfl) (by decide) (by decide)) (g := (mkF m 33 #[.val (.ref a1), .val (.int i), s2] [(.int (gN ((((3 : Int32) * i) + (2 : Int32))).toNatClampNeg)), (.int (gN ((((3 : Int32) * i) + (1 : Int32))).toNatClampNeg)), (.int (gN (((3 : Int32) * i)).toNatClampNeg))])) rfl (by rw [hml]; rfl) (argsL := [(.int (gN (((3 : Int32) * i)).toNatClampNeg)), (.int (gN ((((3 : Int32) * i) + (1 : Int32))).toNatClampNeg)), (.int (gN ((((3 : Int32) * i) + (2 : Int32))).toNatClampNeg))]) (rest := []) (lenOf pd_rm28_1 rfl) rfl (by show 2 * 0 + _ ≤ _; exact Nat.le_of_eq rfl) (hb hby d28_33) (fun _ _ => ⟨rfl, hh16, (by decide : 0 + 0 ≤ _), (by decide : 0 + 0 ≤ _)⟩)
      dsimp only [Pt.U, Pt.locs, Pt.cells, Pt.slots] at X17 l17 y17 z17 st17 hQ17
      subst l17 y17 z17
      obtain ⟨r17, rfl, N17q, hh17⟩ := hQ17
      have N17 := Fr.app N16 N17q
      obtain ⟨LL17, X17, N17⟩ := own_abs X17 N17
      refine own_go (fun t k => st17 t k) ?_
      refine own_go (B := T17.setTop (mkF m 37 #[.val (.ref a1), .val (.int i), s2] [(.ref a1), (.int r17)])) (fun t k => ?_) ?_
      · show Steps p.tables e below (T17.setTop (mkF m 36 #[.val (.ref a1), .val (.int i), s2] [(.int r17)])) t
        refine XS.aloadN X17.here hx rfl (hb hby d28_36) rfl rfl ?_
        exact k
      obtain ⟨T18, X18, e18, st18⟩ := getF X17 hx hZ hown (host := "") (Or.inl (own_at hw 16 rfl)) Via.refl hh17 FS' (g := (mkF m 37 #[.val (.ref a1), .val (.int i), s2] [(.ref a1), (.int r17)])) rfl rfl (hb hby d28_37)
      refine own_go (fun t k => st18 t k) ?_
      obtain ⟨cl19, Ar19, S19, q19⟩ := AS'.len
      refine own_go (X18.arraylength hx (by rw [e18]; exact Ar19.1) (State.isArrayOf_alike hZ.alike Ar19.2.1) (g := (mkF m 40 #[.val (.ref a1), .val (.int i), s2] [(.ref S), (.int r17)])) rfl rfl (hb hby d28_40)) ?_
      rw [len_of S19 q19]
      refine own_go (B := T18.setTop (mkF m 45 #[.val (.ref a1), .val (.int i), .val (.int (r17 &&& ((2048 : Int32) - (1 : Int32))))] [])) (fun t k => ?_) ?_
      · show Steps p.tables e below (T18.setTop (mkF m 41 #[.val (.ref a1), .val (.int i), s2] [(.int 2048), (.int r17)])) t
        refine XS.iconst X18.here hx rfl (hb hby d28_41) ?_
        refine XS.isub X18.here hx rfl (hb hby d28_42) rfl ?_
        refine XS.iand X18.here hx rfl (hb hby d28_43) rfl ?_
        refine XS.istoreN X18.here hx rfl (hb hby d28_44) rfl (l' := #[.val (.ref a1), .val (.int i), .val (.int (r17 &&& ((2048 : Int32) - (1 : Int32))))]) (by rcases hs2 with rfl | ⟨z, rfl⟩ <;> rfl) ?_
        exact k
      obtain ⟨z0, z8, -, -, Ls, hL, hM⟩ := id Ii
      have mj := own_nat (own_ix r17).1
      have ml := (own_ix r17).2
      exact inner Ls.length Ls _ 0 _ _ _ rfl (by omega) (fun i hi hn => Or.inl (hM i hi hn)) (own_ix _).1 (own_ix _).2 (by rw [Nat.add_zero]; exact (Nat.mod_eq_of_lt (by omega)).symm) X18 e18 N17
  refine own_go (B := s₁.setTop (mkF m 1 #[.val (.ref a1), .unset, .unset] [(.ref a1)])) (fun t k => ?_) ?_
  · show Steps p.tables e below (s₁.setTop (mkF m 0 #[.val (.ref a1), .unset, .unset] [])) t
    refine XS.aloadN X0.here hx rfl (hb hby d28_0) rfl rfl ?_
    exact k
  obtain ⟨T20, X20, e20, st20⟩ := getF X0 hx hZ hown (host := "") (Or.inl (own_at hw 16 rfl)) Via.refl e0 FS (g := (mkF m 1 #[.val (.ref a1), .unset, .unset] [(.ref a1)])) rfl rfl (hb hby d28_1)
  refine own_go (fun t k => st20 t k) ?_
  refine own_go (B := T20.setTop (mkF m 5 #[.val (.ref a1), .unset, .unset] [(.int 0), (.ref S)])) (fun t k => ?_) ?_
  · show Steps p.tables e below (T20.setTop (mkF m 4 #[.val (.ref a1), .unset, .unset] [(.ref S)])) t
    refine XS.iconst X20.here hx rfl (hb hby d28_4) ?_
    exact k
  obtain ⟨_, _, ⟨T21, L21, k21, n21⟩, -, X21, ⟨Lc21, hQ21, l21, y21, z21⟩, st21⟩ := Jvm.LawKit.callS X20 hx (y := (⟨"java/util/Arrays", "fill", "([II)V"⟩ : MethodName)) hown (mvT hZ (own_at hw 30 rfl)) (mvT hZ (own_at hw 31 rfl)) (mvT hZ (own_at hw 32 rfl)) (mvT hZ (own_at hw 33 rfl)) (by decide) (backOf (W := 0) (rm5 l Z a0 hw [] S (0 : Int32) (2048 : Int32) gS h0 n0 Z0 AS g_S (by decide)) hZ (own_at hw 33 rfl) (own_at hw 32 rfl) (by decide) (by decide)) (g := (mkF m 5 #[.val (.ref a1), .unset, .unset] [(.int 0), (.ref S)])) rfl (by rw [hml]; rfl) (argsL := [(.ref S), (.int 0)]) (rest := []) (lenOf pd_rm28_2 rfl) rfl (by show 2 * 0 + _ ≤ _; exact Nat.le_of_eq rfl) (hb hby d28_5) (fun _ _ => ⟨rfl, e20, (by decide : 0 + 0 ≤ _), (by decide : 0 + 0 ≤ _)⟩)
  dsimp only [Pt.U, Pt.locs, Pt.cells, Pt.slots] at X21 l21 y21 z21 st21 hQ21
  subst l21 y21 z21
  obtain ⟨rfl, N21q, K21, Af21⟩ := hQ21
  have N21 := Fr.app N0 N21q
  obtain ⟨LL21, X21, N21⟩ := own_abs X21 N21
  refine own_go (fun t k => st21 t k) ?_
  have KK21 : Keep h0 T21.heap [S] := (Keep.refl h0 [S]).trans K21 (allS (Or.inl (List.mem_of_getElem? (i := 0) rfl)) all0)
  have f21_0 := EX.keep K21
  have ni22 : a1 ∉ [S] := (ninS ne2 nin0)
  have f21_1 := FN.keep K21 ni22
  have f21_2 := FS.keep K21 ni22
  have f21_3 := FZ.keep K21 ni22
  have ni23 : N ∉ [S] := (ninS ne3 nin0)
  have f21_4 := AN.keep K21 ni23
  refine own_go (B := T21.setTop (mkF m 10 #[.val (.ref a1), .val (.int 0), .unset] [])) (fun t k => ?_) ?_
  · show Steps p.tables e below (T21.setTop (mkF m 8 #[.val (.ref a1), .unset, .unset] [])) t
    refine XS.iconst X21.here hx rfl (hb hby d28_8) ?_
    refine XS.istoreN X21.here hx rfl (hb hby d28_9) rfl (l' := #[.val (.ref a1), .val (.int 0), .unset]) rfl ?_
    exact k
  exact loop sz.toNatClampNeg (0 : Int32) _ _ _ _ _ (by have := own_nat hz0; have z := own_z0; omega) (by decide) (own_I0 vr gN) (Or.inl rfl) X21 rfl N21 (Nat.le_trans Z0 K21.1) KK21 Af21
theorem d27_0 : decode prog_47_method_43_code 0 = .ok (.iload_n 1, 1) := by decide +kernel
theorem d27_1 : decode prog_47_method_43_code 1 = .ok (.aload_n 0, 1) := by decide +kernel
theorem d27_2 : decode prog_47_method_43_code 2 = .ok (.invokevirtual 174, 3) := by decide +kernel
theorem d27_5 : decode prog_47_method_43_code 5 = .ok (.if_icmp .eq 26, 3) := by decide +kernel
theorem d27_31 : decode prog_47_method_43_code 31 = .ok (.aload_n 0, 1) := by decide +kernel
theorem d27_32 : decode prog_47_method_43_code 32 = .ok (.invokevirtual 240, 3) := by decide +kernel
theorem d27_35 : decode prog_47_method_43_code 35 = .ok (.aload_n 0, 1) := by decide +kernel
theorem d27_36 : decode prog_47_method_43_code 36 = .ok (.invokevirtual 35, 3) := by decide +kernel
theorem d27_39 : decode prog_47_method_43_code 39 = .ok (.return_, 1) := by decide +kernel
theorem pn_rm27 : plainName "com/example/liaise/liaise/NodeTable" = true := by first | (simp [plainName, overriddenIn]; done) | decide +kernel
theorem pd_rm27_0 : parseMethodDescriptor "()I" = some ⟨[], some .int⟩ := by decide +kernel
theorem pd_rm27_1 : parseMethodDescriptor "()V" = some ⟨[], none⟩ := by decide +kernel
theorem ef_rm27 (m : MethodId) (x0 : Addr) (x1 : Int32) : entryFrame m #[(.ref x0), (.int x1)] 2 = mkF m 0 #[.val (.ref x0), .val (.int x1)] [] := by first | (simp [entryFrame, mkF, argsToLocals, Value.category]; done) | rfl
def Q27 (Z : State) (a1 : Addr) (N S : Addr) (sz vr : Int32) (gN gS : Nat → Int32) (C : Addr) (gC : Nat → Int32) (h0 : Heap) (n0 : Nat) (v : Option Value) (h : Heap) (L : List Loc) : Prop := ∃ gS' gC' : Nat → Int32, v = none ∧ Fr n0 L ∧ Keep h0 h [S, C] ∧ own_Ag Value.int Z h S .int (2048 : Int32) gS' ∧ own_Ag Value.int Z h C .int (2048 : Int32) gC' ∧ own_I vr sz gN gS'
set_option maxRecDepth 65536 in
set_option maxHeartbeats 40000000 in
theorem rm27 (l : Launch) (Z : State) (a0 : Array Value) (hw : ∀ d ∈ tables_1, d.before a0 Z = true) (ws : List Jvm.Cond) (a1 : Addr) (N S : Addr) (sz vr : Int32) (gN gS : Nat → Int32) (C : Addr) (gC : Nat → Int32) (h0 : Heap) (n0 : Nat) (Z0 : n0 ≤ h0.size) (EX : Exa Z h0 a1 "com/example/liaise/liaise/NodeTable") (FN : Fld Z h0 a1 "com/example/liaise/liaise/NodeTable" "nodes" "[I" (.ref N)) (FS : Fld Z h0 a1 "com/example/liaise/liaise/NodeTable" "slots" "[I" (.ref S)) (FZ : Fld Z h0 a1 "com/example/liaise/liaise/NodeTable" "size" "I" (.int sz)) (AN : own_Ag Value.int Z h0 N .int (3072 : Int32) gN) (AS : own_Ag Value.int Z h0 S .int (2048 : Int32) gS) (g_S : n0 ≤ S) (ne2 : a1 ≠ S) (ne3 : N ≠ S) (hz0 : 0 ≤ sz.toInt) (hz8 : sz.toInt ≤ 8) (hN : ∀ i, i < sz.toNatClampNeg → gN (3 * i) = vr) (FC : Fld Z h0 a1 "com/example/liaise/liaise/NodeTable" "cache" "[I" (.ref C)) (AC : own_Ag Value.int Z h0 C .int (2048 : Int32) gC) (g_C : n0 ≤ C) (ne4 : a1 ≠ C) (ne5 : N ≠ C) (ne6 : S ≠ C) :
    MetFree l (⟨"com/example/liaise/liaise/NodeTable", "resize", "(I)V"⟩ : MethodName) (head1 (Jvm.Cond.code (⟨"com/example/liaise/liaise/NodeTable", "resize", "(I)V"⟩ : MethodName) prog_47_method_43_code 2 none :: ws) ({ frames := 2, cells := 0, slots := 0, locals := 29 } : Room)) (fun a U => a = #[(.ref a1), (.int 1024)] ∧ Z.Warmed39 U.vm ∧ U.heap = h0) (fun _ _ _ _ _ => True) (fun _ U o U' => ∃ v L, o = .returned v ∧ Q27 Z a1 N S sz vr gN gS C gC h0 n0 v U'.heap L ∧ FrameEnd U o U' L ({ frames := 2, cells := 0, slots := 0, locals := 29 } : Room).cells ({ frames := 2, cells := 0, slots := 0, locals := 29 } : Room).slots) := by
  refine MetFree.of_bodySF (plainFor_of_name pn_rm27) hisR ?_
  intro p e s m args below meth c s₁ Bd hml0 hP hK
  obtain ⟨rfl, hZ, hh⟩ := hP
  have hx := Bd.exec
  have hby := Bd.bytes
  have hml : c.maxLocals = 2 := hml0
  have hown : s.vm.findClass "com/example/liaise/liaise/NodeTable" = some m.cls := findClass_of_methodNamed Bd.named
  have hnm := (name_of_methodNamed Bd.named Bd.method).1
  have X0 : Stand p l e ({ frames := 2, cells := 0, slots := 0, locals := 29 } : Room) s m #[(.ref a1), (.int 1024)] below meth c s₁ [] 0 0 := Stand.of_body Bd
  have e0 : s₁.heap = h0 := by rw [← hh, Bd.state]; rfl
  have N0 := Fr.nil n0
  have pre0 : ∀ t, Steps p.tables e below (s₁.setTop (mkF m 0 #[.val (.ref a1), .val (.int 1024)] [])) t → Steps p.tables e below (s₁.setTop (entryFrame m #[(.ref a1), (.int 1024)] 2)) t := fun t k => castTop (ef_rm27 m a1 (1024 : Int32)) k
  show own_Fin p e below _ _
  refine own_go pre0 ?_
  refine own_go (B := s₁.setTop (mkF m 2 #[.val (.ref a1), .val (.int 1024)] [(.ref a1), (.int 1024)])) (fun t k => ?_) ?_
  · show Steps p.tables e below (s₁.setTop (mkF m 0 #[.val (.ref a1), .val (.int 1024)] [])) t
    refine XS.iloadN X0.here hx rfl (hb hby d27_0) rfl ?_
    refine XS.aloadN X0.here hx rfl (hb hby d27_1) rfl rfl ?_
    exact k
  obtain ⟨cq1, q1, q1'⟩ := EX.cell
  obtain ⟨_, _, ⟨T1, L1, k1, n1⟩, -, X1, ⟨Lc1, hQ1, l1, y1, z1⟩, st1⟩ := X0.privateBack hx (y := (⟨"com/example/liaise/liaise/NodeTable", "capacity", "()I"⟩ : MethodName)) hown (mvT hZ (own_at hw 24 rfl)) (mvT hZ (own_at hw 25 rfl)) (mvT hZ (own_selp (y := (⟨"com/example/liaise/liaise/NodeTable", "capacity", "()I"⟩ : MethodName)) (own_at hw 1 rfl) (own_at hw 26 rfl) (own_at hw 25 rfl) (by decide))) (Cond.privateMethod_at (mvP hZ (own_at hw 26 rfl) (args := #[]))) (mvT hZ (own_at hw 27 rfl)) (by decide) (backOf (W := 1) (rm4 l Z a0 hw [] a1 N gN h0 n0 Z0 FN AN) hZ (own_at hw 27 rfl) (own_at hw 2 rfl) (by decide) (by decide)) (g := (mkF m 2 #[.val (.ref a1), .val (.int 1024)] [(.ref a1), (.int 1024)])) rfl (by rw [hml]; rfl) (Steps.refl _) (a := a1) (by rw [e0]; exact q1) q1' (argsL := []) (rest := [(.int 1024)]) (lenOf pd_rm27_0 rfl) rfl (by show 2 * 0 + _ ≤ _; exact Nat.le_of_eq rfl) (hb hby d27_2) (fun _ _ => ⟨rfl, e0, (by decide : 0 + 0 ≤ _), (by decide : 0 + 0 ≤ _)⟩)
  dsimp only [Pt.U, Pt.locs, Pt.cells, Pt.slots] at X1 l1 y1 z1 st1 hQ1
  subst l1 y1 z1
  obtain ⟨rfl, N1q, hh1⟩ := hQ1
  have N1 := Fr.app N0 N1q
  obtain ⟨LL1, X1, N1⟩ := own_abs X1 N1
  refine own_go (fun t k => st1.trans k) ?_
  refine own_go (B := T1.setTop (mkF m 32 #[.val (.ref a1), .val (.int 1024)] [(.ref a1)])) (fun t k => ?_) ?_
  · show Steps p.tables e below (T1.setTop (mkF m 5 #[.val (.ref a1), .val (.int 1024)] [(.int 1024), (.int 1024)])) t
    refine XS.icmpYes X1.here hx rfl (pc0 := 5) (pc' := 31) rfl (hb hby d27_5) rfl (teq (by decide : (1024 : Int32) = (1024 : Int32))).1 (by decide) (by decide) ?_
    refine XS.aloadN X1.here hx rfl (hb hby d27_31) rfl rfl ?_
    exact k
  obtain ⟨cq2, q2, q2'⟩ := EX.cell
  obtain ⟨_, _, ⟨T2, L2, k2, n2⟩, -, X2, ⟨Lc2, hQ2, l2, y2, z2⟩, st2⟩ := X1.privateBack hx (y := (⟨"com/example/liaise/liaise/NodeTable", "rehash", "()V"⟩ : MethodName)) hown (mvT hZ (own_at hw 154 rfl)) (mvT hZ (own_at hw 155 rfl)) (mvT hZ (own_selp (y := (⟨"com/example/liaise/liaise/NodeTable", "rehash", "()V"⟩ : MethodName)) (own_at hw 1 rfl) (own_at hw 156 rfl) (own_at hw 155 rfl) (by decide))) (Cond.privateMethod_at (mvP hZ (own_at hw 156 rfl) (args := #[]))) (mvT hZ (own_at hw 157 rfl)) (by decide) (backOf (W := 0) (rm28 l Z a0 hw [] a1 N S sz vr gN gS h0 n0 Z0 EX FN FS FZ AN AS g_S ne2 ne3 hz0 hz8 hN) hZ (own_at hw 157 rfl) (own_at hw 2 rfl) (by decide) (by decide)) (g := (mkF m 32 #[.val (.ref a1), .val (.int 1024)] [(.ref a1)])) rfl (by rw [hml]; rfl) (Steps.refl _) (a := a1) (by rw [hh1]; exact q2) q2' (argsL := []) (rest := []) (lenOf pd_rm27_1 rfl) rfl (by show 2 * 0 + _ ≤ _; exact Nat.le_of_eq rfl) (hb hby d27_32) (fun _ _ => ⟨rfl, hh1, (by decide : 0 + 0 ≤ _), (by decide : 0 + 0 ≤ _)⟩)
  dsimp only [Pt.U, Pt.locs, Pt.cells, Pt.slots] at X2 l2 y2 z2 st2 hQ2
  subst l2 y2 z2
  obtain ⟨gS2, rfl, N2q, K2, As2, I2⟩ := hQ2
  have N2 := Fr.app N1 N2q
  obtain ⟨LL2, X2, N2⟩ := own_abs X2 N2
  refine own_go (fun t k => st2.trans k) ?_
  have KK2 : Keep h0 T2.heap [S, C] := (Keep.refl h0 [S, C]).trans K2 (allS (Or.inl (List.mem_of_getElem? (i := 0) rfl)) all0)
  have f2_0 := EX.keep K2
  have ni3 : a1 ∉ [S] := (ninS ne2 nin0)
  have f2_1 := FN.keep K2 ni3
  have f2_2 := FS.keep K2 ni3
  have f2_3 := FZ.keep K2 ni3
  have ni4 : N ∉ [S] := (ninS ne3 nin0)
  have f2_4 := AN.keep K2 ni4
  have f2_6 := FC.keep K2 ni3
  have ni5 : C ∉ [S] := (ninS (Ne.symm ne6) nin0)
  have f2_7 := AC.keep K2 ni5
  refine own_go (B := T2.setTop (mkF m 36 #[.val (.ref a1), .val (.int 1024)] [(.ref a1)])) (fun t k => ?_) ?_
  · show Steps p.tables e below (T2.setTop (mkF m 35 #[.val (.ref a1), .val (.int 1024)] [])) t
    refine XS.aloadN X2.here hx rfl (hb hby d27_35) rfl rfl ?_
    exact k
  obtain ⟨cq6, q6, q6'⟩ := f2_0.cell
  obtain ⟨_, _, ⟨T6, L6, k6, n6⟩, -, X6, ⟨Lc6, hQ6, l6, y6, z6⟩, st6⟩ := X2.privateBack hx (y := (⟨"com/example/liaise/liaise/NodeTable", "emptyCache", "()V"⟩ : MethodName)) hown (mvT hZ (own_at hw 20 rfl)) (mvT hZ (own_at hw 21 rfl)) (mvT hZ (own_selp (y := (⟨"com/example/liaise/liaise/NodeTable", "emptyCache", "()V"⟩ : MethodName)) (own_at hw 1 rfl) (own_at hw 22 rfl) (own_at hw 21 rfl) (by decide))) (Cond.privateMethod_at (mvP hZ (own_at hw 22 rfl) (args := #[]))) (mvT hZ (own_at hw 23 rfl)) (by decide) (backOf (W := 0) (rm3b l Z a0 hw [] a1 N C gN gC T2.heap n0 (Nat.le_trans Z0 K2.1) f2_0 f2_1 f2_4 f2_6 f2_7 g_C ne4 ne5) hZ (own_at hw 23 rfl) (own_at hw 2 rfl) (by decide) (by decide)) (g := (mkF m 36 #[.val (.ref a1), .val (.int 1024)] [(.ref a1)])) rfl (by rw [hml]; rfl) (Steps.refl _) (a := a1) q6 q6' (argsL := []) (rest := []) (lenOf pd_rm27_1 rfl) rfl (by show 2 * 0 + _ ≤ _; exact Nat.le_of_eq rfl) (hb hby d27_36) (fun _ _ => ⟨rfl, rfl, (by decide : 0 + 0 ≤ _), (by decide : 0 + 0 ≤ _)⟩)
  dsimp only [Pt.U, Pt.locs, Pt.cells, Pt.slots] at X6 l6 y6 z6 st6 hQ6
  subst l6 y6 z6
  obtain ⟨gC6, rfl, N6q, K6, Ac6⟩ := hQ6
  have N6 := Fr.app N2 N6q
  obtain ⟨LL6, X6, N6⟩ := own_abs X6 N6
  refine own_go (fun t k => st6.trans k) ?_
  have KK6 : Keep h0 T6.heap [S, C] := KK2.trans K6 (allS (Or.inl (List.mem_of_getElem? (i := 1) rfl)) all0)
  have f6_0 := f2_0.keep K6
  have ni7 : a1 ∉ [C] := (ninS ne4 nin0)
  have f6_1 := f2_1.keep K6 ni7
  have f6_2 := f2_2.keep K6 ni7
  have f6_3 := f2_3.keep K6 ni7
  have ni8 : N ∉ [C] := (ninS ne5 nin0)
  have f6_4 := f2_4.keep K6 ni8
  have f6_5 := f2_6.keep K6 ni7
  have ni9 : S ∉ [C] := (ninS ne6 nin0)
  have f6_7 := As2.keep K6 ni9
  obtain ⟨fs, hr, hrun, hended, hW, hsame⟩ := X6.leave (v := none) (fun _ => rfl)
  refine ⟨_, _, ?_, hrun, hended, _, _, rfl, ?_, ⟨_, rfl⟩, hW, hsame.mono (by decide) (by decide)⟩
  · show Steps p.tables e below (T6.setTop (mkF m 39 #[.val (.ref a1), .val (.int 1024)] [])) _
    exact X6.returnOut hx Bd.returns (hb hby d27_39) hr
  · show Q27 Z a1 N S sz vr gN gS C gC h0 n0 _ T6.heap _
    exact ⟨_, _, rfl, N6, KK6, f6_7, Ac6, I2⟩
theorem own_w6 {x : Int32} (h0 : 0 ≤ x.toInt) (h7 : x.toInt ≤ 7) : (x >>> ((6 : Int32) &&& 31)) = (0 : Int32) := by
  have h := c_ishr x 6 6 (by decide)
  refine Int32.toInt_inj.mp ?_
  rw [h, own_z0]
  omega
theorem own_064 (x : Int32) : (((0 : Int32) * (64 : Int32)) + x) = x := by
  rw [show ((0 : Int32) * (64 : Int32)) = 0 by decide]
  exact Int32.zero_add x
theorem d14_0 : decode jdk_92_method_1_code 0 = .ok (.iload_n 0, 1) := by decide +kernel
theorem d14_1 : decode jdk_92_method_1_code 1 = .ok (.bipush 6, 2) := by decide +kernel
theorem d14_3 : decode jdk_92_method_1_code 3 = .ok (.ishr, 1) := by decide +kernel
theorem d14_4 : decode jdk_92_method_1_code 4 = .ok (.ireturn, 1) := by decide +kernel
theorem pn_rm14 : plainName "java/util/BitSet" = true := by first | (simp [plainName, overriddenIn]; done) | decide +kernel
theorem ef_rm14 (m : MethodId) (x0 : Int32) : entryFrame m #[(.int x0)] 1 = mkF m 0 #[.val (.int x0)] [] := by first | (simp [entryFrame, mkF, argsToLocals, Value.category]; done) | rfl
def Q14 (Z : State) (p2 : Int32) (h0 : Heap) (n0 : Nat) (v : Option Value) (h : Heap) (L : List Loc) : Prop := v = some (.int (0 : Int32)) ∧ Fr n0 L ∧ h = h0
set_option maxRecDepth 65536 in
set_option maxHeartbeats 40000000 in
theorem rm14 (l : Launch) (Z : State) (a0 : Array Value) (hw : ∀ d ∈ tables_1, d.before a0 Z = true) (ws : List Jvm.Cond) (p2 : Int32) (h0 : Heap) (n0 : Nat) (Z0 : n0 ≤ h0.size) (c0 : 0 ≤ p2.toInt) (c7 : p2.toInt ≤ 7) :
    MetFree l (⟨"java/util/BitSet", "wordIndex", "(I)I"⟩ : MethodName) (head1 (Jvm.Cond.code (⟨"java/util/BitSet", "wordIndex", "(I)I"⟩ : MethodName) jdk_92_method_1_code 1 (some .int) :: ws) ({ frames := 0, cells := 0, slots := 0, locals := 0 } : Room)) (fun a U => a = #[(.int p2)] ∧ Z.Warmed39 U.vm ∧ U.heap = h0) (fun _ _ _ _ _ => True) (fun _ U o U' => ∃ v L, o = .returned v ∧ Q14 Z p2 h0 n0 v U'.heap L ∧ FrameEnd U o U' L ({ frames := 0, cells := 0, slots := 0, locals := 0 } : Room).cells ({ frames := 0, cells := 0, slots := 0, locals := 0 } : Room).slots) := by
  refine MetFree.of_bodySF (plainFor_of_name pn_rm14) hisR ?_
  intro p e s m args below meth c s₁ Bd hml0 hP hK
  obtain ⟨rfl, hZ, hh⟩ := hP
  have hx := Bd.exec
  have hby := Bd.bytes
  have hml : c.maxLocals = 1 := hml0
  have hown : s.vm.findClass "java/util/BitSet" = some m.cls := findClass_of_methodNamed Bd.named
  have hnm := (name_of_methodNamed Bd.named Bd.method).1
  have X0 : Stand p l e ({ frames := 0, cells := 0, slots := 0, locals := 0 } : Room) s m #[(.int p2)] below meth c s₁ [] 0 0 := Stand.of_body Bd
  have e0 : s₁.heap = h0 := by rw [← hh, Bd.state]; rfl
  have N0 := Fr.nil n0
  have pre0 : ∀ t, Steps p.tables e below (s₁.setTop (mkF m 0 #[.val (.int p2)] [])) t → Steps p.tables e below (s₁.setTop (entryFrame m #[(.int p2)] 1)) t := fun t k => castTop (ef_rm14 m p2) k
  show own_Fin p e below _ _
  refine own_go pre0 ?_
  refine own_go (B := s₁.setTop (mkF m 4 #[.val (.int p2)] [(.int (p2 >>> ((6 : Int32) &&& 31)))])) (fun t k => ?_) ?_
  · show Steps p.tables e below (s₁.setTop (mkF m 0 #[.val (.int p2)] [])) t
    refine XS.iloadN X0.here hx rfl (hb hby d14_0) rfl ?_
    refine XS.bipush X0.here hx rfl (hb hby d14_1) ?_
    refine XS.ishr X0.here hx rfl (hb hby d14_3) rfl ?_
    exact k
  obtain ⟨fs, hr, hrun, hended, hW, hsame⟩ := X0.leave (v := some (.int (p2 >>> ((6 : Int32) &&& 31)))) (fun h => by rw [Bd.returns] at h; cases h)
  refine ⟨_, _, ?_, hrun, hended, _, _, rfl, ?_, ⟨_, rfl⟩, hW, hsame.mono (by decide) (by decide)⟩
  · show Steps p.tables e below (s₁.setTop (mkF m 4 #[.val (.int p2)] [(.int (p2 >>> ((6 : Int32) &&& 31)))])) _
    exact retI X0 hx Bd.returns (hb hby d14_4) hr
  · show Q14 Z p2 h0 n0 _ s₁.heap _
    rw [e0]
    exact ⟨congrArg (fun z => some (Value.int z)) (own_w6 c0 c7), N0, rfl⟩
theorem d18_0 : decode jdk_92_method_2_code 0 = .ok (.getstatic 3, 3) := by decide +kernel
theorem d18_3 : decode jdk_92_method_2_code 3 = .ok (.ifCond .ne 34, 3) := by decide +kernel
theorem d18_37 : decode jdk_92_method_2_code 37 = .ok (.getstatic 3, 3) := by decide +kernel
theorem d18_40 : decode jdk_92_method_2_code 40 = .ok (.ifCond .ne 30, 3) := by decide +kernel
theorem d18_70 : decode jdk_92_method_2_code 70 = .ok (.getstatic 3, 3) := by decide +kernel
theorem d18_73 : decode jdk_92_method_2_code 73 = .ok (.ifCond .ne 37, 3) := by decide +kernel
theorem d18_110 : decode jdk_92_method_2_code 110 = .ok (.return_, 1) := by decide +kernel
theorem pn_rm18 : plainName "java/util/BitSet" = true := by first | (simp [plainName, overriddenIn]; done) | decide +kernel
theorem ef_rm18 (m : MethodId) (x0 : Addr) : entryFrame m #[(.ref x0)] 1 = mkF m 0 #[.val (.ref x0)] [] := by first | (simp [entryFrame, mkF, argsToLocals, Value.category]; done) | rfl
def Q18 (Z : State) (a1 : Addr) (h0 : Heap) (n0 : Nat) (v : Option Value) (h : Heap) (L : List Loc) : Prop := v = none ∧ Fr n0 L ∧ h = h0
set_option maxRecDepth 65536 in
set_option maxHeartbeats 40000000 in
theorem rm18 (l : Launch) (Z : State) (a0 : Array Value) (hw : ∀ d ∈ tables_1, d.before a0 Z = true) (ws : List Jvm.Cond) (a1 : Addr) (h0 : Heap) (n0 : Nat) (Z0 : n0 ≤ h0.size) (SA : Sta Z h0 "java/util/BitSet" "$assertionsDisabled" "Z" (.int (1 : Int32))) :
    MetFree l (⟨"java/util/BitSet", "checkInvariants", "()V"⟩ : MethodName) (head1 (Jvm.Cond.code (⟨"java/util/BitSet", "checkInvariants", "()V"⟩ : MethodName) jdk_92_method_2_code 1 none :: ws) ({ frames := 0, cells := 0, slots := 0, locals := 0 } : Room)) (fun a U => a = #[(.ref a1)] ∧ Z.Warmed39 U.vm ∧ U.heap = h0) (fun _ _ _ _ _ => True) (fun _ U o U' => ∃ v L, o = .returned v ∧ Q18 Z a1 h0 n0 v U'.heap L ∧ FrameEnd U o U' L ({ frames := 0, cells := 0, slots := 0, locals := 0 } : Room).cells ({ frames := 0, cells := 0, slots := 0, locals := 0 } : Room).slots) := by
  refine MetFree.of_bodySF (plainFor_of_name pn_rm18) hisR ?_
  intro p e s m args below meth c s₁ Bd hml0 hP hK
  obtain ⟨rfl, hZ, hh⟩ := hP
  have hx := Bd.exec
  have hby := Bd.bytes
  have hml : c.maxLocals = 1 := hml0
  have hown : s.vm.findClass "java/util/BitSet" = some m.cls := findClass_of_methodNamed Bd.named
  have hnm := (name_of_methodNamed Bd.named Bd.method).1
  have X0 : Stand p l e ({ frames := 0, cells := 0, slots := 0, locals := 0 } : Room) s m #[(.ref a1)] below meth c s₁ [] 0 0 := Stand.of_body Bd
  have e0 : s₁.heap = h0 := by rw [← hh, Bd.state]; rfl
  have N0 := Fr.nil n0
  have pre0 : ∀ t, Steps p.tables e below (s₁.setTop (mkF m 0 #[.val (.ref a1)] [])) t → Steps p.tables e below (s₁.setTop (entryFrame m #[(.ref a1)] 1)) t := fun t k => castTop (ef_rm18 m a1) k
  show own_Fin p e below _ _
  refine own_go pre0 ?_
  obtain ⟨T1, X1, e1, st1⟩ := getS2 X0 hx hZ hown (host := "") (Or.inl (own_at hw 110 rfl)) Via.refl e0 SA (g := (mkF m 0 #[.val (.ref a1)] [])) rfl (hb hby d18_0)
  refine own_go (fun t k => st1 t k) ?_
  refine own_go (B := T1.setTop (mkF m 37 #[.val (.ref a1)] [])) (fun t k => ?_) ?_
  · show Steps p.tables e below (T1.setTop (mkF m 3 #[.val (.ref a1)] [(.int 1)])) t
    refine XS.ifYes X1.here hx rfl (pc0 := 3) (pc' := 37) rfl (hb hby d18_3) rfl ((if0 _ _).trans (feq (by decide : ¬ ((1 : Int32) = (0 : Int32)))).2) (by decide) (by decide) ?_
    exact k
  obtain ⟨T2, X2, e2, st2⟩ := getS2 X1 hx hZ hown (host := "") (Or.inl (own_at hw 110 rfl)) Via.refl e1 SA (g := (mkF m 37 #[.val (.ref a1)] [])) rfl (hb hby d18_37)
  refine own_go (fun t k => st2 t k) ?_
  refine own_go (B := T2.setTop (mkF m 70 #[.val (.ref a1)] [])) (fun t k => ?_) ?_
  · show Steps p.tables e below (T2.setTop (mkF m 40 #[.val (.ref a1)] [(.int 1)])) t
    refine XS.ifYes X2.here hx rfl (pc0 := 40) (pc' := 70) rfl (hb hby d18_40) rfl ((if0 _ _).trans (feq (by decide : ¬ ((1 : Int32) = (0 : Int32)))).2) (by decide) (by decide) ?_
    exact k
  obtain ⟨T3, X3, e3, st3⟩ := getS2 X2 hx hZ hown (host := "") (Or.inl (own_at hw 110 rfl)) Via.refl e2 SA (g := (mkF m 70 #[.val (.ref a1)] [])) rfl (hb hby d18_70)
  refine own_go (fun t k => st3 t k) ?_
  refine own_go (B := T3.setTop (mkF m 110 #[.val (.ref a1)] [])) (fun t k => ?_) ?_
  · show Steps p.tables e below (T3.setTop (mkF m 73 #[.val (.ref a1)] [(.int 1)])) t
    refine XS.ifYes X3.here hx rfl (pc0 := 73) (pc' := 110) rfl (hb hby d18_73) rfl ((if0 _ _).trans (feq (by decide : ¬ ((1 : Int32) = (0 : Int32)))).2) (by decide) (by decide) ?_
    exact k
  obtain ⟨fs, hr, hrun, hended, hW, hsame⟩ := X3.leave (v := none) (fun _ => rfl)
  refine ⟨_, _, ?_, hrun, hended, _, _, rfl, ?_, ⟨_, rfl⟩, hW, hsame.mono (by decide) (by decide)⟩
  · show Steps p.tables e below (T3.setTop (mkF m 110 #[.val (.ref a1)] [])) _
    exact X3.returnOut hx Bd.returns (hb hby d18_110) hr
  · show Q18 Z a1 h0 n0 _ T3.heap _
    rw [e3]
    exact ⟨rfl, N0, rfl⟩
theorem d17_0 : decode jdk_92_method_14_code 0 = .ok (.aload_n 0, 1) := by decide +kernel
theorem d17_1 : decode jdk_92_method_14_code 1 = .ok (.getfield 11, 3) := by decide +kernel
theorem d17_4 : decode jdk_92_method_14_code 4 = .ok (.arraylength, 1) := by decide +kernel
theorem d17_5 : decode jdk_92_method_14_code 5 = .ok (.iload_n 1, 1) := by decide +kernel
theorem d17_6 : decode jdk_92_method_14_code 6 = .ok (.if_icmp .ge 32, 3) := by decide +kernel
theorem d17_38 : decode jdk_92_method_14_code 38 = .ok (.return_, 1) := by decide +kernel
theorem pn_rm17 : plainName "java/util/BitSet" = true := by first | (simp [plainName, overriddenIn]; done) | decide +kernel
theorem ef_rm17 (m : MethodId) (x0 : Addr) (x1 : Int32) : entryFrame m #[(.ref x0), (.int x1)] 3 = mkF m 0 #[.val (.ref x0), .val (.int x1), .unset] [] := by first | (simp [entryFrame, mkF, argsToLocals, Value.category]; done) | rfl
def Q17 (Z : State) (a1 : Addr) (p2 : Int32) (W : Addr) (gW : Nat → Int64) (h0 : Heap) (n0 : Nat) (v : Option Value) (h : Heap) (L : List Loc) : Prop := v = none ∧ Fr n0 L ∧ h = h0
set_option maxRecDepth 65536 in
set_option maxHeartbeats 40000000 in
theorem rm17 (l : Launch) (Z : State) (a0 : Array Value) (hw : ∀ d ∈ tables_1, d.before a0 Z = true) (ws : List Jvm.Cond) (a1 : Addr) (p2 : Int32) (W : Addr) (gW : Nat → Int64) (h0 : Heap) (n0 : Nat) (Z0 : n0 ≤ h0.size) (FW : Fld Z h0 a1 "java/util/BitSet" "words" "[J" (.ref W)) (AW : own_Ag Value.long Z h0 W .long (1 : Int32) gW) (he : p2 = (1 : Int32)) :
    MetFree l (⟨"java/util/BitSet", "ensureCapacity", "(I)V"⟩ : MethodName) (head1 (Jvm.Cond.code (⟨"java/util/BitSet", "ensureCapacity", "(I)V"⟩ : MethodName) jdk_92_method_14_code 3 none :: ws) ({ frames := 0, cells := 0, slots := 0, locals := 0 } : Room)) (fun a U => a = #[(.ref a1), (.int p2)] ∧ Z.Warmed39 U.vm ∧ U.heap = h0) (fun _ _ _ _ _ => True) (fun _ U o U' => ∃ v L, o = .returned v ∧ Q17 Z a1 p2 W gW h0 n0 v U'.heap L ∧ FrameEnd U o U' L ({ frames := 0, cells := 0, slots := 0, locals := 0 } : Room).cells ({ frames := 0, cells := 0, slots := 0, locals := 0 } : Room).slots) := by
  refine MetFree.of_bodySF (plainFor_of_name pn_rm17) hisR ?_
  intro p e s m args below meth c s₁ Bd hml0 hP hK
  obtain ⟨rfl, hZ, hh⟩ := hP
  have hx := Bd.exec
  have hby := Bd.bytes
  have hml : c.maxLocals = 3 := hml0
  have hown : s.vm.findClass "java/util/BitSet" = some m.cls := findClass_of_methodNamed Bd.named
  have hnm := (name_of_methodNamed Bd.named Bd.method).1
  have X0 : Stand p l e ({ frames := 0, cells := 0, slots := 0, locals := 0 } : Room) s m #[(.ref a1), (.int p2)] below meth c s₁ [] 0 0 := Stand.of_body Bd
  have e0 : s₁.heap = h0 := by rw [← hh, Bd.state]; rfl
  have N0 := Fr.nil n0
  have pre0 : ∀ t, Steps p.tables e below (s₁.setTop (mkF m 0 #[.val (.ref a1), .val (.int p2), .unset] [])) t → Steps p.tables e below (s₁.setTop (entryFrame m #[(.ref a1), (.int p2)] 3)) t := fun t k => castTop (ef_rm17 m a1 p2) k
  show own_Fin p e below _ _
  refine own_go pre0 ?_
  refine own_go (B := s₁.setTop (mkF m 1 #[.val (.ref a1), .val (.int p2), .unset] [(.ref a1)])) (fun t k => ?_) ?_
  · show Steps p.tables e below (s₁.setTop (mkF m 0 #[.val (.ref a1), .val (.int p2), .unset] [])) t
    refine XS.aloadN X0.here hx rfl (hb hby d17_0) rfl rfl ?_
    exact k
  obtain ⟨T1, X1, e1, st1⟩ := getF X0 hx hZ hown (host := "") (Or.inl (own_at hw 88 rfl)) Via.refl e0 FW (g := (mkF m 1 #[.val (.ref a1), .val (.int p2), .unset] [(.ref a1)])) rfl rfl (hb hby d17_1)
  refine own_go (fun t k => st1 t k) ?_
  obtain ⟨cl2, Ar2, S2, q2⟩ := AW.len
  refine own_go (X1.arraylength hx (by rw [e1]; exact Ar2.1) (State.isArrayOf_alike hZ.alike Ar2.2.1) (g := (mkF m 4 #[.val (.ref a1), .val (.int p2), .unset] [(.ref W)])) rfl rfl (hb hby d17_4)) ?_
  rw [len_of S2 q2]
  refine own_go (B := T1.setTop (mkF m 38 #[.val (.ref a1), .val (.int p2), .unset] [])) (fun t k => ?_) ?_
  · show Steps p.tables e below (T1.setTop (mkF m 5 #[.val (.ref a1), .val (.int p2), .unset] [(.int 1)])) t
    refine XS.iloadN X1.here hx rfl (hb hby d17_5) rfl ?_
    show Steps p.tables e below (T1.setTop (mkF m 6 #[.val (.ref a1), .val (.int p2), .unset] [(.int p2), (.int 1)])) t
    refine XS.icmpYes X1.here hx rfl (pc0 := 6) (pc' := 38) rfl (hb hby d17_6) rfl (flt (by rw [he]; decide : ¬ ((1 : Int32) < p2))).2.1 (by decide) (by decide) ?_
    exact k
  obtain ⟨fs, hr, hrun, hended, hW, hsame⟩ := X1.leave (v := none) (fun _ => rfl)
  refine ⟨_, _, ?_, hrun, hended, _, _, rfl, ?_, ⟨_, rfl⟩, hW, hsame.mono (by decide) (by decide)⟩
  · show Steps p.tables e below (T1.setTop (mkF m 38 #[.val (.ref a1), .val (.int p2), .unset] [])) _
    exact X1.returnOut hx Bd.returns (hb hby d17_38) hr
  · show Q17 Z a1 p2 W gW h0 n0 _ T1.heap _
    rw [e1]
    exact ⟨rfl, N0, rfl⟩
theorem d16_0 : decode jdk_92_method_15_code 0 = .ok (.iload_n 1, 1) := by decide +kernel
theorem d16_1 : decode jdk_92_method_15_code 1 = .ok (.iconst 1, 1) := by decide +kernel
theorem d16_2 : decode jdk_92_method_15_code 2 = .ok (.iadd, 1) := by decide +kernel
theorem d16_3 : decode jdk_92_method_15_code 3 = .ok (.istore_n 2, 1) := by decide +kernel
theorem d16_4 : decode jdk_92_method_15_code 4 = .ok (.aload_n 0, 1) := by decide +kernel
theorem d16_5 : decode jdk_92_method_15_code 5 = .ok (.getfield 7, 3) := by decide +kernel
theorem d16_8 : decode jdk_92_method_15_code 8 = .ok (.iload_n 2, 1) := by decide +kernel
theorem d16_9 : decode jdk_92_method_15_code 9 = .ok (.if_icmp .ge 13, 3) := by decide +kernel
theorem d16_12 : decode jdk_92_method_15_code 12 = .ok (.aload_n 0, 1) := by decide +kernel
theorem d16_13 : decode jdk_92_method_15_code 13 = .ok (.iload_n 2, 1) := by decide +kernel
theorem d16_14 : decode jdk_92_method_15_code 14 = .ok (.invokevirtual 139, 3) := by decide +kernel
theorem d16_17 : decode jdk_92_method_15_code 17 = .ok (.aload_n 0, 1) := by decide +kernel
theorem d16_18 : decode jdk_92_method_15_code 18 = .ok (.iload_n 2, 1) := by decide +kernel
theorem d16_19 : decode jdk_92_method_15_code 19 = .ok (.putfield 7, 3) := by decide +kernel
theorem d16_22 : decode jdk_92_method_15_code 22 = .ok (.return_, 1) := by decide +kernel
theorem pn_rm16 : plainName "java/util/BitSet" = true := by first | (simp [plainName, overriddenIn]; done) | decide +kernel
theorem pd_rm16_0 : parseMethodDescriptor "(I)V" = some ⟨[.int], none⟩ := by decide +kernel
theorem ef_rm16 (m : MethodId) (x0 : Addr) (x1 : Int32) : entryFrame m #[(.ref x0), (.int x1)] 3 = mkF m 0 #[.val (.ref x0), .val (.int x1), .unset] [] := by first | (simp [entryFrame, mkF, argsToLocals, Value.category]; done) | rfl
def Q16 (Z : State) (a1 : Addr) (W : Addr) (gW : Nat → Int64) (u : Int32) (h0 : Heap) (n0 : Nat) (v : Option Value) (h : Heap) (L : List Loc) : Prop := v = none ∧ Fr n0 L ∧ Keep h0 h [a1] ∧ Fld Z h a1 "java/util/BitSet" "wordsInUse" "I" (.int (1 : Int32)) ∧ Fld Z h a1 "java/util/BitSet" "words" "[J" (.ref W)
set_option maxRecDepth 65536 in
set_option maxHeartbeats 40000000 in
theorem rm16 (l : Launch) (Z : State) (a0 : Array Value) (hw : ∀ d ∈ tables_1, d.before a0 Z = true) (ws : List Jvm.Cond) (a1 : Addr) (W : Addr) (gW : Nat → Int64) (u : Int32) (h0 : Heap) (n0 : Nat) (Z0 : n0 ≤ h0.size) (EX : Exa Z h0 a1 "java/util/BitSet") (FW : Fld Z h0 a1 "java/util/BitSet" "words" "[J" (.ref W)) (AW : own_Ag Value.long Z h0 W .long (1 : Int32) gW) (FU : Fld Z h0 a1 "java/util/BitSet" "wordsInUse" "I" (.int u)) (hu : u = (0 : Int32) ∨ u = (1 : Int32)) (g_a1 : n0 ≤ a1) (ne1 : a1 ≠ W) :
    MetFree l (⟨"java/util/BitSet", "expandTo", "(I)V"⟩ : MethodName) (head1 (Jvm.Cond.code (⟨"java/util/BitSet", "expandTo", "(I)V"⟩ : MethodName) jdk_92_method_15_code 3 none :: ws) ({ frames := 1, cells := 0, slots := 0, locals := 14 } : Room)) (fun a U => a = #[(.ref a1), (.int 0)] ∧ Z.Warmed39 U.vm ∧ U.heap = h0) (fun _ _ _ _ _ => True) (fun _ U o U' => ∃ v L, o = .returned v ∧ Q16 Z a1 W gW u h0 n0 v U'.heap L ∧ FrameEnd U o U' L ({ frames := 1, cells := 0, slots := 0, locals := 14 } : Room).cells ({ frames := 1, cells := 0, slots := 0, locals := 14 } : Room).slots) := by
  refine MetFree.of_bodySF (plainFor_of_name pn_rm16) hisR ?_
  intro p e s m args below meth c s₁ Bd hml0 hP hK
  obtain ⟨rfl, hZ, hh⟩ := hP
  have hx := Bd.exec
  have hby := Bd.bytes
  have hml : c.maxLocals = 3 := hml0
  have hown : s.vm.findClass "java/util/BitSet" = some m.cls := findClass_of_methodNamed Bd.named
  have hnm := (name_of_methodNamed Bd.named Bd.method).1
  have X0 : Stand p l e ({ frames := 1, cells := 0, slots := 0, locals := 14 } : Room) s m #[(.ref a1), (.int 0)] below meth c s₁ [] 0 0 := Stand.of_body Bd
  have e0 : s₁.heap = h0 := by rw [← hh, Bd.state]; rfl
  have N0 := Fr.nil n0
  have pre0 : ∀ t, Steps p.tables e below (s₁.setTop (mkF m 0 #[.val (.ref a1), .val (.int 0), .unset] [])) t → Steps p.tables e below (s₁.setTop (entryFrame m #[(.ref a1), (.int 0)] 3)) t := fun t k => castTop (ef_rm16 m a1 (0 : Int32)) k
  show own_Fin p e below _ _
  refine own_go pre0 ?_
  refine own_go (B := s₁.setTop (mkF m 5 #[.val (.ref a1), .val (.int 0), .val (.int (0 + 1))] [(.ref a1)])) (fun t k => ?_) ?_
  · show Steps p.tables e below (s₁.setTop (mkF m 0 #[.val (.ref a1), .val (.int 0), .unset] [])) t
    refine XS.iloadN X0.here hx rfl (hb hby d16_0) rfl ?_
    refine XS.iconst X0.here hx rfl (hb hby d16_1) ?_
    refine XS.iadd X0.here hx rfl (hb hby d16_2) rfl ?_
    refine XS.istoreN X0.here hx rfl (hb hby d16_3) rfl (l' := #[.val (.ref a1), .val (.int 0), .val (.int (0 + 1))]) rfl ?_
    refine XS.aloadN X0.here hx rfl (hb hby d16_4) rfl rfl ?_
    exact k
  obtain ⟨T1, X1, e1, st1⟩ := getF X0 hx hZ hown (host := "") (Or.inl (own_at hw 75 rfl)) Via.refl e0 FU (g := (mkF m 5 #[.val (.ref a1), .val (.int 0), .val (.int (0 + 1))] [(.ref a1)])) rfl rfl (hb hby d16_5)
  refine own_go (fun t k => st1 t k) ?_
  refine own_go (B := T1.setTop (mkF m 9 #[.val (.ref a1), .val (.int 0), .val (.int (0 + 1))] [(.int (0 + 1)), (.int u)])) (fun t k => ?_) ?_
  · show Steps p.tables e below (T1.setTop (mkF m 8 #[.val (.ref a1), .val (.int 0), .val (.int (0 + 1))] [(.int u)])) t
    refine XS.iloadN X1.here hx rfl (hb hby d16_8) rfl ?_
    exact k
  by_cases hc9_2 : u < ((0 : Int32) + (1 : Int32))
  · refine own_go (B := T1.setTop (mkF m 12 #[.val (.ref a1), .val (.int 0), .val (.int (0 + 1))] [])) (fun t k => ?_) ?_
    · refine XS.icmpNo X1.here hx rfl (hb hby d16_9) rfl (tlt hc9_2).2.1 ?_
      exact k
    refine own_go (B := T1.setTop (mkF m 14 #[.val (.ref a1), .val (.int 0), .val (.int (0 + 1))] [(.int (0 + 1)), (.ref a1)])) (fun t k => ?_) ?_
    · refine XS.aloadN X1.here hx rfl (hb hby d16_12) rfl rfl ?_
      refine XS.iloadN X1.here hx rfl (hb hby d16_13) rfl ?_
      exact k
    obtain ⟨cq3, q3, q3'⟩ := EX.cell
    obtain ⟨_, _, ⟨T3, L3, k3, n3⟩, -, X3, ⟨Lc3, hQ3, l3, y3, z3⟩, st3⟩ := X1.privateBack hx (y := (⟨"java/util/BitSet", "ensureCapacity", "(I)V"⟩ : MethodName)) hown (mvT hZ (own_at hw 100 rfl)) (mvT hZ (own_at hw 101 rfl)) (mvT hZ (own_at hw 103 rfl)) (Cond.privateMethod_at (mvP hZ (own_at hw 102 rfl) (args := #[]))) (mvT hZ (own_at hw 104 rfl)) (by decide) (backOf (W := 0) (rm17 l Z a0 hw [] a1 ((0 : Int32) + (1 : Int32)) W gW h0 n0 Z0 FW AW (by decide)) hZ (own_at hw 104 rfl) (own_at hw 70 rfl) (by decide) (by decide)) (g := (mkF m 14 #[.val (.ref a1), .val (.int 0), .val (.int (0 + 1))] [(.int (0 + 1)), (.ref a1)])) rfl (by rw [hml]; rfl) (Steps.refl _) (a := a1) (by rw [e1]; exact q3) q3' (argsL := [(.int (0 + 1))]) (rest := []) (lenOf pd_rm16_0 rfl) rfl (by show 2 * 0 + _ ≤ _; exact Nat.le_of_eq rfl) (hb hby d16_14) (fun _ _ => ⟨rfl, e1, (by decide : 0 + 0 ≤ _), (by decide : 0 + 0 ≤ _)⟩)
    dsimp only [Pt.U, Pt.locs, Pt.cells, Pt.slots] at X3 l3 y3 z3 st3 hQ3
    subst l3 y3 z3
    obtain ⟨rfl, N3q, hh3⟩ := hQ3
    have N3 := Fr.app N0 N3q
    obtain ⟨LL3, X3, N3⟩ := own_abs X3 N3
    refine own_go (fun t k => st3.trans k) ?_
    refine own_go (B := T3.setTop (mkF m 19 #[.val (.ref a1), .val (.int 0), .val (.int (0 + 1))] [(.int (0 + 1)), (.ref a1)])) (fun t k => ?_) ?_
    · show Steps p.tables e below (T3.setTop (mkF m 17 #[.val (.ref a1), .val (.int 0), .val (.int (0 + 1))] [])) t
      refine XS.aloadN X3.here hx rfl (hb hby d16_17) rfl rfl ?_
      refine XS.iloadN X3.here hx rfl (hb hby d16_18) rfl ?_
      exact k
    obtain ⟨T4, h4, X4, e4, W4, st4⟩ := putF X3 hx hZ hown (host := "") (Or.inl (own_at hw 75 rfl)) Via.refl hh3 FU EX (Or.inl (own_at hw 76 rfl)) (own_at hw 69 rfl) (ty := .int) (by decide) rfl rfl (g := (mkF m 19 #[.val (.ref a1), .val (.int 0), .val (.int (0 + 1))] [(.int (0 + 1)), (.ref a1)])) rfl rfl (hb hby d16_19)
    refine own_go (fun t k => st4 t k) ?_
    have N4 := Fr.snoc X4 N3 g_a1
    obtain ⟨LL4, X4, N4⟩ := own_abs X4 N4
    have K4 : Keep h0 h4 [a1] := (Keep.refl h0 [a1]).wr W4 (Or.inl (List.mem_of_getElem? (i := 0) rfl))
    have f4_0 := EX.wr W4
    have f4_1 := FW.other W4 (Or.inr (slot_ne (Or.inl (own_at hw 89 rfl)) (Or.inl (own_at hw 76 rfl)) (by decide) (t := (.array .long)) (t' := .int) (by decide) (by decide)))
    have f4_2 := AW.other W4 (Ne.symm ne1)
    have f4_3 := FU.same W4
    obtain ⟨fs, hr, hrun, hended, hW, hsame⟩ := X4.leave (v := none) (fun _ => rfl)
    refine ⟨_, _, ?_, hrun, hended, _, _, rfl, ?_, ⟨_, rfl⟩, hW, hsame.mono (by decide) (by decide)⟩
    · show Steps p.tables e below (T4.setTop (mkF m 22 #[.val (.ref a1), .val (.int 0), .val (.int (0 + 1))] [])) _
      exact X4.returnOut hx Bd.returns (hb hby d16_22) hr
    · show Q16 Z a1 W gW u h0 n0 _ T4.heap _
      rw [e4]
      have e3 : ((0 : Int32) + (1 : Int32)) = (1 : Int32) := (by decide : ((0 : Int32) + (1 : Int32)) = (1 : Int32))
      have e4 := f4_3
      rw [e3] at e4
      exact ⟨rfl, N4, K4, e4, f4_1⟩
  · refine own_go (B := T1.setTop (mkF m 22 #[.val (.ref a1), .val (.int 0), .val (.int (0 + 1))] [])) (fun t k => ?_) ?_
    · refine XS.icmpYes X1.here hx rfl (pc0 := 9) (pc' := 22) rfl (hb hby d16_9) rfl (flt hc9_2).2.1 (by decide) (by decide) ?_
      exact k
    obtain ⟨fs, hr, hrun, hended, hW, hsame⟩ := X1.leave (v := none) (fun _ => rfl)
    refine ⟨_, _, ?_, hrun, hended, _, _, rfl, ?_, ⟨_, rfl⟩, hW, hsame.mono (by decide) (by decide)⟩
    · show Steps p.tables e below (T1.setTop (mkF m 22 #[.val (.ref a1), .val (.int 0), .val (.int (0 + 1))] [])) _
      exact X1.returnOut hx Bd.returns (hb hby d16_22) hr
    · show Q16 Z a1 W gW u h0 n0 _ T1.heap _
      rw [e1]
      have e3 : u = (1 : Int32) := (hu.elim (fun q => absurd (by rw [q]; decide) hc9_2) id)
      have e4 := FU
      rw [e3] at e4
      exact ⟨rfl, N0, (Keep.refl h0 [a1]), e4, FW⟩
theorem d15_0 : decode jdk_92_method_19_code 0 = .ok (.iload_n 1, 1) := by decide +kernel
theorem d15_1 : decode jdk_92_method_19_code 1 = .ok (.ifCond .ge 30, 3) := by decide +kernel
theorem d15_31 : decode jdk_92_method_19_code 31 = .ok (.iload_n 1, 1) := by decide +kernel
theorem d15_32 : decode jdk_92_method_19_code 32 = .ok (.invokestatic 52, 3) := by decide +kernel
theorem d15_35 : decode jdk_92_method_19_code 35 = .ok (.istore_n 2, 1) := by decide +kernel
theorem d15_36 : decode jdk_92_method_19_code 36 = .ok (.aload_n 0, 1) := by decide +kernel
theorem d15_37 : decode jdk_92_method_19_code 37 = .ok (.iload_n 2, 1) := by decide +kernel
theorem d15_38 : decode jdk_92_method_19_code 38 = .ok (.invokevirtual 155, 3) := by decide +kernel
theorem d15_41 : decode jdk_92_method_19_code 41 = .ok (.aload_n 0, 1) := by decide +kernel
theorem d15_42 : decode jdk_92_method_19_code 42 = .ok (.getfield 11, 3) := by decide +kernel
theorem d15_45 : decode jdk_92_method_19_code 45 = .ok (.iload_n 2, 1) := by decide +kernel
theorem d15_46 : decode jdk_92_method_19_code 46 = .ok (.dup2, 1) := by decide +kernel
theorem d15_47 : decode jdk_92_method_19_code 47 = .ok (.laload, 1) := by decide +kernel
theorem d15_48 : decode jdk_92_method_19_code 48 = .ok (.lconst 1, 1) := by decide +kernel
theorem d15_49 : decode jdk_92_method_19_code 49 = .ok (.iload_n 1, 1) := by decide +kernel
theorem d15_50 : decode jdk_92_method_19_code 50 = .ok (.lshl, 1) := by decide +kernel
theorem d15_51 : decode jdk_92_method_19_code 51 = .ok (.lor, 1) := by decide +kernel
theorem d15_52 : decode jdk_92_method_19_code 52 = .ok (.lastore, 1) := by decide +kernel
theorem d15_53 : decode jdk_92_method_19_code 53 = .ok (.aload_n 0, 1) := by decide +kernel
theorem d15_54 : decode jdk_92_method_19_code 54 = .ok (.invokevirtual 56, 3) := by decide +kernel
theorem d15_57 : decode jdk_92_method_19_code 57 = .ok (.return_, 1) := by decide +kernel
theorem pn_rm15 : plainName "java/util/BitSet" = true := by first | (simp [plainName, overriddenIn]; done) | decide +kernel
theorem pd_rm15_0 : parseMethodDescriptor "(I)I" = some ⟨[.int], some .int⟩ := by decide +kernel
theorem pd_rm15_1 : parseMethodDescriptor "(I)V" = some ⟨[.int], none⟩ := by decide +kernel
theorem pd_rm15_2 : parseMethodDescriptor "()V" = some ⟨[], none⟩ := by decide +kernel
theorem ef_rm15 (m : MethodId) (x0 : Addr) (x1 : Int32) : entryFrame m #[(.ref x0), (.int x1)] 3 = mkF m 0 #[.val (.ref x0), .val (.int x1), .unset] [] := by first | (simp [entryFrame, mkF, argsToLocals, Value.category]; done) | rfl
def Q15 (Z : State) (a1 : Addr) (p2 : Int32) (W : Addr) (gW : Nat → Int64) (u : Int32) (h0 : Heap) (n0 : Nat) (v : Option Value) (h : Heap) (L : List Loc) : Prop := ∃ gW' : Nat → Int64, v = none ∧ Fr n0 L ∧ Keep h0 h [a1, W] ∧ Fld Z h a1 "java/util/BitSet" "wordsInUse" "I" (.int (1 : Int32)) ∧ Fld Z h a1 "java/util/BitSet" "words" "[J" (.ref W) ∧ own_Ag Value.long Z h W .long (1 : Int32) gW' ∧ gW' 0 = (gW 0 ||| ((1 : Int64) <<< (p2 &&& 0x3f).toInt64))
set_option maxRecDepth 65536 in
set_option maxHeartbeats 40000000 in
theorem rm15 (l : Launch) (Z : State) (a0 : Array Value) (hw : ∀ d ∈ tables_1, d.before a0 Z = true) (ws : List Jvm.Cond) (a1 : Addr) (p2 : Int32) (W : Addr) (gW : Nat → Int64) (u : Int32) (h0 : Heap) (n0 : Nat) (Z0 : n0 ≤ h0.size) (EX : Exa Z h0 a1 "java/util/BitSet") (FW : Fld Z h0 a1 "java/util/BitSet" "words" "[J" (.ref W)) (AW : own_Ag Value.long Z h0 W .long (1 : Int32) gW) (FU : Fld Z h0 a1 "java/util/BitSet" "wordsInUse" "I" (.int u)) (hu : u = (0 : Int32) ∨ u = (1 : Int32)) (g_a1 : n0 ≤ a1) (ne1 : a1 ≠ W) (g_W : n0 ≤ W) (SA : Sta Z h0 "java/util/BitSet" "$assertionsDisabled" "Z" (.int (1 : Int32))) (c0 : 0 ≤ p2.toInt) (c7 : p2.toInt ≤ 7) :
    MetFree l (⟨"java/util/BitSet", "set", "(I)V"⟩ : MethodName) (head1 (Jvm.Cond.code (⟨"java/util/BitSet", "set", "(I)V"⟩ : MethodName) jdk_92_method_19_code 3 none :: ws) ({ frames := 2, cells := 0, slots := 0, locals := 28 } : Room)) (fun a U => a = #[(.ref a1), (.int p2)] ∧ Z.Warmed39 U.vm ∧ U.heap = h0) (fun _ _ _ _ _ => True) (fun _ U o U' => ∃ v L, o = .returned v ∧ Q15 Z a1 p2 W gW u h0 n0 v U'.heap L ∧ FrameEnd U o U' L ({ frames := 2, cells := 0, slots := 0, locals := 28 } : Room).cells ({ frames := 2, cells := 0, slots := 0, locals := 28 } : Room).slots) := by
  refine MetFree.of_bodySF (plainFor_of_name pn_rm15) hisR ?_
  intro p e s m args below meth c s₁ Bd hml0 hP hK
  obtain ⟨rfl, hZ, hh⟩ := hP
  have hx := Bd.exec
  have hby := Bd.bytes
  have hml : c.maxLocals = 3 := hml0
  have hown : s.vm.findClass "java/util/BitSet" = some m.cls := findClass_of_methodNamed Bd.named
  have hnm := (name_of_methodNamed Bd.named Bd.method).1
  have X0 : Stand p l e ({ frames := 2, cells := 0, slots := 0, locals := 28 } : Room) s m #[(.ref a1), (.int p2)] below meth c s₁ [] 0 0 := Stand.of_body Bd
  have e0 : s₁.heap = h0 := by rw [← hh, Bd.state]; rfl
  have N0 := Fr.nil n0
  have pre0 : ∀ t, Steps p.tables e below (s₁.setTop (mkF m 0 #[.val (.ref a1), .val (.int p2), .unset] [])) t → Steps p.tables e below (s₁.setTop (entryFrame m #[(.ref a1), (.int p2)] 3)) t := fun t k => castTop (ef_rm15 m a1 p2) k
  show own_Fin p e below _ _
  refine own_go pre0 ?_
  refine own_go (B := s₁.setTop (mkF m 32 #[.val (.ref a1), .val (.int p2), .unset] [(.int p2)])) (fun t k => ?_) ?_
  · show Steps p.tables e below (s₁.setTop (mkF m 0 #[.val (.ref a1), .val (.int p2), .unset] [])) t
    refine XS.iloadN X0.here hx rfl (hb hby d15_0) rfl ?_
    show Steps p.tables e below (s₁.setTop (mkF m 1 #[.val (.ref a1), .val (.int p2), .unset] [(.int p2)])) t
    refine XS.ifYes X0.here hx rfl (pc0 := 1) (pc' := 31) rfl (hb hby d15_1) rfl ((if0 _ _).trans (flt (own_nneg c0 : ¬ (p2 < (0 : Int32)))).2.1) (by decide) (by decide) ?_
    refine XS.iloadN X0.here hx rfl (hb hby d15_31) rfl ?_
    exact k
  obtain ⟨_, _, ⟨T1, L1, k1, n1⟩, -, X1, ⟨Lc1, hQ1, l1, y1, z1⟩, st1⟩ := Jvm.LawKit.callS X0 hx (y := (⟨"java/util/BitSet", "wordIndex", "(I)I"⟩ : MethodName)) hown (mvT hZ (own_at hw 84 rfl)) (mvT hZ (own_at hw 85 rfl)) (mvT hZ (own_at hw 70 rfl)) (mvT hZ (own_at hw 86 rfl)) (by decide) (backOf (W := 0) (rm14 l Z a0 hw [] p2 h0 n0 Z0 c0 c7) hZ (own_at hw 86 rfl) (own_at hw 70 rfl) (by decide) (by decide)) (g := (mkF m 32 #[.val (.ref a1), .val (.int p2), .unset] [(.int p2)])) rfl (by rw [hml]; rfl) (argsL := [(.int p2)]) (rest := []) (lenOf pd_rm15_0 rfl) rfl (by show 2 * 0 + _ ≤ _; exact Nat.le_of_eq rfl) (hb hby d15_32) (fun _ _ => ⟨rfl, e0, (by decide : 0 + 0 ≤ _), (by decide : 0 + 0 ≤ _)⟩)
  dsimp only [Pt.U, Pt.locs, Pt.cells, Pt.slots] at X1 l1 y1 z1 st1 hQ1
  subst l1 y1 z1
  obtain ⟨rfl, N1q, hh1⟩ := hQ1
  have N1 := Fr.app N0 N1q
  obtain ⟨LL1, X1, N1⟩ := own_abs X1 N1
  refine own_go (fun t k => st1 t k) ?_
  refine own_go (B := T1.setTop (mkF m 38 #[.val (.ref a1), .val (.int p2), .val (.int 0)] [(.int 0), (.ref a1)])) (fun t k => ?_) ?_
  · show Steps p.tables e below (T1.setTop (mkF m 35 #[.val (.ref a1), .val (.int p2), .unset] [(.int 0)])) t
    refine XS.istoreN X1.here hx rfl (hb hby d15_35) rfl (l' := #[.val (.ref a1), .val (.int p2), .val (.int 0)]) rfl ?_
    refine XS.aloadN X1.here hx rfl (hb hby d15_36) rfl rfl ?_
    refine XS.iloadN X1.here hx rfl (hb hby d15_37) rfl ?_
    exact k
  obtain ⟨cq2, q2, q2'⟩ := EX.cell
  obtain ⟨_, _, ⟨T2, L2, k2, n2⟩, -, X2, ⟨Lc2, hQ2, l2, y2, z2⟩, st2⟩ := X1.privateBack hx (y := (⟨"java/util/BitSet", "expandTo", "(I)V"⟩ : MethodName)) hown (mvT hZ (own_at hw 95 rfl)) (mvT hZ (own_at hw 96 rfl)) (mvT hZ (own_at hw 98 rfl)) (Cond.privateMethod_at (mvP hZ (own_at hw 97 rfl) (args := #[]))) (mvT hZ (own_at hw 99 rfl)) (by decide) (backOf (W := 0) (rm16 l Z a0 hw [] a1 W gW u h0 n0 Z0 EX FW AW FU hu g_a1 ne1) hZ (own_at hw 99 rfl) (own_at hw 70 rfl) (by decide) (by decide)) (g := (mkF m 38 #[.val (.ref a1), .val (.int p2), .val (.int 0)] [(.int 0), (.ref a1)])) rfl (by rw [hml]; rfl) (Steps.refl _) (a := a1) (by rw [hh1]; exact q2) q2' (argsL := [(.int 0)]) (rest := []) (lenOf pd_rm15_1 rfl) rfl (by show 2 * 0 + _ ≤ _; exact Nat.le_of_eq rfl) (hb hby d15_38) (fun _ _ => ⟨rfl, hh1, (by decide : 0 + 0 ≤ _), (by decide : 0 + 0 ≤ _)⟩)
  dsimp only [Pt.U, Pt.locs, Pt.cells, Pt.slots] at X2 l2 y2 z2 st2 hQ2
  subst l2 y2 z2
  obtain ⟨rfl, N2q, K2, Fu2, Fw2⟩ := hQ2
  have N2 := Fr.app N1 N2q
  obtain ⟨LL2, X2, N2⟩ := own_abs X2 N2
  refine own_go (fun t k => st2.trans k) ?_
  have KK2 : Keep h0 T2.heap [a1, W] := (Keep.refl h0 [a1, W]).trans K2 (allS (Or.inl (List.mem_of_getElem? (i := 0) rfl)) all0)
  have f2_0 := EX.keep K2
  have ni3 : W ∉ [a1] := (ninS (Ne.symm ne1) nin0)
  have f2_2 := AW.keep K2 ni3
  have f2_4 := own_staKeep SA K2 (nsS EX.nostat ns0)
  refine own_go (B := T2.setTop (mkF m 42 #[.val (.ref a1), .val (.int p2), .val (.int 0)] [(.ref a1)])) (fun t k => ?_) ?_
  · show Steps p.tables e below (T2.setTop (mkF m 41 #[.val (.ref a1), .val (.int p2), .val (.int 0)] [])) t
    refine XS.aloadN X2.here hx rfl (hb hby d15_41) rfl rfl ?_
    exact k
  obtain ⟨T4, X4, e4, st4⟩ := getF X2 hx hZ hown (host := "") (Or.inl (own_at hw 88 rfl)) Via.refl rfl Fw2 (g := (mkF m 42 #[.val (.ref a1), .val (.int p2), .val (.int 0)] [(.ref a1)])) rfl rfl (hb hby d15_42)
  refine own_go (fun t k => st4 t k) ?_
  refine own_go (B := T4.setTop (mkF m 47 #[.val (.ref a1), .val (.int p2), .val (.int 0)] [(.int 0), (.ref W), (.int 0), (.ref W)])) (fun t k => ?_) ?_
  · show Steps p.tables e below (T4.setTop (mkF m 45 #[.val (.ref a1), .val (.int p2), .val (.int 0)] [(.ref W)])) t
    refine XS.iloadN X4.here hx rfl (hb hby d15_45) rfl ?_
    refine XT.dup2 X4.here hx rfl (hb hby d15_46) rfl rfl rfl ?_
    exact k
  obtain ⟨cl5, Ar5, hin5, hat5, -, -⟩ := f2_2.get (j := (0 : Int32)) (by decide) (by decide)
  refine own_go (X4.laload hx (j := (0 : Int32)) (v := (.long (gW ((0 : Int32)).toNatClampNeg))) (by rw [e4]; exact Ar5.1) (State.isArrayOf_alike hZ.alike Ar5.2.1) Ar5.2.2 hin5 hat5 (g := (mkF m 47 #[.val (.ref a1), .val (.int p2), .val (.int 0)] [(.int 0), (.ref W), (.int 0), (.ref W)])) rfl rfl (hb hby d15_47)) ?_
  refine own_go (B := T4.setTop (mkF m 52 #[.val (.ref a1), .val (.int p2), .val (.int 0)] [(.long ((gW ((0 : Int32)).toNatClampNeg) ||| ((1 : Int64) <<< (p2 &&& 0x3f).toInt64))), (.int 0), (.ref W)])) (fun t k => ?_) ?_
  · show Steps p.tables e below (T4.setTop (mkF m 48 #[.val (.ref a1), .val (.int p2), .val (.int 0)] [(.long (gW ((0 : Int32)).toNatClampNeg)), (.int 0), (.ref W)])) t
    refine XS.lconst X4.here hx rfl (hb hby d15_48) ?_
    refine XS.iloadN X4.here hx rfl (hb hby d15_49) rfl ?_
    refine XS.lshl X4.here hx rfl (hb hby d15_50) rfl ?_
    refine XS.lor X4.here hx rfl (hb hby d15_51) rfl ?_
    exact k
  obtain ⟨cl6, Ar6, hin6, -, -, -⟩ := f2_2.get (j := (0 : Int32)) (by decide) (by decide)
  obtain ⟨T6, h6, X6, e6, W6, st6⟩ := stJ X4 hx hZ e4 Ar6 (j := (0 : Int32)) hin6 (g := (mkF m 52 #[.val (.ref a1), .val (.int p2), .val (.int 0)] [(.long ((gW ((0 : Int32)).toNatClampNeg) ||| ((1 : Int64) <<< (p2 &&& 0x3f).toInt64))), (.int 0), (.ref W)])) rfl rfl (hb hby d15_52)
  refine own_go (fun t k => st6 t k) ?_
  have N6 := Fr.snoc X6 N2 g_W
  obtain ⟨LL6, X6, N6⟩ := own_abs X6 N6
  have K6 : Keep h0 h6 [a1, W] := KK2.wr W6 (Or.inl (List.mem_of_getElem? (i := 1) rfl))
  have f6_0 := f2_0.wr W6
  have f6_1 := f2_2.setk W6 0 (by decide)
  have f6_2 := f2_4.wr W6
  have f6_3 := Fu2.other W6 (Or.inl ne1)
  have f6_4 := Fw2.other W6 (Or.inl ne1)
  refine own_go (B := T6.setTop (mkF m 54 #[.val (.ref a1), .val (.int p2), .val (.int 0)] [(.ref a1)])) (fun t k => ?_) ?_
  · show Steps p.tables e below (T6.setTop (mkF m 53 #[.val (.ref a1), .val (.int p2), .val (.int 0)] [])) t
    refine XS.aloadN X6.here hx rfl (hb hby d15_53) rfl rfl ?_
    exact k
  obtain ⟨cq7, q7, q7'⟩ := f6_0.cell
  obtain ⟨_, _, ⟨T7, L7, k7, n7⟩, -, X7, ⟨Lc7, hQ7, l7, y7, z7⟩, st7⟩ := X6.privateBack hx (y := (⟨"java/util/BitSet", "checkInvariants", "()V"⟩ : MethodName)) hown (mvT hZ (own_at hw 105 rfl)) (mvT hZ (own_at hw 106 rfl)) (mvT hZ (own_at hw 108 rfl)) (Cond.privateMethod_at (mvP hZ (own_at hw 107 rfl) (args := #[]))) (mvT hZ (own_at hw 109 rfl)) (by decide) (backOf (W := 0) (rm18 l Z a0 hw [] a1 h6 n0 (Nat.le_trans (Nat.le_trans Z0 K2.1) (Keep.of_wr W6).1) f6_2) hZ (own_at hw 109 rfl) (own_at hw 70 rfl) (by decide) (by decide)) (g := (mkF m 54 #[.val (.ref a1), .val (.int p2), .val (.int 0)] [(.ref a1)])) rfl (by rw [hml]; rfl) (Steps.refl _) (a := a1) (by rw [e6]; exact q7) q7' (argsL := []) (rest := []) (lenOf pd_rm15_2 rfl) rfl (by show 2 * 0 + _ ≤ _; exact Nat.le_of_eq rfl) (hb hby d15_54) (fun _ _ => ⟨rfl, e6, (by decide : 0 + 0 ≤ _), (by decide : 0 + 0 ≤ _)⟩)
  dsimp only [Pt.U, Pt.locs, Pt.cells, Pt.slots] at X7 l7 y7 z7 st7 hQ7
  subst l7 y7 z7
  obtain ⟨rfl, N7q, hh7⟩ := hQ7
  have N7 := Fr.app N6 N7q
  obtain ⟨LL7, X7, N7⟩ := own_abs X7 N7
  refine own_go (fun t k => st7.trans k) ?_
  obtain ⟨fs, hr, hrun, hended, hW, hsame⟩ := X7.leave (v := none) (fun _ => rfl)
  refine ⟨_, _, ?_, hrun, hended, _, _, rfl, ?_, ⟨_, rfl⟩, hW, hsame.mono (by decide) (by decide)⟩
  · show Steps p.tables e below (T7.setTop (mkF m 57 #[.val (.ref a1), .val (.int p2), .val (.int 0)] [])) _
    exact X7.returnOut hx Bd.returns (hb hby d15_57) hr
  · show Q15 Z a1 p2 W gW u h0 n0 _ T7.heap _
    rw [hh7]
    exact ⟨_, rfl, N7, K6, f6_3, f6_4, f6_1, by show (gW (0 : Int32).toNatClampNeg ||| _) = _; rw [show (0 : Int32).toNatClampNeg = 0 by decide]⟩
theorem d19_0 : decode jdk_92_method_26_code 0 = .ok (.iload_n 1, 1) := by decide +kernel
theorem d19_1 : decode jdk_92_method_26_code 1 = .ok (.ifCond .ge 30, 3) := by decide +kernel
theorem d19_31 : decode jdk_92_method_26_code 31 = .ok (.aload_n 0, 1) := by decide +kernel
theorem d19_32 : decode jdk_92_method_26_code 32 = .ok (.invokevirtual 56, 3) := by decide +kernel
theorem d19_35 : decode jdk_92_method_26_code 35 = .ok (.iload_n 1, 1) := by decide +kernel
theorem d19_36 : decode jdk_92_method_26_code 36 = .ok (.invokestatic 52, 3) := by decide +kernel
theorem d19_39 : decode jdk_92_method_26_code 39 = .ok (.istore_n 2, 1) := by decide +kernel
theorem d19_40 : decode jdk_92_method_26_code 40 = .ok (.iload_n 2, 1) := by decide +kernel
theorem d19_41 : decode jdk_92_method_26_code 41 = .ok (.aload_n 0, 1) := by decide +kernel
theorem d19_42 : decode jdk_92_method_26_code 42 = .ok (.getfield 7, 3) := by decide +kernel
theorem d19_45 : decode jdk_92_method_26_code 45 = .ok (.if_icmp .ge 22, 3) := by decide +kernel
theorem d19_48 : decode jdk_92_method_26_code 48 = .ok (.aload_n 0, 1) := by decide +kernel
theorem d19_49 : decode jdk_92_method_26_code 49 = .ok (.getfield 11, 3) := by decide +kernel
theorem d19_52 : decode jdk_92_method_26_code 52 = .ok (.iload_n 2, 1) := by decide +kernel
theorem d19_53 : decode jdk_92_method_26_code 53 = .ok (.laload, 1) := by decide +kernel
theorem d19_54 : decode jdk_92_method_26_code 54 = .ok (.lconst 1, 1) := by decide +kernel
theorem d19_55 : decode jdk_92_method_26_code 55 = .ok (.iload_n 1, 1) := by decide +kernel
theorem d19_56 : decode jdk_92_method_26_code 56 = .ok (.lshl, 1) := by decide +kernel
theorem d19_57 : decode jdk_92_method_26_code 57 = .ok (.land, 1) := by decide +kernel
theorem d19_58 : decode jdk_92_method_26_code 58 = .ok (.lconst 0, 1) := by decide +kernel
theorem d19_59 : decode jdk_92_method_26_code 59 = .ok (.lcmp, 1) := by decide +kernel
theorem d19_60 : decode jdk_92_method_26_code 60 = .ok (.ifCond .eq 7, 3) := by decide +kernel
theorem d19_63 : decode jdk_92_method_26_code 63 = .ok (.iconst 1, 1) := by decide +kernel
theorem d19_64 : decode jdk_92_method_26_code 64 = .ok (.goto 4, 3) := by decide +kernel
theorem d19_68 : decode jdk_92_method_26_code 68 = .ok (.ireturn, 1) := by decide +kernel
theorem pn_rm19 : plainName "java/util/BitSet" = true := by first | (simp [plainName, overriddenIn]; done) | decide +kernel
theorem pd_rm19_0 : parseMethodDescriptor "()V" = some ⟨[], none⟩ := by decide +kernel
theorem pd_rm19_1 : parseMethodDescriptor "(I)I" = some ⟨[.int], some .int⟩ := by decide +kernel
theorem ef_rm19 (m : MethodId) (x0 : Addr) (x1 : Int32) : entryFrame m #[(.ref x0), (.int x1)] 3 = mkF m 0 #[.val (.ref x0), .val (.int x1), .unset] [] := by first | (simp [entryFrame, mkF, argsToLocals, Value.category]; done) | rfl
def Q19 (Z : State) (a1 : Addr) (p2 : Int32) (W : Addr) (gW : Nat → Int64) (h0 : Heap) (n0 : Nat) (v : Option Value) (h : Heap) (L : List Loc) : Prop := v = some (.int (1 : Int32)) ∧ Fr n0 L ∧ h = h0
set_option maxRecDepth 65536 in
set_option maxHeartbeats 40000000 in
theorem rm19 (l : Launch) (Z : State) (a0 : Array Value) (hw : ∀ d ∈ tables_1, d.before a0 Z = true) (ws : List Jvm.Cond) (a1 : Addr) (p2 : Int32) (W : Addr) (gW : Nat → Int64) (h0 : Heap) (n0 : Nat) (Z0 : n0 ≤ h0.size) (EX : Exa Z h0 a1 "java/util/BitSet") (FW : Fld Z h0 a1 "java/util/BitSet" "words" "[J" (.ref W)) (AW : own_Ag Value.long Z h0 W .long (1 : Int32) gW) (FU : Fld Z h0 a1 "java/util/BitSet" "wordsInUse" "I" (.int (1 : Int32))) (SA : Sta Z h0 "java/util/BitSet" "$assertionsDisabled" "Z" (.int (1 : Int32))) (c0 : 0 ≤ p2.toInt) (c7 : p2.toInt ≤ 7) (hb1 : ¬ (gW 0 &&& ((1 : Int64) <<< (p2 &&& 0x3f).toInt64)) = (0 : Int64)) :
    MetFree l (⟨"java/util/BitSet", "get", "(I)Z"⟩ : MethodName) (head1 (Jvm.Cond.code (⟨"java/util/BitSet", "get", "(I)Z"⟩ : MethodName) jdk_92_method_26_code 3 (some .boolean) :: ws) ({ frames := 1, cells := 0, slots := 0, locals := 12 } : Room)) (fun a U => a = #[(.ref a1), (.int p2)] ∧ Z.Warmed39 U.vm ∧ U.heap = h0) (fun _ _ _ _ _ => True) (fun _ U o U' => ∃ v L, o = .returned v ∧ Q19 Z a1 p2 W gW h0 n0 v U'.heap L ∧ FrameEnd U o U' L ({ frames := 1, cells := 0, slots := 0, locals := 12 } : Room).cells ({ frames := 1, cells := 0, slots := 0, locals := 12 } : Room).slots) := by
  refine MetFree.of_bodySF (plainFor_of_name pn_rm19) hisR ?_
  intro p e s m args below meth c s₁ Bd hml0 hP hK
  obtain ⟨rfl, hZ, hh⟩ := hP
  have hx := Bd.exec
  have hby := Bd.bytes
  have hml : c.maxLocals = 3 := hml0
  have hown : s.vm.findClass "java/util/BitSet" = some m.cls := findClass_of_methodNamed Bd.named
  have hnm := (name_of_methodNamed Bd.named Bd.method).1
  have X0 : Stand p l e ({ frames := 1, cells := 0, slots := 0, locals := 12 } : Room) s m #[(.ref a1), (.int p2)] below meth c s₁ [] 0 0 := Stand.of_body Bd
  have e0 : s₁.heap = h0 := by rw [← hh, Bd.state]; rfl
  have N0 := Fr.nil n0
  have pre0 : ∀ t, Steps p.tables e below (s₁.setTop (mkF m 0 #[.val (.ref a1), .val (.int p2), .unset] [])) t → Steps p.tables e below (s₁.setTop (entryFrame m #[(.ref a1), (.int p2)] 3)) t := fun t k => castTop (ef_rm19 m a1 p2) k
  show own_Fin p e below _ _
  refine own_go pre0 ?_
  refine own_go (B := s₁.setTop (mkF m 32 #[.val (.ref a1), .val (.int p2), .unset] [(.ref a1)])) (fun t k => ?_) ?_
  · show Steps p.tables e below (s₁.setTop (mkF m 0 #[.val (.ref a1), .val (.int p2), .unset] [])) t
    refine XS.iloadN X0.here hx rfl (hb hby d19_0) rfl ?_
    show Steps p.tables e below (s₁.setTop (mkF m 1 #[.val (.ref a1), .val (.int p2), .unset] [(.int p2)])) t
    refine XS.ifYes X0.here hx rfl (pc0 := 1) (pc' := 31) rfl (hb hby d19_1) rfl ((if0 _ _).trans (flt (own_nneg c0 : ¬ (p2 < (0 : Int32)))).2.1) (by decide) (by decide) ?_
    refine XS.aloadN X0.here hx rfl (hb hby d19_31) rfl rfl ?_
    exact k
  obtain ⟨cq1, q1, q1'⟩ := EX.cell
  obtain ⟨_, _, ⟨T1, L1, k1, n1⟩, -, X1, ⟨Lc1, hQ1, l1, y1, z1⟩, st1⟩ := X0.privateBack hx (y := (⟨"java/util/BitSet", "checkInvariants", "()V"⟩ : MethodName)) hown (mvT hZ (own_at hw 105 rfl)) (mvT hZ (own_at hw 106 rfl)) (mvT hZ (own_at hw 108 rfl)) (Cond.privateMethod_at (mvP hZ (own_at hw 107 rfl) (args := #[]))) (mvT hZ (own_at hw 109 rfl)) (by decide) (backOf (W := 0) (rm18 l Z a0 hw [] a1 h0 n0 Z0 SA) hZ (own_at hw 109 rfl) (own_at hw 70 rfl) (by decide) (by decide)) (g := (mkF m 32 #[.val (.ref a1), .val (.int p2), .unset] [(.ref a1)])) rfl (by rw [hml]; rfl) (Steps.refl _) (a := a1) (by rw [e0]; exact q1) q1' (argsL := []) (rest := []) (lenOf pd_rm19_0 rfl) rfl (by show 2 * 0 + _ ≤ _; exact Nat.le_of_eq rfl) (hb hby d19_32) (fun _ _ => ⟨rfl, e0, (by decide : 0 + 0 ≤ _), (by decide : 0 + 0 ≤ _)⟩)
  dsimp only [Pt.U, Pt.locs, Pt.cells, Pt.slots] at X1 l1 y1 z1 st1 hQ1
  subst l1 y1 z1
  obtain ⟨rfl, N1q, hh1⟩ := hQ1
  have N1 := Fr.app N0 N1q
  obtain ⟨LL1, X1, N1⟩ := own_abs X1 N1
  refine own_go (fun t k => st1.trans k) ?_
  refine own_go (B := T1.setTop (mkF m 36 #[.val (.ref a1), .val (.int p2), .unset] [(.int p2)])) (fun t k => ?_) ?_
  · show Steps p.tables e below (T1.setTop (mkF m 35 #[.val (.ref a1), .val (.int p2), .unset] [])) t
    refine XS.iloadN X1.here hx rfl (hb hby d19_35) rfl ?_
    exact k
  obtain ⟨_, _, ⟨T2, L2, k2, n2⟩, -, X2, ⟨Lc2, hQ2, l2, y2, z2⟩, st2⟩ := Jvm.LawKit.callS X1 hx (y := (⟨"java/util/BitSet", "wordIndex", "(I)I"⟩ : MethodName)) hown (mvT hZ (own_at hw 84 rfl)) (mvT hZ (own_at hw 85 rfl)) (mvT hZ (own_at hw 70 rfl)) (mvT hZ (own_at hw 86 rfl)) (by decide) (backOf (W := 0) (rm14 l Z a0 hw [] p2 h0 n0 Z0 c0 c7) hZ (own_at hw 86 rfl) (own_at hw 70 rfl) (by decide) (by decide)) (g := (mkF m 36 #[.val (.ref a1), .val (.int p2), .unset] [(.int p2)])) rfl (by rw [hml]; rfl) (argsL := [(.int p2)]) (rest := []) (lenOf pd_rm19_1 rfl) rfl (by show 2 * 0 + _ ≤ _; exact Nat.le_of_eq rfl) (hb hby d19_36) (fun _ _ => ⟨rfl, hh1, (by decide : 0 + 0 ≤ _), (by decide : 0 + 0 ≤ _)⟩)
  dsimp only [Pt.U, Pt.locs, Pt.cells, Pt.slots] at X2 l2 y2 z2 st2 hQ2
  subst l2 y2 z2
  obtain ⟨rfl, N2q, hh2⟩ := hQ2
  have N2 := Fr.app N1 N2q
  obtain ⟨LL2, X2, N2⟩ := own_abs X2 N2
  refine own_go (fun t k => st2 t k) ?_
  refine own_go (B := T2.setTop (mkF m 42 #[.val (.ref a1), .val (.int p2), .val (.int 0)] [(.ref a1), (.int 0)])) (fun t k => ?_) ?_
  · show Steps p.tables e below (T2.setTop (mkF m 39 #[.val (.ref a1), .val (.int p2), .unset] [(.int 0)])) t
    refine XS.istoreN X2.here hx rfl (hb hby d19_39) rfl (l' := #[.val (.ref a1), .val (.int p2), .val (.int 0)]) rfl ?_
    refine XS.iloadN X2.here hx rfl (hb hby d19_40) rfl ?_
    refine XS.aloadN X2.here hx rfl (hb hby d19_41) rfl rfl ?_
    exact k
  obtain ⟨T3, X3, e3, st3⟩ := getF X2 hx hZ hown (host := "") (Or.inl (own_at hw 75 rfl)) Via.refl hh2 FU (g := (mkF m 42 #[.val (.ref a1), .val (.int p2), .val (.int 0)] [(.ref a1), (.int 0)])) rfl rfl (hb hby d19_42)
  refine own_go (fun t k => st3 t k) ?_
  refine own_go (B := T3.setTop (mkF m 49 #[.val (.ref a1), .val (.int p2), .val (.int 0)] [(.ref a1)])) (fun t k => ?_) ?_
  · show Steps p.tables e below (T3.setTop (mkF m 45 #[.val (.ref a1), .val (.int p2), .val (.int 0)] [(.int 1), (.int 0)])) t
    refine XS.icmpNo X3.here hx rfl (hb hby d19_45) rfl (tlt (by decide : (0 : Int32) < (1 : Int32))).2.1 ?_
    refine XS.aloadN X3.here hx rfl (hb hby d19_48) rfl rfl ?_
    exact k
  obtain ⟨T4, X4, e4, st4⟩ := getF X3 hx hZ hown (host := "") (Or.inl (own_at hw 88 rfl)) Via.refl e3 FW (g := (mkF m 49 #[.val (.ref a1), .val (.int p2), .val (.int 0)] [(.ref a1)])) rfl rfl (hb hby d19_49)
  refine own_go (fun t k => st4 t k) ?_
  refine own_go (B := T4.setTop (mkF m 53 #[.val (.ref a1), .val (.int p2), .val (.int 0)] [(.int 0), (.ref W)])) (fun t k => ?_) ?_
  · show Steps p.tables e below (T4.setTop (mkF m 52 #[.val (.ref a1), .val (.int p2), .val (.int 0)] [(.ref W)])) t
    refine XS.iloadN X4.here hx rfl (hb hby d19_52) rfl ?_
    exact k
  obtain ⟨cl5, Ar5, hin5, hat5, -, -⟩ := AW.get (j := (0 : Int32)) (by decide) (by decide)
  refine own_go (X4.laload hx (j := (0 : Int32)) (v := (.long (gW ((0 : Int32)).toNatClampNeg))) (by rw [e4]; exact Ar5.1) (State.isArrayOf_alike hZ.alike Ar5.2.1) Ar5.2.2 hin5 hat5 (g := (mkF m 53 #[.val (.ref a1), .val (.int p2), .val (.int 0)] [(.int 0), (.ref W)])) rfl rfl (hb hby d19_53)) ?_
  refine own_go (B := T4.setTop (mkF m 68 #[.val (.ref a1), .val (.int p2), .val (.int 0)] [(.int 1)])) (fun t k => ?_) ?_
  · show Steps p.tables e below (T4.setTop (mkF m 54 #[.val (.ref a1), .val (.int p2), .val (.int 0)] [(.long (gW ((0 : Int32)).toNatClampNeg))])) t
    refine XS.lconst X4.here hx rfl (hb hby d19_54) ?_
    refine XS.iloadN X4.here hx rfl (hb hby d19_55) rfl ?_
    refine XS.lshl X4.here hx rfl (hb hby d19_56) rfl ?_
    refine XS.land X4.here hx rfl (hb hby d19_57) rfl ?_
    refine XS.lconst X4.here hx rfl (hb hby d19_58) ?_
    show Steps p.tables e below (T4.setTop (mkF m 59 #[.val (.ref a1), .val (.int p2), .val (.int 0)] [(.long 0), (.long ((gW ((0 : Int32)).toNatClampNeg) &&& ((1 : Int64) <<< (p2 &&& 0x3f).toInt64)))])) t
    refine XS.lcmp X4.here hx rfl (hb hby d19_59) rfl ?_
    show Steps p.tables e below (T4.setTop (mkF m 60 #[.val (.ref a1), .val (.int p2), .val (.int 0)] [(.int (lcmpW ((gW ((0 : Int32)).toNatClampNeg) &&& ((1 : Int64) <<< (p2 &&& 0x3f).toInt64)) (0 : Int64)))])) t
    refine XS.ifNo X4.here hx rfl (hb hby d19_60) rfl ((if0 _ _).trans (feq (fun q => (by rw [show (0 : Int32).toNatClampNeg = 0 by decide]; exact hb1 : ¬ (((gW ((0 : Int32)).toNatClampNeg) &&& ((1 : Int64) <<< (p2 &&& 0x3f).toInt64)) = (0 : Int64))) ((lw_eq ((gW ((0 : Int32)).toNatClampNeg) &&& ((1 : Int64) <<< (p2 &&& 0x3f).toInt64)) (0 : Int64)).mp q))).1) ?_
    refine XS.iconst X4.here hx rfl (hb hby d19_63) ?_
    refine XS.goto X4.here hx rfl (pc0 := 64) (pc' := 68) rfl (hb hby d19_64) (by decide) (by decide) ?_
    exact k
  obtain ⟨fs, hr, hrun, hended, hW, hsame⟩ := X4.leave (v := some (.int 1)) (fun h => by rw [Bd.returns] at h; cases h)
  refine ⟨_, _, ?_, hrun, hended, _, _, rfl, ?_, ⟨_, rfl⟩, hW, hsame.mono (by decide) (by decide)⟩
  · show Steps p.tables e below (T4.setTop (mkF m 68 #[.val (.ref a1), .val (.int p2), .val (.int 0)] [(.int 1)])) _
    exact retN X4 hx (t := .boolean) Bd.returns (by simp) (hb hby d19_68) hr
  · show Q19 Z a1 p2 W gW h0 n0 _ T4.heap _
    rw [e4]
    exact ⟨rfl, N2, rfl⟩
theorem d23_0 : decode jdk_33_method_48_code 0 = .ok (.iload_n 0, 1) := by decide +kernel
theorem d23_1 : decode jdk_33_method_48_code 1 = .ok (.iconst (-1), 1) := by decide +kernel
theorem d23_2 : decode jdk_33_method_48_code 2 = .ok (.ixor, 1) := by decide +kernel
theorem d23_3 : decode jdk_33_method_48_code 3 = .ok (.iload_n 0, 1) := by decide +kernel
theorem d23_4 : decode jdk_33_method_48_code 4 = .ok (.iconst 1, 1) := by decide +kernel
theorem d23_5 : decode jdk_33_method_48_code 5 = .ok (.isub, 1) := by decide +kernel
theorem d23_6 : decode jdk_33_method_48_code 6 = .ok (.iand, 1) := by decide +kernel
theorem d23_7 : decode jdk_33_method_48_code 7 = .ok (.istore_n 0, 1) := by decide +kernel
theorem d23_8 : decode jdk_33_method_48_code 8 = .ok (.iload_n 0, 1) := by decide +kernel
theorem d23_9 : decode jdk_33_method_48_code 9 = .ok (.ifCond .gt 8, 3) := by decide +kernel
theorem d23_12 : decode jdk_33_method_48_code 12 = .ok (.iload_n 0, 1) := by decide +kernel
theorem d23_13 : decode jdk_33_method_48_code 13 = .ok (.bipush 32, 2) := by decide +kernel
theorem d23_15 : decode jdk_33_method_48_code 15 = .ok (.iand, 1) := by decide +kernel
theorem d23_16 : decode jdk_33_method_48_code 16 = .ok (.ireturn, 1) := by decide +kernel
theorem d23_17 : decode jdk_33_method_48_code 17 = .ok (.iconst 1, 1) := by decide +kernel
theorem d23_18 : decode jdk_33_method_48_code 18 = .ok (.istore_n 1, 1) := by decide +kernel
theorem d23_19 : decode jdk_33_method_48_code 19 = .ok (.iload_n 0, 1) := by decide +kernel
theorem d23_20 : decode jdk_33_method_48_code 20 = .ok (.ldc_w 264, 3) := by decide +kernel
theorem d23_23 : decode jdk_33_method_48_code 23 = .ok (.if_icmp .le 11, 3) := by decide +kernel
theorem d23_34 : decode jdk_33_method_48_code 34 = .ok (.iload_n 0, 1) := by decide +kernel
theorem d23_35 : decode jdk_33_method_48_code 35 = .ok (.sipush 256, 3) := by decide +kernel
theorem d23_38 : decode jdk_33_method_48_code 38 = .ok (.if_icmp .le 11, 3) := by decide +kernel
theorem d23_49 : decode jdk_33_method_48_code 49 = .ok (.iload_n 0, 1) := by decide +kernel
theorem d23_50 : decode jdk_33_method_48_code 50 = .ok (.bipush 16, 2) := by decide +kernel
theorem d23_52 : decode jdk_33_method_48_code 52 = .ok (.if_icmp .le 10, 3) := by decide +kernel
theorem d23_62 : decode jdk_33_method_48_code 62 = .ok (.iload_n 0, 1) := by decide +kernel
theorem d23_63 : decode jdk_33_method_48_code 63 = .ok (.iconst 4, 1) := by decide +kernel
theorem d23_64 : decode jdk_33_method_48_code 64 = .ok (.if_icmp .le 10, 3) := by decide +kernel
theorem d23_74 : decode jdk_33_method_48_code 74 = .ok (.iload_n 1, 1) := by decide +kernel
theorem d23_75 : decode jdk_33_method_48_code 75 = .ok (.iload_n 0, 1) := by decide +kernel
theorem d23_76 : decode jdk_33_method_48_code 76 = .ok (.iconst 1, 1) := by decide +kernel
theorem d23_77 : decode jdk_33_method_48_code 77 = .ok (.iushr, 1) := by decide +kernel
theorem d23_78 : decode jdk_33_method_48_code 78 = .ok (.iadd, 1) := by decide +kernel
theorem d23_79 : decode jdk_33_method_48_code 79 = .ok (.ireturn, 1) := by decide +kernel
theorem pn_rm23 : plainName "java/lang/Integer" = true := by first | (simp [plainName, overriddenIn]; done) | decide +kernel
theorem ef_rm23 (m : MethodId) (x0 : Int32) : entryFrame m #[(.int x0)] 2 = mkF m 0 #[.val (.int x0), .unset] [] := by first | (simp [entryFrame, mkF, argsToLocals, Value.category]; done) | rfl
def Q23 (Z : State) (p1 : Int32) (kx tx : Int32) (h0 : Heap) (n0 : Nat) (v : Option Value) (h : Heap) (L : List Loc) : Prop := v = some (.int tx) ∧ Fr n0 L ∧ h = h0
set_option maxRecDepth 65536 in
set_option maxHeartbeats 40000000 in
theorem rm23 (l : Launch) (Z : State) (a0 : Array Value) (hw : ∀ d ∈ tables_1, d.before a0 Z = true) (ws : List Jvm.Cond) (p1 : Int32) (kx tx : Int32) (h0 : Heap) (n0 : Nat) (Z0 : n0 ≤ h0.size) (hk0 : ((p1 ^^^ (-1 : Int32)) &&& (p1 - (1 : Int32))) = kx) (hkt : (kx = (0 : Int32) ∧ tx = (0 : Int32)) ∨ (kx = (1 : Int32) ∧ tx = (1 : Int32)) ∨ (kx = (3 : Int32) ∧ tx = (2 : Int32))) :
    MetFree l (⟨"java/lang/Integer", "numberOfTrailingZeros", "(I)I"⟩ : MethodName) (head1 (Jvm.Cond.code (⟨"java/lang/Integer", "numberOfTrailingZeros", "(I)I"⟩ : MethodName) jdk_33_method_48_code 2 (some .int) :: ws) ({ frames := 0, cells := 0, slots := 0, locals := 0 } : Room)) (fun a U => a = #[(.int p1)] ∧ Z.Warmed39 U.vm ∧ U.heap = h0) (fun _ _ _ _ _ => True) (fun _ U o U' => ∃ v L, o = .returned v ∧ Q23 Z p1 kx tx h0 n0 v U'.heap L ∧ FrameEnd U o U' L ({ frames := 0, cells := 0, slots := 0, locals := 0 } : Room).cells ({ frames := 0, cells := 0, slots := 0, locals := 0 } : Room).slots) := by
  refine MetFree.of_bodySF (plainFor_of_name pn_rm23) hisR ?_
  intro p e s m args below meth c s₁ Bd hml0 hP hK
  obtain ⟨rfl, hZ, hh⟩ := hP
  have hx := Bd.exec
  have hby := Bd.bytes
  have hml : c.maxLocals = 2 := hml0
  have hown : s.vm.findClass "java/lang/Integer" = some m.cls := findClass_of_methodNamed Bd.named
  have hnm := (name_of_methodNamed Bd.named Bd.method).1
  have X0 : Stand p l e ({ frames := 0, cells := 0, slots := 0, locals := 0 } : Room) s m #[(.int p1)] below meth c s₁ [] 0 0 := Stand.of_body Bd
  have e0 : s₁.heap = h0 := by rw [← hh, Bd.state]; rfl
  have N0 := Fr.nil n0
  have pre0 : ∀ t, Steps p.tables e below (s₁.setTop (mkF m 0 #[.val (.int p1), .unset] [])) t → Steps p.tables e below (s₁.setTop (entryFrame m #[(.int p1)] 2)) t := fun t k => castTop (ef_rm23 m p1) k
  show own_Fin p e below _ _
  refine own_go pre0 ?_
  refine own_go (B := s₁.setTop (mkF m 8 #[.val (.int ((p1 ^^^ (-1 : Int32)) &&& (p1 - (1 : Int32)))), .unset] [])) (fun t k => ?_) ?_
  · show Steps p.tables e below (s₁.setTop (mkF m 0 #[.val (.int p1), .unset] [])) t
    refine XS.iloadN X0.here hx rfl (hb hby d23_0) rfl ?_
    refine XS.iconst X0.here hx rfl (hb hby d23_1) ?_
    refine XS.ixor X0.here hx rfl (hb hby d23_2) rfl ?_
    refine XS.iloadN X0.here hx rfl (hb hby d23_3) rfl ?_
    refine XS.iconst X0.here hx rfl (hb hby d23_4) ?_
    show Steps p.tables e below (s₁.setTop (mkF m 5 #[.val (.int p1), .unset] [(.int 1), (.int p1), (.int (p1 ^^^ (-1 : Int32)))])) t
    refine XS.isub X0.here hx rfl (hb hby d23_5) rfl ?_
    refine XS.iand X0.here hx rfl (hb hby d23_6) rfl ?_
    refine XS.istoreN X0.here hx rfl (hb hby d23_7) rfl (l' := #[.val (.int ((p1 ^^^ (-1 : Int32)) &&& (p1 - (1 : Int32)))), .unset]) rfl ?_
    exact k
  obtain ⟨y, hy⟩ : ∃ z : Int32, z = ((p1 ^^^ (-1 : Int32)) &&& (p1 - (1 : Int32))) := ⟨_, rfl⟩
  rw [← hy]
  have ek : y = kx := hy.trans hk0
  refine own_go (B := s₁.setTop (mkF m 9 #[.val (.int y), .unset] [(.int y)])) (fun t k => ?_) ?_
  · show Steps p.tables e below (s₁.setTop (mkF m 8 #[.val (.int y), .unset] [])) t
    refine XS.iloadN X0.here hx rfl (hb hby d23_8) rfl ?_
    exact k
  by_cases hc9_1 : (0 : Int32) < y
  · refine own_go (B := s₁.setTop (mkF m 17 #[.val (.int y), .unset] [])) (fun t k => ?_) ?_
    · refine XS.ifYes X0.here hx rfl (pc0 := 9) (pc' := 17) rfl (hb hby d23_9) rfl ((if0 _ _).trans (tlt hc9_1).2.2.1) (by decide) (by decide) ?_
      exact k
    refine own_go (B := s₁.setTop (mkF m 79 #[.val (.int y), .val (.int 1)] [(.int ((1 : Int32) + ((y.toUInt32 >>> ((1 : Int32) &&& 31).toUInt32).toInt32)))])) (fun t k => ?_) ?_
    · refine XS.iconst X0.here hx rfl (hb hby d23_17) ?_
      refine XS.istoreN X0.here hx rfl (hb hby d23_18) rfl (l' := #[.val (.int y), .val (.int 1)]) rfl ?_
      refine XS.iloadN X0.here hx rfl (hb hby d23_19) rfl ?_
      refine X0.ldcwInt hx hown (mvT hZ (own_at hw 145 rfl)) (g := (mkF m 20 #[.val (.int y), .val (.int 1)] [(.int y)])) rfl (hb hby d23_20) _ ?_
      show Steps p.tables e below (s₁.setTop (mkF m 23 #[.val (.int y), .val (.int 1)] [(.int 65536), (.int y)])) t
      refine XS.icmpYes X0.here hx rfl (pc0 := 23) (pc' := 34) rfl (hb hby d23_23) rfl (flt (by rw [ek]; rcases hkt with ⟨a, b⟩ | ⟨a, b⟩ | ⟨a, b⟩ <;> rw [a] <;> decide : ¬ ((65536 : Int32) < y))).2.2.2 (by decide) (by decide) ?_
      refine XS.iloadN X0.here hx rfl (hb hby d23_34) rfl ?_
      show Steps p.tables e below (s₁.setTop (mkF m 35 #[.val (.int y), .val (.int 1)] [(.int y)])) t
      refine XS.sipush X0.here hx rfl (hb hby d23_35) ?_
      show Steps p.tables e below (s₁.setTop (mkF m 38 #[.val (.int y), .val (.int 1)] [(.int 256), (.int y)])) t
      refine XS.icmpYes X0.here hx rfl (pc0 := 38) (pc' := 49) rfl (hb hby d23_38) rfl (flt (by rw [ek]; rcases hkt with ⟨a, b⟩ | ⟨a, b⟩ | ⟨a, b⟩ <;> rw [a] <;> decide : ¬ ((256 : Int32) < y))).2.2.2 (by decide) (by decide) ?_
      refine XS.iloadN X0.here hx rfl (hb hby d23_49) rfl ?_
      refine XS.bipush X0.here hx rfl (hb hby d23_50) ?_
      show Steps p.tables e below (s₁.setTop (mkF m 52 #[.val (.int y), .val (.int 1)] [(.int 16), (.int y)])) t
      refine XS.icmpYes X0.here hx rfl (pc0 := 52) (pc' := 62) rfl (hb hby d23_52) rfl (flt (by rw [ek]; rcases hkt with ⟨a, b⟩ | ⟨a, b⟩ | ⟨a, b⟩ <;> rw [a] <;> decide : ¬ ((16 : Int32) < y))).2.2.2 (by decide) (by decide) ?_
      refine XS.iloadN X0.here hx rfl (hb hby d23_62) rfl ?_
      refine XS.iconst X0.here hx rfl (hb hby d23_63) ?_
      show Steps p.tables e below (s₁.setTop (mkF m 64 #[.val (.int y), .val (.int 1)] [(.int 4), (.int y)])) t
      refine XS.icmpYes X0.here hx rfl (pc0 := 64) (pc' := 74) rfl (hb hby d23_64) rfl (flt (by rw [ek]; rcases hkt with ⟨a, b⟩ | ⟨a, b⟩ | ⟨a, b⟩ <;> rw [a] <;> decide : ¬ ((4 : Int32) < y))).2.2.2 (by decide) (by decide) ?_
      show Steps p.tables e below (s₁.setTop (mkF m 74 #[.val (.int y), .val (.int 1)] [])) t
      refine XS.iloadN X0.here hx rfl (hb hby d23_74) rfl ?_
      refine XS.iloadN X0.here hx rfl (hb hby d23_75) rfl ?_
      refine XS.iconst X0.here hx rfl (hb hby d23_76) ?_
      refine XS.iushr X0.here hx rfl (hb hby d23_77) rfl ?_
      refine XS.iadd X0.here hx rfl (hb hby d23_78) rfl ?_
      exact k
    obtain ⟨fs, hr, hrun, hended, hW, hsame⟩ := X0.leave (v := some (.int ((1 : Int32) + ((y.toUInt32 >>> ((1 : Int32) &&& 31).toUInt32).toInt32)))) (fun h => by rw [Bd.returns] at h; cases h)
    refine ⟨_, _, ?_, hrun, hended, _, _, rfl, ?_, ⟨_, rfl⟩, hW, hsame.mono (by decide) (by decide)⟩
    · show Steps p.tables e below (s₁.setTop (mkF m 79 #[.val (.int y), .val (.int 1)] [(.int ((1 : Int32) + ((y.toUInt32 >>> ((1 : Int32) &&& 31).toUInt32).toInt32)))])) _
      exact retI X0 hx Bd.returns (hb hby d23_79) hr
    · show Q23 Z p1 kx tx h0 n0 _ s₁.heap _
      rw [e0]
      refine ⟨congrArg (fun z => some (Value.int z)) ?_, N0, rfl⟩
      have hq := hc9_1
      rw [ek] at hq ⊢
      rcases hkt with ⟨a, b⟩ | ⟨a, b⟩ | ⟨a, b⟩ <;> rw [a] at hq ⊢ <;> rw [b] <;> first | decide | exact absurd hq (by decide) | exact absurd (by decide) hq
  · refine own_go (B := s₁.setTop (mkF m 12 #[.val (.int y), .unset] [])) (fun t k => ?_) ?_
    · refine XS.ifNo X0.here hx rfl (hb hby d23_9) rfl ((if0 _ _).trans (flt hc9_1).2.2.1) ?_
      exact k
    refine own_go (B := s₁.setTop (mkF m 16 #[.val (.int y), .unset] [(.int (y &&& (32 : Int32)))])) (fun t k => ?_) ?_
    · refine XS.iloadN X0.here hx rfl (hb hby d23_12) rfl ?_
      refine XS.bipush X0.here hx rfl (hb hby d23_13) ?_
      refine XS.iand X0.here hx rfl (hb hby d23_15) rfl ?_
      exact k
    obtain ⟨fs, hr, hrun, hended, hW, hsame⟩ := X0.leave (v := some (.int (y &&& (32 : Int32)))) (fun h => by rw [Bd.returns] at h; cases h)
    refine ⟨_, _, ?_, hrun, hended, _, _, rfl, ?_, ⟨_, rfl⟩, hW, hsame.mono (by decide) (by decide)⟩
    · show Steps p.tables e below (s₁.setTop (mkF m 16 #[.val (.int y), .unset] [(.int (y &&& (32 : Int32)))])) _
      exact retI X0 hx Bd.returns (hb hby d23_16) hr
    · show Q23 Z p1 kx tx h0 n0 _ s₁.heap _
      rw [e0]
      refine ⟨congrArg (fun z => some (Value.int z)) ?_, N0, rfl⟩
      have hq := hc9_1
      rw [ek] at hq ⊢
      rcases hkt with ⟨a, b⟩ | ⟨a, b⟩ | ⟨a, b⟩ <;> rw [a] at hq ⊢ <;> rw [b] <;> first | decide | exact absurd hq (by decide) | exact absurd (by decide) hq
theorem d22_0 : decode jdk_35_method_49_code 0 = .ok (.lload_n 0, 1) := by decide +kernel
theorem d22_1 : decode jdk_35_method_49_code 1 = .ok (.l2i, 1) := by decide +kernel
theorem d22_2 : decode jdk_35_method_49_code 2 = .ok (.istore_n 2, 1) := by decide +kernel
theorem d22_3 : decode jdk_35_method_49_code 3 = .ok (.iload_n 2, 1) := by decide +kernel
theorem d22_4 : decode jdk_35_method_49_code 4 = .ok (.ifCond .ne 17, 3) := by decide +kernel
theorem d22_21 : decode jdk_35_method_49_code 21 = .ok (.iload_n 2, 1) := by decide +kernel
theorem d22_22 : decode jdk_35_method_49_code 22 = .ok (.invokestatic 311, 3) := by decide +kernel
theorem d22_25 : decode jdk_35_method_49_code 25 = .ok (.ireturn, 1) := by decide +kernel
theorem pn_rm22 : plainName "java/lang/Long" = true := by first | (simp [plainName, overriddenIn]; done) | decide +kernel
theorem pd_rm22_0 : parseMethodDescriptor "(I)I" = some ⟨[.int], some .int⟩ := by decide +kernel
theorem ef_rm22 (m : MethodId) (x0 : Int64) : entryFrame m #[(.long x0)] 3 = mkF m 0 #[.val (.long x0), .second, .unset] [] := by first | (simp [entryFrame, mkF, argsToLocals, Value.category]; done) | rfl
def Q22 (Z : State) (p1 : Int64) (kx tx : Int32) (h0 : Heap) (n0 : Nat) (v : Option Value) (h : Heap) (L : List Loc) : Prop := v = some (.int tx) ∧ Fr n0 L ∧ h = h0
set_option maxRecDepth 65536 in
set_option maxHeartbeats 40000000 in
theorem rm22 (l : Launch) (Z : State) (a0 : Array Value) (hw : ∀ d ∈ tables_1, d.before a0 Z = true) (ws : List Jvm.Cond) (p1 : Int64) (kx tx : Int32) (h0 : Heap) (n0 : Nat) (Z0 : n0 ≤ h0.size) (hnz : ¬ p1.toInt32 = (0 : Int32)) (hk0 : ((p1.toInt32 ^^^ (-1 : Int32)) &&& (p1.toInt32 - (1 : Int32))) = kx) (hkt : (kx = (0 : Int32) ∧ tx = (0 : Int32)) ∨ (kx = (1 : Int32) ∧ tx = (1 : Int32)) ∨ (kx = (3 : Int32) ∧ tx = (2 : Int32))) :
    MetFree l (⟨"java/lang/Long", "numberOfTrailingZeros", "(J)I"⟩ : MethodName) (head1 (Jvm.Cond.code (⟨"java/lang/Long", "numberOfTrailingZeros", "(J)I"⟩ : MethodName) jdk_35_method_49_code 3 (some .int) :: ws) ({ frames := 1, cells := 0, slots := 0, locals := 13 } : Room)) (fun a U => a = #[(.long p1)] ∧ Z.Warmed39 U.vm ∧ U.heap = h0) (fun _ _ _ _ _ => True) (fun _ U o U' => ∃ v L, o = .returned v ∧ Q22 Z p1 kx tx h0 n0 v U'.heap L ∧ FrameEnd U o U' L ({ frames := 1, cells := 0, slots := 0, locals := 13 } : Room).cells ({ frames := 1, cells := 0, slots := 0, locals := 13 } : Room).slots) := by
  refine MetFree.of_bodySF (plainFor_of_name pn_rm22) hisR ?_
  intro p e s m args below meth c s₁ Bd hml0 hP hK
  obtain ⟨rfl, hZ, hh⟩ := hP
  have hx := Bd.exec
  have hby := Bd.bytes
  have hml : c.maxLocals = 3 := hml0
  have hown : s.vm.findClass "java/lang/Long" = some m.cls := findClass_of_methodNamed Bd.named
  have hnm := (name_of_methodNamed Bd.named Bd.method).1
  have X0 : Stand p l e ({ frames := 1, cells := 0, slots := 0, locals := 13 } : Room) s m #[(.long p1)] below meth c s₁ [] 0 0 := Stand.of_body Bd
  have e0 : s₁.heap = h0 := by rw [← hh, Bd.state]; rfl
  have N0 := Fr.nil n0
  have pre0 : ∀ t, Steps p.tables e below (s₁.setTop (mkF m 0 #[.val (.long p1), .second, .unset] [])) t → Steps p.tables e below (s₁.setTop (entryFrame m #[(.long p1)] 3)) t := fun t k => castTop (ef_rm22 m p1) k
  show own_Fin p e below _ _
  refine own_go pre0 ?_
  refine own_go (B := s₁.setTop (mkF m 22 #[.val (.long p1), .second, .val (.int (p1.toInt32))] [(.int (p1.toInt32))])) (fun t k => ?_) ?_
  · show Steps p.tables e below (s₁.setTop (mkF m 0 #[.val (.long p1), .second, .unset] [])) t
    refine XS.lloadN X0.here hx rfl (hb hby d22_0) rfl ?_
    refine XS.l2i X0.here hx rfl (hb hby d22_1) rfl ?_
    refine XS.istoreN X0.here hx rfl (hb hby d22_2) rfl (l' := #[.val (.long p1), .second, .val (.int (p1.toInt32))]) rfl ?_
    refine XS.iloadN X0.here hx rfl (hb hby d22_3) rfl ?_
    show Steps p.tables e below (s₁.setTop (mkF m 4 #[.val (.long p1), .second, .val (.int (p1.toInt32))] [(.int (p1.toInt32))])) t
    refine XS.ifYes X0.here hx rfl (pc0 := 4) (pc' := 21) rfl (hb hby d22_4) rfl ((if0 _ _).trans (feq (hnz : ¬ ((p1.toInt32) = (0 : Int32)))).2) (by decide) (by decide) ?_
    refine XS.iloadN X0.here hx rfl (hb hby d22_21) rfl ?_
    exact k
  obtain ⟨_, _, ⟨T1, L1, k1, n1⟩, -, X1, ⟨Lc1, hQ1, l1, y1, z1⟩, st1⟩ := Jvm.LawKit.callS X0 hx (y := (⟨"java/lang/Integer", "numberOfTrailingZeros", "(I)I"⟩ : MethodName)) hown (mvT hZ (own_at hw 131 rfl)) (mvT hZ (own_at hw 132 rfl)) (mvT hZ (own_at hw 133 rfl)) (mvT hZ (own_at hw 134 rfl)) (by decide) (backOf (W := 0) (rm23 l Z a0 hw [] (p1.toInt32) kx tx h0 n0 Z0 hk0 hkt) hZ (own_at hw 134 rfl) (own_at hw 133 rfl) (by decide) (by decide)) (g := (mkF m 22 #[.val (.long p1), .second, .val (.int (p1.toInt32))] [(.int (p1.toInt32))])) rfl (by rw [hml]; rfl) (argsL := [(.int (p1.toInt32))]) (rest := []) (lenOf pd_rm22_0 rfl) rfl (by show 2 * 0 + _ ≤ _; exact Nat.le_of_eq rfl) (hb hby d22_22) (fun _ _ => ⟨rfl, e0, (by decide : 0 + 0 ≤ _), (by decide : 0 + 0 ≤ _)⟩)
  dsimp only [Pt.U, Pt.locs, Pt.cells, Pt.slots] at X1 l1 y1 z1 st1 hQ1
  subst l1 y1 z1
  obtain ⟨rfl, N1q, hh1⟩ := hQ1
  have N1 := Fr.app N0 N1q
  obtain ⟨LL1, X1, N1⟩ := own_abs X1 N1
  refine own_go (fun t k => st1 t k) ?_
  obtain ⟨fs, hr, hrun, hended, hW, hsame⟩ := X1.leave (v := some (.int tx)) (fun h => by rw [Bd.returns] at h; cases h)
  refine ⟨_, _, ?_, hrun, hended, _, _, rfl, ?_, ⟨_, rfl⟩, hW, hsame.mono (by decide) (by decide)⟩
  · show Steps p.tables e below (T1.setTop (mkF m 25 #[.val (.long p1), .second, .val (.int (p1.toInt32))] [(.int tx)])) _
    exact retI X1 hx Bd.returns (hb hby d22_25) hr
  · show Q22 Z p1 kx tx h0 n0 _ T1.heap _
    rw [hh1]
    exact ⟨rfl, N1, rfl⟩
theorem d21_0 : decode jdk_92_method_28_code 0 = .ok (.iload_n 1, 1) := by decide +kernel
theorem d21_1 : decode jdk_92_method_28_code 1 = .ok (.ifCond .ge 30, 3) := by decide +kernel
theorem d21_31 : decode jdk_92_method_28_code 31 = .ok (.aload_n 0, 1) := by decide +kernel
theorem d21_32 : decode jdk_92_method_28_code 32 = .ok (.invokevirtual 56, 3) := by decide +kernel
theorem d21_35 : decode jdk_92_method_28_code 35 = .ok (.iload_n 1, 1) := by decide +kernel
theorem d21_36 : decode jdk_92_method_28_code 36 = .ok (.invokestatic 52, 3) := by decide +kernel
theorem d21_39 : decode jdk_92_method_28_code 39 = .ok (.istore_n 2, 1) := by decide +kernel
theorem d21_40 : decode jdk_92_method_28_code 40 = .ok (.iload_n 2, 1) := by decide +kernel
theorem d21_41 : decode jdk_92_method_28_code 41 = .ok (.aload_n 0, 1) := by decide +kernel
theorem d21_42 : decode jdk_92_method_28_code 42 = .ok (.getfield 7, 3) := by decide +kernel
theorem d21_45 : decode jdk_92_method_28_code 45 = .ok (.if_icmp .lt 5, 3) := by decide +kernel
theorem d21_50 : decode jdk_92_method_28_code 50 = .ok (.aload_n 0, 1) := by decide +kernel
theorem d21_51 : decode jdk_92_method_28_code 51 = .ok (.getfield 11, 3) := by decide +kernel
theorem d21_54 : decode jdk_92_method_28_code 54 = .ok (.iload_n 2, 1) := by decide +kernel
theorem d21_55 : decode jdk_92_method_28_code 55 = .ok (.laload, 1) := by decide +kernel
theorem d21_56 : decode jdk_92_method_28_code 56 = .ok (.ldc2_w 165, 3) := by decide +kernel
theorem d21_59 : decode jdk_92_method_28_code 59 = .ok (.iload_n 1, 1) := by decide +kernel
theorem d21_60 : decode jdk_92_method_28_code 60 = .ok (.lshl, 1) := by decide +kernel
theorem d21_61 : decode jdk_92_method_28_code 61 = .ok (.land, 1) := by decide +kernel
theorem d21_62 : decode jdk_92_method_28_code 62 = .ok (.lstore_n 3, 1) := by decide +kernel
theorem d21_63 : decode jdk_92_method_28_code 63 = .ok (.lload_n 3, 1) := by decide +kernel
theorem d21_64 : decode jdk_92_method_28_code 64 = .ok (.lconst 0, 1) := by decide +kernel
theorem d21_65 : decode jdk_92_method_28_code 65 = .ok (.lcmp, 1) := by decide +kernel
theorem d21_66 : decode jdk_92_method_28_code 66 = .ok (.ifCond .eq 13, 3) := by decide +kernel
theorem d21_69 : decode jdk_92_method_28_code 69 = .ok (.iload_n 2, 1) := by decide +kernel
theorem d21_70 : decode jdk_92_method_28_code 70 = .ok (.bipush 64, 2) := by decide +kernel
theorem d21_72 : decode jdk_92_method_28_code 72 = .ok (.imul, 1) := by decide +kernel
theorem d21_73 : decode jdk_92_method_28_code 73 = .ok (.lload_n 3, 1) := by decide +kernel
theorem d21_74 : decode jdk_92_method_28_code 74 = .ok (.invokestatic 182, 3) := by decide +kernel
theorem d21_77 : decode jdk_92_method_28_code 77 = .ok (.iadd, 1) := by decide +kernel
theorem d21_78 : decode jdk_92_method_28_code 78 = .ok (.ireturn, 1) := by decide +kernel
theorem pn_rm21 : plainName "java/util/BitSet" = true := by first | (simp [plainName, overriddenIn]; done) | decide +kernel
theorem pd_rm21_0 : parseMethodDescriptor "()V" = some ⟨[], none⟩ := by decide +kernel
theorem pd_rm21_1 : parseMethodDescriptor "(I)I" = some ⟨[.int], some .int⟩ := by decide +kernel
theorem pd_rm21_2 : parseMethodDescriptor "(J)I" = some ⟨[.long], some .int⟩ := by decide +kernel
theorem ef_rm21 (m : MethodId) (x0 : Addr) (x1 : Int32) : entryFrame m #[(.ref x0), (.int x1)] 5 = mkF m 0 #[.val (.ref x0), .val (.int x1), .unset, .unset, .unset] [] := by first | (simp [entryFrame, mkF, argsToLocals, Value.category]; done) | rfl
def Q21 (Z : State) (a1 : Addr) (p2 : Int32) (W : Addr) (gW : Nat → Int64) (wd : Int64) (kx tx : Int32) (h0 : Heap) (n0 : Nat) (v : Option Value) (h : Heap) (L : List Loc) : Prop := v = some (.int tx) ∧ Fr n0 L ∧ h = h0
set_option maxRecDepth 65536 in
set_option maxHeartbeats 40000000 in
theorem rm21 (l : Launch) (Z : State) (a0 : Array Value) (hw : ∀ d ∈ tables_1, d.before a0 Z = true) (ws : List Jvm.Cond) (a1 : Addr) (p2 : Int32) (W : Addr) (gW : Nat → Int64) (wd : Int64) (kx tx : Int32) (h0 : Heap) (n0 : Nat) (Z0 : n0 ≤ h0.size) (EX : Exa Z h0 a1 "java/util/BitSet") (FW : Fld Z h0 a1 "java/util/BitSet" "words" "[J" (.ref W)) (AW : own_Ag Value.long Z h0 W .long (1 : Int32) gW) (FU : Fld Z h0 a1 "java/util/BitSet" "wordsInUse" "I" (.int (1 : Int32))) (SA : Sta Z h0 "java/util/BitSet" "$assertionsDisabled" "Z" (.int (1 : Int32))) (c0 : 0 ≤ p2.toInt) (c7 : p2.toInt ≤ 7) (hq : (gW 0 &&& ((-1 : Int64) <<< (p2 &&& 0x3f).toInt64)) = wd) (hne : ¬ wd = (0 : Int64)) (hnz : ¬ wd.toInt32 = (0 : Int32)) (hk0 : ((wd.toInt32 ^^^ (-1 : Int32)) &&& (wd.toInt32 - (1 : Int32))) = kx) (hkt : (kx = (0 : Int32) ∧ tx = (0 : Int32)) ∨ (kx = (1 : Int32) ∧ tx = (1 : Int32)) ∨ (kx = (3 : Int32) ∧ tx = (2 : Int32))) :
    MetFree l (⟨"java/util/BitSet", "nextSetBit", "(I)I"⟩ : MethodName) (head1 (Jvm.Cond.code (⟨"java/util/BitSet", "nextSetBit", "(I)I"⟩ : MethodName) jdk_92_method_28_code 5 (some .int) :: ws) ({ frames := 2, cells := 0, slots := 0, locals := 28 } : Room)) (fun a U => a = #[(.ref a1), (.int p2)] ∧ Z.Warmed39 U.vm ∧ U.heap = h0) (fun _ _ _ _ _ => True) (fun _ U o U' => ∃ v L, o = .returned v ∧ Q21 Z a1 p2 W gW wd kx tx h0 n0 v U'.heap L ∧ FrameEnd U o U' L ({ frames := 2, cells := 0, slots := 0, locals := 28 } : Room).cells ({ frames := 2, cells := 0, slots := 0, locals := 28 } : Room).slots) := by
  refine MetFree.of_bodySF (plainFor_of_name pn_rm21) hisR ?_
  intro p e s m args below meth c s₁ Bd hml0 hP hK
  obtain ⟨rfl, hZ, hh⟩ := hP
  have hx := Bd.exec
  have hby := Bd.bytes
  have hml : c.maxLocals = 5 := hml0
  have hown : s.vm.findClass "java/util/BitSet" = some m.cls := findClass_of_methodNamed Bd.named
  have hnm := (name_of_methodNamed Bd.named Bd.method).1
  have X0 : Stand p l e ({ frames := 2, cells := 0, slots := 0, locals := 28 } : Room) s m #[(.ref a1), (.int p2)] below meth c s₁ [] 0 0 := Stand.of_body Bd
  have e0 : s₁.heap = h0 := by rw [← hh, Bd.state]; rfl
  have N0 := Fr.nil n0
  have pre0 : ∀ t, Steps p.tables e below (s₁.setTop (mkF m 0 #[.val (.ref a1), .val (.int p2), .unset, .unset, .unset] [])) t → Steps p.tables e below (s₁.setTop (entryFrame m #[(.ref a1), (.int p2)] 5)) t := fun t k => castTop (ef_rm21 m a1 p2) k
  show own_Fin p e below _ _
  refine own_go pre0 ?_
  refine own_go (B := s₁.setTop (mkF m 32 #[.val (.ref a1), .val (.int p2), .unset, .unset, .unset] [(.ref a1)])) (fun t k => ?_) ?_
  · show Steps p.tables e below (s₁.setTop (mkF m 0 #[.val (.ref a1), .val (.int p2), .unset, .unset, .unset] [])) t
    refine XS.iloadN X0.here hx rfl (hb hby d21_0) rfl ?_
    show Steps p.tables e below (s₁.setTop (mkF m 1 #[.val (.ref a1), .val (.int p2), .unset, .unset, .unset] [(.int p2)])) t
    refine XS.ifYes X0.here hx rfl (pc0 := 1) (pc' := 31) rfl (hb hby d21_1) rfl ((if0 _ _).trans (flt (own_nneg c0 : ¬ (p2 < (0 : Int32)))).2.1) (by decide) (by decide) ?_
    refine XS.aloadN X0.here hx rfl (hb hby d21_31) rfl rfl ?_
    exact k
  obtain ⟨cq1, q1, q1'⟩ := EX.cell
  obtain ⟨_, _, ⟨T1, L1, k1, n1⟩, -, X1, ⟨Lc1, hQ1, l1, y1, z1⟩, st1⟩ := X0.privateBack hx (y := (⟨"java/util/BitSet", "checkInvariants", "()V"⟩ : MethodName)) hown (mvT hZ (own_at hw 105 rfl)) (mvT hZ (own_at hw 106 rfl)) (mvT hZ (own_at hw 108 rfl)) (Cond.privateMethod_at (mvP hZ (own_at hw 107 rfl) (args := #[]))) (mvT hZ (own_at hw 109 rfl)) (by decide) (backOf (W := 0) (rm18 l Z a0 hw [] a1 h0 n0 Z0 SA) hZ (own_at hw 109 rfl) (own_at hw 70 rfl) (by decide) (by decide)) (g := (mkF m 32 #[.val (.ref a1), .val (.int p2), .unset, .unset, .unset] [(.ref a1)])) rfl (by rw [hml]; rfl) (Steps.refl _) (a := a1) (by rw [e0]; exact q1) q1' (argsL := []) (rest := []) (lenOf pd_rm21_0 rfl) rfl (by show 2 * 0 + _ ≤ _; exact Nat.le_of_eq rfl) (hb hby d21_32) (fun _ _ => ⟨rfl, e0, (by decide : 0 + 0 ≤ _), (by decide : 0 + 0 ≤ _)⟩)
  dsimp only [Pt.U, Pt.locs, Pt.cells, Pt.slots] at X1 l1 y1 z1 st1 hQ1
  subst l1 y1 z1
  obtain ⟨rfl, N1q, hh1⟩ := hQ1
  have N1 := Fr.app N0 N1q
  obtain ⟨LL1, X1, N1⟩ := own_abs X1 N1
  refine own_go (fun t k => st1.trans k) ?_
  refine own_go (B := T1.setTop (mkF m 36 #[.val (.ref a1), .val (.int p2), .unset, .unset, .unset] [(.int p2)])) (fun t k => ?_) ?_
  · show Steps p.tables e below (T1.setTop (mkF m 35 #[.val (.ref a1), .val (.int p2), .unset, .unset, .unset] [])) t
    refine XS.iloadN X1.here hx rfl (hb hby d21_35) rfl ?_
    exact k
  obtain ⟨_, _, ⟨T2, L2, k2, n2⟩, -, X2, ⟨Lc2, hQ2, l2, y2, z2⟩, st2⟩ := Jvm.LawKit.callS X1 hx (y := (⟨"java/util/BitSet", "wordIndex", "(I)I"⟩ : MethodName)) hown (mvT hZ (own_at hw 84 rfl)) (mvT hZ (own_at hw 85 rfl)) (mvT hZ (own_at hw 70 rfl)) (mvT hZ (own_at hw 86 rfl)) (by decide) (backOf (W := 0) (rm14 l Z a0 hw [] p2 h0 n0 Z0 c0 c7) hZ (own_at hw 86 rfl) (own_at hw 70 rfl) (by decide) (by decide)) (g := (mkF m 36 #[.val (.ref a1), .val (.int p2), .unset, .unset, .unset] [(.int p2)])) rfl (by rw [hml]; rfl) (argsL := [(.int p2)]) (rest := []) (lenOf pd_rm21_1 rfl) rfl (by show 2 * 0 + _ ≤ _; exact Nat.le_of_eq rfl) (hb hby d21_36) (fun _ _ => ⟨rfl, hh1, (by decide : 0 + 0 ≤ _), (by decide : 0 + 0 ≤ _)⟩)
  dsimp only [Pt.U, Pt.locs, Pt.cells, Pt.slots] at X2 l2 y2 z2 st2 hQ2
  subst l2 y2 z2
  obtain ⟨rfl, N2q, hh2⟩ := hQ2
  have N2 := Fr.app N1 N2q
  obtain ⟨LL2, X2, N2⟩ := own_abs X2 N2
  refine own_go (fun t k => st2 t k) ?_
  refine own_go (B := T2.setTop (mkF m 42 #[.val (.ref a1), .val (.int p2), .val (.int 0), .unset, .unset] [(.ref a1), (.int 0)])) (fun t k => ?_) ?_
  · show Steps p.tables e below (T2.setTop (mkF m 39 #[.val (.ref a1), .val (.int p2), .unset, .unset, .unset] [(.int 0)])) t
    refine XS.istoreN X2.here hx rfl (hb hby d21_39) rfl (l' := #[.val (.ref a1), .val (.int p2), .val (.int 0), .unset, .unset]) rfl ?_
    refine XS.iloadN X2.here hx rfl (hb hby d21_40) rfl ?_
    refine XS.aloadN X2.here hx rfl (hb hby d21_41) rfl rfl ?_
    exact k
  obtain ⟨T3, X3, e3, st3⟩ := getF X2 hx hZ hown (host := "") (Or.inl (own_at hw 75 rfl)) Via.refl hh2 FU (g := (mkF m 42 #[.val (.ref a1), .val (.int p2), .val (.int 0), .unset, .unset] [(.ref a1), (.int 0)])) rfl rfl (hb hby d21_42)
  refine own_go (fun t k => st3 t k) ?_
  refine own_go (B := T3.setTop (mkF m 51 #[.val (.ref a1), .val (.int p2), .val (.int 0), .unset, .unset] [(.ref a1)])) (fun t k => ?_) ?_
  · show Steps p.tables e below (T3.setTop (mkF m 45 #[.val (.ref a1), .val (.int p2), .val (.int 0), .unset, .unset] [(.int 1), (.int 0)])) t
    refine XS.icmpYes X3.here hx rfl (pc0 := 45) (pc' := 50) rfl (hb hby d21_45) rfl (tlt (by decide : (0 : Int32) < (1 : Int32))).1 (by decide) (by decide) ?_
    refine XS.aloadN X3.here hx rfl (hb hby d21_50) rfl rfl ?_
    exact k
  obtain ⟨T4, X4, e4, st4⟩ := getF X3 hx hZ hown (host := "") (Or.inl (own_at hw 88 rfl)) Via.refl e3 FW (g := (mkF m 51 #[.val (.ref a1), .val (.int p2), .val (.int 0), .unset, .unset] [(.ref a1)])) rfl rfl (hb hby d21_51)
  refine own_go (fun t k => st4 t k) ?_
  refine own_go (B := T4.setTop (mkF m 55 #[.val (.ref a1), .val (.int p2), .val (.int 0), .unset, .unset] [(.int 0), (.ref W)])) (fun t k => ?_) ?_
  · show Steps p.tables e below (T4.setTop (mkF m 54 #[.val (.ref a1), .val (.int p2), .val (.int 0), .unset, .unset] [(.ref W)])) t
    refine XS.iloadN X4.here hx rfl (hb hby d21_54) rfl ?_
    exact k
  obtain ⟨cl5, Ar5, hin5, hat5, -, -⟩ := AW.get (j := (0 : Int32)) (by decide) (by decide)
  refine own_go (X4.laload hx (j := (0 : Int32)) (v := (.long (gW ((0 : Int32)).toNatClampNeg))) (by rw [e4]; exact Ar5.1) (State.isArrayOf_alike hZ.alike Ar5.2.1) Ar5.2.2 hin5 hat5 (g := (mkF m 55 #[.val (.ref a1), .val (.int p2), .val (.int 0), .unset, .unset] [(.int 0), (.ref W)])) rfl rfl (hb hby d21_55)) ?_
  refine own_go (B := T4.setTop (mkF m 63 #[.val (.ref a1), .val (.int p2), .val (.int 0), .val (.long ((gW ((0 : Int32)).toNatClampNeg) &&& ((-1 : Int64) <<< (p2 &&& 0x3f).toInt64))), .second] [])) (fun t k => ?_) ?_
  · show Steps p.tables e below (T4.setTop (mkF m 56 #[.val (.ref a1), .val (.int p2), .val (.int 0), .unset, .unset] [(.long (gW ((0 : Int32)).toNatClampNeg))])) t
    refine X4.ldc2Long hx hown (mvT hZ (own_at hw 126 rfl)) (g := (mkF m 56 #[.val (.ref a1), .val (.int p2), .val (.int 0), .unset, .unset] [(.long (gW ((0 : Int32)).toNatClampNeg))])) rfl (hb hby d21_56) _ ?_
    refine XS.iloadN X4.here hx rfl (hb hby d21_59) rfl ?_
    refine XS.lshl X4.here hx rfl (hb hby d21_60) rfl ?_
    refine XS.land X4.here hx rfl (hb hby d21_61) rfl ?_
    refine XS.lstoreN X4.here hx rfl (hb hby d21_62) rfl (l' := #[.val (.ref a1), .val (.int p2), .val (.int 0), .val (.long ((gW ((0 : Int32)).toNatClampNeg) &&& ((-1 : Int64) <<< (p2 &&& 0x3f).toInt64))), .second]) rfl ?_
    exact k
  obtain ⟨wx, hwx⟩ : ∃ z : Int64, z = ((gW ((0 : Int32)).toNatClampNeg) &&& ((-1 : Int64) <<< (p2 &&& 0x3f).toInt64)) := ⟨_, rfl⟩
  rw [← hwx]
  have ewd : wx = wd := hwx.trans (by rw [show (0 : Int32).toNatClampNeg = 0 by decide]; exact hq)
  refine own_go (B := T4.setTop (mkF m 74 #[.val (.ref a1), .val (.int p2), .val (.int 0), .val (.long wx), .second] [(.long wx), (.int (0 * 64))])) (fun t k => ?_) ?_
  · show Steps p.tables e below (T4.setTop (mkF m 63 #[.val (.ref a1), .val (.int p2), .val (.int 0), .val (.long wx), .second] [])) t
    refine XS.lloadN X4.here hx rfl (hb hby d21_63) rfl ?_
    refine XS.lconst X4.here hx rfl (hb hby d21_64) ?_
    refine XS.lcmp X4.here hx rfl (hb hby d21_65) rfl ?_
    show Steps p.tables e below (T4.setTop (mkF m 66 #[.val (.ref a1), .val (.int p2), .val (.int 0), .val (.long wx), .second] [(.int (lcmpW wx (0 : Int64)))])) t
    refine XS.ifNo X4.here hx rfl (hb hby d21_66) rfl ((if0 _ _).trans (feq (fun q => (by rw [ewd]; exact hne : ¬ (wx = (0 : Int64))) ((lw_eq wx (0 : Int64)).mp q))).1) ?_
    refine XS.iloadN X4.here hx rfl (hb hby d21_69) rfl ?_
    refine XS.bipush X4.here hx rfl (hb hby d21_70) ?_
    show Steps p.tables e below (T4.setTop (mkF m 72 #[.val (.ref a1), .val (.int p2), .val (.int 0), .val (.long wx), .second] [(.int 64), (.int 0)])) t
    refine XS.imul X4.here hx rfl (hb hby d21_72) rfl ?_
    refine XS.lloadN X4.here hx rfl (hb hby d21_73) rfl ?_
    exact k
  obtain ⟨_, _, ⟨T6, L6, k6, n6⟩, -, X6, ⟨Lc6, hQ6, l6, y6, z6⟩, st6⟩ := Jvm.LawKit.callS X4 hx (y := (⟨"java/lang/Long", "numberOfTrailingZeros", "(J)I"⟩ : MethodName)) hown (mvT hZ (own_at hw 127 rfl)) (mvT hZ (own_at hw 128 rfl)) (mvT hZ (own_at hw 129 rfl)) (mvT hZ (own_at hw 130 rfl)) (by decide) (backOf (W := 1) (rm22 l Z a0 hw [] wx kx tx h0 n0 Z0 (by rw [ewd]; exact hnz) (by rw [ewd]; exact hk0) hkt) hZ (own_at hw 130 rfl) (own_at hw 129 rfl) (by decide) (by decide)) (g := (mkF m 74 #[.val (.ref a1), .val (.int p2), .val (.int 0), .val (.long wx), .second] [(.long wx), (.int (0 * 64))])) rfl (by rw [hml]; rfl) (argsL := [(.long wx)]) (rest := [(.int (0 * 64))]) (lenOf pd_rm21_2 rfl) rfl (by show 2 * 0 + _ ≤ _; exact Nat.le_of_eq rfl) (hb hby d21_74) (fun _ _ => ⟨rfl, e4, (by decide : 0 + 0 ≤ _), (by decide : 0 + 0 ≤ _)⟩)
  dsimp only [Pt.U, Pt.locs, Pt.cells, Pt.slots] at X6 l6 y6 z6 st6 hQ6
  subst l6 y6 z6
  obtain ⟨rfl, N6q, hh6⟩ := hQ6
  have N6 := Fr.app N2 N6q
  obtain ⟨LL6, X6, N6⟩ := own_abs X6 N6
  refine own_go (fun t k => st6 t k) ?_
  refine own_go (B := T6.setTop (mkF m 78 #[.val (.ref a1), .val (.int p2), .val (.int 0), .val (.long wx), .second] [(.int (((0 : Int32) * (64 : Int32)) + tx))])) (fun t k => ?_) ?_
  · show Steps p.tables e below (T6.setTop (mkF m 77 #[.val (.ref a1), .val (.int p2), .val (.int 0), .val (.long wx), .second] [(.int tx), (.int (0 * 64))])) t
    refine XS.iadd X6.here hx rfl (hb hby d21_77) rfl ?_
    exact k
  obtain ⟨fs, hr, hrun, hended, hW, hsame⟩ := X6.leave (v := some (.int (((0 : Int32) * (64 : Int32)) + tx))) (fun h => by rw [Bd.returns] at h; cases h)
  refine ⟨_, _, ?_, hrun, hended, _, _, rfl, ?_, ⟨_, rfl⟩, hW, hsame.mono (by decide) (by decide)⟩
  · show Steps p.tables e below (T6.setTop (mkF m 78 #[.val (.ref a1), .val (.int p2), .val (.int 0), .val (.long wx), .second] [(.int (((0 : Int32) * (64 : Int32)) + tx))])) _
    exact retI X6 hx Bd.returns (hb hby d21_78) hr
  · show Q21 Z a1 p2 W gW wd kx tx h0 n0 _ T6.heap _
    rw [hh6]
    exact ⟨congrArg (fun z => some (Value.int z)) (own_064 tx), N6, rfl⟩
theorem d21_79 : decode jdk_92_method_28_code 79 = .ok (.iinc 2 1, 3) := by decide +kernel
theorem d21_82 : decode jdk_92_method_28_code 82 = .ok (.iload_n 2, 1) := by decide +kernel
theorem d21_83 : decode jdk_92_method_28_code 83 = .ok (.aload_n 0, 1) := by decide +kernel
theorem d21_84 : decode jdk_92_method_28_code 84 = .ok (.getfield 7, 3) := by decide +kernel
theorem d21_87 : decode jdk_92_method_28_code 87 = .ok (.if_icmp .ne 5, 3) := by decide +kernel
theorem d21_90 : decode jdk_92_method_28_code 90 = .ok (.iconst (-1), 1) := by decide +kernel
theorem d21_91 : decode jdk_92_method_28_code 91 = .ok (.ireturn, 1) := by decide +kernel
theorem pn_rm21b : plainName "java/util/BitSet" = true := by first | (simp [plainName, overriddenIn]; done) | decide +kernel
theorem pd_rm21b_0 : parseMethodDescriptor "()V" = some ⟨[], none⟩ := by decide +kernel
theorem pd_rm21b_1 : parseMethodDescriptor "(I)I" = some ⟨[.int], some .int⟩ := by decide +kernel
theorem ef_rm21b (m : MethodId) (x0 : Addr) (x1 : Int32) : entryFrame m #[(.ref x0), (.int x1)] 5 = mkF m 0 #[.val (.ref x0), .val (.int x1), .unset, .unset, .unset] [] := by first | (simp [entryFrame, mkF, argsToLocals, Value.category]; done) | rfl
def Q21b (Z : State) (a1 : Addr) (p2 : Int32) (W : Addr) (gW : Nat → Int64) (wd : Int64) (h0 : Heap) (n0 : Nat) (v : Option Value) (h : Heap) (L : List Loc) : Prop := v = some (.int (-1 : Int32)) ∧ Fr n0 L ∧ h = h0
set_option maxRecDepth 65536 in
set_option maxHeartbeats 40000000 in
theorem rm21b (l : Launch) (Z : State) (a0 : Array Value) (hw : ∀ d ∈ tables_1, d.before a0 Z = true) (ws : List Jvm.Cond) (a1 : Addr) (p2 : Int32) (W : Addr) (gW : Nat → Int64) (wd : Int64) (h0 : Heap) (n0 : Nat) (Z0 : n0 ≤ h0.size) (EX : Exa Z h0 a1 "java/util/BitSet") (FW : Fld Z h0 a1 "java/util/BitSet" "words" "[J" (.ref W)) (AW : own_Ag Value.long Z h0 W .long (1 : Int32) gW) (FU : Fld Z h0 a1 "java/util/BitSet" "wordsInUse" "I" (.int (1 : Int32))) (SA : Sta Z h0 "java/util/BitSet" "$assertionsDisabled" "Z" (.int (1 : Int32))) (c0 : 0 ≤ p2.toInt) (c7 : p2.toInt ≤ 7) (hq : (gW 0 &&& ((-1 : Int64) <<< (p2 &&& 0x3f).toInt64)) = wd) (hze : wd = (0 : Int64)) :
    MetFree l (⟨"java/util/BitSet", "nextSetBit", "(I)I"⟩ : MethodName) (head1 (Jvm.Cond.code (⟨"java/util/BitSet", "nextSetBit", "(I)I"⟩ : MethodName) jdk_92_method_28_code 5 (some .int) :: ws) ({ frames := 1, cells := 0, slots := 0, locals := 12 } : Room)) (fun a U => a = #[(.ref a1), (.int p2)] ∧ Z.Warmed39 U.vm ∧ U.heap = h0) (fun _ _ _ _ _ => True) (fun _ U o U' => ∃ v L, o = .returned v ∧ Q21b Z a1 p2 W gW wd h0 n0 v U'.heap L ∧ FrameEnd U o U' L ({ frames := 1, cells := 0, slots := 0, locals := 12 } : Room).cells ({ frames := 1, cells := 0, slots := 0, locals := 12 } : Room).slots) := by
  refine MetFree.of_bodySF (plainFor_of_name pn_rm21b) hisR ?_
  intro p e s m args below meth c s₁ Bd hml0 hP hK
  obtain ⟨rfl, hZ, hh⟩ := hP
  have hx := Bd.exec
  have hby := Bd.bytes
  have hml : c.maxLocals = 5 := hml0
  have hown : s.vm.findClass "java/util/BitSet" = some m.cls := findClass_of_methodNamed Bd.named
  have hnm := (name_of_methodNamed Bd.named Bd.method).1
  have X0 : Stand p l e ({ frames := 1, cells := 0, slots := 0, locals := 12 } : Room) s m #[(.ref a1), (.int p2)] below meth c s₁ [] 0 0 := Stand.of_body Bd
  have e0 : s₁.heap = h0 := by rw [← hh, Bd.state]; rfl
  have N0 := Fr.nil n0
  have pre0 : ∀ t, Steps p.tables e below (s₁.setTop (mkF m 0 #[.val (.ref a1), .val (.int p2), .unset, .unset, .unset] [])) t → Steps p.tables e below (s₁.setTop (entryFrame m #[(.ref a1), (.int p2)] 5)) t := fun t k => castTop (ef_rm21b m a1 p2) k
  show own_Fin p e below _ _
  refine own_go pre0 ?_
  refine own_go (B := s₁.setTop (mkF m 32 #[.val (.ref a1), .val (.int p2), .unset, .unset, .unset] [(.ref a1)])) (fun t k => ?_) ?_
  · show Steps p.tables e below (s₁.setTop (mkF m 0 #[.val (.ref a1), .val (.int p2), .unset, .unset, .unset] [])) t
    refine XS.iloadN X0.here hx rfl (hb hby d21_0) rfl ?_
    show Steps p.tables e below (s₁.setTop (mkF m 1 #[.val (.ref a1), .val (.int p2), .unset, .unset, .unset] [(.int p2)])) t
    refine XS.ifYes X0.here hx rfl (pc0 := 1) (pc' := 31) rfl (hb hby d21_1) rfl ((if0 _ _).trans (flt (own_nneg c0 : ¬ (p2 < (0 : Int32)))).2.1) (by decide) (by decide) ?_
    refine XS.aloadN X0.here hx rfl (hb hby d21_31) rfl rfl ?_
    exact k
  obtain ⟨cq1, q1, q1'⟩ := EX.cell
  obtain ⟨_, _, ⟨T1, L1, k1, n1⟩, -, X1, ⟨Lc1, hQ1, l1, y1, z1⟩, st1⟩ := X0.privateBack hx (y := (⟨"java/util/BitSet", "checkInvariants", "()V"⟩ : MethodName)) hown (mvT hZ (own_at hw 105 rfl)) (mvT hZ (own_at hw 106 rfl)) (mvT hZ (own_at hw 108 rfl)) (Cond.privateMethod_at (mvP hZ (own_at hw 107 rfl) (args := #[]))) (mvT hZ (own_at hw 109 rfl)) (by decide) (backOf (W := 0) (rm18 l Z a0 hw [] a1 h0 n0 Z0 SA) hZ (own_at hw 109 rfl) (own_at hw 70 rfl) (by decide) (by decide)) (g := (mkF m 32 #[.val (.ref a1), .val (.int p2), .unset, .unset, .unset] [(.ref a1)])) rfl (by rw [hml]; rfl) (Steps.refl _) (a := a1) (by rw [e0]; exact q1) q1' (argsL := []) (rest := []) (lenOf pd_rm21b_0 rfl) rfl (by show 2 * 0 + _ ≤ _; exact Nat.le_of_eq rfl) (hb hby d21_32) (fun _ _ => ⟨rfl, e0, (by decide : 0 + 0 ≤ _), (by decide : 0 + 0 ≤ _)⟩)
  dsimp only [Pt.U, Pt.locs, Pt.cells, Pt.slots] at X1 l1 y1 z1 st1 hQ1
  subst l1 y1 z1
  obtain ⟨rfl, N1q, hh1⟩ := hQ1
  have N1 := Fr.app N0 N1q
  obtain ⟨LL1, X1, N1⟩ := own_abs X1 N1
  refine own_go (fun t k => st1.trans k) ?_
  refine own_go (B := T1.setTop (mkF m 36 #[.val (.ref a1), .val (.int p2), .unset, .unset, .unset] [(.int p2)])) (fun t k => ?_) ?_
  · show Steps p.tables e below (T1.setTop (mkF m 35 #[.val (.ref a1), .val (.int p2), .unset, .unset, .unset] [])) t
    refine XS.iloadN X1.here hx rfl (hb hby d21_35) rfl ?_
    exact k
  obtain ⟨_, _, ⟨T2, L2, k2, n2⟩, -, X2, ⟨Lc2, hQ2, l2, y2, z2⟩, st2⟩ := Jvm.LawKit.callS X1 hx (y := (⟨"java/util/BitSet", "wordIndex", "(I)I"⟩ : MethodName)) hown (mvT hZ (own_at hw 84 rfl)) (mvT hZ (own_at hw 85 rfl)) (mvT hZ (own_at hw 70 rfl)) (mvT hZ (own_at hw 86 rfl)) (by decide) (backOf (W := 0) (rm14 l Z a0 hw [] p2 h0 n0 Z0 c0 c7) hZ (own_at hw 86 rfl) (own_at hw 70 rfl) (by decide) (by decide)) (g := (mkF m 36 #[.val (.ref a1), .val (.int p2), .unset, .unset, .unset] [(.int p2)])) rfl (by rw [hml]; rfl) (argsL := [(.int p2)]) (rest := []) (lenOf pd_rm21b_1 rfl) rfl (by show 2 * 0 + _ ≤ _; exact Nat.le_of_eq rfl) (hb hby d21_36) (fun _ _ => ⟨rfl, hh1, (by decide : 0 + 0 ≤ _), (by decide : 0 + 0 ≤ _)⟩)
  dsimp only [Pt.U, Pt.locs, Pt.cells, Pt.slots] at X2 l2 y2 z2 st2 hQ2
  subst l2 y2 z2
  obtain ⟨rfl, N2q, hh2⟩ := hQ2
  have N2 := Fr.app N1 N2q
  obtain ⟨LL2, X2, N2⟩ := own_abs X2 N2
  refine own_go (fun t k => st2 t k) ?_
  refine own_go (B := T2.setTop (mkF m 42 #[.val (.ref a1), .val (.int p2), .val (.int 0), .unset, .unset] [(.ref a1), (.int 0)])) (fun t k => ?_) ?_
  · show Steps p.tables e below (T2.setTop (mkF m 39 #[.val (.ref a1), .val (.int p2), .unset, .unset, .unset] [(.int 0)])) t
    refine XS.istoreN X2.here hx rfl (hb hby d21_39) rfl (l' := #[.val (.ref a1), .val (.int p2), .val (.int 0), .unset, .unset]) rfl ?_
    refine XS.iloadN X2.here hx rfl (hb hby d21_40) rfl ?_
    refine XS.aloadN X2.here hx rfl (hb hby d21_41) rfl rfl ?_
    exact k
  obtain ⟨T3, X3, e3, st3⟩ := getF X2 hx hZ hown (host := "") (Or.inl (own_at hw 75 rfl)) Via.refl hh2 FU (g := (mkF m 42 #[.val (.ref a1), .val (.int p2), .val (.int 0), .unset, .unset] [(.ref a1), (.int 0)])) rfl rfl (hb hby d21_42)
  refine own_go (fun t k => st3 t k) ?_
  refine own_go (B := T3.setTop (mkF m 51 #[.val (.ref a1), .val (.int p2), .val (.int 0), .unset, .unset] [(.ref a1)])) (fun t k => ?_) ?_
  · show Steps p.tables e below (T3.setTop (mkF m 45 #[.val (.ref a1), .val (.int p2), .val (.int 0), .unset, .unset] [(.int 1), (.int 0)])) t
    refine XS.icmpYes X3.here hx rfl (pc0 := 45) (pc' := 50) rfl (hb hby d21_45) rfl (tlt (by decide : (0 : Int32) < (1 : Int32))).1 (by decide) (by decide) ?_
    refine XS.aloadN X3.here hx rfl (hb hby d21_50) rfl rfl ?_
    exact k
  obtain ⟨T4, X4, e4, st4⟩ := getF X3 hx hZ hown (host := "") (Or.inl (own_at hw 88 rfl)) Via.refl e3 FW (g := (mkF m 51 #[.val (.ref a1), .val (.int p2), .val (.int 0), .unset, .unset] [(.ref a1)])) rfl rfl (hb hby d21_51)
  refine own_go (fun t k => st4 t k) ?_
  refine own_go (B := T4.setTop (mkF m 55 #[.val (.ref a1), .val (.int p2), .val (.int 0), .unset, .unset] [(.int 0), (.ref W)])) (fun t k => ?_) ?_
  · show Steps p.tables e below (T4.setTop (mkF m 54 #[.val (.ref a1), .val (.int p2), .val (.int 0), .unset, .unset] [(.ref W)])) t
    refine XS.iloadN X4.here hx rfl (hb hby d21_54) rfl ?_
    exact k
  obtain ⟨cl5, Ar5, hin5, hat5, -, -⟩ := AW.get (j := (0 : Int32)) (by decide) (by decide)
  refine own_go (X4.laload hx (j := (0 : Int32)) (v := (.long (gW ((0 : Int32)).toNatClampNeg))) (by rw [e4]; exact Ar5.1) (State.isArrayOf_alike hZ.alike Ar5.2.1) Ar5.2.2 hin5 hat5 (g := (mkF m 55 #[.val (.ref a1), .val (.int p2), .val (.int 0), .unset, .unset] [(.int 0), (.ref W)])) rfl rfl (hb hby d21_55)) ?_
  refine own_go (B := T4.setTop (mkF m 63 #[.val (.ref a1), .val (.int p2), .val (.int 0), .val (.long ((gW ((0 : Int32)).toNatClampNeg) &&& ((-1 : Int64) <<< (p2 &&& 0x3f).toInt64))), .second] [])) (fun t k => ?_) ?_
  · show Steps p.tables e below (T4.setTop (mkF m 56 #[.val (.ref a1), .val (.int p2), .val (.int 0), .unset, .unset] [(.long (gW ((0 : Int32)).toNatClampNeg))])) t
    refine X4.ldc2Long hx hown (mvT hZ (own_at hw 126 rfl)) (g := (mkF m 56 #[.val (.ref a1), .val (.int p2), .val (.int 0), .unset, .unset] [(.long (gW ((0 : Int32)).toNatClampNeg))])) rfl (hb hby d21_56) _ ?_
    refine XS.iloadN X4.here hx rfl (hb hby d21_59) rfl ?_
    refine XS.lshl X4.here hx rfl (hb hby d21_60) rfl ?_
    refine XS.land X4.here hx rfl (hb hby d21_61) rfl ?_
    refine XS.lstoreN X4.here hx rfl (hb hby d21_62) rfl (l' := #[.val (.ref a1), .val (.int p2), .val (.int 0), .val (.long ((gW ((0 : Int32)).toNatClampNeg) &&& ((-1 : Int64) <<< (p2 &&& 0x3f).toInt64))), .second]) rfl ?_
    exact k
  obtain ⟨wx, hwx⟩ : ∃ z : Int64, z = ((gW ((0 : Int32)).toNatClampNeg) &&& ((-1 : Int64) <<< (p2 &&& 0x3f).toInt64)) := ⟨_, rfl⟩
  rw [← hwx]
  have ewd : wx = wd := hwx.trans (by rw [show (0 : Int32).toNatClampNeg = 0 by decide]; exact hq)
  refine own_go (B := T4.setTop (mkF m 84 #[.val (.ref a1), .val (.int p2), .val (.int (0 + 1)), .val (.long wx), .second] [(.ref a1), (.int (0 + 1))])) (fun t k => ?_) ?_
  · show Steps p.tables e below (T4.setTop (mkF m 63 #[.val (.ref a1), .val (.int p2), .val (.int 0), .val (.long wx), .second] [])) t
    refine XS.lloadN X4.here hx rfl (hb hby d21_63) rfl ?_
    refine XS.lconst X4.here hx rfl (hb hby d21_64) ?_
    refine XS.lcmp X4.here hx rfl (hb hby d21_65) rfl ?_
    show Steps p.tables e below (T4.setTop (mkF m 66 #[.val (.ref a1), .val (.int p2), .val (.int 0), .val (.long wx), .second] [(.int (lcmpW wx (0 : Int64)))])) t
    refine XS.ifYes X4.here hx rfl (pc0 := 66) (pc' := 79) rfl (hb hby d21_66) rfl ((if0 _ _).trans (teq ((lw_eq wx (0 : Int64)).mpr (ewd.trans hze : wx = (0 : Int64)))).1) (by decide) (by decide) ?_
    refine XS.iinc X4.here hx rfl (hb hby d21_79) rfl (l' := #[.val (.ref a1), .val (.int p2), .val (.int (0 + 1)), .val (.long wx), .second]) rfl ?_
    refine XS.iloadN X4.here hx rfl (hb hby d21_82) rfl ?_
    show Steps p.tables e below (T4.setTop (mkF m 83 #[.val (.ref a1), .val (.int p2), .val (.int (0 + 1)), .val (.long wx), .second] [(.int (0 + 1))])) t
    refine XS.aloadN X4.here hx rfl (hb hby d21_83) rfl rfl ?_
    exact k
  obtain ⟨T6, X6, e6, st6⟩ := getF X4 hx hZ hown (host := "") (Or.inl (own_at hw 75 rfl)) Via.refl e4 FU (g := (mkF m 84 #[.val (.ref a1), .val (.int p2), .val (.int (0 + 1)), .val (.long wx), .second] [(.ref a1), (.int (0 + 1))])) rfl rfl (hb hby d21_84)
  refine own_go (fun t k => st6 t k) ?_
  refine own_go (B := T6.setTop (mkF m 91 #[.val (.ref a1), .val (.int p2), .val (.int (0 + 1)), .val (.long wx), .second] [(.int (-1))])) (fun t k => ?_) ?_
  · show Steps p.tables e below (T6.setTop (mkF m 87 #[.val (.ref a1), .val (.int p2), .val (.int (0 + 1)), .val (.long wx), .second] [(.int 1), (.int (0 + 1))])) t
    refine XS.icmpNo X6.here hx rfl (hb hby d21_87) rfl (teq (by decide : ((0 : Int32) + (1 : Int32)) = (1 : Int32))).2 ?_
    refine XS.iconst X6.here hx rfl (hb hby d21_90) ?_
    exact k
  obtain ⟨fs, hr, hrun, hended, hW, hsame⟩ := X6.leave (v := some (.int (-1))) (fun h => by rw [Bd.returns] at h; cases h)
  refine ⟨_, _, ?_, hrun, hended, _, _, rfl, ?_, ⟨_, rfl⟩, hW, hsame.mono (by decide) (by decide)⟩
  · show Steps p.tables e below (T6.setTop (mkF m 91 #[.val (.ref a1), .val (.int p2), .val (.int (0 + 1)), .val (.long wx), .second] [(.int (-1))])) _
    exact retI X6 hx Bd.returns (hb hby d21_91) hr
  · show Q21b Z a1 p2 W gW wd h0 n0 _ T6.heap _
    rw [e6]
    exact ⟨rfl, N2, rfl⟩
theorem d13_0 : decode jdk_92_method_6_code 0 = .ok (.aload_n 0, 1) := by decide +kernel
theorem d13_1 : decode jdk_92_method_6_code 1 = .ok (.iload_n 1, 1) := by decide +kernel
theorem d13_2 : decode jdk_92_method_6_code 2 = .ok (.iconst 1, 1) := by decide +kernel
theorem d13_3 : decode jdk_92_method_6_code 3 = .ok (.isub, 1) := by decide +kernel
theorem d13_4 : decode jdk_92_method_6_code 4 = .ok (.invokestatic 52, 3) := by decide +kernel
theorem d13_7 : decode jdk_92_method_6_code 7 = .ok (.iconst 1, 1) := by decide +kernel
theorem d13_8 : decode jdk_92_method_6_code 8 = .ok (.iadd, 1) := by decide +kernel
theorem d13_9 : decode jdk_92_method_6_code 9 = .ok (.newarray .long, 2) := by decide +kernel
theorem d13_11 : decode jdk_92_method_6_code 11 = .ok (.putfield 11, 3) := by decide +kernel
theorem d13_14 : decode jdk_92_method_6_code 14 = .ok (.return_, 1) := by decide +kernel
theorem pn_rm13 : plainName "java/util/BitSet" = true := by first | (simp [plainName, overriddenIn]; done) | decide +kernel
theorem pd_rm13_0 : parseMethodDescriptor "(I)I" = some ⟨[.int], some .int⟩ := by decide +kernel
theorem ef_rm13 (m : MethodId) (x0 : Addr) (x1 : Int32) : entryFrame m #[(.ref x0), (.int x1)] 2 = mkF m 0 #[.val (.ref x0), .val (.int x1)] [] := by first | (simp [entryFrame, mkF, argsToLocals, Value.category]; done) | rfl
def Q13 (Z : State) (a1 : Addr) (p2 : Int32) (u q : Int32) (h0 : Heap) (n0 : Nat) (v : Option Value) (h : Heap) (L : List Loc) : Prop := ∃ W : Addr, v = none ∧ Fr n0 L ∧ Keep h0 h [a1] ∧ Fld Z h a1 "java/util/BitSet" "words" "[J" (.ref W) ∧ Fld Z h a1 "java/util/BitSet" "wordsInUse" "I" (.int u) ∧ Fld Z h a1 "java/util/BitSet" "sizeIsSticky" "Z" (.int q) ∧ own_Ag Value.long Z h W .long (1 : Int32) (fun _ => (0 : Int64)) ∧ n0 ≤ W ∧ h0.size ≤ W
set_option maxRecDepth 65536 in
set_option maxHeartbeats 40000000 in
theorem rm13 (l : Launch) (Z : State) (a0 : Array Value) (hw : ∀ d ∈ tables_1, d.before a0 Z = true) (ws : List Jvm.Cond) (a1 : Addr) (p2 : Int32) (u q : Int32) (h0 : Heap) (n0 : Nat) (Z0 : n0 ≤ h0.size) (EX : Exa Z h0 a1 "java/util/BitSet") (FW : Fld Z h0 a1 "java/util/BitSet" "words" "[J" .null) (FU : Fld Z h0 a1 "java/util/BitSet" "wordsInUse" "I" (.int u)) (FQ : Fld Z h0 a1 "java/util/BitSet" "sizeIsSticky" "Z" (.int q)) (g_a1 : n0 ≤ a1) (c0 : 0 ≤ (p2 - (1 : Int32)).toInt) (c7 : (p2 - (1 : Int32)).toInt ≤ 7) :
    MetFree l (⟨"java/util/BitSet", "initWords", "(I)V"⟩ : MethodName) (head1 (Jvm.Cond.code (⟨"java/util/BitSet", "initWords", "(I)V"⟩ : MethodName) jdk_92_method_6_code 2 none :: ws) ({ frames := 1, cells := 1, slots := 1, locals := 13 } : Room)) (fun a U => a = #[(.ref a1), (.int p2)] ∧ Z.Warmed39 U.vm ∧ U.heap = h0) (fun _ _ _ _ _ => True) (fun _ U o U' => ∃ v L, o = .returned v ∧ Q13 Z a1 p2 u q h0 n0 v U'.heap L ∧ FrameEnd U o U' L ({ frames := 1, cells := 1, slots := 1, locals := 13 } : Room).cells ({ frames := 1, cells := 1, slots := 1, locals := 13 } : Room).slots) := by
  refine MetFree.of_bodySF (plainFor_of_name pn_rm13) hisR ?_
  intro p e s m args below meth c s₁ Bd hml0 hP hK
  obtain ⟨rfl, hZ, hh⟩ := hP
  have hx := Bd.exec
  have hby := Bd.bytes
  have hml : c.maxLocals = 2 := hml0
  have hown : s.vm.findClass "java/util/BitSet" = some m.cls := findClass_of_methodNamed Bd.named
  have hnm := (name_of_methodNamed Bd.named Bd.method).1
  have X0 : Stand p l e ({ frames := 1, cells := 1, slots := 1, locals := 13 } : Room) s m #[(.ref a1), (.int p2)] below meth c s₁ [] 0 0 := Stand.of_body Bd
  have e0 : s₁.heap = h0 := by rw [← hh, Bd.state]; rfl
  have N0 := Fr.nil n0
  have pre0 : ∀ t, Steps p.tables e below (s₁.setTop (mkF m 0 #[.val (.ref a1), .val (.int p2)] [])) t → Steps p.tables e below (s₁.setTop (entryFrame m #[(.ref a1), (.int p2)] 2)) t := fun t k => castTop (ef_rm13 m a1 p2) k
  show own_Fin p e below _ _
  refine own_go pre0 ?_
  refine own_go (B := s₁.setTop (mkF m 4 #[.val (.ref a1), .val (.int p2)] [(.int (p2 - 1)), (.ref a1)])) (fun t k => ?_) ?_
  · show Steps p.tables e below (s₁.setTop (mkF m 0 #[.val (.ref a1), .val (.int p2)] [])) t
    refine XS.aloadN X0.here hx rfl (hb hby d13_0) rfl rfl ?_
    refine XS.iloadN X0.here hx rfl (hb hby d13_1) rfl ?_
    refine XS.iconst X0.here hx rfl (hb hby d13_2) ?_
    refine XS.isub X0.here hx rfl (hb hby d13_3) rfl ?_
    exact k
  obtain ⟨_, _, ⟨T1, L1, k1, n1⟩, -, X1, ⟨Lc1, hQ1, l1, y1, z1⟩, st1⟩ := Jvm.LawKit.callS X0 hx (y := (⟨"java/util/BitSet", "wordIndex", "(I)I"⟩ : MethodName)) hown (mvT hZ (own_at hw 84 rfl)) (mvT hZ (own_at hw 85 rfl)) (mvT hZ (own_at hw 70 rfl)) (mvT hZ (own_at hw 86 rfl)) (by decide) (backOf (W := 1) (rm14 l Z a0 hw [] (p2 - (1 : Int32)) h0 n0 Z0 c0 c7) hZ (own_at hw 86 rfl) (own_at hw 70 rfl) (by decide) (by decide)) (g := (mkF m 4 #[.val (.ref a1), .val (.int p2)] [(.int (p2 - 1)), (.ref a1)])) rfl (by rw [hml]; rfl) (argsL := [(.int (p2 - 1))]) (rest := [(.ref a1)]) (lenOf pd_rm13_0 rfl) rfl (by show 2 * 0 + _ ≤ _; exact Nat.le_of_eq rfl) (hb hby d13_4) (fun _ _ => ⟨rfl, e0, (by decide : 0 + 0 ≤ _), (by decide : 0 + 0 ≤ _)⟩)
  dsimp only [Pt.U, Pt.locs, Pt.cells, Pt.slots] at X1 l1 y1 z1 st1 hQ1
  subst l1 y1 z1
  obtain ⟨rfl, N1q, hh1⟩ := hQ1
  have N1 := Fr.app N0 N1q
  obtain ⟨LL1, X1, N1⟩ := own_abs X1 N1
  refine own_go (fun t k => st1 t k) ?_
  refine own_go (B := T1.setTop (mkF m 9 #[.val (.ref a1), .val (.int p2)] [(.int (0 + 1)), (.ref a1)])) (fun t k => ?_) ?_
  · show Steps p.tables e below (T1.setTop (mkF m 7 #[.val (.ref a1), .val (.int p2)] [(.int 0), (.ref a1)])) t
    refine XS.iconst X1.here hx rfl (hb hby d13_7) ?_
    refine XS.iadd X1.here hx rfl (hb hby d13_8) rfl ?_
    exact k
  obtain ⟨T2, h2, k2, X2, e2, E2, A2, st2⟩ := newP X1 hx hZ (own_at hw 87 rfl) hh1 (g := (mkF m 9 #[.val (.ref a1), .val (.int p2)] [(.int (0 + 1)), (.ref a1)])) rfl (hb hby d13_9) rfl (by decide) (cap := 1) (by decide) (by decide) (by decide) (by decide)
  obtain ⟨b2, g2⟩ : ∃ z, z = h0.size := ⟨_, rfl⟩
  rw [← g2] at A2 st2
  refine own_go (fun t k => st2 t k) ?_
  have g_b2 : n0 ≤ b2 := Nat.le_trans Z0 (Nat.le_of_eq g2.symm)
  have sz_b2 : h0.size ≤ b2 := Nat.le_trans (Keep.refl h0 [a1]).1 (Nat.le_of_eq g2.symm)
  have ne2_a1 : a1 ≠ b2 := Nat.ne_of_lt (Nat.lt_of_lt_of_le EX.lt (Nat.le_of_eq g2.symm))
  have K2 : Keep h0 h2 [a1] := (Keep.refl h0 [a1]).ext E2
  have f2_0 := EX.ext E2
  have f2_1 := FW.ext E2
  have f2_2 := FU.ext E2
  have f2_3 := FQ.ext E2
  have V2 : own_Ag Value.long Z h2 b2 .long ((0 : Int32) + (1 : Int32)) (fun _ => (0 : Int64)) := own_Ag.new (Arv.new A2 (by decide))
  obtain ⟨T3, h3, X3, e3, W3, st3⟩ := putF X2 hx hZ hown (host := "") (Or.inl (own_at hw 88 rfl)) Via.refl e2 f2_1 f2_0 (Or.inl (own_at hw 89 rfl)) (own_at hw 69 rfl) (ty := (.array .long)) (by decide) rfl rfl (g := (mkF m 11 #[.val (.ref a1), .val (.int p2)] [(.ref b2), (.ref a1)])) rfl rfl (hb hby d13_11)
  refine own_go (fun t k => st3 t k) ?_
  have N3 := Fr.snoc X3 N1 g_a1
  obtain ⟨LL3, X3, N3⟩ := own_abs X3 N3
  have K3 : Keep h0 h3 [a1] := K2.wr W3 (Or.inl (List.mem_of_getElem? (i := 0) rfl))
  have f3_0 := f2_0.wr W3
  have f3_1 := f2_1.same W3
  have f3_2 := f2_2.other W3 (Or.inr (slot_ne (Or.inl (own_at hw 76 rfl)) (Or.inl (own_at hw 89 rfl)) (by decide) (t := .int) (t' := (.array .long)) (by decide) (by decide)))
  have f3_3 := f2_3.other W3 (Or.inr (slot_ne (Or.inl (own_at hw 78 rfl)) (Or.inl (own_at hw 89 rfl)) (by decide) (t := .boolean) (t' := (.array .long)) (by decide) (by decide)))
  have f3_4 := V2.other W3 (Ne.symm ne2_a1)
  obtain ⟨fs, hr, hrun, hended, hW, hsame⟩ := X3.leave (v := none) (fun _ => rfl)
  refine ⟨_, _, ?_, hrun, hended, _, _, rfl, ?_, ⟨_, rfl⟩, hW, hsame.mono (by decide) (by decide)⟩
  · show Steps p.tables e below (T3.setTop (mkF m 14 #[.val (.ref a1), .val (.int p2)] [])) _
    exact X3.returnOut hx Bd.returns (hb hby d13_14) hr
  · show Q13 Z a1 p2 u q h0 n0 _ T3.heap _
    rw [e3]
    have e2 : ((0 : Int32) + (1 : Int32)) = (1 : Int32) := by decide
    have e4 := f3_4
    rw [e2] at e4
    exact ⟨_, rfl, N3, K3, f3_1, f3_2, f3_3, e4, g_b2, sz_b2⟩
theorem d12_0 : decode jdk_92_method_5_code 0 = .ok (.aload_n 0, 1) := by decide +kernel
theorem d12_1 : decode jdk_92_method_5_code 1 = .ok (.invokespecial 21, 3) := by decide +kernel
theorem d12_4 : decode jdk_92_method_5_code 4 = .ok (.aload_n 0, 1) := by decide +kernel
theorem d12_5 : decode jdk_92_method_5_code 5 = .ok (.iconst 0, 1) := by decide +kernel
theorem d12_6 : decode jdk_92_method_5_code 6 = .ok (.putfield 7, 3) := by decide +kernel
theorem d12_9 : decode jdk_92_method_5_code 9 = .ok (.aload_n 0, 1) := by decide +kernel
theorem d12_10 : decode jdk_92_method_5_code 10 = .ok (.iconst 0, 1) := by decide +kernel
theorem d12_11 : decode jdk_92_method_5_code 11 = .ok (.putfield 24, 3) := by decide +kernel
theorem d12_14 : decode jdk_92_method_5_code 14 = .ok (.iload_n 1, 1) := by decide +kernel
theorem d12_15 : decode jdk_92_method_5_code 15 = .ok (.ifCond .ge 30, 3) := by decide +kernel
theorem d12_45 : decode jdk_92_method_5_code 45 = .ok (.aload_n 0, 1) := by decide +kernel
theorem d12_46 : decode jdk_92_method_5_code 46 = .ok (.iload_n 1, 1) := by decide +kernel
theorem d12_47 : decode jdk_92_method_5_code 47 = .ok (.invokevirtual 27, 3) := by decide +kernel
theorem d12_50 : decode jdk_92_method_5_code 50 = .ok (.aload_n 0, 1) := by decide +kernel
theorem d12_51 : decode jdk_92_method_5_code 51 = .ok (.iconst 1, 1) := by decide +kernel
theorem d12_52 : decode jdk_92_method_5_code 52 = .ok (.putfield 24, 3) := by decide +kernel
theorem d12_55 : decode jdk_92_method_5_code 55 = .ok (.return_, 1) := by decide +kernel
theorem pn_rm12 : plainName "java/util/BitSet" = true := by first | (simp [plainName, overriddenIn]; done) | decide +kernel
theorem pd_rm12_0 : parseMethodDescriptor "(I)V" = some ⟨[.int], none⟩ := by decide +kernel
theorem ef_rm12 (m : MethodId) (x0 : Addr) (x1 : Int32) : entryFrame m #[(.ref x0), (.int x1)] 2 = mkF m 0 #[.val (.ref x0), .val (.int x1)] [] := by first | (simp [entryFrame, mkF, argsToLocals, Value.category]; done) | rfl
def Q12 (Z : State) (a1 : Addr) (p2 : Int32) (h0 : Heap) (n0 : Nat) (v : Option Value) (h : Heap) (L : List Loc) : Prop := ∃ W : Addr, v = none ∧ Fr n0 L ∧ Keep h0 h [a1] ∧ Fld Z h a1 "java/util/BitSet" "words" "[J" (.ref W) ∧ Fld Z h a1 "java/util/BitSet" "wordsInUse" "I" (.int (0 : Int32)) ∧ own_Ag Value.long Z h W .long (1 : Int32) (fun _ => (0 : Int64)) ∧ n0 ≤ W ∧ h0.size ≤ W
set_option maxRecDepth 65536 in
set_option maxHeartbeats 40000000 in
theorem rm12 (l : Launch) (Z : State) (a0 : Array Value) (hw : ∀ d ∈ tables_1, d.before a0 Z = true) (ws : List Jvm.Cond) (a1 : Addr) (p2 : Int32) (h0 : Heap) (n0 : Nat) (Z0 : n0 ≤ h0.size) (EX : Exa Z h0 a1 "java/util/BitSet") (FW : Fld Z h0 a1 "java/util/BitSet" "words" "[J" .null) (FU : Fld Z h0 a1 "java/util/BitSet" "wordsInUse" "I" (.int (0 : Int32))) (FQ : Fld Z h0 a1 "java/util/BitSet" "sizeIsSticky" "Z" (.int (0 : Int32))) (g_a1 : n0 ≤ a1) (c0 : 0 ≤ (p2 - (1 : Int32)).toInt) (c7 : (p2 - (1 : Int32)).toInt ≤ 7) (cp : 0 ≤ p2.toInt) :
    MetFree l (⟨"java/util/BitSet", "<init>", "(I)V"⟩ : MethodName) (head1 (Jvm.Cond.code (⟨"java/util/BitSet", "<init>", "(I)V"⟩ : MethodName) jdk_92_method_5_code 2 none :: ws) ({ frames := 2, cells := 1, slots := 1, locals := 26 } : Room)) (fun a U => a = #[(.ref a1), (.int p2)] ∧ Z.Warmed39 U.vm ∧ U.heap = h0) (fun _ _ _ _ _ => True) (fun _ U o U' => ∃ v L, o = .returned v ∧ Q12 Z a1 p2 h0 n0 v U'.heap L ∧ FrameEnd U o U' L ({ frames := 2, cells := 1, slots := 1, locals := 26 } : Room).cells ({ frames := 2, cells := 1, slots := 1, locals := 26 } : Room).slots) := by
  refine MetFree.of_bodySF (plainFor_of_name pn_rm12) hisR ?_
  intro p e s m args below meth c s₁ Bd hml0 hP hK
  obtain ⟨rfl, hZ, hh⟩ := hP
  have hx := Bd.exec
  have hby := Bd.bytes
  have hml : c.maxLocals = 2 := hml0
  have hown : s.vm.findClass "java/util/BitSet" = some m.cls := findClass_of_methodNamed Bd.named
  have hnm := (name_of_methodNamed Bd.named Bd.method).1
  have X0 : Stand p l e ({ frames := 2, cells := 1, slots := 1, locals := 26 } : Room) s m #[(.ref a1), (.int p2)] below meth c s₁ [] 0 0 := Stand.of_body Bd
  have e0 : s₁.heap = h0 := by rw [← hh, Bd.state]; rfl
  have N0 := Fr.nil n0
  have pre0 : ∀ t, Steps p.tables e below (s₁.setTop (mkF m 0 #[.val (.ref a1), .val (.int p2)] [])) t → Steps p.tables e below (s₁.setTop (entryFrame m #[(.ref a1), (.int p2)] 2)) t := fun t k => castTop (ef_rm12 m a1 p2) k
  show own_Fin p e below _ _
  refine own_go pre0 ?_
  refine own_go (B := s₁.setTop (mkF m 1 #[.val (.ref a1), .val (.int p2)] [(.ref a1)])) (fun t k => ?_) ?_
  · show Steps p.tables e below (s₁.setTop (mkF m 0 #[.val (.ref a1), .val (.int p2)] [])) t
    refine XS.aloadN X0.here hx rfl (hb hby d12_0) rfl rfl ?_
    exact k
  obtain ⟨T1, X1, e1, st1⟩ := initO X0 hx hZ hown (own_at hw 74 rfl) (own_at hw 7 rfl) (own_at hw 8 rfl) e0 (g := (mkF m 1 #[.val (.ref a1), .val (.int p2)] [(.ref a1)])) rfl (by rw [hml]; rfl) rfl (hb hby d12_1) (by decide) (W := 0) (by show 2 * 0 + _ ≤ _; exact Nat.le_of_eq rfl) (by decide)
  refine own_go (fun t k => st1 t k) ?_
  refine own_go (B := T1.setTop (mkF m 6 #[.val (.ref a1), .val (.int p2)] [(.int 0), (.ref a1)])) (fun t k => ?_) ?_
  · show Steps p.tables e below (T1.setTop (mkF m 4 #[.val (.ref a1), .val (.int p2)] [])) t
    refine XS.aloadN X1.here hx rfl (hb hby d12_4) rfl rfl ?_
    refine XS.iconst X1.here hx rfl (hb hby d12_5) ?_
    exact k
  obtain ⟨T2, h2, X2, e2, W2, st2⟩ := putF X1 hx hZ hown (host := "") (Or.inl (own_at hw 75 rfl)) Via.refl e1 FU EX (Or.inl (own_at hw 76 rfl)) (own_at hw 69 rfl) (ty := .int) (by decide) rfl rfl (g := (mkF m 6 #[.val (.ref a1), .val (.int p2)] [(.int 0), (.ref a1)])) rfl rfl (hb hby d12_6)
  refine own_go (fun t k => st2 t k) ?_
  have N2 := Fr.snoc X2 N0 g_a1
  obtain ⟨LL2, X2, N2⟩ := own_abs X2 N2
  have K2 : Keep h0 h2 [a1] := (Keep.refl h0 [a1]).wr W2 (Or.inl (List.mem_of_getElem? (i := 0) rfl))
  have f2_0 := EX.wr W2
  have f2_1 := FW.other W2 (Or.inr (slot_ne (Or.inl (own_at hw 89 rfl)) (Or.inl (own_at hw 76 rfl)) (by decide) (t := (.array .long)) (t' := .int) (by decide) (by decide)))
  have f2_2 := FU.same W2
  have f2_3 := FQ.other W2 (Or.inr (slot_ne (Or.inl (own_at hw 78 rfl)) (Or.inl (own_at hw 76 rfl)) (by decide) (t := .boolean) (t' := .int) (by decide) (by decide)))
  refine own_go (B := T2.setTop (mkF m 11 #[.val (.ref a1), .val (.int p2)] [(.int 0), (.ref a1)])) (fun t k => ?_) ?_
  · show Steps p.tables e below (T2.setTop (mkF m 9 #[.val (.ref a1), .val (.int p2)] [])) t
    refine XS.aloadN X2.here hx rfl (hb hby d12_9) rfl rfl ?_
    refine XS.iconst X2.here hx rfl (hb hby d12_10) ?_
    exact k
  obtain ⟨T3, h3, X3, e3, W3, st3⟩ := putFN X2 hx hZ hown (own_at hw 77 rfl) Via.refl e2 f2_3 f2_0 (Or.inl (own_at hw 78 rfl)) (own_at hw 69 rfl) (ty := .boolean) (v' := (.int (0 : Int32))) (by decide) rfl (by decide) (g := (mkF m 11 #[.val (.ref a1), .val (.int p2)] [(.int 0), (.ref a1)])) rfl rfl (hb hby d12_11)
  refine own_go (fun t k => st3 t k) ?_
  have N3 := Fr.snoc X3 N2 g_a1
  obtain ⟨LL3, X3, N3⟩ := own_abs X3 N3
  have K3 : Keep h0 h3 [a1] := K2.wr W3 (Or.inl (List.mem_of_getElem? (i := 0) rfl))
  have f3_0 := f2_0.wr W3
  have f3_1 := f2_1.other W3 (Or.inr (slot_ne (Or.inl (own_at hw 89 rfl)) (Or.inl (own_at hw 78 rfl)) (by decide) (t := (.array .long)) (t' := .boolean) (by decide) (by decide)))
  have f3_2 := f2_2.other W3 (Or.inr (slot_ne (Or.inl (own_at hw 76 rfl)) (Or.inl (own_at hw 78 rfl)) (by decide) (t := .int) (t' := .boolean) (by decide) (by decide)))
  have f3_3 := f2_3.same W3
  refine own_go (B := T3.setTop (mkF m 47 #[.val (.ref a1), .val (.int p2)] [(.int p2), (.ref a1)])) (fun t k => ?_) ?_
  · show Steps p.tables e below (T3.setTop (mkF m 14 #[.val (.ref a1), .val (.int p2)] [])) t
    refine XS.iloadN X3.here hx rfl (hb hby d12_14) rfl ?_
    show Steps p.tables e below (T3.setTop (mkF m 15 #[.val (.ref a1), .val (.int p2)] [(.int p2)])) t
    refine XS.ifYes X3.here hx rfl (pc0 := 15) (pc' := 45) rfl (hb hby d12_15) rfl ((if0 _ _).trans (flt (own_nneg cp : ¬ (p2 < (0 : Int32)))).2.1) (by decide) (by decide) ?_
    refine XS.aloadN X3.here hx rfl (hb hby d12_45) rfl rfl ?_
    refine XS.iloadN X3.here hx rfl (hb hby d12_46) rfl ?_
    exact k
  obtain ⟨cq4, q4, q4'⟩ := f3_0.cell
  obtain ⟨_, _, ⟨T4, L4, k4, n4⟩, -, X4, ⟨Lc4, hQ4, l4, y4, z4⟩, st4⟩ := X3.privateBack hx (y := (⟨"java/util/BitSet", "initWords", "(I)V"⟩ : MethodName)) hown (mvT hZ (own_at hw 79 rfl)) (mvT hZ (own_at hw 80 rfl)) (mvT hZ (own_at hw 82 rfl)) (Cond.privateMethod_at (mvP hZ (own_at hw 81 rfl) (args := #[]))) (mvT hZ (own_at hw 83 rfl)) (by decide) (backOf (W := 0) (rm13 l Z a0 hw [] a1 p2 (0 : Int32) (0 : Int32) h3 n0 (Nat.le_trans (Nat.le_trans Z0 (Keep.of_wr W2).1) (Keep.of_wr W3).1) f3_0 f3_1 f3_2 f3_3 g_a1 c0 c7) hZ (own_at hw 83 rfl) (own_at hw 70 rfl) (by decide) (by decide)) (g := (mkF m 47 #[.val (.ref a1), .val (.int p2)] [(.int p2), (.ref a1)])) rfl (by rw [hml]; rfl) (Steps.refl _) (a := a1) (by rw [e3]; exact q4) q4' (argsL := [(.int p2)]) (rest := []) (lenOf pd_rm12_0 rfl) rfl (by show 2 * 0 + _ ≤ _; exact Nat.le_of_eq rfl) (hb hby d12_47) (fun _ _ => ⟨rfl, e3, (by decide : 0 + 1 ≤ _), (by decide : 0 + 1 ≤ _)⟩)
  dsimp only [Pt.U, Pt.locs, Pt.cells, Pt.slots] at X4 l4 y4 z4 st4 hQ4
  subst l4 y4 z4
  obtain ⟨W4, rfl, N4q, K4, Fw4, Fu4, Fq4, Aw4, gw4, sw4⟩ := hQ4
  have N4 := Fr.app N3 N4q
  obtain ⟨LL4, X4, N4⟩ := own_abs X4 N4
  refine own_go (fun t k => st4.trans k) ?_
  have KK4 : Keep h0 T4.heap [a1] := K3.trans K4 (allS (Or.inl (List.mem_of_getElem? (i := 0) rfl)) all0)
  have f4_0 := f3_0.keep K4
  refine own_go (B := T4.setTop (mkF m 52 #[.val (.ref a1), .val (.int p2)] [(.int 1), (.ref a1)])) (fun t k => ?_) ?_
  · show Steps p.tables e below (T4.setTop (mkF m 50 #[.val (.ref a1), .val (.int p2)] [])) t
    refine XS.aloadN X4.here hx rfl (hb hby d12_50) rfl rfl ?_
    refine XS.iconst X4.here hx rfl (hb hby d12_51) ?_
    exact k
  obtain ⟨T5, h5, X5, e5, W5, st5⟩ := putFN X4 hx hZ hown (own_at hw 77 rfl) Via.refl rfl Fq4 f4_0 (Or.inl (own_at hw 78 rfl)) (own_at hw 69 rfl) (ty := .boolean) (v' := (.int (1 : Int32))) (by decide) rfl (by decide) (g := (mkF m 52 #[.val (.ref a1), .val (.int p2)] [(.int 1), (.ref a1)])) rfl rfl (hb hby d12_52)
  refine own_go (fun t k => st5 t k) ?_
  have N5 := Fr.snoc X5 N4 g_a1
  obtain ⟨LL5, X5, N5⟩ := own_abs X5 N5
  have K5 : Keep h0 h5 [a1] := KK4.wr W5 (Or.inl (List.mem_of_getElem? (i := 0) rfl))
  have f5_0 := f4_0.wr W5
  have f5_1 := Fw4.other W5 (Or.inr (slot_ne (Or.inl (own_at hw 89 rfl)) (Or.inl (own_at hw 78 rfl)) (by decide) (t := (.array .long)) (t' := .boolean) (by decide) (by decide)))
  have f5_2 := Fu4.other W5 (Or.inr (slot_ne (Or.inl (own_at hw 76 rfl)) (Or.inl (own_at hw 78 rfl)) (by decide) (t := .int) (t' := .boolean) (by decide) (by decide)))
  have f5_3 := Fq4.same W5
  have f5_4 := Aw4.other W5 (Ne.symm (Nat.ne_of_lt (Nat.lt_of_lt_of_le f3_0.lt sw4)))
  obtain ⟨fs, hr, hrun, hended, hW, hsame⟩ := X5.leave (v := none) (fun _ => rfl)
  refine ⟨_, _, ?_, hrun, hended, _, _, rfl, ?_, ⟨_, rfl⟩, hW, hsame.mono (by decide) (by decide)⟩
  · show Steps p.tables e below (T5.setTop (mkF m 55 #[.val (.ref a1), .val (.int p2)] [])) _
    exact X5.returnOut hx Bd.returns (hb hby d12_55) hr
  · show Q12 Z a1 p2 h0 n0 _ T5.heap _
    rw [e5]
    exact ⟨_, rfl, N5, K5, f5_1, f5_2, f5_4, gw4, (Nat.le_trans K3.1 sw4)⟩
theorem d26_0 : decode jdk_29_method_69_code 0 = .ok (.iload_n 0, 1) := by decide +kernel
theorem d26_1 : decode jdk_29_method_69_code 1 = .ok (.iload_n 1, 1) := by decide +kernel
theorem d26_2 : decode jdk_29_method_69_code 2 = .ok (.if_icmp .gt 7, 3) := by decide +kernel
theorem d26_5 : decode jdk_29_method_69_code 5 = .ok (.iload_n 0, 1) := by decide +kernel
theorem d26_6 : decode jdk_29_method_69_code 6 = .ok (.goto 4, 3) := by decide +kernel
theorem d26_10 : decode jdk_29_method_69_code 10 = .ok (.ireturn, 1) := by decide +kernel
theorem ef_rm26 (m : MethodId) (x0 : Int32) (x1 : Int32) : entryFrame m #[(.int x0), (.int x1)] 2 = mkF m 0 #[.val (.int x0), .val (.int x1)] [] := by first | (simp [entryFrame, mkF, argsToLocals, Value.category]; done) | rfl
def Q26 (Z : State)  (h0 : Heap) (n0 : Nat) (v : Option Value) (h : Heap) (L : List Loc) : Prop := v = some (.int (1024 : Int32)) ∧ Fr n0 L ∧ h = h0
set_option maxRecDepth 65536 in
set_option maxHeartbeats 40000000 in
theorem rm26 (l : Launch) (Z : State) (a0 : Array Value) (hw : ∀ d ∈ tables_1, d.before a0 Z = true) (ws : List Jvm.Cond)  (h0 : Heap) (n0 : Nat) (Z0 : n0 ≤ h0.size) :
    MetFree l (⟨"java/lang/Math", "min", "(II)I"⟩ : MethodName) (head1 (Jvm.Cond.code (⟨"java/lang/Math", "min", "(II)I"⟩ : MethodName) jdk_29_method_69_code 2 (some .int) :: ws) ({ frames := 0, cells := 0, slots := 0, locals := 0 } : Room)) (fun a U => a = #[(.int 1024), (.int 1024)] ∧ Z.Warmed39 U.vm ∧ U.heap = h0) (fun _ _ _ _ _ => True) (fun _ U o U' => ∃ v L, o = .returned v ∧ Q26 Z  h0 n0 v U'.heap L ∧ FrameEnd U o U' L ({ frames := 0, cells := 0, slots := 0, locals := 0 } : Room).cells ({ frames := 0, cells := 0, slots := 0, locals := 0 } : Room).slots) := by
  refine MetFree.of_bodySF (Jvm.Free.JP.mathPlain rfl (by decide +kernel)) hisR ?_
  intro p e s m args below meth c s₁ Bd hml0 hP hK
  obtain ⟨rfl, hZ, hh⟩ := hP
  have hx := Bd.exec
  have hby := Bd.bytes
  have hml : c.maxLocals = 2 := hml0
  have hown : s.vm.findClass "java/lang/Math" = some m.cls := findClass_of_methodNamed Bd.named
  have hnm := (name_of_methodNamed Bd.named Bd.method).1
  have X0 : Stand p l e ({ frames := 0, cells := 0, slots := 0, locals := 0 } : Room) s m #[(.int 1024), (.int 1024)] below meth c s₁ [] 0 0 := Stand.of_body Bd
  have e0 : s₁.heap = h0 := by rw [← hh, Bd.state]; rfl
  have N0 := Fr.nil n0
  have pre0 : ∀ t, Steps p.tables e below (s₁.setTop (mkF m 0 #[.val (.int 1024), .val (.int 1024)] [])) t → Steps p.tables e below (s₁.setTop (entryFrame m #[(.int 1024), (.int 1024)] 2)) t := fun t k => castTop (ef_rm26 m (1024 : Int32) (1024 : Int32)) k
  show own_Fin p e below _ _
  refine own_go pre0 ?_
  refine own_go (B := s₁.setTop (mkF m 10 #[.val (.int 1024), .val (.int 1024)] [(.int 1024)])) (fun t k => ?_) ?_
  · show Steps p.tables e below (s₁.setTop (mkF m 0 #[.val (.int 1024), .val (.int 1024)] [])) t
    refine XS.iloadN X0.here hx rfl (hb hby d26_0) rfl ?_
    refine XS.iloadN X0.here hx rfl (hb hby d26_1) rfl ?_
    show Steps p.tables e below (s₁.setTop (mkF m 2 #[.val (.int 1024), .val (.int 1024)] [(.int 1024), (.int 1024)])) t
    refine XS.icmpNo X0.here hx rfl (hb hby d26_2) rfl (flt (by decide : ¬ ((1024 : Int32) < (1024 : Int32)))).2.2.1 ?_
    refine XS.iloadN X0.here hx rfl (hb hby d26_5) rfl ?_
    refine XS.goto X0.here hx rfl (pc0 := 6) (pc' := 10) rfl (hb hby d26_6) (by decide) (by decide) ?_
    exact k
  obtain ⟨fs, hr, hrun, hended, hW, hsame⟩ := X0.leave (v := some (.int 1024)) (fun h => by rw [Bd.returns] at h; cases h)
  refine ⟨_, _, ?_, hrun, hended, _, _, rfl, ?_, ⟨_, rfl⟩, hW, hsame.mono (by decide) (by decide)⟩
  · show Steps p.tables e below (s₁.setTop (mkF m 10 #[.val (.int 1024), .val (.int 1024)] [(.int 1024)])) _
    exact retI X0 hx Bd.returns (hb hby d26_10) hr
  · show Q26 Z  h0 n0 _ s₁.heap _
    rw [e0]
    exact ⟨rfl, N0, rfl⟩
theorem d11_0 : decode prog_47_method_25_code 0 = .ok (.new 114, 3) := by decide +kernel
theorem d11_3 : decode prog_47_method_25_code 3 = .ok (.dup, 1) := by decide +kernel
theorem d11_4 : decode prog_47_method_25_code 4 = .ok (.aload_n 0, 1) := by decide +kernel
theorem d11_5 : decode prog_47_method_25_code 5 = .ok (.getfield 82, 3) := by decide +kernel
theorem d11_8 : decode prog_47_method_25_code 8 = .ok (.invokespecial 116, 3) := by decide +kernel
theorem d11_11 : decode prog_47_method_25_code 11 = .ok (.astore_n 3, 1) := by decide +kernel
theorem d11_12 : decode prog_47_method_25_code 12 = .ok (.aload_n 3, 1) := by decide +kernel
theorem d11_13 : decode prog_47_method_25_code 13 = .ok (.iconst 0, 1) := by decide +kernel
theorem d11_14 : decode prog_47_method_25_code 14 = .ok (.invokevirtual 122, 3) := by decide +kernel
theorem d11_17 : decode prog_47_method_25_code 17 = .ok (.aload_n 3, 1) := by decide +kernel
theorem d11_18 : decode prog_47_method_25_code 18 = .ok (.iconst 1, 1) := by decide +kernel
theorem d11_19 : decode prog_47_method_25_code 19 = .ok (.invokevirtual 122, 3) := by decide +kernel
theorem d11_22 : decode prog_47_method_25_code 22 = .ok (.iconst 0, 1) := by decide +kernel
theorem d11_23 : decode prog_47_method_25_code 23 = .ok (.istore 4, 2) := by decide +kernel
theorem d11_25 : decode prog_47_method_25_code 25 = .ok (.iload 4, 2) := by decide +kernel
theorem d11_27 : decode prog_47_method_25_code 27 = .ok (.iload_n 2, 1) := by decide +kernel
theorem d11_28 : decode prog_47_method_25_code 28 = .ok (.if_icmp .ge 17, 3) := by decide +kernel
theorem d11_31 : decode prog_47_method_25_code 31 = .ok (.aload_n 3, 1) := by decide +kernel
theorem d11_32 : decode prog_47_method_25_code 32 = .ok (.aload_n 1, 1) := by decide +kernel
theorem d11_33 : decode prog_47_method_25_code 33 = .ok (.iload 4, 2) := by decide +kernel
theorem d11_35 : decode prog_47_method_25_code 35 = .ok (.iaload, 1) := by decide +kernel
theorem d11_36 : decode prog_47_method_25_code 36 = .ok (.invokevirtual 122, 3) := by decide +kernel
theorem d11_39 : decode prog_47_method_25_code 39 = .ok (.iinc 4 1, 3) := by decide +kernel
theorem d11_42 : decode prog_47_method_25_code 42 = .ok (.goto (-17), 3) := by decide +kernel
theorem d11_45 : decode prog_47_method_25_code 45 = .ok (.iconst 0, 1) := by decide +kernel
theorem d11_46 : decode prog_47_method_25_code 46 = .ok (.istore 4, 2) := by decide +kernel
theorem d11_48 : decode prog_47_method_25_code 48 = .ok (.iload 4, 2) := by decide +kernel
theorem d11_50 : decode prog_47_method_25_code 50 = .ok (.aload_n 0, 1) := by decide +kernel
theorem d11_51 : decode prog_47_method_25_code 51 = .ok (.getfield 155, 3) := by decide +kernel
theorem d11_54 : decode prog_47_method_25_code 54 = .ok (.if_icmp .ge 20, 3) := by decide +kernel
theorem d11_57 : decode prog_47_method_25_code 57 = .ok (.aload_n 3, 1) := by decide +kernel
theorem d11_58 : decode prog_47_method_25_code 58 = .ok (.aload_n 0, 1) := by decide +kernel
theorem d11_59 : decode prog_47_method_25_code 59 = .ok (.getfield 17, 3) := by decide +kernel
theorem d11_62 : decode prog_47_method_25_code 62 = .ok (.iload 4, 2) := by decide +kernel
theorem d11_64 : decode prog_47_method_25_code 64 = .ok (.iaload, 1) := by decide +kernel
theorem d11_65 : decode prog_47_method_25_code 65 = .ok (.invokevirtual 122, 3) := by decide +kernel
theorem d11_68 : decode prog_47_method_25_code 68 = .ok (.iinc 4 1, 3) := by decide +kernel
theorem d11_71 : decode prog_47_method_25_code 71 = .ok (.goto (-23), 3) := by decide +kernel
theorem d11_74 : decode prog_47_method_25_code 74 = .ok (.aload_n 0, 1) := by decide +kernel
theorem d11_75 : decode prog_47_method_25_code 75 = .ok (.getfield 82, 3) := by decide +kernel
theorem d11_78 : decode prog_47_method_25_code 78 = .ok (.iconst 1, 1) := by decide +kernel
theorem d11_79 : decode prog_47_method_25_code 79 = .ok (.isub, 1) := by decide +kernel
theorem d11_80 : decode prog_47_method_25_code 80 = .ok (.istore 4, 2) := by decide +kernel
theorem d11_82 : decode prog_47_method_25_code 82 = .ok (.iload 4, 2) := by decide +kernel
theorem d11_84 : decode prog_47_method_25_code 84 = .ok (.ifCond .lt 51, 3) := by decide +kernel
theorem d11_87 : decode prog_47_method_25_code 87 = .ok (.aload_n 3, 1) := by decide +kernel
theorem d11_88 : decode prog_47_method_25_code 88 = .ok (.iload 4, 2) := by decide +kernel
theorem d11_90 : decode prog_47_method_25_code 90 = .ok (.invokevirtual 148, 3) := by decide +kernel
theorem d11_93 : decode prog_47_method_25_code 93 = .ok (.ifCond .eq 36, 3) := by decide +kernel
theorem d11_96 : decode prog_47_method_25_code 96 = .ok (.aload_n 0, 1) := by decide +kernel
theorem d11_97 : decode prog_47_method_25_code 97 = .ok (.iload 4, 2) := by decide +kernel
theorem d11_99 : decode prog_47_method_25_code 99 = .ok (.invokevirtual 47, 3) := by decide +kernel
theorem d11_102 : decode prog_47_method_25_code 102 = .ok (.aload_n 0, 1) := by decide +kernel
theorem d11_103 : decode prog_47_method_25_code 103 = .ok (.getfield 32, 3) := by decide +kernel
theorem d11_106 : decode prog_47_method_25_code 106 = .ok (.if_icmp .ge 23, 3) := by decide +kernel
theorem d11_129 : decode prog_47_method_25_code 129 = .ok (.iinc 4 (-1), 3) := by decide +kernel
theorem d11_132 : decode prog_47_method_25_code 132 = .ok (.goto (-50), 3) := by decide +kernel
theorem d11_135 : decode prog_47_method_25_code 135 = .ok (.aload_n 0, 1) := by decide +kernel
theorem d11_136 : decode prog_47_method_25_code 136 = .ok (.getfield 20, 3) := by decide +kernel
theorem d11_139 : decode prog_47_method_25_code 139 = .ok (.astore 4, 2) := by decide +kernel
theorem d11_141 : decode prog_47_method_25_code 141 = .ok (.iconst 0, 1) := by decide +kernel
theorem d11_142 : decode prog_47_method_25_code 142 = .ok (.istore 5, 2) := by decide +kernel
theorem d11_144 : decode prog_47_method_25_code 144 = .ok (.aload_n 3, 1) := by decide +kernel
theorem d11_145 : decode prog_47_method_25_code 145 = .ok (.iconst 0, 1) := by decide +kernel
theorem d11_146 : decode prog_47_method_25_code 146 = .ok (.invokevirtual 166, 3) := by decide +kernel
theorem d11_149 : decode prog_47_method_25_code 149 = .ok (.istore 6, 2) := by decide +kernel
theorem d11_151 : decode prog_47_method_25_code 151 = .ok (.iload 6, 2) := by decide +kernel
theorem d11_153 : decode prog_47_method_25_code 153 = .ok (.ifCond .lt 112, 3) := by decide +kernel
theorem d11_156 : decode prog_47_method_25_code 156 = .ok (.aload_n 0, 1) := by decide +kernel
theorem d11_157 : decode prog_47_method_25_code 157 = .ok (.iload 6, 2) := by decide +kernel
theorem d11_159 : decode prog_47_method_25_code 159 = .ok (.invokevirtual 47, 3) := by decide +kernel
theorem d11_162 : decode prog_47_method_25_code 162 = .ok (.istore 7, 2) := by decide +kernel
theorem d11_164 : decode prog_47_method_25_code 164 = .ok (.iload 7, 2) := by decide +kernel
theorem d11_166 : decode prog_47_method_25_code 166 = .ok (.aload_n 0, 1) := by decide +kernel
theorem d11_167 : decode prog_47_method_25_code 167 = .ok (.getfield 32, 3) := by decide +kernel
theorem d11_170 : decode prog_47_method_25_code 170 = .ok (.if_icmp .ne 7, 3) := by decide +kernel
theorem d11_173 : decode prog_47_method_25_code 173 = .ok (.iconst 1, 1) := by decide +kernel
theorem d11_174 : decode prog_47_method_25_code 174 = .ok (.goto 4, 3) := by decide +kernel
theorem d11_178 : decode prog_47_method_25_code 178 = .ok (.istore 8, 2) := by decide +kernel
theorem d11_180 : decode prog_47_method_25_code 180 = .ok (.iload 8, 2) := by decide +kernel
theorem d11_182 : decode prog_47_method_25_code 182 = .ok (.ifCond .eq 12, 3) := by decide +kernel
theorem d11_185 : decode prog_47_method_25_code 185 = .ok (.aload_n 0, 1) := by decide +kernel
theorem d11_186 : decode prog_47_method_25_code 186 = .ok (.iload 6, 2) := by decide +kernel
theorem d11_188 : decode prog_47_method_25_code 188 = .ok (.invokevirtual 109, 3) := by decide +kernel
theorem d11_191 : decode prog_47_method_25_code 191 = .ok (.goto 12, 3) := by decide +kernel
theorem d11_203 : decode prog_47_method_25_code 203 = .ok (.istore 9, 2) := by decide +kernel
theorem d11_205 : decode prog_47_method_25_code 205 = .ok (.iload 8, 2) := by decide +kernel
theorem d11_207 : decode prog_47_method_25_code 207 = .ok (.ifCond .eq 12, 3) := by decide +kernel
theorem d11_210 : decode prog_47_method_25_code 210 = .ok (.aload_n 0, 1) := by decide +kernel
theorem d11_211 : decode prog_47_method_25_code 211 = .ok (.iload 6, 2) := by decide +kernel
theorem d11_213 : decode prog_47_method_25_code 213 = .ok (.invokevirtual 106, 3) := by decide +kernel
theorem d11_216 : decode prog_47_method_25_code 216 = .ok (.goto 12, 3) := by decide +kernel
theorem d11_228 : decode prog_47_method_25_code 228 = .ok (.istore 10, 2) := by decide +kernel
theorem d11_230 : decode prog_47_method_25_code 230 = .ok (.aload_n 0, 1) := by decide +kernel
theorem d11_231 : decode prog_47_method_25_code 231 = .ok (.iload 5, 2) := by decide +kernel
theorem d11_233 : decode prog_47_method_25_code 233 = .ok (.iload 7, 2) := by decide +kernel
theorem d11_235 : decode prog_47_method_25_code 235 = .ok (.iload 9, 2) := by decide +kernel
theorem d11_237 : decode prog_47_method_25_code 237 = .ok (.iload 10, 2) := by decide +kernel
theorem d11_239 : decode prog_47_method_25_code 239 = .ok (.invokevirtual 169, 3) := by decide +kernel
theorem d11_242 : decode prog_47_method_25_code 242 = .ok (.aload 4, 2) := by decide +kernel
theorem d11_244 : decode prog_47_method_25_code 244 = .ok (.iload 6, 2) := by decide +kernel
theorem d11_246 : decode prog_47_method_25_code 246 = .ok (.iload 5, 2) := by decide +kernel
theorem d11_248 : decode prog_47_method_25_code 248 = .ok (.iastore, 1) := by decide +kernel
theorem d11_249 : decode prog_47_method_25_code 249 = .ok (.iinc 5 1, 3) := by decide +kernel
theorem d11_252 : decode prog_47_method_25_code 252 = .ok (.aload_n 3, 1) := by decide +kernel
theorem d11_253 : decode prog_47_method_25_code 253 = .ok (.iload 6, 2) := by decide +kernel
theorem d11_255 : decode prog_47_method_25_code 255 = .ok (.iconst 1, 1) := by decide +kernel
theorem d11_256 : decode prog_47_method_25_code 256 = .ok (.iadd, 1) := by decide +kernel
theorem d11_257 : decode prog_47_method_25_code 257 = .ok (.invokevirtual 166, 3) := by decide +kernel
theorem d11_260 : decode prog_47_method_25_code 260 = .ok (.istore 6, 2) := by decide +kernel
theorem d11_262 : decode prog_47_method_25_code 262 = .ok (.goto (-111), 3) := by decide +kernel
theorem d11_265 : decode prog_47_method_25_code 265 = .ok (.iconst 0, 1) := by decide +kernel
theorem d11_266 : decode prog_47_method_25_code 266 = .ok (.istore 6, 2) := by decide +kernel
theorem d11_268 : decode prog_47_method_25_code 268 = .ok (.iload 6, 2) := by decide +kernel
theorem d11_270 : decode prog_47_method_25_code 270 = .ok (.iload_n 2, 1) := by decide +kernel
theorem d11_271 : decode prog_47_method_25_code 271 = .ok (.if_icmp .ge 20, 3) := by decide +kernel
theorem d11_274 : decode prog_47_method_25_code 274 = .ok (.aload_n 1, 1) := by decide +kernel
theorem d11_275 : decode prog_47_method_25_code 275 = .ok (.iload 6, 2) := by decide +kernel
theorem d11_277 : decode prog_47_method_25_code 277 = .ok (.aload 4, 2) := by decide +kernel
theorem d11_279 : decode prog_47_method_25_code 279 = .ok (.aload_n 1, 1) := by decide +kernel
theorem d11_280 : decode prog_47_method_25_code 280 = .ok (.iload 6, 2) := by decide +kernel
theorem d11_282 : decode prog_47_method_25_code 282 = .ok (.iaload, 1) := by decide +kernel
theorem d11_283 : decode prog_47_method_25_code 283 = .ok (.iaload, 1) := by decide +kernel
theorem d11_284 : decode prog_47_method_25_code 284 = .ok (.iastore, 1) := by decide +kernel
theorem d11_285 : decode prog_47_method_25_code 285 = .ok (.iinc 6 1, 3) := by decide +kernel
theorem d11_288 : decode prog_47_method_25_code 288 = .ok (.goto (-20), 3) := by decide +kernel
theorem d11_291 : decode prog_47_method_25_code 291 = .ok (.iconst 0, 1) := by decide +kernel
theorem d11_292 : decode prog_47_method_25_code 292 = .ok (.istore 6, 2) := by decide +kernel
theorem d11_294 : decode prog_47_method_25_code 294 = .ok (.iload 6, 2) := by decide +kernel
theorem d11_296 : decode prog_47_method_25_code 296 = .ok (.aload_n 0, 1) := by decide +kernel
theorem d11_297 : decode prog_47_method_25_code 297 = .ok (.getfield 155, 3) := by decide +kernel
theorem d11_300 : decode prog_47_method_25_code 300 = .ok (.if_icmp .ge 26, 3) := by decide +kernel
theorem d11_303 : decode prog_47_method_25_code 303 = .ok (.aload_n 0, 1) := by decide +kernel
theorem d11_304 : decode prog_47_method_25_code 304 = .ok (.getfield 17, 3) := by decide +kernel
theorem d11_307 : decode prog_47_method_25_code 307 = .ok (.iload 6, 2) := by decide +kernel
theorem d11_309 : decode prog_47_method_25_code 309 = .ok (.aload 4, 2) := by decide +kernel
theorem d11_311 : decode prog_47_method_25_code 311 = .ok (.aload_n 0, 1) := by decide +kernel
theorem d11_312 : decode prog_47_method_25_code 312 = .ok (.getfield 17, 3) := by decide +kernel
theorem d11_315 : decode prog_47_method_25_code 315 = .ok (.iload 6, 2) := by decide +kernel
theorem d11_317 : decode prog_47_method_25_code 317 = .ok (.iaload, 1) := by decide +kernel
theorem d11_318 : decode prog_47_method_25_code 318 = .ok (.iaload, 1) := by decide +kernel
theorem d11_319 : decode prog_47_method_25_code 319 = .ok (.iastore, 1) := by decide +kernel
theorem d11_320 : decode prog_47_method_25_code 320 = .ok (.iinc 6 1, 3) := by decide +kernel
theorem d11_323 : decode prog_47_method_25_code 323 = .ok (.goto (-29), 3) := by decide +kernel
theorem d11_326 : decode prog_47_method_25_code 326 = .ok (.aload_n 0, 1) := by decide +kernel
theorem d11_327 : decode prog_47_method_25_code 327 = .ok (.iload 5, 2) := by decide +kernel
theorem d11_329 : decode prog_47_method_25_code 329 = .ok (.putfield 82, 3) := by decide +kernel
theorem d11_332 : decode prog_47_method_25_code 332 = .ok (.aload_n 0, 1) := by decide +kernel
theorem d11_333 : decode prog_47_method_25_code 333 = .ok (.iload 5, 2) := by decide +kernel
theorem d11_335 : decode prog_47_method_25_code 335 = .ok (.putfield 13, 3) := by decide +kernel
theorem d11_338 : decode prog_47_method_25_code 338 = .ok (.sipush 1024, 3) := by decide +kernel
theorem d11_341 : decode prog_47_method_25_code 341 = .ok (.istore 6, 2) := by decide +kernel
theorem d11_343 : decode prog_47_method_25_code 343 = .ok (.iload 6, 2) := by decide +kernel
theorem d11_345 : decode prog_47_method_25_code 345 = .ok (.iconst 2, 1) := by decide +kernel
theorem d11_346 : decode prog_47_method_25_code 346 = .ok (.aload_n 0, 1) := by decide +kernel
theorem d11_347 : decode prog_47_method_25_code 347 = .ok (.getfield 13, 3) := by decide +kernel
theorem d11_350 : decode prog_47_method_25_code 350 = .ok (.imul, 1) := by decide +kernel
theorem d11_351 : decode prog_47_method_25_code 351 = .ok (.if_icmp .ge 19, 3) := by decide +kernel
theorem d11_370 : decode prog_47_method_25_code 370 = .ok (.aload_n 0, 1) := by decide +kernel
theorem d11_371 : decode prog_47_method_25_code 371 = .ok (.iload 6, 2) := by decide +kernel
theorem d11_373 : decode prog_47_method_25_code 373 = .ok (.aload_n 0, 1) := by decide +kernel
theorem d11_374 : decode prog_47_method_25_code 374 = .ok (.invokevirtual 174, 3) := by decide +kernel
theorem d11_377 : decode prog_47_method_25_code 377 = .ok (.invokestatic 73, 3) := by decide +kernel
theorem d11_380 : decode prog_47_method_25_code 380 = .ok (.invokevirtual 177, 3) := by decide +kernel
theorem d11_383 : decode prog_47_method_25_code 383 = .ok (.return_, 1) := by decide +kernel
theorem pn_rm11_2 : plainName "com/example/liaise/liaise/NodeTable" = true := by first | (simp [plainName, overriddenIn]; done) | decide +kernel
theorem pd_rm11_2_0 : parseMethodDescriptor "(I)V" = some ⟨[.int], none⟩ := by decide +kernel
theorem pd_rm11_2_1 : parseMethodDescriptor "(I)Z" = some ⟨[.int], some .boolean⟩ := by decide +kernel
theorem pd_rm11_2_2 : parseMethodDescriptor "(I)I" = some ⟨[.int], some .int⟩ := by decide +kernel
theorem pd_rm11_2_3 : parseMethodDescriptor "(IIII)V" = some ⟨[.int, .int, .int, .int], none⟩ := by decide +kernel
theorem pd_rm11_2_4 : parseMethodDescriptor "()I" = some ⟨[], some .int⟩ := by decide +kernel
theorem pd_rm11_2_5 : parseMethodDescriptor "(II)I" = some ⟨[.int, .int], some .int⟩ := by decide +kernel
theorem ef_rm11_2 (m : MethodId) (x0 : Addr) (x1 : Addr) (x2 : Int32) : entryFrame m #[(.ref x0), (.ref x1), (.int x2)] 11 = mkF m 0 #[.val (.ref x0), .val (.ref x1), .val (.int x2), .unset, .unset, .unset, .unset, .unset, .unset, .unset, .unset] [] := by first | (simp [entryFrame, mkF, argsToLocals, Value.category]; done) | rfl
def Q11_2 (Z : State) (a1 : Addr) (a2 : Addr) (N H S C : Addr) (vr hd av : Int32) (gN gH gS gC : Nat → Int32) (h0 : Heap) (n0 : Nat) (v : Option Value) (h : Heap) (L : List Loc) : Prop := ∃ gN' gH' gS' gC' : Nat → Int32, v = none ∧ Fr n0 L ∧ Keep h0 h [a1, N, H, S, C, a2] ∧ Fld Z h a1 "com/example/liaise/liaise/NodeTable" "variables" "I" (.int vr) ∧ Fld Z h a1 "com/example/liaise/liaise/NodeTable" "nodes" "[I" (.ref N) ∧ Fld Z h a1 "com/example/liaise/liaise/NodeTable" "size" "I" (.int (((0 : Int32) + (1 : Int32)) + (1 : Int32))) ∧ Fld Z h a1 "com/example/liaise/liaise/NodeTable" "kept" "I" (.int (((0 : Int32) + (1 : Int32)) + (1 : Int32))) ∧ Fld Z h a1 "com/example/liaise/liaise/NodeTable" "held" "[I" (.ref H) ∧ Fld Z h a1 "com/example/liaise/liaise/NodeTable" "holding" "I" (.int hd) ∧ Fld Z h a1 "com/example/liaise/liaise/NodeTable" "slots" "[I" (.ref S) ∧ Fld Z h a1 "com/example/liaise/liaise/NodeTable" "cache" "[I" (.ref C) ∧ own_Ag Value.int Z h N .int (3072 : Int32) gN' ∧ own_Ag Value.int Z h H .int (2 : Int32) gH' ∧ own_Ag Value.int Z h S .int (2048 : Int32) gS' ∧ own_Ag Value.int Z h C .int (2048 : Int32) gC' ∧ own_I vr (((0 : Int32) + (1 : Int32)) + (1 : Int32)) gN' gS'
set_option maxRecDepth 65536 in
set_option maxHeartbeats 40000000 in
theorem rm11_2 (l : Launch) (Z : State) (a0 : Array Value) (hw : ∀ d ∈ tables_1, d.before a0 Z = true) (ws : List Jvm.Cond) (a1 : Addr) (a2 : Addr) (N H S C : Addr) (vr hd av : Int32) (gN gH gS gC : Nat → Int32) (h0 : Heap) (n0 : Nat) (Z0 : n0 ≤ h0.size) (EX : Exa Z h0 a1 "com/example/liaise/liaise/NodeTable") (SA : Sta Z h0 "java/util/BitSet" "$assertionsDisabled" "Z" (.int (1 : Int32))) (F_variables : Fld Z h0 a1 "com/example/liaise/liaise/NodeTable" "variables" "I" (.int vr)) (F_nodes : Fld Z h0 a1 "com/example/liaise/liaise/NodeTable" "nodes" "[I" (.ref N)) (F_size : Fld Z h0 a1 "com/example/liaise/liaise/NodeTable" "size" "I" (.int (2 : Int32))) (F_kept : Fld Z h0 a1 "com/example/liaise/liaise/NodeTable" "kept" "I" (.int (2 : Int32))) (F_held : Fld Z h0 a1 "com/example/liaise/liaise/NodeTable" "held" "[I" (.ref H)) (F_holding : Fld Z h0 a1 "com/example/liaise/liaise/NodeTable" "holding" "I" (.int hd)) (F_slots : Fld Z h0 a1 "com/example/liaise/liaise/NodeTable" "slots" "[I" (.ref S)) (F_cache : Fld Z h0 a1 "com/example/liaise/liaise/NodeTable" "cache" "[I" (.ref C)) (A_N : own_Ag Value.int Z h0 N .int (3072 : Int32) gN) (A_H : own_Ag Value.int Z h0 H .int (2 : Int32) gH) (A_S : own_Ag Value.int Z h0 S .int (2048 : Int32) gS) (A_C : own_Ag Value.int Z h0 C .int (2048 : Int32) gC) (A_R : own_Ag Value.int Z h0 a2 .int (1 : Int32) (fun _ => av)) (g_a1 : n0 ≤ a1) (g_N : n0 ≤ N) (g_H : n0 ≤ H) (g_S : n0 ≤ S) (g_C : n0 ≤ C) (g_a2 : n0 ≤ a2) (dd0 : a1 ≠ N) (dd1 : a1 ≠ H) (dd2 : a1 ≠ S) (dd3 : a1 ≠ C) (dd4 : N ≠ H) (dd5 : N ≠ S) (dd6 : N ≠ C) (dd7 : H ≠ S) (dd8 : H ≠ C) (dd9 : S ≠ C) (de0 : a1 ≠ a2) (de1 : N ≠ a2) (de2 : H ≠ a2) (de3 : S ≠ a2) (de4 : C ≠ a2) (hv_0 : gN 0 = vr) (hv_1 : gN 3 = vr) (hd01 : hd = (0 : Int32) ∨ hd = (1 : Int32)) (hav : av = (0 : Int32) ∨ av = (1 : Int32)) (hH : hd = (1 : Int32) → gH 0 = av) :
    MetFree l (⟨"com/example/liaise/liaise/NodeTable", "collect", "([II)V"⟩ : MethodName) (head1 (Jvm.Cond.code (⟨"com/example/liaise/liaise/NodeTable", "collect", "([II)V"⟩ : MethodName) prog_47_method_25_code 11 none :: ws) ({ frames := 3, cells := 2, slots := 4, locals := 44 } : Room)) (fun a U => a = #[(.ref a1), (.ref a2), (.int 1)] ∧ Z.Warmed39 U.vm ∧ U.heap = h0) (fun _ _ _ _ _ => True) (fun _ U o U' => ∃ v L, o = .returned v ∧ Q11_2 Z a1 a2 N H S C vr hd av gN gH gS gC h0 n0 v U'.heap L ∧ FrameEnd U o U' L ({ frames := 3, cells := 2, slots := 4, locals := 44 } : Room).cells ({ frames := 3, cells := 2, slots := 4, locals := 44 } : Room).slots) := by
  refine MetFree.of_bodySF (plainFor_of_name pn_rm11_2) hisR ?_
  intro p e s m args below meth c s₁ Bd hml0 hP hK
  obtain ⟨rfl, hZ, hh⟩ := hP
  have hx := Bd.exec
  have hby := Bd.bytes
  have hml : c.maxLocals = 11 := hml0
  have hown : s.vm.findClass "com/example/liaise/liaise/NodeTable" = some m.cls := findClass_of_methodNamed Bd.named
  have hnm := (name_of_methodNamed Bd.named Bd.method).1
  have X0 : Stand p l e ({ frames := 3, cells := 2, slots := 4, locals := 44 } : Room) s m #[(.ref a1), (.ref a2), (.int 1)] below meth c s₁ [] 0 0 := Stand.of_body Bd
  have e0 : s₁.heap = h0 := by rw [← hh, Bd.state]; rfl
  have N0 := Fr.nil n0
  have pre0 : ∀ t, Steps p.tables e below (s₁.setTop (mkF m 0 #[.val (.ref a1), .val (.ref a2), .val (.int 1), .unset, .unset, .unset, .unset, .unset, .unset, .unset, .unset] [])) t → Steps p.tables e below (s₁.setTop (entryFrame m #[(.ref a1), (.ref a2), (.int 1)] 11)) t := fun t k => castTop (ef_rm11_2 m a1 a2 (1 : Int32)) k
  show own_Fin p e below _ _
  refine own_go pre0 ?_
  obtain ⟨T1, h1, X1, e1, E1, A1, D1, -, st1⟩ := newO X0 hx hZ hown (own_at hw 68 rfl) (own_at hw 69 rfl) (own_at hw 70 rfl) e0 (g := (mkF m 0 #[.val (.ref a1), .val (.ref a2), .val (.int 1), .unset, .unset, .unset, .unset, .unset, .unset, .unset, .unset] [])) rfl (hb hby d11_0) (by decide) (by decide)
  obtain ⟨b1, g1⟩ : ∃ z, z = h0.size := ⟨_, rfl⟩
  rw [← g1] at A1 D1 st1
  refine own_go (fun t k => st1 t k) ?_
  have g_b1 : n0 ≤ b1 := Nat.le_trans Z0 (Nat.le_of_eq g1.symm)
  have sz_b1 : h0.size ≤ b1 := Nat.le_trans (Keep.refl h0 [a1, N, H, S, C, a2]).1 (Nat.le_of_eq g1.symm)
  have ne1_a1 : a1 ≠ b1 := Nat.ne_of_lt (Nat.lt_of_lt_of_le EX.lt (Nat.le_of_eq g1.symm))
  have ne1_N : N ≠ b1 := Nat.ne_of_lt (Nat.lt_of_lt_of_le A_N.lt (Nat.le_of_eq g1.symm))
  have ne1_H : H ≠ b1 := Nat.ne_of_lt (Nat.lt_of_lt_of_le A_H.lt (Nat.le_of_eq g1.symm))
  have ne1_S : S ≠ b1 := Nat.ne_of_lt (Nat.lt_of_lt_of_le A_S.lt (Nat.le_of_eq g1.symm))
  have ne1_C : C ≠ b1 := Nat.ne_of_lt (Nat.lt_of_lt_of_le A_C.lt (Nat.le_of_eq g1.symm))
  have ne1_a2 : a2 ≠ b1 := Nat.ne_of_lt (Nat.lt_of_lt_of_le A_R.lt (Nat.le_of_eq g1.symm))
  have K1 : Keep h0 h1 [a1, N, H, S, C, a2] := (Keep.refl h0 [a1, N, H, S, C, a2]).ext E1
  have f1_0 := EX.ext E1
  have f1_1 := SA.ext E1
  have f1_2 := F_variables.ext E1
  have f1_3 := F_nodes.ext E1
  have f1_4 := F_size.ext E1
  have f1_5 := F_kept.ext E1
  have f1_6 := F_held.ext E1
  have f1_7 := F_holding.ext E1
  have f1_8 := F_slots.ext E1
  have f1_9 := F_cache.ext E1
  have f1_10 := A_N.ext E1
  have f1_11 := A_H.ext E1
  have f1_12 := A_S.ext E1
  have f1_13 := A_C.ext E1
  have f1_14 := A_R.ext E1
  have F1_wordsInUse : Fld Z h1 b1 "java/util/BitSet" "wordsInUse" "I" (.int 0) := D1 (Or.inl (own_at hw 76 rfl)) (ty := .int) (by decide)
  have F1_sizeIsSticky : Fld Z h1 b1 "java/util/BitSet" "sizeIsSticky" "Z" (.int 0) := D1 (Or.inl (own_at hw 78 rfl)) (ty := .boolean) (by decide)
  have F1_words : Fld Z h1 b1 "java/util/BitSet" "words" "[J" .null := D1 (Or.inl (own_at hw 89 rfl)) (ty := (.array .long)) (by decide)
  refine own_go (B := T1.setTop (mkF m 5 #[.val (.ref a1), .val (.ref a2), .val (.int 1), .unset, .unset, .unset, .unset, .unset, .unset, .unset, .unset] [(.ref a1), (.ref b1), (.ref b1)])) (fun t k => ?_) ?_
  · show Steps p.tables e below (T1.setTop (mkF m 3 #[.val (.ref a1), .val (.ref a2), .val (.int 1), .unset, .unset, .unset, .unset, .unset, .unset, .unset, .unset] [(.ref b1)])) t
    refine XS.dup X1.here hx rfl (hb hby d11_3) rfl rfl ?_
    refine XS.aloadN X1.here hx rfl (hb hby d11_4) rfl rfl ?_
    exact k
  obtain ⟨T2, X2, e2, st2⟩ := getF X1 hx hZ hown (host := "") (Or.inl (own_at hw 49 rfl)) Via.refl e1 f1_4 (g := (mkF m 5 #[.val (.ref a1), .val (.ref a2), .val (.int 1), .unset, .unset, .unset, .unset, .unset, .unset, .unset, .unset] [(.ref a1), (.ref b1), (.ref b1)])) rfl rfl (hb hby d11_5)
  refine own_go (fun t k => st2 t k) ?_
  have M3 := rm12 l Z a0 hw [] b1 (2 : Int32) h1 n0 (Nat.le_trans Z0 E1.1) A1 F1_words F1_wordsInUse F1_sizeIsSticky g_b1 (by decide) (by decide) (by decide)
  obtain ⟨_, _, ⟨T3, L3, k3, n3⟩, -, X3, ⟨Lc3, hQ3, l3, y3, z3⟩, st3⟩ := X2.specialBack hx (y := (⟨"java/util/BitSet", "<init>", "(I)V"⟩ : MethodName)) rfl hown (mvT hZ (own_at hw 71 rfl)) (mvT hZ (own_at hw 72 rfl)) (mvT hZ (own_at hw 73 rfl)) (by decide) (backOf (W := 1) (M3) hZ (own_at hw 73 rfl) (own_at hw 70 rfl) (by decide) (by decide)) (g := (mkF m 8 #[.val (.ref a1), .val (.ref a2), .val (.int 1), .unset, .unset, .unset, .unset, .unset, .unset, .unset, .unset] [(.int 2), (.ref b1), (.ref b1)])) rfl (by rw [hml]; rfl) (Steps.refl _) (a := b1) (argsL := [(.int 2)]) (rest := [(.ref b1)]) (lenOf pd_rm11_2_0 rfl) rfl (by show 2 * 0 + _ ≤ _; exact Nat.le_of_eq rfl) (hb hby d11_8) (fun _ _ => ⟨rfl, e2, (by decide : 1 + 1 ≤ _), (by decide : 3 + 1 ≤ _)⟩)
  dsimp only [Pt.U, Pt.locs, Pt.cells, Pt.slots] at X3 l3 y3 z3 st3 hQ3
  subst l3 y3 z3
  obtain ⟨W3, rfl, N3q, K3, Fw3, Fu3, Aw3, gw3, sw3⟩ := hQ3
  have N3 := Fr.app N0 N3q
  obtain ⟨LL3, X3, N3⟩ := own_abs X3 N3
  refine own_go (fun t k => st3.trans k) ?_
  have KK3 : Keep h0 T3.heap [a1, N, H, S, C, a2] := K1.trans K3 (allS (Or.inr sz_b1) all0)
  have f3_0 := f1_0.keep K3
  have f3_1 := own_staKeep f1_1 K3 (nsS A1.nostat ns0)
  have ni4 : a1 ∉ [b1] := (ninS ne1_a1 nin0)
  have f3_2 := f1_2.keep K3 ni4
  have f3_3 := f1_3.keep K3 ni4
  have f3_4 := f1_4.keep K3 ni4
  have f3_5 := f1_5.keep K3 ni4
  have f3_6 := f1_6.keep K3 ni4
  have f3_7 := f1_7.keep K3 ni4
  have f3_8 := f1_8.keep K3 ni4
  have f3_9 := f1_9.keep K3 ni4
  have ni5 : N ∉ [b1] := (ninS ne1_N nin0)
  have f3_10 := f1_10.keep K3 ni5
  have ni6 : H ∉ [b1] := (ninS ne1_H nin0)
  have f3_11 := f1_11.keep K3 ni6
  have ni7 : S ∉ [b1] := (ninS ne1_S nin0)
  have f3_12 := f1_12.keep K3 ni7
  have ni8 : C ∉ [b1] := (ninS ne1_C nin0)
  have f3_13 := f1_13.keep K3 ni8
  have ni9 : a2 ∉ [b1] := (ninS ne1_a2 nin0)
  have f3_14 := f1_14.keep K3 ni9
  have f3_15 := A1.keep K3
  refine own_go (B := T3.setTop (mkF m 14 #[.val (.ref a1), .val (.ref a2), .val (.int 1), .val (.ref b1), .unset, .unset, .unset, .unset, .unset, .unset, .unset] [(.int 0), (.ref b1)])) (fun t k => ?_) ?_
  · show Steps p.tables e below (T3.setTop (mkF m 11 #[.val (.ref a1), .val (.ref a2), .val (.int 1), .unset, .unset, .unset, .unset, .unset, .unset, .unset, .unset] [(.ref b1)])) t
    refine XS.astoreN X3.here hx rfl (hb hby d11_11) rfl rfl (l' := #[.val (.ref a1), .val (.ref a2), .val (.int 1), .val (.ref b1), .unset, .unset, .unset, .unset, .unset, .unset, .unset]) rfl ?_
    refine XS.aloadN X3.here hx rfl (hb hby d11_12) rfl rfl ?_
    refine XS.iconst X3.here hx rfl (hb hby d11_13) ?_
    exact k
  have M10 := rm15 l Z a0 hw [] b1 (0 : Int32) W3 (fun _ => (0 : Int64)) (0 : Int32) T3.heap n0 (Nat.le_trans (Nat.le_trans Z0 E1.1) K3.1) f3_15 Fw3 Aw3 Fu3 (Or.inl rfl) g_b1 (Nat.ne_of_lt (Nat.lt_of_lt_of_le A1.lt sw3)) gw3 f3_1 (by decide) (by decide)
  obtain ⟨cq10, kq10, q10a, q10b, q10c⟩ := isOf hZ rfl f3_15
  obtain ⟨_, _, ⟨T10, L10, k10, n10⟩, -, X10, ⟨Lc10, hQ10, l10, y10, z10⟩, st10⟩ := X3.virtualBack hx (y := (⟨"java/util/BitSet", "set", "(I)V"⟩ : MethodName)) (z := (⟨"java/util/BitSet", "set", "(I)V"⟩ : MethodName)) hown (mvT hZ (own_at hw 90 rfl)) (mvT hZ (own_at hw 91 rfl)) (notFace_of_selects (args := #[]) (mvT hZ (own_at hw 93 rfl))) (mvT hZ (own_at hw 93 rfl)) (mvT hZ (own_at hw 92 rfl)) (by decide) (backOf (W := 0) (M10) hZ (own_at hw 94 rfl) (own_at hw 70 rfl) (by decide) (by decide)) q10a q10c (g := (mkF m 14 #[.val (.ref a1), .val (.ref a2), .val (.int 1), .val (.ref b1), .unset, .unset, .unset, .unset, .unset, .unset, .unset] [(.int 0), (.ref b1)])) rfl (by rw [hml]; rfl) (Steps.refl _) (argsL := [(.int 0)]) (rest := []) (lenOf pd_rm11_2_0 rfl) rfl (by show 2 * 0 + _ ≤ _; exact Nat.le_of_eq rfl) (hb hby d11_14) (fun _ _ => ⟨rfl, rfl, (by decide : 2 + 0 ≤ _), (by decide : 4 + 0 ≤ _)⟩)
  dsimp only [Pt.U, Pt.locs, Pt.cells, Pt.slots] at X10 l10 y10 z10 st10 hQ10
  subst l10 y10 z10
  obtain ⟨gW10, rfl, N10q, K10, Fu10, Fw10, Aw10, hs10⟩ := hQ10
  have N10 := Fr.app N3 N10q
  obtain ⟨LL10, X10, N10⟩ := own_abs X10 N10
  refine own_go (fun t k => st10.trans k) ?_
  have KK10 : Keep h0 T10.heap [a1, N, H, S, C, a2] := KK3.trans K10 (allS (Or.inr sz_b1) (allS (Or.inr (Nat.le_trans K1.1 sw3)) all0))
  have f10_0 := f3_0.keep K10
  have f10_1 := own_staKeep f3_1 K10 (nsS f3_15.nostat (nsS Aw3.nestat ns0))
  have ni11 : a1 ∉ [b1, W3] := (ninS ne1_a1 (ninS (Nat.ne_of_lt (Nat.lt_of_lt_of_le f1_0.lt sw3)) nin0))
  have f10_2 := f3_2.keep K10 ni11
  have f10_3 := f3_3.keep K10 ni11
  have f10_4 := f3_4.keep K10 ni11
  have f10_5 := f3_5.keep K10 ni11
  have f10_6 := f3_6.keep K10 ni11
  have f10_7 := f3_7.keep K10 ni11
  have f10_8 := f3_8.keep K10 ni11
  have f10_9 := f3_9.keep K10 ni11
  have ni12 : N ∉ [b1, W3] := (ninS ne1_N (ninS (Nat.ne_of_lt (Nat.lt_of_lt_of_le f1_10.lt sw3)) nin0))
  have f10_10 := f3_10.keep K10 ni12
  have ni13 : H ∉ [b1, W3] := (ninS ne1_H (ninS (Nat.ne_of_lt (Nat.lt_of_lt_of_le f1_11.lt sw3)) nin0))
  have f10_11 := f3_11.keep K10 ni13
  have ni14 : S ∉ [b1, W3] := (ninS ne1_S (ninS (Nat.ne_of_lt (Nat.lt_of_lt_of_le f1_12.lt sw3)) nin0))
  have f10_12 := f3_12.keep K10 ni14
  have ni15 : C ∉ [b1, W3] := (ninS ne1_C (ninS (Nat.ne_of_lt (Nat.lt_of_lt_of_le f1_13.lt sw3)) nin0))
  have f10_13 := f3_13.keep K10 ni15
  have ni16 : a2 ∉ [b1, W3] := (ninS ne1_a2 (ninS (Nat.ne_of_lt (Nat.lt_of_lt_of_le f1_14.lt sw3)) nin0))
  have f10_14 := f3_14.keep K10 ni16
  have f10_15 := f3_15.keep K10
  refine own_go (B := T10.setTop (mkF m 19 #[.val (.ref a1), .val (.ref a2), .val (.int 1), .val (.ref b1), .unset, .unset, .unset, .unset, .unset, .unset, .unset] [(.int 1), (.ref b1)])) (fun t k => ?_) ?_
  · show Steps p.tables e below (T10.setTop (mkF m 17 #[.val (.ref a1), .val (.ref a2), .val (.int 1), .val (.ref b1), .unset, .unset, .unset, .unset, .unset, .unset, .unset] [])) t
    refine XS.aloadN X10.here hx rfl (hb hby d11_17) rfl rfl ?_
    refine XS.iconst X10.here hx rfl (hb hby d11_18) ?_
    exact k
  have M17 := rm15 l Z a0 hw [] b1 (1 : Int32) W3 gW10 (1 : Int32) T10.heap n0 (Nat.le_trans (Nat.le_trans (Nat.le_trans Z0 E1.1) K3.1) K10.1) f10_15 Fw10 Aw10 Fu10 (Or.inr rfl) g_b1 (Nat.ne_of_lt (Nat.lt_of_lt_of_le A1.lt sw3)) gw3 f10_1 (by decide) (by decide)
  obtain ⟨cq17, kq17, q17a, q17b, q17c⟩ := isOf hZ rfl f10_15
  obtain ⟨_, _, ⟨T17, L17, k17, n17⟩, -, X17, ⟨Lc17, hQ17, l17, y17, z17⟩, st17⟩ := X10.virtualBack hx (y := (⟨"java/util/BitSet", "set", "(I)V"⟩ : MethodName)) (z := (⟨"java/util/BitSet", "set", "(I)V"⟩ : MethodName)) hown (mvT hZ (own_at hw 90 rfl)) (mvT hZ (own_at hw 91 rfl)) (notFace_of_selects (args := #[]) (mvT hZ (own_at hw 93 rfl))) (mvT hZ (own_at hw 93 rfl)) (mvT hZ (own_at hw 92 rfl)) (by decide) (backOf (W := 0) (M17) hZ (own_at hw 94 rfl) (own_at hw 70 rfl) (by decide) (by decide)) q17a q17c (g := (mkF m 19 #[.val (.ref a1), .val (.ref a2), .val (.int 1), .val (.ref b1), .unset, .unset, .unset, .unset, .unset, .unset, .unset] [(.int 1), (.ref b1)])) rfl (by rw [hml]; rfl) (Steps.refl _) (argsL := [(.int 1)]) (rest := []) (lenOf pd_rm11_2_0 rfl) rfl (by show 2 * 0 + _ ≤ _; exact Nat.le_of_eq rfl) (hb hby d11_19) (fun _ _ => ⟨rfl, rfl, (by decide : 2 + 0 ≤ _), (by decide : 4 + 0 ≤ _)⟩)
  dsimp only [Pt.U, Pt.locs, Pt.cells, Pt.slots] at X17 l17 y17 z17 st17 hQ17
  subst l17 y17 z17
  obtain ⟨gW17, rfl, N17q, K17, Fu17, Fw17, Aw17, hs17⟩ := hQ17
  have N17 := Fr.app N10 N17q
  obtain ⟨LL17, X17, N17⟩ := own_abs X17 N17
  refine own_go (fun t k => st17.trans k) ?_
  have KK17 : Keep h0 T17.heap [a1, N, H, S, C, a2] := KK10.trans K17 (allS (Or.inr sz_b1) (allS (Or.inr (Nat.le_trans K1.1 sw3)) all0))
  have f17_0 := f10_0.keep K17
  have f17_1 := own_staKeep f10_1 K17 (nsS f10_15.nostat (nsS Aw10.nestat ns0))
  have f17_2 := f10_2.keep K17 ni11
  have f17_3 := f10_3.keep K17 ni11
  have f17_4 := f10_4.keep K17 ni11
  have f17_5 := f10_5.keep K17 ni11
  have f17_6 := f10_6.keep K17 ni11
  have f17_7 := f10_7.keep K17 ni11
  have f17_8 := f10_8.keep K17 ni11
  have f17_9 := f10_9.keep K17 ni11
  have f17_10 := f10_10.keep K17 ni12
  have f17_11 := f10_11.keep K17 ni13
  have f17_12 := f10_12.keep K17 ni14
  have f17_13 := f10_13.keep K17 ni15
  have f17_14 := f10_14.keep K17 ni16
  have f17_15 := f10_15.keep K17
  refine own_go (B := T17.setTop (mkF m 35 #[.val (.ref a1), .val (.ref a2), .val (.int 1), .val (.ref b1), .val (.int 0), .unset, .unset, .unset, .unset, .unset, .unset] [(.int 0), (.ref a2), (.ref b1)])) (fun t k => ?_) ?_
  · show Steps p.tables e below (T17.setTop (mkF m 22 #[.val (.ref a1), .val (.ref a2), .val (.int 1), .val (.ref b1), .unset, .unset, .unset, .unset, .unset, .unset, .unset] [])) t
    refine XS.iconst X17.here hx rfl (hb hby d11_22) ?_
    refine XS.istore X17.here hx rfl (hb hby d11_23) rfl (l' := #[.val (.ref a1), .val (.ref a2), .val (.int 1), .val (.ref b1), .val (.int 0), .unset, .unset, .unset, .unset, .unset, .unset]) rfl ?_
    refine XS.iload X17.here hx rfl (hb hby d11_25) rfl ?_
    refine XS.iloadN X17.here hx rfl (hb hby d11_27) rfl ?_
    show Steps p.tables e below (T17.setTop (mkF m 28 #[.val (.ref a1), .val (.ref a2), .val (.int 1), .val (.ref b1), .val (.int 0), .unset, .unset, .unset, .unset, .unset, .unset] [(.int 1), (.int 0)])) t
    refine XS.icmpNo X17.here hx rfl (hb hby d11_28) rfl (tlt (by decide : (0 : Int32) < (1 : Int32))).2.1 ?_
    refine XS.aloadN X17.here hx rfl (hb hby d11_31) rfl rfl ?_
    show Steps p.tables e below (T17.setTop (mkF m 32 #[.val (.ref a1), .val (.ref a2), .val (.int 1), .val (.ref b1), .val (.int 0), .unset, .unset, .unset, .unset, .unset, .unset] [(.ref b1)])) t
    refine XS.aloadN X17.here hx rfl (hb hby d11_32) rfl rfl ?_
    refine XS.iload X17.here hx rfl (hb hby d11_33) rfl ?_
    exact k
  obtain ⟨cl18, Ar18, hin18, hat18, -, -⟩ := f17_14.get (j := (0 : Int32)) (by decide) (by decide)
  have hat18 : cl18.slots[((0 : Int32)).toNatClampNeg]? = some (.int av) := hat18.trans (by first | rfl | (rw [show ((0 : Int32)).toNatClampNeg = 0 from by decide]; rfl))
  refine own_go (X17.iaload hx (j := (0 : Int32)) (v := (.int av)) (by rw [show T17.heap = T17.heap from rfl]; exact Ar18.1) (State.isArrayOf_alike hZ.alike Ar18.2.1) Ar18.2.2 hin18 hat18 (g := (mkF m 35 #[.val (.ref a1), .val (.ref a2), .val (.int 1), .val (.ref b1), .val (.int 0), .unset, .unset, .unset, .unset, .unset, .unset] [(.int 0), (.ref a2), (.ref b1)])) rfl rfl (hb hby d11_35)) ?_
  have M19 := rm15 l Z a0 hw [] b1 av W3 gW17 (1 : Int32) T17.heap n0 (Nat.le_trans (Nat.le_trans (Nat.le_trans (Nat.le_trans Z0 E1.1) K3.1) K10.1) K17.1) f17_15 Fw17 Aw17 Fu17 (Or.inr rfl) g_b1 (Nat.ne_of_lt (Nat.lt_of_lt_of_le A1.lt sw3)) gw3 f17_1 (by rcases hav with rfl | rfl <;> decide) (by rcases hav with rfl | rfl <;> decide)
  obtain ⟨cq19, kq19, q19a, q19b, q19c⟩ := isOf hZ rfl f17_15
  obtain ⟨_, _, ⟨T19, L19, k19, n19⟩, -, X19, ⟨Lc19, hQ19, l19, y19, z19⟩, st19⟩ := X17.virtualBack hx (y := (⟨"java/util/BitSet", "set", "(I)V"⟩ : MethodName)) (z := (⟨"java/util/BitSet", "set", "(I)V"⟩ : MethodName)) hown (mvT hZ (own_at hw 90 rfl)) (mvT hZ (own_at hw 91 rfl)) (notFace_of_selects (args := #[]) (mvT hZ (own_at hw 93 rfl))) (mvT hZ (own_at hw 93 rfl)) (mvT hZ (own_at hw 92 rfl)) (by decide) (backOf (W := 0) (M19) hZ (own_at hw 94 rfl) (own_at hw 70 rfl) (by decide) (by decide)) q19a q19c (g := (mkF m 36 #[.val (.ref a1), .val (.ref a2), .val (.int 1), .val (.ref b1), .val (.int 0), .unset, .unset, .unset, .unset, .unset, .unset] [(.int av), (.ref b1)])) rfl (by rw [hml]; rfl) (Steps.refl _) (argsL := [(.int av)]) (rest := []) (lenOf pd_rm11_2_0 rfl) rfl (by show 2 * 0 + _ ≤ _; exact Nat.le_of_eq rfl) (hb hby d11_36) (fun _ _ => ⟨rfl, rfl, (by decide : 2 + 0 ≤ _), (by decide : 4 + 0 ≤ _)⟩)
  dsimp only [Pt.U, Pt.locs, Pt.cells, Pt.slots] at X19 l19 y19 z19 st19 hQ19
  subst l19 y19 z19
  obtain ⟨gW19, rfl, N19q, K19, Fu19, Fw19, Aw19, hs19⟩ := hQ19
  have N19 := Fr.app N17 N19q
  obtain ⟨LL19, X19, N19⟩ := own_abs X19 N19
  refine own_go (fun t k => st19.trans k) ?_
  have KK19 : Keep h0 T19.heap [a1, N, H, S, C, a2] := KK17.trans K19 (allS (Or.inr sz_b1) (allS (Or.inr (Nat.le_trans K1.1 sw3)) all0))
  have f19_0 := f17_0.keep K19
  have f19_1 := own_staKeep f17_1 K19 (nsS f17_15.nostat (nsS Aw17.nestat ns0))
  have f19_2 := f17_2.keep K19 ni11
  have f19_3 := f17_3.keep K19 ni11
  have f19_4 := f17_4.keep K19 ni11
  have f19_5 := f17_5.keep K19 ni11
  have f19_6 := f17_6.keep K19 ni11
  have f19_7 := f17_7.keep K19 ni11
  have f19_8 := f17_8.keep K19 ni11
  have f19_9 := f17_9.keep K19 ni11
  have f19_10 := f17_10.keep K19 ni12
  have f19_11 := f17_11.keep K19 ni13
  have f19_12 := f17_12.keep K19 ni14
  have f19_13 := f17_13.keep K19 ni15
  have f19_14 := f17_14.keep K19 ni16
  have f19_15 := f17_15.keep K19
  refine own_go (B := T19.setTop (mkF m 48 #[.val (.ref a1), .val (.ref a2), .val (.int 1), .val (.ref b1), .val (.int 0), .unset, .unset, .unset, .unset, .unset, .unset] [])) (fun t k => ?_) ?_
  · show Steps p.tables e below (T19.setTop (mkF m 39 #[.val (.ref a1), .val (.ref a2), .val (.int 1), .val (.ref b1), .val (.int 0), .unset, .unset, .unset, .unset, .unset, .unset] [])) t
    refine XS.iinc X19.here hx rfl (hb hby d11_39) rfl (l' := #[.val (.ref a1), .val (.ref a2), .val (.int 1), .val (.ref b1), .val (.int (0 + 1)), .unset, .unset, .unset, .unset, .unset, .unset]) rfl ?_
    refine XS.goto X19.here hx rfl (pc0 := 42) (pc' := 25) rfl (hb hby d11_42) (by decide) (by decide) ?_
    refine XS.iload X19.here hx rfl (hb hby d11_25) rfl ?_
    refine XS.iloadN X19.here hx rfl (hb hby d11_27) rfl ?_
    show Steps p.tables e below (T19.setTop (mkF m 28 #[.val (.ref a1), .val (.ref a2), .val (.int 1), .val (.ref b1), .val (.int (0 + 1)), .unset, .unset, .unset, .unset, .unset, .unset] [(.int 1), (.int (0 + 1))])) t
    refine XS.icmpYes X19.here hx rfl (pc0 := 28) (pc' := 45) rfl (hb hby d11_28) rfl (flt (by decide : ¬ (((0 : Int32) + (1 : Int32)) < (1 : Int32)))).2.1 (by decide) (by decide) ?_
    refine XS.iconst X19.here hx rfl (hb hby d11_45) ?_
    show Steps p.tables e below (T19.setTop (mkF m 46 #[.val (.ref a1), .val (.ref a2), .val (.int 1), .val (.ref b1), .val (.int (0 + 1)), .unset, .unset, .unset, .unset, .unset, .unset] [(.int 0)])) t
    refine XS.istore X19.here hx rfl (hb hby d11_46) rfl (l' := #[.val (.ref a1), .val (.ref a2), .val (.int 1), .val (.ref b1), .val (.int 0), .unset, .unset, .unset, .unset, .unset, .unset]) rfl ?_
    exact k
  have rest : ∀ (gW : Nat → Int64) (i4 : Int32) (T : State) (locs : List Loc) (hp : Heap), gW 0 = (3 : Int64) → Stand p l e ({ frames := 3, cells := 2, slots := 4, locals := 44 } : Room) s m #[(.ref a1), (.ref a2), (.int (1 : Int32))] below meth c T locs 2 4 → T.heap = hp → Fr n0 locs → n0 ≤ hp.size → Keep h0 hp [a1, N, H, S, C, a2] → Exa Z hp a1 "com/example/liaise/liaise/NodeTable" → Sta Z hp "java/util/BitSet" "$assertionsDisabled" "Z" (.int 1) → Fld Z hp a1 "com/example/liaise/liaise/NodeTable" "variables" "I" (.int vr) → Fld Z hp a1 "com/example/liaise/liaise/NodeTable" "nodes" "[I" (.ref N) → Fld Z hp a1 "com/example/liaise/liaise/NodeTable" "size" "I" (.int 2) → Fld Z hp a1 "com/example/liaise/liaise/NodeTable" "kept" "I" (.int 2) → Fld Z hp a1 "com/example/liaise/liaise/NodeTable" "held" "[I" (.ref H) → Fld Z hp a1 "com/example/liaise/liaise/NodeTable" "holding" "I" (.int hd) → Fld Z hp a1 "com/example/liaise/liaise/NodeTable" "slots" "[I" (.ref S) → Fld Z hp a1 "com/example/liaise/liaise/NodeTable" "cache" "[I" (.ref C) → own_Ag Value.int Z hp N .int (3072 : Int32) gN → own_Ag Value.int Z hp H .int (2 : Int32) gH → own_Ag Value.int Z hp S .int (2048 : Int32) gS → own_Ag Value.int Z hp C .int (2048 : Int32) gC → own_Ag Value.int Z hp a2 .int (1 : Int32) (fun _ => av) → Exa Z hp b1 "java/util/BitSet" → Fld Z hp b1 "java/util/BitSet" "wordsInUse" "I" (.int 1) → Fld Z hp b1 "java/util/BitSet" "words" "[J" (.ref W3) → own_Ag Value.long Z hp W3 .long (1 : Int32) gW → own_Fin p e below (fun o U' => ∃ v L, o = .returned v ∧ Q11_2 Z a1 a2 N H S C vr hd av gN gH gS gC h0 n0 v U'.heap L ∧ FrameEnd s o U' L ({ frames := 3, cells := 2, slots := 4, locals := 44 } : Room).cells ({ frames := 3, cells := 2, slots := 4, locals := 44 } : Room).slots) (T.setTop (mkF m 74 #[.val (.ref a1), .val (.ref a2), .val (.int 1), .val (.ref b1), .val (.int i4), .unset, .unset, .unset, .unset, .unset, .unset] [])) := by
    intro gW i4 T locs hp hW X eT Nf Zs Kp r_0 r_1 r_2 r_3 r_4 r_5 r_6 r_7 r_8 r_9 r_10 r_11 r_12 r_13 r_14 r_15 r_16 r_17 r_18
    refine own_go (B := T.setTop (mkF m 75 #[.val (.ref a1), .val (.ref a2), .val (.int 1), .val (.ref b1), .val (.int i4), .unset, .unset, .unset, .unset, .unset, .unset] [(.ref a1)])) (fun t k => ?_) ?_
    · show Steps p.tables e below (T.setTop (mkF m 74 #[.val (.ref a1), .val (.ref a2), .val (.int 1), .val (.ref b1), .val (.int i4), .unset, .unset, .unset, .unset, .unset, .unset] [])) t
      refine XS.aloadN X.here hx rfl (hb hby d11_74) rfl rfl ?_
      exact k
    obtain ⟨T20, X20, e20, st20⟩ := getF X hx hZ hown (host := "") (Or.inl (own_at hw 49 rfl)) Via.refl eT r_4 (g := (mkF m 75 #[.val (.ref a1), .val (.ref a2), .val (.int 1), .val (.ref b1), .val (.int i4), .unset, .unset, .unset, .unset, .unset, .unset] [(.ref a1)])) rfl rfl (hb hby d11_75)
    refine own_go (fun t k => st20 t k) ?_
    refine own_go (B := T20.setTop (mkF m 90 #[.val (.ref a1), .val (.ref a2), .val (.int 1), .val (.ref b1), .val (.int (2 - 1)), .unset, .unset, .unset, .unset, .unset, .unset] [(.int (2 - 1)), (.ref b1)])) (fun t k => ?_) ?_
    · show Steps p.tables e below (T20.setTop (mkF m 78 #[.val (.ref a1), .val (.ref a2), .val (.int 1), .val (.ref b1), .val (.int i4), .unset, .unset, .unset, .unset, .unset, .unset] [(.int 2)])) t
      refine XS.iconst X20.here hx rfl (hb hby d11_78) ?_
      refine XS.isub X20.here hx rfl (hb hby d11_79) rfl ?_
      refine XS.istore X20.here hx rfl (hb hby d11_80) rfl (l' := #[.val (.ref a1), .val (.ref a2), .val (.int 1), .val (.ref b1), .val (.int (2 - 1)), .unset, .unset, .unset, .unset, .unset, .unset]) rfl ?_
      refine XS.iload X20.here hx rfl (hb hby d11_82) rfl ?_
      show Steps p.tables e below (T20.setTop (mkF m 84 #[.val (.ref a1), .val (.ref a2), .val (.int 1), .val (.ref b1), .val (.int (2 - 1)), .unset, .unset, .unset, .unset, .unset, .unset] [(.int (2 - 1))])) t
      refine XS.ifNo X20.here hx rfl (hb hby d11_84) rfl ((if0 _ _).trans (flt (by decide : ¬ (((2 : Int32) - (1 : Int32)) < (0 : Int32)))).1) ?_
      refine XS.aloadN X20.here hx rfl (hb hby d11_87) rfl rfl ?_
      show Steps p.tables e below (T20.setTop (mkF m 88 #[.val (.ref a1), .val (.ref a2), .val (.int 1), .val (.ref b1), .val (.int (2 - 1)), .unset, .unset, .unset, .unset, .unset, .unset] [(.ref b1)])) t
      refine XS.iload X20.here hx rfl (hb hby d11_88) rfl ?_
      exact k
    have M21 := rm19 l Z a0 hw [] b1 ((2 : Int32) - (1 : Int32)) W3 gW hp n0 Zs r_15 r_17 r_18 r_16 r_1 (by decide) (by decide) (by rw [hW]; decide)
    obtain ⟨cq21, kq21, q21a, q21b, q21c⟩ := isOf hZ e20 r_15
    obtain ⟨_, _, ⟨T21, L21, k21, n21⟩, -, X21, ⟨Lc21, hQ21, l21, y21, z21⟩, st21⟩ := X20.virtualBack hx (y := (⟨"java/util/BitSet", "get", "(I)Z"⟩ : MethodName)) (z := (⟨"java/util/BitSet", "get", "(I)Z"⟩ : MethodName)) hown (mvT hZ (own_at hw 111 rfl)) (mvT hZ (own_at hw 112 rfl)) (notFace_of_selects (args := #[]) (mvT hZ (own_at hw 114 rfl))) (mvT hZ (own_at hw 114 rfl)) (mvT hZ (own_at hw 113 rfl)) (by decide) (backOf (W := 0) (M21) hZ (own_at hw 115 rfl) (own_at hw 70 rfl) (by decide) (by decide)) q21a q21c (g := (mkF m 90 #[.val (.ref a1), .val (.ref a2), .val (.int 1), .val (.ref b1), .val (.int (2 - 1)), .unset, .unset, .unset, .unset, .unset, .unset] [(.int (2 - 1)), (.ref b1)])) rfl (by rw [hml]; rfl) (Steps.refl _) (argsL := [(.int (2 - 1))]) (rest := []) (lenOf pd_rm11_2_1 rfl) rfl (by show 2 * 0 + _ ≤ _; exact Nat.le_of_eq rfl) (hb hby d11_90) (fun _ _ => ⟨rfl, e20, (by decide : 2 + 0 ≤ _), (by decide : 4 + 0 ≤ _)⟩)
    dsimp only [Pt.U, Pt.locs, Pt.cells, Pt.slots] at X21 l21 y21 z21 st21 hQ21
    subst l21 y21 z21
    obtain ⟨rfl, N21q, hh21⟩ := hQ21
    have N21 := Fr.app Nf N21q
    obtain ⟨LL21, X21, N21⟩ := own_abs X21 N21
    refine own_go (fun t k => st21.trans k) ?_
    refine own_go (B := T21.setTop (mkF m 99 #[.val (.ref a1), .val (.ref a2), .val (.int 1), .val (.ref b1), .val (.int (2 - 1)), .unset, .unset, .unset, .unset, .unset, .unset] [(.int (2 - 1)), (.ref a1)])) (fun t k => ?_) ?_
    · show Steps p.tables e below (T21.setTop (mkF m 93 #[.val (.ref a1), .val (.ref a2), .val (.int 1), .val (.ref b1), .val (.int (2 - 1)), .unset, .unset, .unset, .unset, .unset, .unset] [(.int 1)])) t
      refine XS.ifNo X21.here hx rfl (hb hby d11_93) rfl ((if0 _ _).trans (feq (by decide : ¬ ((1 : Int32) = (0 : Int32)))).1) ?_
      refine XS.aloadN X21.here hx rfl (hb hby d11_96) rfl rfl ?_
      refine XS.iload X21.here hx rfl (hb hby d11_97) rfl ?_
      exact k
    have M22 := rm20 l Z a0 hw [] a1 ((2 : Int32) - (1 : Int32)) N gN hp n0 Zs r_3 r_10 (by decide) (by decide)
    obtain ⟨cq22, kq22, q22a, q22b, q22c⟩ := isOf hZ hh21 r_0
    obtain ⟨_, _, ⟨T22, L22, k22, n22⟩, -, X22, ⟨Lc22, hQ22, l22, y22, z22⟩, st22⟩ := X21.virtualBack hx (y := (⟨"com/example/liaise/liaise/NodeTable", "variable", "(I)I"⟩ : MethodName)) (z := (⟨"com/example/liaise/liaise/NodeTable", "variable", "(I)I"⟩ : MethodName)) hown (mvT hZ (own_at hw 116 rfl)) (mvT hZ (own_at hw 117 rfl)) (notFace_of_selects (args := #[]) (mvT hZ (own_at hw 119 rfl))) (mvT hZ (own_at hw 119 rfl)) (mvT hZ (own_at hw 118 rfl)) (by decide) (backOf (W := 0) (M22) hZ (own_at hw 120 rfl) (own_at hw 2 rfl) (by decide) (by decide)) q22a q22c (g := (mkF m 99 #[.val (.ref a1), .val (.ref a2), .val (.int 1), .val (.ref b1), .val (.int (2 - 1)), .unset, .unset, .unset, .unset, .unset, .unset] [(.int (2 - 1)), (.ref a1)])) rfl (by rw [hml]; rfl) (Steps.refl _) (argsL := [(.int (2 - 1))]) (rest := []) (lenOf pd_rm11_2_2 rfl) rfl (by show 2 * 0 + _ ≤ _; exact Nat.le_of_eq rfl) (hb hby d11_99) (fun _ _ => ⟨rfl, hh21, (by decide : 2 + 0 ≤ _), (by decide : 4 + 0 ≤ _)⟩)
    dsimp only [Pt.U, Pt.locs, Pt.cells, Pt.slots] at X22 l22 y22 z22 st22 hQ22
    subst l22 y22 z22
    obtain ⟨rfl, N22q, hh22⟩ := hQ22
    have N22 := Fr.app N21 N22q
    obtain ⟨LL22, X22, N22⟩ := own_abs X22 N22
    refine own_go (fun t k => st22.trans k) ?_
    refine own_go (B := T22.setTop (mkF m 103 #[.val (.ref a1), .val (.ref a2), .val (.int 1), .val (.ref b1), .val (.int (2 - 1)), .unset, .unset, .unset, .unset, .unset, .unset] [(.ref a1), (.int (gN (((3 : Int32) * ((2 : Int32) - (1 : Int32)))).toNatClampNeg))])) (fun t k => ?_) ?_
    · show Steps p.tables e below (T22.setTop (mkF m 102 #[.val (.ref a1), .val (.ref a2), .val (.int 1), .val (.ref b1), .val (.int (2 - 1)), .unset, .unset, .unset, .unset, .unset, .unset] [(.int (gN (((3 : Int32) * ((2 : Int32) - (1 : Int32)))).toNatClampNeg))])) t
      refine XS.aloadN X22.here hx rfl (hb hby d11_102) rfl rfl ?_
      exact k
    obtain ⟨T23, X23, e23, st23⟩ := getF X22 hx hZ hown (host := "") (Or.inl (own_at hw 18 rfl)) Via.refl hh22 r_2 (g := (mkF m 103 #[.val (.ref a1), .val (.ref a2), .val (.int 1), .val (.ref b1), .val (.int (2 - 1)), .unset, .unset, .unset, .unset, .unset, .unset] [(.ref a1), (.int (gN (((3 : Int32) * ((2 : Int32) - (1 : Int32)))).toNatClampNeg))])) rfl rfl (hb hby d11_103)
    refine own_go (fun t k => st23 t k) ?_
    refine own_go (B := T23.setTop (mkF m 90 #[.val (.ref a1), .val (.ref a2), .val (.int 1), .val (.ref b1), .val (.int ((2 - 1) + (-1))), .unset, .unset, .unset, .unset, .unset, .unset] [(.int ((2 - 1) + (-1))), (.ref b1)])) (fun t k => ?_) ?_
    · show Steps p.tables e below (T23.setTop (mkF m 106 #[.val (.ref a1), .val (.ref a2), .val (.int 1), .val (.ref b1), .val (.int (2 - 1)), .unset, .unset, .unset, .unset, .unset, .unset] [(.int vr), (.int (gN (((3 : Int32) * ((2 : Int32) - (1 : Int32)))).toNatClampNeg))])) t
      refine XS.icmpYes X23.here hx rfl (pc0 := 106) (pc' := 129) rfl (hb hby d11_106) rfl (flt (fun q => absurd (((congrArg gN (by decide : ((3 : Int32) * ((2 : Int32) - (1 : Int32))).toNatClampNeg = 3)).trans hv_1) ▸ q : vr < vr) Int32.lt_irrefl : ¬ ((gN (((3 : Int32) * ((2 : Int32) - (1 : Int32)))).toNatClampNeg) < vr))).2.1 (by decide) (by decide) ?_
      refine XS.iinc X23.here hx rfl (hb hby d11_129) rfl (l' := #[.val (.ref a1), .val (.ref a2), .val (.int 1), .val (.ref b1), .val (.int ((2 - 1) + (-1))), .unset, .unset, .unset, .unset, .unset, .unset]) rfl ?_
      refine XS.goto X23.here hx rfl (pc0 := 132) (pc' := 82) rfl (hb hby d11_132) (by decide) (by decide) ?_
      refine XS.iload X23.here hx rfl (hb hby d11_82) rfl ?_
      show Steps p.tables e below (T23.setTop (mkF m 84 #[.val (.ref a1), .val (.ref a2), .val (.int 1), .val (.ref b1), .val (.int ((2 - 1) + (-1))), .unset, .unset, .unset, .unset, .unset, .unset] [(.int ((2 - 1) + (-1)))])) t
      refine XS.ifNo X23.here hx rfl (hb hby d11_84) rfl ((if0 _ _).trans (flt (by decide : ¬ ((((2 : Int32) - (1 : Int32)) + (-1 : Int32)) < (0 : Int32)))).1) ?_
      refine XS.aloadN X23.here hx rfl (hb hby d11_87) rfl rfl ?_
      show Steps p.tables e below (T23.setTop (mkF m 88 #[.val (.ref a1), .val (.ref a2), .val (.int 1), .val (.ref b1), .val (.int ((2 - 1) + (-1))), .unset, .unset, .unset, .unset, .unset, .unset] [(.ref b1)])) t
      refine XS.iload X23.here hx rfl (hb hby d11_88) rfl ?_
      exact k
    have M24 := rm19 l Z a0 hw [] b1 (((2 : Int32) - (1 : Int32)) + (-1 : Int32)) W3 gW hp n0 Zs r_15 r_17 r_18 r_16 r_1 (by decide) (by decide) (by rw [hW]; decide)
    obtain ⟨cq24, kq24, q24a, q24b, q24c⟩ := isOf hZ e23 r_15
    obtain ⟨_, _, ⟨T24, L24, k24, n24⟩, -, X24, ⟨Lc24, hQ24, l24, y24, z24⟩, st24⟩ := X23.virtualBack hx (y := (⟨"java/util/BitSet", "get", "(I)Z"⟩ : MethodName)) (z := (⟨"java/util/BitSet", "get", "(I)Z"⟩ : MethodName)) hown (mvT hZ (own_at hw 111 rfl)) (mvT hZ (own_at hw 112 rfl)) (notFace_of_selects (args := #[]) (mvT hZ (own_at hw 114 rfl))) (mvT hZ (own_at hw 114 rfl)) (mvT hZ (own_at hw 113 rfl)) (by decide) (backOf (W := 0) (M24) hZ (own_at hw 115 rfl) (own_at hw 70 rfl) (by decide) (by decide)) q24a q24c (g := (mkF m 90 #[.val (.ref a1), .val (.ref a2), .val (.int 1), .val (.ref b1), .val (.int ((2 - 1) + (-1))), .unset, .unset, .unset, .unset, .unset, .unset] [(.int ((2 - 1) + (-1))), (.ref b1)])) rfl (by rw [hml]; rfl) (Steps.refl _) (argsL := [(.int ((2 - 1) + (-1)))]) (rest := []) (lenOf pd_rm11_2_1 rfl) rfl (by show 2 * 0 + _ ≤ _; exact Nat.le_of_eq rfl) (hb hby d11_90) (fun _ _ => ⟨rfl, e23, (by decide : 2 + 0 ≤ _), (by decide : 4 + 0 ≤ _)⟩)
    dsimp only [Pt.U, Pt.locs, Pt.cells, Pt.slots] at X24 l24 y24 z24 st24 hQ24
    subst l24 y24 z24
    obtain ⟨rfl, N24q, hh24⟩ := hQ24
    have N24 := Fr.app N22 N24q
    obtain ⟨LL24, X24, N24⟩ := own_abs X24 N24
    refine own_go (fun t k => st24.trans k) ?_
    refine own_go (B := T24.setTop (mkF m 99 #[.val (.ref a1), .val (.ref a2), .val (.int 1), .val (.ref b1), .val (.int ((2 - 1) + (-1))), .unset, .unset, .unset, .unset, .unset, .unset] [(.int ((2 - 1) + (-1))), (.ref a1)])) (fun t k => ?_) ?_
    · show Steps p.tables e below (T24.setTop (mkF m 93 #[.val (.ref a1), .val (.ref a2), .val (.int 1), .val (.ref b1), .val (.int ((2 - 1) + (-1))), .unset, .unset, .unset, .unset, .unset, .unset] [(.int 1)])) t
      refine XS.ifNo X24.here hx rfl (hb hby d11_93) rfl ((if0 _ _).trans (feq (by decide : ¬ ((1 : Int32) = (0 : Int32)))).1) ?_
      refine XS.aloadN X24.here hx rfl (hb hby d11_96) rfl rfl ?_
      refine XS.iload X24.here hx rfl (hb hby d11_97) rfl ?_
      exact k
    have M25 := rm20 l Z a0 hw [] a1 (((2 : Int32) - (1 : Int32)) + (-1 : Int32)) N gN hp n0 Zs r_3 r_10 (by decide) (by decide)
    obtain ⟨cq25, kq25, q25a, q25b, q25c⟩ := isOf hZ hh24 r_0
    obtain ⟨_, _, ⟨T25, L25, k25, n25⟩, -, X25, ⟨Lc25, hQ25, l25, y25, z25⟩, st25⟩ := X24.virtualBack hx (y := (⟨"com/example/liaise/liaise/NodeTable", "variable", "(I)I"⟩ : MethodName)) (z := (⟨"com/example/liaise/liaise/NodeTable", "variable", "(I)I"⟩ : MethodName)) hown (mvT hZ (own_at hw 116 rfl)) (mvT hZ (own_at hw 117 rfl)) (notFace_of_selects (args := #[]) (mvT hZ (own_at hw 119 rfl))) (mvT hZ (own_at hw 119 rfl)) (mvT hZ (own_at hw 118 rfl)) (by decide) (backOf (W := 0) (M25) hZ (own_at hw 120 rfl) (own_at hw 2 rfl) (by decide) (by decide)) q25a q25c (g := (mkF m 99 #[.val (.ref a1), .val (.ref a2), .val (.int 1), .val (.ref b1), .val (.int ((2 - 1) + (-1))), .unset, .unset, .unset, .unset, .unset, .unset] [(.int ((2 - 1) + (-1))), (.ref a1)])) rfl (by rw [hml]; rfl) (Steps.refl _) (argsL := [(.int ((2 - 1) + (-1)))]) (rest := []) (lenOf pd_rm11_2_2 rfl) rfl (by show 2 * 0 + _ ≤ _; exact Nat.le_of_eq rfl) (hb hby d11_99) (fun _ _ => ⟨rfl, hh24, (by decide : 2 + 0 ≤ _), (by decide : 4 + 0 ≤ _)⟩)
    dsimp only [Pt.U, Pt.locs, Pt.cells, Pt.slots] at X25 l25 y25 z25 st25 hQ25
    subst l25 y25 z25
    obtain ⟨rfl, N25q, hh25⟩ := hQ25
    have N25 := Fr.app N24 N25q
    obtain ⟨LL25, X25, N25⟩ := own_abs X25 N25
    refine own_go (fun t k => st25.trans k) ?_
    refine own_go (B := T25.setTop (mkF m 103 #[.val (.ref a1), .val (.ref a2), .val (.int 1), .val (.ref b1), .val (.int ((2 - 1) + (-1))), .unset, .unset, .unset, .unset, .unset, .unset] [(.ref a1), (.int (gN (((3 : Int32) * (((2 : Int32) - (1 : Int32)) + (-1 : Int32)))).toNatClampNeg))])) (fun t k => ?_) ?_
    · show Steps p.tables e below (T25.setTop (mkF m 102 #[.val (.ref a1), .val (.ref a2), .val (.int 1), .val (.ref b1), .val (.int ((2 - 1) + (-1))), .unset, .unset, .unset, .unset, .unset, .unset] [(.int (gN (((3 : Int32) * (((2 : Int32) - (1 : Int32)) + (-1 : Int32)))).toNatClampNeg))])) t
      refine XS.aloadN X25.here hx rfl (hb hby d11_102) rfl rfl ?_
      exact k
    obtain ⟨T26, X26, e26, st26⟩ := getF X25 hx hZ hown (host := "") (Or.inl (own_at hw 18 rfl)) Via.refl hh25 r_2 (g := (mkF m 103 #[.val (.ref a1), .val (.ref a2), .val (.int 1), .val (.ref b1), .val (.int ((2 - 1) + (-1))), .unset, .unset, .unset, .unset, .unset, .unset] [(.ref a1), (.int (gN (((3 : Int32) * (((2 : Int32) - (1 : Int32)) + (-1 : Int32)))).toNatClampNeg))])) rfl rfl (hb hby d11_103)
    refine own_go (fun t k => st26 t k) ?_
    refine own_go (B := T26.setTop (mkF m 136 #[.val (.ref a1), .val (.ref a2), .val (.int 1), .val (.ref b1), .val (.int (((2 - 1) + (-1)) + (-1))), .unset, .unset, .unset, .unset, .unset, .unset] [(.ref a1)])) (fun t k => ?_) ?_
    · show Steps p.tables e below (T26.setTop (mkF m 106 #[.val (.ref a1), .val (.ref a2), .val (.int 1), .val (.ref b1), .val (.int ((2 - 1) + (-1))), .unset, .unset, .unset, .unset, .unset, .unset] [(.int vr), (.int (gN (((3 : Int32) * (((2 : Int32) - (1 : Int32)) + (-1 : Int32)))).toNatClampNeg))])) t
      refine XS.icmpYes X26.here hx rfl (pc0 := 106) (pc' := 129) rfl (hb hby d11_106) rfl (flt (fun q => absurd (((congrArg gN (by decide : ((3 : Int32) * (((2 : Int32) - (1 : Int32)) + (-1 : Int32))).toNatClampNeg = 0)).trans hv_0) ▸ q : vr < vr) Int32.lt_irrefl : ¬ ((gN (((3 : Int32) * (((2 : Int32) - (1 : Int32)) + (-1 : Int32)))).toNatClampNeg) < vr))).2.1 (by decide) (by decide) ?_
      refine XS.iinc X26.here hx rfl (hb hby d11_129) rfl (l' := #[.val (.ref a1), .val (.ref a2), .val (.int 1), .val (.ref b1), .val (.int (((2 - 1) + (-1)) + (-1))), .unset, .unset, .unset, .unset, .unset, .unset]) rfl ?_
      refine XS.goto X26.here hx rfl (pc0 := 132) (pc' := 82) rfl (hb hby d11_132) (by decide) (by decide) ?_
      refine XS.iload X26.here hx rfl (hb hby d11_82) rfl ?_
      show Steps p.tables e below (T26.setTop (mkF m 84 #[.val (.ref a1), .val (.ref a2), .val (.int 1), .val (.ref b1), .val (.int (((2 - 1) + (-1)) + (-1))), .unset, .unset, .unset, .unset, .unset, .unset] [(.int (((2 - 1) + (-1)) + (-1)))])) t
      refine XS.ifYes X26.here hx rfl (pc0 := 84) (pc' := 135) rfl (hb hby d11_84) rfl ((if0 _ _).trans (tlt (by decide : ((((2 : Int32) - (1 : Int32)) + (-1 : Int32)) + (-1 : Int32)) < (0 : Int32))).1) (by decide) (by decide) ?_
      refine XS.aloadN X26.here hx rfl (hb hby d11_135) rfl rfl ?_
      exact k
    obtain ⟨T27, X27, e27, st27⟩ := getF X26 hx hZ hown (host := "") (Or.inl (own_at hw 16 rfl)) Via.refl e26 r_8 (g := (mkF m 136 #[.val (.ref a1), .val (.ref a2), .val (.int 1), .val (.ref b1), .val (.int (((2 - 1) + (-1)) + (-1))), .unset, .unset, .unset, .unset, .unset, .unset] [(.ref a1)])) rfl rfl (hb hby d11_136)
    refine own_go (fun t k => st27 t k) ?_
    refine own_go (B := T27.setTop (mkF m 146 #[.val (.ref a1), .val (.ref a2), .val (.int 1), .val (.ref b1), .val (.ref S), .val (.int 0), .unset, .unset, .unset, .unset, .unset] [(.int 0), (.ref b1)])) (fun t k => ?_) ?_
    · show Steps p.tables e below (T27.setTop (mkF m 139 #[.val (.ref a1), .val (.ref a2), .val (.int 1), .val (.ref b1), .val (.int (((2 - 1) + (-1)) + (-1))), .unset, .unset, .unset, .unset, .unset, .unset] [(.ref S)])) t
      refine XS.astore X27.here hx rfl (hb hby d11_139) rfl rfl (l' := #[.val (.ref a1), .val (.ref a2), .val (.int 1), .val (.ref b1), .val (.ref S), .unset, .unset, .unset, .unset, .unset, .unset]) rfl ?_
      refine XS.iconst X27.here hx rfl (hb hby d11_141) ?_
      refine XS.istore X27.here hx rfl (hb hby d11_142) rfl (l' := #[.val (.ref a1), .val (.ref a2), .val (.int 1), .val (.ref b1), .val (.ref S), .val (.int 0), .unset, .unset, .unset, .unset, .unset]) rfl ?_
      refine XS.aloadN X27.here hx rfl (hb hby d11_144) rfl rfl ?_
      refine XS.iconst X27.here hx rfl (hb hby d11_145) ?_
      exact k
    have M28 := rm21 l Z a0 hw [] b1 (0 : Int32) W3 gW (3 : Int64) (0 : Int32) (0 : Int32) hp n0 Zs r_15 r_17 r_18 r_16 r_1 (by decide) (by decide) (by rw [hW]; decide) (by decide) (by decide) (by decide) (by decide)
    obtain ⟨cq28, kq28, q28a, q28b, q28c⟩ := isOf hZ e27 r_15
    obtain ⟨_, _, ⟨T28, L28, k28, n28⟩, -, X28, ⟨Lc28, hQ28, l28, y28, z28⟩, st28⟩ := X27.virtualBack hx (y := (⟨"java/util/BitSet", "nextSetBit", "(I)I"⟩ : MethodName)) (z := (⟨"java/util/BitSet", "nextSetBit", "(I)I"⟩ : MethodName)) hown (mvT hZ (own_at hw 121 rfl)) (mvT hZ (own_at hw 122 rfl)) (notFace_of_selects (args := #[]) (mvT hZ (own_at hw 124 rfl))) (mvT hZ (own_at hw 124 rfl)) (mvT hZ (own_at hw 123 rfl)) (by decide) (backOf (W := 0) (M28) hZ (own_at hw 125 rfl) (own_at hw 70 rfl) (by decide) (by decide)) q28a q28c (g := (mkF m 146 #[.val (.ref a1), .val (.ref a2), .val (.int 1), .val (.ref b1), .val (.ref S), .val (.int 0), .unset, .unset, .unset, .unset, .unset] [(.int 0), (.ref b1)])) rfl (by rw [hml]; rfl) (Steps.refl _) (argsL := [(.int 0)]) (rest := []) (lenOf pd_rm11_2_2 rfl) rfl (by show 2 * 0 + _ ≤ _; exact Nat.le_of_eq rfl) (hb hby d11_146) (fun _ _ => ⟨rfl, e27, (by decide : 2 + 0 ≤ _), (by decide : 4 + 0 ≤ _)⟩)
    dsimp only [Pt.U, Pt.locs, Pt.cells, Pt.slots] at X28 l28 y28 z28 st28 hQ28
    subst l28 y28 z28
    obtain ⟨rfl, N28q, hh28⟩ := hQ28
    have N28 := Fr.app N25 N28q
    obtain ⟨LL28, X28, N28⟩ := own_abs X28 N28
    refine own_go (fun t k => st28.trans k) ?_
    refine own_go (B := T28.setTop (mkF m 159 #[.val (.ref a1), .val (.ref a2), .val (.int 1), .val (.ref b1), .val (.ref S), .val (.int 0), .val (.int 0), .unset, .unset, .unset, .unset] [(.int 0), (.ref a1)])) (fun t k => ?_) ?_
    · show Steps p.tables e below (T28.setTop (mkF m 149 #[.val (.ref a1), .val (.ref a2), .val (.int 1), .val (.ref b1), .val (.ref S), .val (.int 0), .unset, .unset, .unset, .unset, .unset] [(.int 0)])) t
      refine XS.istore X28.here hx rfl (hb hby d11_149) rfl (l' := #[.val (.ref a1), .val (.ref a2), .val (.int 1), .val (.ref b1), .val (.ref S), .val (.int 0), .val (.int 0), .unset, .unset, .unset, .unset]) rfl ?_
      refine XS.iload X28.here hx rfl (hb hby d11_151) rfl ?_
      show Steps p.tables e below (T28.setTop (mkF m 153 #[.val (.ref a1), .val (.ref a2), .val (.int 1), .val (.ref b1), .val (.ref S), .val (.int 0), .val (.int 0), .unset, .unset, .unset, .unset] [(.int 0)])) t
      refine XS.ifNo X28.here hx rfl (hb hby d11_153) rfl ((if0 _ _).trans (flt (by decide : ¬ ((0 : Int32) < (0 : Int32)))).1) ?_
      refine XS.aloadN X28.here hx rfl (hb hby d11_156) rfl rfl ?_
      refine XS.iload X28.here hx rfl (hb hby d11_157) rfl ?_
      exact k
    have M29 := rm20 l Z a0 hw [] a1 (0 : Int32) N gN hp n0 Zs r_3 r_10 (by decide) (by decide)
    obtain ⟨cq29, kq29, q29a, q29b, q29c⟩ := isOf hZ hh28 r_0
    obtain ⟨_, _, ⟨T29, L29, k29, n29⟩, -, X29, ⟨Lc29, hQ29, l29, y29, z29⟩, st29⟩ := X28.virtualBack hx (y := (⟨"com/example/liaise/liaise/NodeTable", "variable", "(I)I"⟩ : MethodName)) (z := (⟨"com/example/liaise/liaise/NodeTable", "variable", "(I)I"⟩ : MethodName)) hown (mvT hZ (own_at hw 116 rfl)) (mvT hZ (own_at hw 117 rfl)) (notFace_of_selects (args := #[]) (mvT hZ (own_at hw 119 rfl))) (mvT hZ (own_at hw 119 rfl)) (mvT hZ (own_at hw 118 rfl)) (by decide) (backOf (W := 0) (M29) hZ (own_at hw 120 rfl) (own_at hw 2 rfl) (by decide) (by decide)) q29a q29c (g := (mkF m 159 #[.val (.ref a1), .val (.ref a2), .val (.int 1), .val (.ref b1), .val (.ref S), .val (.int 0), .val (.int 0), .unset, .unset, .unset, .unset] [(.int 0), (.ref a1)])) rfl (by rw [hml]; rfl) (Steps.refl _) (argsL := [(.int 0)]) (rest := []) (lenOf pd_rm11_2_2 rfl) rfl (by show 2 * 0 + _ ≤ _; exact Nat.le_of_eq rfl) (hb hby d11_159) (fun _ _ => ⟨rfl, hh28, (by decide : 2 + 0 ≤ _), (by decide : 4 + 0 ≤ _)⟩)
    dsimp only [Pt.U, Pt.locs, Pt.cells, Pt.slots] at X29 l29 y29 z29 st29 hQ29
    subst l29 y29 z29
    obtain ⟨rfl, N29q, hh29⟩ := hQ29
    have N29 := Fr.app N28 N29q
    obtain ⟨LL29, X29, N29⟩ := own_abs X29 N29
    refine own_go (fun t k => st29.trans k) ?_
    refine own_go (B := T29.setTop (mkF m 164 #[.val (.ref a1), .val (.ref a2), .val (.int 1), .val (.ref b1), .val (.ref S), .val (.int 0), .val (.int 0), .val (.int (gN (((3 : Int32) * (0 : Int32))).toNatClampNeg)), .unset, .unset, .unset] [])) (fun t k => ?_) ?_
    · show Steps p.tables e below (T29.setTop (mkF m 162 #[.val (.ref a1), .val (.ref a2), .val (.int 1), .val (.ref b1), .val (.ref S), .val (.int 0), .val (.int 0), .unset, .unset, .unset, .unset] [(.int (gN (((3 : Int32) * (0 : Int32))).toNatClampNeg))])) t
      refine XS.istore X29.here hx rfl (hb hby d11_162) rfl (l' := #[.val (.ref a1), .val (.ref a2), .val (.int 1), .val (.ref b1), .val (.ref S), .val (.int 0), .val (.int 0), .val (.int (gN (((3 : Int32) * (0 : Int32))).toNatClampNeg)), .unset, .unset, .unset]) rfl ?_
      exact k
    obtain ⟨te, hte⟩ : ∃ z : Int32, z = (gN (((3 : Int32) * (0 : Int32))).toNatClampNeg) := ⟨_, rfl⟩
    rw [← hte]
    refine own_go (B := T29.setTop (mkF m 167 #[.val (.ref a1), .val (.ref a2), .val (.int 1), .val (.ref b1), .val (.ref S), .val (.int 0), .val (.int 0), .val (.int te), .unset, .unset, .unset] [(.ref a1), (.int te)])) (fun t k => ?_) ?_
    · show Steps p.tables e below (T29.setTop (mkF m 164 #[.val (.ref a1), .val (.ref a2), .val (.int 1), .val (.ref b1), .val (.ref S), .val (.int 0), .val (.int 0), .val (.int te), .unset, .unset, .unset] [])) t
      refine XS.iload X29.here hx rfl (hb hby d11_164) rfl ?_
      refine XS.aloadN X29.here hx rfl (hb hby d11_166) rfl rfl ?_
      exact k
    obtain ⟨T30, X30, e30, st30⟩ := getF X29 hx hZ hown (host := "") (Or.inl (own_at hw 18 rfl)) Via.refl hh29 r_2 (g := (mkF m 167 #[.val (.ref a1), .val (.ref a2), .val (.int 1), .val (.ref b1), .val (.ref S), .val (.int 0), .val (.int 0), .val (.int te), .unset, .unset, .unset] [(.ref a1), (.int te)])) rfl rfl (hb hby d11_167)
    refine own_go (fun t k => st30 t k) ?_
    refine own_go (B := T30.setTop (mkF m 188 #[.val (.ref a1), .val (.ref a2), .val (.int 1), .val (.ref b1), .val (.ref S), .val (.int 0), .val (.int 0), .val (.int te), .val (.int 1), .unset, .unset] [(.int 0), (.ref a1)])) (fun t k => ?_) ?_
    · show Steps p.tables e below (T30.setTop (mkF m 170 #[.val (.ref a1), .val (.ref a2), .val (.int 1), .val (.ref b1), .val (.ref S), .val (.int 0), .val (.int 0), .val (.int te), .unset, .unset, .unset] [(.int vr), (.int te)])) t
      refine XS.icmpNo X30.here hx rfl (hb hby d11_170) rfl (teq (hte.trans ((congrArg gN (by decide : ((3 : Int32) * (0 : Int32)).toNatClampNeg = 0)).trans hv_0) : te = vr)).2 ?_
      refine XS.iconst X30.here hx rfl (hb hby d11_173) ?_
      refine XS.goto X30.here hx rfl (pc0 := 174) (pc' := 178) rfl (hb hby d11_174) (by decide) (by decide) ?_
      refine XS.istore X30.here hx rfl (hb hby d11_178) rfl (l' := #[.val (.ref a1), .val (.ref a2), .val (.int 1), .val (.ref b1), .val (.ref S), .val (.int 0), .val (.int 0), .val (.int te), .val (.int 1), .unset, .unset]) rfl ?_
      refine XS.iload X30.here hx rfl (hb hby d11_180) rfl ?_
      show Steps p.tables e below (T30.setTop (mkF m 182 #[.val (.ref a1), .val (.ref a2), .val (.int 1), .val (.ref b1), .val (.ref S), .val (.int 0), .val (.int 0), .val (.int te), .val (.int 1), .unset, .unset] [(.int 1)])) t
      refine XS.ifNo X30.here hx rfl (hb hby d11_182) rfl ((if0 _ _).trans (feq (by decide : ¬ ((1 : Int32) = (0 : Int32)))).1) ?_
      show Steps p.tables e below (T30.setTop (mkF m 185 #[.val (.ref a1), .val (.ref a2), .val (.int 1), .val (.ref b1), .val (.ref S), .val (.int 0), .val (.int 0), .val (.int te), .val (.int 1), .unset, .unset] [])) t
      refine XS.aloadN X30.here hx rfl (hb hby d11_185) rfl rfl ?_
      refine XS.iload X30.here hx rfl (hb hby d11_186) rfl ?_
      exact k
    have M31 := rm24 l Z a0 hw [] a1 (0 : Int32) N gN hp n0 Zs r_3 r_10 (by decide) (by decide)
    obtain ⟨cq31, kq31, q31a, q31b, q31c⟩ := isOf hZ e30 r_0
    obtain ⟨_, _, ⟨T31, L31, k31, n31⟩, -, X31, ⟨Lc31, hQ31, l31, y31, z31⟩, st31⟩ := X30.virtualBack hx (y := (⟨"com/example/liaise/liaise/NodeTable", "low", "(I)I"⟩ : MethodName)) (z := (⟨"com/example/liaise/liaise/NodeTable", "low", "(I)I"⟩ : MethodName)) hown (mvT hZ (own_at hw 135 rfl)) (mvT hZ (own_at hw 136 rfl)) (notFace_of_selects (args := #[]) (mvT hZ (own_at hw 138 rfl))) (mvT hZ (own_at hw 138 rfl)) (mvT hZ (own_at hw 137 rfl)) (by decide) (backOf (W := 0) (M31) hZ (own_at hw 139 rfl) (own_at hw 2 rfl) (by decide) (by decide)) q31a q31c (g := (mkF m 188 #[.val (.ref a1), .val (.ref a2), .val (.int 1), .val (.ref b1), .val (.ref S), .val (.int 0), .val (.int 0), .val (.int te), .val (.int 1), .unset, .unset] [(.int 0), (.ref a1)])) rfl (by rw [hml]; rfl) (Steps.refl _) (argsL := [(.int 0)]) (rest := []) (lenOf pd_rm11_2_2 rfl) rfl (by show 2 * 0 + _ ≤ _; exact Nat.le_of_eq rfl) (hb hby d11_188) (fun _ _ => ⟨rfl, e30, (by decide : 2 + 0 ≤ _), (by decide : 4 + 0 ≤ _)⟩)
    dsimp only [Pt.U, Pt.locs, Pt.cells, Pt.slots] at X31 l31 y31 z31 st31 hQ31
    subst l31 y31 z31
    obtain ⟨rfl, N31q, hh31⟩ := hQ31
    have N31 := Fr.app N29 N31q
    obtain ⟨LL31, X31, N31⟩ := own_abs X31 N31
    refine own_go (fun t k => st31.trans k) ?_
    refine own_go (B := T31.setTop (mkF m 205 #[.val (.ref a1), .val (.ref a2), .val (.int 1), .val (.ref b1), .val (.ref S), .val (.int 0), .val (.int 0), .val (.int te), .val (.int 1), .val (.int (gN ((((3 : Int32) * (0 : Int32)) + (1 : Int32))).toNatClampNeg)), .unset] [])) (fun t k => ?_) ?_
    · show Steps p.tables e below (T31.setTop (mkF m 191 #[.val (.ref a1), .val (.ref a2), .val (.int 1), .val (.ref b1), .val (.ref S), .val (.int 0), .val (.int 0), .val (.int te), .val (.int 1), .unset, .unset] [(.int (gN ((((3 : Int32) * (0 : Int32)) + (1 : Int32))).toNatClampNeg))])) t
      refine XS.goto X31.here hx rfl (pc0 := 191) (pc' := 203) rfl (hb hby d11_191) (by decide) (by decide) ?_
      refine XS.istore X31.here hx rfl (hb hby d11_203) rfl (l' := #[.val (.ref a1), .val (.ref a2), .val (.int 1), .val (.ref b1), .val (.ref S), .val (.int 0), .val (.int 0), .val (.int te), .val (.int 1), .val (.int (gN ((((3 : Int32) * (0 : Int32)) + (1 : Int32))).toNatClampNeg)), .unset]) rfl ?_
      exact k
    obtain ⟨lo, hlo⟩ : ∃ z : Int32, z = (gN ((((3 : Int32) * (0 : Int32)) + (1 : Int32))).toNatClampNeg) := ⟨_, rfl⟩
    rw [← hlo]
    refine own_go (B := T31.setTop (mkF m 213 #[.val (.ref a1), .val (.ref a2), .val (.int 1), .val (.ref b1), .val (.ref S), .val (.int 0), .val (.int 0), .val (.int te), .val (.int 1), .val (.int lo), .unset] [(.int 0), (.ref a1)])) (fun t k => ?_) ?_
    · show Steps p.tables e below (T31.setTop (mkF m 205 #[.val (.ref a1), .val (.ref a2), .val (.int 1), .val (.ref b1), .val (.ref S), .val (.int 0), .val (.int 0), .val (.int te), .val (.int 1), .val (.int lo), .unset] [])) t
      refine XS.iload X31.here hx rfl (hb hby d11_205) rfl ?_
      show Steps p.tables e below (T31.setTop (mkF m 207 #[.val (.ref a1), .val (.ref a2), .val (.int 1), .val (.ref b1), .val (.ref S), .val (.int 0), .val (.int 0), .val (.int te), .val (.int 1), .val (.int lo), .unset] [(.int 1)])) t
      refine XS.ifNo X31.here hx rfl (hb hby d11_207) rfl ((if0 _ _).trans (feq (by decide : ¬ ((1 : Int32) = (0 : Int32)))).1) ?_
      refine XS.aloadN X31.here hx rfl (hb hby d11_210) rfl rfl ?_
      refine XS.iload X31.here hx rfl (hb hby d11_211) rfl ?_
      exact k
    have M32 := rm25 l Z a0 hw [] a1 (0 : Int32) N gN hp n0 Zs r_3 r_10 (by decide) (by decide)
    obtain ⟨cq32, kq32, q32a, q32b, q32c⟩ := isOf hZ hh31 r_0
    obtain ⟨_, _, ⟨T32, L32, k32, n32⟩, -, X32, ⟨Lc32, hQ32, l32, y32, z32⟩, st32⟩ := X31.virtualBack hx (y := (⟨"com/example/liaise/liaise/NodeTable", "high", "(I)I"⟩ : MethodName)) (z := (⟨"com/example/liaise/liaise/NodeTable", "high", "(I)I"⟩ : MethodName)) hown (mvT hZ (own_at hw 140 rfl)) (mvT hZ (own_at hw 141 rfl)) (notFace_of_selects (args := #[]) (mvT hZ (own_at hw 143 rfl))) (mvT hZ (own_at hw 143 rfl)) (mvT hZ (own_at hw 142 rfl)) (by decide) (backOf (W := 0) (M32) hZ (own_at hw 144 rfl) (own_at hw 2 rfl) (by decide) (by decide)) q32a q32c (g := (mkF m 213 #[.val (.ref a1), .val (.ref a2), .val (.int 1), .val (.ref b1), .val (.ref S), .val (.int 0), .val (.int 0), .val (.int te), .val (.int 1), .val (.int lo), .unset] [(.int 0), (.ref a1)])) rfl (by rw [hml]; rfl) (Steps.refl _) (argsL := [(.int 0)]) (rest := []) (lenOf pd_rm11_2_2 rfl) rfl (by show 2 * 0 + _ ≤ _; exact Nat.le_of_eq rfl) (hb hby d11_213) (fun _ _ => ⟨rfl, hh31, (by decide : 2 + 0 ≤ _), (by decide : 4 + 0 ≤ _)⟩)
    dsimp only [Pt.U, Pt.locs, Pt.cells, Pt.slots] at X32 l32 y32 z32 st32 hQ32
    subst l32 y32 z32
    obtain ⟨rfl, N32q, hh32⟩ := hQ32
    have N32 := Fr.app N31 N32q
    obtain ⟨LL32, X32, N32⟩ := own_abs X32 N32
    refine own_go (fun t k => st32.trans k) ?_
    refine own_go (B := T32.setTop (mkF m 230 #[.val (.ref a1), .val (.ref a2), .val (.int 1), .val (.ref b1), .val (.ref S), .val (.int 0), .val (.int 0), .val (.int te), .val (.int 1), .val (.int lo), .val (.int (gN ((((3 : Int32) * (0 : Int32)) + (2 : Int32))).toNatClampNeg))] [])) (fun t k => ?_) ?_
    · show Steps p.tables e below (T32.setTop (mkF m 216 #[.val (.ref a1), .val (.ref a2), .val (.int 1), .val (.ref b1), .val (.ref S), .val (.int 0), .val (.int 0), .val (.int te), .val (.int 1), .val (.int lo), .unset] [(.int (gN ((((3 : Int32) * (0 : Int32)) + (2 : Int32))).toNatClampNeg))])) t
      refine XS.goto X32.here hx rfl (pc0 := 216) (pc' := 228) rfl (hb hby d11_216) (by decide) (by decide) ?_
      refine XS.istore X32.here hx rfl (hb hby d11_228) rfl (l' := #[.val (.ref a1), .val (.ref a2), .val (.int 1), .val (.ref b1), .val (.ref S), .val (.int 0), .val (.int 0), .val (.int te), .val (.int 1), .val (.int lo), .val (.int (gN ((((3 : Int32) * (0 : Int32)) + (2 : Int32))).toNatClampNeg))]) rfl ?_
      exact k
    obtain ⟨hi, hhi⟩ : ∃ z : Int32, z = (gN ((((3 : Int32) * (0 : Int32)) + (2 : Int32))).toNatClampNeg) := ⟨_, rfl⟩
    rw [← hhi]
    refine own_go (B := T32.setTop (mkF m 239 #[.val (.ref a1), .val (.ref a2), .val (.int 1), .val (.ref b1), .val (.ref S), .val (.int 0), .val (.int 0), .val (.int te), .val (.int 1), .val (.int lo), .val (.int hi)] [(.int hi), (.int lo), (.int te), (.int 0), (.ref a1)])) (fun t k => ?_) ?_
    · show Steps p.tables e below (T32.setTop (mkF m 230 #[.val (.ref a1), .val (.ref a2), .val (.int 1), .val (.ref b1), .val (.ref S), .val (.int 0), .val (.int 0), .val (.int te), .val (.int 1), .val (.int lo), .val (.int hi)] [])) t
      refine XS.aloadN X32.here hx rfl (hb hby d11_230) rfl rfl ?_
      refine XS.iload X32.here hx rfl (hb hby d11_231) rfl ?_
      refine XS.iload X32.here hx rfl (hb hby d11_233) rfl ?_
      refine XS.iload X32.here hx rfl (hb hby d11_235) rfl ?_
      refine XS.iload X32.here hx rfl (hb hby d11_237) rfl ?_
      exact k
    have M33 := rm9 l Z a0 hw [] a1 (0 : Int32) te lo hi N gN hp n0 Zs r_3 r_10 g_N dd0 (by decide) (by decide)
    obtain ⟨cq33, q33, q33'⟩ := r_0.cell
    obtain ⟨_, _, ⟨T33, L33, k33, n33⟩, -, X33, ⟨Lc33, hQ33, l33, y33, z33⟩, st33⟩ := X32.privateBack hx (y := (⟨"com/example/liaise/liaise/NodeTable", "place", "(IIII)V"⟩ : MethodName)) hown (mvT hZ (own_at hw 51 rfl)) (mvT hZ (own_at hw 52 rfl)) (mvT hZ (own_selp (y := (⟨"com/example/liaise/liaise/NodeTable", "place", "(IIII)V"⟩ : MethodName)) (own_at hw 1 rfl) (own_at hw 53 rfl) (own_at hw 52 rfl) (by decide))) (Cond.privateMethod_at (mvP hZ (own_at hw 53 rfl) (args := #[]))) (mvT hZ (own_at hw 54 rfl)) (by decide) (backOf (W := 0) (M33) hZ (own_at hw 54 rfl) (own_at hw 2 rfl) (by decide) (by decide)) (g := (mkF m 239 #[.val (.ref a1), .val (.ref a2), .val (.int 1), .val (.ref b1), .val (.ref S), .val (.int 0), .val (.int 0), .val (.int te), .val (.int 1), .val (.int lo), .val (.int hi)] [(.int hi), (.int lo), (.int te), (.int 0), (.ref a1)])) rfl (by rw [hml]; rfl) (Steps.refl _) (a := a1) (by rw [hh32]; exact q33) q33' (argsL := [(.int 0), (.int te), (.int lo), (.int hi)]) (rest := []) (lenOf pd_rm11_2_3 rfl) rfl (by show 2 * 0 + _ ≤ _; exact Nat.le_of_eq rfl) (hb hby d11_239) (fun _ _ => ⟨rfl, hh32, (by decide : 2 + 0 ≤ _), (by decide : 4 + 0 ≤ _)⟩)
    dsimp only [Pt.U, Pt.locs, Pt.cells, Pt.slots] at X33 l33 y33 z33 st33 hQ33
    subst l33 y33 z33
    obtain ⟨rfl, N33q, K33, gN33, An33, hpa33, hpb33, hpc33⟩ := hQ33
    have N33 := Fr.app N32 N33q
    obtain ⟨LL33, X33, N33⟩ := own_abs X33 N33
    refine own_go (fun t k => st33.trans k) ?_
    have KK33 : Keep h0 T33.heap [a1, N, H, S, C, a2] := Kp.trans K33 (allS (Or.inl (List.mem_of_getElem? (i := 1) rfl)) all0)
    have f33_0 := r_0.keep K33
    have f33_1 := own_staKeep r_1 K33 (nsS r_10.nestat ns0)
    have ni34 : a1 ∉ [N] := (ninS dd0 nin0)
    have f33_2 := r_2.keep K33 ni34
    have f33_3 := r_3.keep K33 ni34
    have f33_4 := r_4.keep K33 ni34
    have f33_5 := r_5.keep K33 ni34
    have f33_6 := r_6.keep K33 ni34
    have f33_7 := r_7.keep K33 ni34
    have f33_8 := r_8.keep K33 ni34
    have f33_9 := r_9.keep K33 ni34
    have ni35 : H ∉ [N] := (ninS (Ne.symm dd4) nin0)
    have f33_11 := r_11.keep K33 ni35
    have ni36 : S ∉ [N] := (ninS (Ne.symm dd5) nin0)
    have f33_12 := r_12.keep K33 ni36
    have ni37 : C ∉ [N] := (ninS (Ne.symm dd6) nin0)
    have f33_13 := r_13.keep K33 ni37
    have ni38 : a2 ∉ [N] := (ninS (Ne.symm de1) nin0)
    have f33_14 := r_14.keep K33 ni38
    have f33_15 := r_15.keep K33
    have ni39 : b1 ∉ [N] := (ninS (Ne.symm ne1_N) nin0)
    have f33_16 := r_16.keep K33 ni39
    have f33_17 := r_17.keep K33 ni39
    have ni40 : W3 ∉ [N] := (ninS (Ne.symm (Nat.ne_of_lt (Nat.lt_of_lt_of_le f1_10.lt sw3))) nin0)
    have f33_18 := r_18.keep K33 ni40
    have hv33_0 : gN33 0 = vr := (congrArg gN33 (by decide : 0 = 3 * ((0 : Int32)).toNatClampNeg)).trans (hpa33.trans (hte.trans ((congrArg gN (by decide : ((3 : Int32) * (0 : Int32)).toNatClampNeg = 0)).trans hv_0)))
    have hv33_1 : gN33 3 = vr := (hpc33 3 (by decide)).trans hv_1
    refine own_go (B := T33.setTop (mkF m 248 #[.val (.ref a1), .val (.ref a2), .val (.int 1), .val (.ref b1), .val (.ref S), .val (.int 0), .val (.int 0), .val (.int te), .val (.int 1), .val (.int lo), .val (.int hi)] [(.int 0), (.int 0), (.ref S)])) (fun t k => ?_) ?_
    · show Steps p.tables e below (T33.setTop (mkF m 242 #[.val (.ref a1), .val (.ref a2), .val (.int 1), .val (.ref b1), .val (.ref S), .val (.int 0), .val (.int 0), .val (.int te), .val (.int 1), .val (.int lo), .val (.int hi)] [])) t
      refine XS.aload X33.here hx rfl (hb hby d11_242) rfl rfl ?_
      refine XS.iload X33.here hx rfl (hb hby d11_244) rfl ?_
      refine XS.iload X33.here hx rfl (hb hby d11_246) rfl ?_
      exact k
    obtain ⟨cl41, Ar41, hin41, -, -, -⟩ := f33_12.get (j := (0 : Int32)) (by decide) (by decide)
    obtain ⟨T41, h41, X41, e41, W41, st41⟩ := stI X33 hx hZ rfl Ar41 (j := (0 : Int32)) hin41 (g := (mkF m 248 #[.val (.ref a1), .val (.ref a2), .val (.int 1), .val (.ref b1), .val (.ref S), .val (.int 0), .val (.int 0), .val (.int te), .val (.int 1), .val (.int lo), .val (.int hi)] [(.int 0), (.int 0), (.ref S)])) rfl rfl (hb hby d11_248)
    refine own_go (fun t k => st41 t k) ?_
    have N41 := Fr.snoc X41 N33 g_S
    obtain ⟨LL41, X41, N41⟩ := own_abs X41 N41
    have K41 : Keep h0 h41 [a1, N, H, S, C, a2] := KK33.wr W41 (Or.inl (List.mem_of_getElem? (i := 3) rfl))
    have f41_0 := f33_0.wr W41
    have f41_1 := f33_1.wr W41
    have f41_2 := f33_2.other W41 (Or.inl dd2)
    have f41_3 := f33_3.other W41 (Or.inl dd2)
    have f41_4 := f33_4.other W41 (Or.inl dd2)
    have f41_5 := f33_5.other W41 (Or.inl dd2)
    have f41_6 := f33_6.other W41 (Or.inl dd2)
    have f41_7 := f33_7.other W41 (Or.inl dd2)
    have f41_8 := f33_8.other W41 (Or.inl dd2)
    have f41_9 := f33_9.other W41 (Or.inl dd2)
    have f41_10 := f33_11.other W41 dd7
    have f41_11 := f33_12.setk W41 0 (by decide)
    have f41_12 := f33_13.other W41 (Ne.symm dd9)
    have f41_13 := f33_14.other W41 (Ne.symm de3)
    have f41_14 := f33_15.wr W41
    have f41_15 := f33_16.other W41 (Or.inl (Ne.symm ne1_S))
    have f41_16 := f33_17.other W41 (Or.inl (Ne.symm ne1_S))
    have f41_17 := f33_18.other W41 (Ne.symm (Nat.ne_of_lt (Nat.lt_of_lt_of_le f1_12.lt sw3)))
    have f41_18 := An33.other W41 dd5
    refine own_go (B := T41.setTop (mkF m 257 #[.val (.ref a1), .val (.ref a2), .val (.int 1), .val (.ref b1), .val (.ref S), .val (.int (0 + 1)), .val (.int 0), .val (.int te), .val (.int 1), .val (.int lo), .val (.int hi)] [(.int (0 + 1)), (.ref b1)])) (fun t k => ?_) ?_
    · show Steps p.tables e below (T41.setTop (mkF m 249 #[.val (.ref a1), .val (.ref a2), .val (.int 1), .val (.ref b1), .val (.ref S), .val (.int 0), .val (.int 0), .val (.int te), .val (.int 1), .val (.int lo), .val (.int hi)] [])) t
      refine XS.iinc X41.here hx rfl (hb hby d11_249) rfl (l' := #[.val (.ref a1), .val (.ref a2), .val (.int 1), .val (.ref b1), .val (.ref S), .val (.int (0 + 1)), .val (.int 0), .val (.int te), .val (.int 1), .val (.int lo), .val (.int hi)]) rfl ?_
      refine XS.aloadN X41.here hx rfl (hb hby d11_252) rfl rfl ?_
      refine XS.iload X41.here hx rfl (hb hby d11_253) rfl ?_
      refine XS.iconst X41.here hx rfl (hb hby d11_255) ?_
      refine XS.iadd X41.here hx rfl (hb hby d11_256) rfl ?_
      exact k
    have M42 := rm21 l Z a0 hw [] b1 ((0 : Int32) + (1 : Int32)) W3 gW (2 : Int64) (1 : Int32) (1 : Int32) h41 n0 (Nat.le_trans (Nat.le_trans Zs K33.1) (Keep.of_wr W41).1) f41_14 f41_16 f41_17 f41_15 f41_1 (by decide) (by decide) (by rw [hW]; decide) (by decide) (by decide) (by decide) (by decide)
    obtain ⟨cq42, kq42, q42a, q42b, q42c⟩ := isOf hZ e41 f41_14
    obtain ⟨_, _, ⟨T42, L42, k42, n42⟩, -, X42, ⟨Lc42, hQ42, l42, y42, z42⟩, st42⟩ := X41.virtualBack hx (y := (⟨"java/util/BitSet", "nextSetBit", "(I)I"⟩ : MethodName)) (z := (⟨"java/util/BitSet", "nextSetBit", "(I)I"⟩ : MethodName)) hown (mvT hZ (own_at hw 121 rfl)) (mvT hZ (own_at hw 122 rfl)) (notFace_of_selects (args := #[]) (mvT hZ (own_at hw 124 rfl))) (mvT hZ (own_at hw 124 rfl)) (mvT hZ (own_at hw 123 rfl)) (by decide) (backOf (W := 0) (M42) hZ (own_at hw 125 rfl) (own_at hw 70 rfl) (by decide) (by decide)) q42a q42c (g := (mkF m 257 #[.val (.ref a1), .val (.ref a2), .val (.int 1), .val (.ref b1), .val (.ref S), .val (.int (0 + 1)), .val (.int 0), .val (.int te), .val (.int 1), .val (.int lo), .val (.int hi)] [(.int (0 + 1)), (.ref b1)])) rfl (by rw [hml]; rfl) (Steps.refl _) (argsL := [(.int (0 + 1))]) (rest := []) (lenOf pd_rm11_2_2 rfl) rfl (by show 2 * 0 + _ ≤ _; exact Nat.le_of_eq rfl) (hb hby d11_257) (fun _ _ => ⟨rfl, e41, (by decide : 2 + 0 ≤ _), (by decide : 4 + 0 ≤ _)⟩)
    dsimp only [Pt.U, Pt.locs, Pt.cells, Pt.slots] at X42 l42 y42 z42 st42 hQ42
    subst l42 y42 z42
    obtain ⟨rfl, N42q, hh42⟩ := hQ42
    have N42 := Fr.app N41 N42q
    obtain ⟨LL42, X42, N42⟩ := own_abs X42 N42
    refine own_go (fun t k => st42.trans k) ?_
    refine own_go (B := T42.setTop (mkF m 159 #[.val (.ref a1), .val (.ref a2), .val (.int 1), .val (.ref b1), .val (.ref S), .val (.int (0 + 1)), .val (.int 1), .val (.int te), .val (.int 1), .val (.int lo), .val (.int hi)] [(.int 1), (.ref a1)])) (fun t k => ?_) ?_
    · show Steps p.tables e below (T42.setTop (mkF m 260 #[.val (.ref a1), .val (.ref a2), .val (.int 1), .val (.ref b1), .val (.ref S), .val (.int (0 + 1)), .val (.int 0), .val (.int te), .val (.int 1), .val (.int lo), .val (.int hi)] [(.int 1)])) t
      refine XS.istore X42.here hx rfl (hb hby d11_260) rfl (l' := #[.val (.ref a1), .val (.ref a2), .val (.int 1), .val (.ref b1), .val (.ref S), .val (.int (0 + 1)), .val (.int 1), .val (.int te), .val (.int 1), .val (.int lo), .val (.int hi)]) rfl ?_
      refine XS.goto X42.here hx rfl (pc0 := 262) (pc' := 151) rfl (hb hby d11_262) (by decide) (by decide) ?_
      refine XS.iload X42.here hx rfl (hb hby d11_151) rfl ?_
      show Steps p.tables e below (T42.setTop (mkF m 153 #[.val (.ref a1), .val (.ref a2), .val (.int 1), .val (.ref b1), .val (.ref S), .val (.int (0 + 1)), .val (.int 1), .val (.int te), .val (.int 1), .val (.int lo), .val (.int hi)] [(.int 1)])) t
      refine XS.ifNo X42.here hx rfl (hb hby d11_153) rfl ((if0 _ _).trans (flt (by decide : ¬ ((1 : Int32) < (0 : Int32)))).1) ?_
      refine XS.aloadN X42.here hx rfl (hb hby d11_156) rfl rfl ?_
      refine XS.iload X42.here hx rfl (hb hby d11_157) rfl ?_
      exact k
    have M43 := rm20 l Z a0 hw [] a1 (1 : Int32) N gN33 h41 n0 (Nat.le_trans (Nat.le_trans Zs K33.1) (Keep.of_wr W41).1) f41_3 f41_18 (by decide) (by decide)
    obtain ⟨cq43, kq43, q43a, q43b, q43c⟩ := isOf hZ hh42 f41_0
    obtain ⟨_, _, ⟨T43, L43, k43, n43⟩, -, X43, ⟨Lc43, hQ43, l43, y43, z43⟩, st43⟩ := X42.virtualBack hx (y := (⟨"com/example/liaise/liaise/NodeTable", "variable", "(I)I"⟩ : MethodName)) (z := (⟨"com/example/liaise/liaise/NodeTable", "variable", "(I)I"⟩ : MethodName)) hown (mvT hZ (own_at hw 116 rfl)) (mvT hZ (own_at hw 117 rfl)) (notFace_of_selects (args := #[]) (mvT hZ (own_at hw 119 rfl))) (mvT hZ (own_at hw 119 rfl)) (mvT hZ (own_at hw 118 rfl)) (by decide) (backOf (W := 0) (M43) hZ (own_at hw 120 rfl) (own_at hw 2 rfl) (by decide) (by decide)) q43a q43c (g := (mkF m 159 #[.val (.ref a1), .val (.ref a2), .val (.int 1), .val (.ref b1), .val (.ref S), .val (.int (0 + 1)), .val (.int 1), .val (.int te), .val (.int 1), .val (.int lo), .val (.int hi)] [(.int 1), (.ref a1)])) rfl (by rw [hml]; rfl) (Steps.refl _) (argsL := [(.int 1)]) (rest := []) (lenOf pd_rm11_2_2 rfl) rfl (by show 2 * 0 + _ ≤ _; exact Nat.le_of_eq rfl) (hb hby d11_159) (fun _ _ => ⟨rfl, hh42, (by decide : 2 + 0 ≤ _), (by decide : 4 + 0 ≤ _)⟩)
    dsimp only [Pt.U, Pt.locs, Pt.cells, Pt.slots] at X43 l43 y43 z43 st43 hQ43
    subst l43 y43 z43
    obtain ⟨rfl, N43q, hh43⟩ := hQ43
    have N43 := Fr.app N42 N43q
    obtain ⟨LL43, X43, N43⟩ := own_abs X43 N43
    refine own_go (fun t k => st43.trans k) ?_
    refine own_go (B := T43.setTop (mkF m 164 #[.val (.ref a1), .val (.ref a2), .val (.int 1), .val (.ref b1), .val (.ref S), .val (.int (0 + 1)), .val (.int 1), .val (.int (gN33 (((3 : Int32) * (1 : Int32))).toNatClampNeg)), .val (.int 1), .val (.int lo), .val (.int hi)] [])) (fun t k => ?_) ?_
    · show Steps p.tables e below (T43.setTop (mkF m 162 #[.val (.ref a1), .val (.ref a2), .val (.int 1), .val (.ref b1), .val (.ref S), .val (.int (0 + 1)), .val (.int 1), .val (.int te), .val (.int 1), .val (.int lo), .val (.int hi)] [(.int (gN33 (((3 : Int32) * (1 : Int32))).toNatClampNeg))])) t
      refine XS.istore X43.here hx rfl (hb hby d11_162) rfl (l' := #[.val (.ref a1), .val (.ref a2), .val (.int 1), .val (.ref b1), .val (.ref S), .val (.int (0 + 1)), .val (.int 1), .val (.int (gN33 (((3 : Int32) * (1 : Int32))).toNatClampNeg)), .val (.int 1), .val (.int lo), .val (.int hi)]) rfl ?_
      exact k
    obtain ⟨te, hte⟩ : ∃ z : Int32, z = (gN33 (((3 : Int32) * (1 : Int32))).toNatClampNeg) := ⟨_, rfl⟩
    rw [← hte]
    refine own_go (B := T43.setTop (mkF m 167 #[.val (.ref a1), .val (.ref a2), .val (.int 1), .val (.ref b1), .val (.ref S), .val (.int (0 + 1)), .val (.int 1), .val (.int te), .val (.int 1), .val (.int lo), .val (.int hi)] [(.ref a1), (.int te)])) (fun t k => ?_) ?_
    · show Steps p.tables e below (T43.setTop (mkF m 164 #[.val (.ref a1), .val (.ref a2), .val (.int 1), .val (.ref b1), .val (.ref S), .val (.int (0 + 1)), .val (.int 1), .val (.int te), .val (.int 1), .val (.int lo), .val (.int hi)] [])) t
      refine XS.iload X43.here hx rfl (hb hby d11_164) rfl ?_
      refine XS.aloadN X43.here hx rfl (hb hby d11_166) rfl rfl ?_
      exact k
    obtain ⟨T44, X44, e44, st44⟩ := getF X43 hx hZ hown (host := "") (Or.inl (own_at hw 18 rfl)) Via.refl hh43 f41_2 (g := (mkF m 167 #[.val (.ref a1), .val (.ref a2), .val (.int 1), .val (.ref b1), .val (.ref S), .val (.int (0 + 1)), .val (.int 1), .val (.int te), .val (.int 1), .val (.int lo), .val (.int hi)] [(.ref a1), (.int te)])) rfl rfl (hb hby d11_167)
    refine own_go (fun t k => st44 t k) ?_
    refine own_go (B := T44.setTop (mkF m 188 #[.val (.ref a1), .val (.ref a2), .val (.int 1), .val (.ref b1), .val (.ref S), .val (.int (0 + 1)), .val (.int 1), .val (.int te), .val (.int 1), .val (.int lo), .val (.int hi)] [(.int 1), (.ref a1)])) (fun t k => ?_) ?_
    · show Steps p.tables e below (T44.setTop (mkF m 170 #[.val (.ref a1), .val (.ref a2), .val (.int 1), .val (.ref b1), .val (.ref S), .val (.int (0 + 1)), .val (.int 1), .val (.int te), .val (.int 1), .val (.int lo), .val (.int hi)] [(.int vr), (.int te)])) t
      refine XS.icmpNo X44.here hx rfl (hb hby d11_170) rfl (teq (hte.trans ((congrArg gN33 (by decide : ((3 : Int32) * (1 : Int32)).toNatClampNeg = 3)).trans hv33_1) : te = vr)).2 ?_
      refine XS.iconst X44.here hx rfl (hb hby d11_173) ?_
      refine XS.goto X44.here hx rfl (pc0 := 174) (pc' := 178) rfl (hb hby d11_174) (by decide) (by decide) ?_
      refine XS.istore X44.here hx rfl (hb hby d11_178) rfl (l' := #[.val (.ref a1), .val (.ref a2), .val (.int 1), .val (.ref b1), .val (.ref S), .val (.int (0 + 1)), .val (.int 1), .val (.int te), .val (.int 1), .val (.int lo), .val (.int hi)]) rfl ?_
      refine XS.iload X44.here hx rfl (hb hby d11_180) rfl ?_
      show Steps p.tables e below (T44.setTop (mkF m 182 #[.val (.ref a1), .val (.ref a2), .val (.int 1), .val (.ref b1), .val (.ref S), .val (.int (0 + 1)), .val (.int 1), .val (.int te), .val (.int 1), .val (.int lo), .val (.int hi)] [(.int 1)])) t
      refine XS.ifNo X44.here hx rfl (hb hby d11_182) rfl ((if0 _ _).trans (feq (by decide : ¬ ((1 : Int32) = (0 : Int32)))).1) ?_
      show Steps p.tables e below (T44.setTop (mkF m 185 #[.val (.ref a1), .val (.ref a2), .val (.int 1), .val (.ref b1), .val (.ref S), .val (.int (0 + 1)), .val (.int 1), .val (.int te), .val (.int 1), .val (.int lo), .val (.int hi)] [])) t
      refine XS.aloadN X44.here hx rfl (hb hby d11_185) rfl rfl ?_
      refine XS.iload X44.here hx rfl (hb hby d11_186) rfl ?_
      exact k
    have M45 := rm24 l Z a0 hw [] a1 (1 : Int32) N gN33 h41 n0 (Nat.le_trans (Nat.le_trans Zs K33.1) (Keep.of_wr W41).1) f41_3 f41_18 (by decide) (by decide)
    obtain ⟨cq45, kq45, q45a, q45b, q45c⟩ := isOf hZ e44 f41_0
    obtain ⟨_, _, ⟨T45, L45, k45, n45⟩, -, X45, ⟨Lc45, hQ45, l45, y45, z45⟩, st45⟩ := X44.virtualBack hx (y := (⟨"com/example/liaise/liaise/NodeTable", "low", "(I)I"⟩ : MethodName)) (z := (⟨"com/example/liaise/liaise/NodeTable", "low", "(I)I"⟩ : MethodName)) hown (mvT hZ (own_at hw 135 rfl)) (mvT hZ (own_at hw 136 rfl)) (notFace_of_selects (args := #[]) (mvT hZ (own_at hw 138 rfl))) (mvT hZ (own_at hw 138 rfl)) (mvT hZ (own_at hw 137 rfl)) (by decide) (backOf (W := 0) (M45) hZ (own_at hw 139 rfl) (own_at hw 2 rfl) (by decide) (by decide)) q45a q45c (g := (mkF m 188 #[.val (.ref a1), .val (.ref a2), .val (.int 1), .val (.ref b1), .val (.ref S), .val (.int (0 + 1)), .val (.int 1), .val (.int te), .val (.int 1), .val (.int lo), .val (.int hi)] [(.int 1), (.ref a1)])) rfl (by rw [hml]; rfl) (Steps.refl _) (argsL := [(.int 1)]) (rest := []) (lenOf pd_rm11_2_2 rfl) rfl (by show 2 * 0 + _ ≤ _; exact Nat.le_of_eq rfl) (hb hby d11_188) (fun _ _ => ⟨rfl, e44, (by decide : 2 + 0 ≤ _), (by decide : 4 + 0 ≤ _)⟩)
    dsimp only [Pt.U, Pt.locs, Pt.cells, Pt.slots] at X45 l45 y45 z45 st45 hQ45
    subst l45 y45 z45
    obtain ⟨rfl, N45q, hh45⟩ := hQ45
    have N45 := Fr.app N43 N45q
    obtain ⟨LL45, X45, N45⟩ := own_abs X45 N45
    refine own_go (fun t k => st45.trans k) ?_
    refine own_go (B := T45.setTop (mkF m 205 #[.val (.ref a1), .val (.ref a2), .val (.int 1), .val (.ref b1), .val (.ref S), .val (.int (0 + 1)), .val (.int 1), .val (.int te), .val (.int 1), .val (.int (gN33 ((((3 : Int32) * (1 : Int32)) + (1 : Int32))).toNatClampNeg)), .val (.int hi)] [])) (fun t k => ?_) ?_
    · show Steps p.tables e below (T45.setTop (mkF m 191 #[.val (.ref a1), .val (.ref a2), .val (.int 1), .val (.ref b1), .val (.ref S), .val (.int (0 + 1)), .val (.int 1), .val (.int te), .val (.int 1), .val (.int lo), .val (.int hi)] [(.int (gN33 ((((3 : Int32) * (1 : Int32)) + (1 : Int32))).toNatClampNeg))])) t
      refine XS.goto X45.here hx rfl (pc0 := 191) (pc' := 203) rfl (hb hby d11_191) (by decide) (by decide) ?_
      refine XS.istore X45.here hx rfl (hb hby d11_203) rfl (l' := #[.val (.ref a1), .val (.ref a2), .val (.int 1), .val (.ref b1), .val (.ref S), .val (.int (0 + 1)), .val (.int 1), .val (.int te), .val (.int 1), .val (.int (gN33 ((((3 : Int32) * (1 : Int32)) + (1 : Int32))).toNatClampNeg)), .val (.int hi)]) rfl ?_
      exact k
    obtain ⟨lo, hlo⟩ : ∃ z : Int32, z = (gN33 ((((3 : Int32) * (1 : Int32)) + (1 : Int32))).toNatClampNeg) := ⟨_, rfl⟩
    rw [← hlo]
    refine own_go (B := T45.setTop (mkF m 213 #[.val (.ref a1), .val (.ref a2), .val (.int 1), .val (.ref b1), .val (.ref S), .val (.int (0 + 1)), .val (.int 1), .val (.int te), .val (.int 1), .val (.int lo), .val (.int hi)] [(.int 1), (.ref a1)])) (fun t k => ?_) ?_
    · show Steps p.tables e below (T45.setTop (mkF m 205 #[.val (.ref a1), .val (.ref a2), .val (.int 1), .val (.ref b1), .val (.ref S), .val (.int (0 + 1)), .val (.int 1), .val (.int te), .val (.int 1), .val (.int lo), .val (.int hi)] [])) t
      refine XS.iload X45.here hx rfl (hb hby d11_205) rfl ?_
      show Steps p.tables e below (T45.setTop (mkF m 207 #[.val (.ref a1), .val (.ref a2), .val (.int 1), .val (.ref b1), .val (.ref S), .val (.int (0 + 1)), .val (.int 1), .val (.int te), .val (.int 1), .val (.int lo), .val (.int hi)] [(.int 1)])) t
      refine XS.ifNo X45.here hx rfl (hb hby d11_207) rfl ((if0 _ _).trans (feq (by decide : ¬ ((1 : Int32) = (0 : Int32)))).1) ?_
      refine XS.aloadN X45.here hx rfl (hb hby d11_210) rfl rfl ?_
      refine XS.iload X45.here hx rfl (hb hby d11_211) rfl ?_
      exact k
    have M46 := rm25 l Z a0 hw [] a1 (1 : Int32) N gN33 h41 n0 (Nat.le_trans (Nat.le_trans Zs K33.1) (Keep.of_wr W41).1) f41_3 f41_18 (by decide) (by decide)
    obtain ⟨cq46, kq46, q46a, q46b, q46c⟩ := isOf hZ hh45 f41_0
    obtain ⟨_, _, ⟨T46, L46, k46, n46⟩, -, X46, ⟨Lc46, hQ46, l46, y46, z46⟩, st46⟩ := X45.virtualBack hx (y := (⟨"com/example/liaise/liaise/NodeTable", "high", "(I)I"⟩ : MethodName)) (z := (⟨"com/example/liaise/liaise/NodeTable", "high", "(I)I"⟩ : MethodName)) hown (mvT hZ (own_at hw 140 rfl)) (mvT hZ (own_at hw 141 rfl)) (notFace_of_selects (args := #[]) (mvT hZ (own_at hw 143 rfl))) (mvT hZ (own_at hw 143 rfl)) (mvT hZ (own_at hw 142 rfl)) (by decide) (backOf (W := 0) (M46) hZ (own_at hw 144 rfl) (own_at hw 2 rfl) (by decide) (by decide)) q46a q46c (g := (mkF m 213 #[.val (.ref a1), .val (.ref a2), .val (.int 1), .val (.ref b1), .val (.ref S), .val (.int (0 + 1)), .val (.int 1), .val (.int te), .val (.int 1), .val (.int lo), .val (.int hi)] [(.int 1), (.ref a1)])) rfl (by rw [hml]; rfl) (Steps.refl _) (argsL := [(.int 1)]) (rest := []) (lenOf pd_rm11_2_2 rfl) rfl (by show 2 * 0 + _ ≤ _; exact Nat.le_of_eq rfl) (hb hby d11_213) (fun _ _ => ⟨rfl, hh45, (by decide : 2 + 0 ≤ _), (by decide : 4 + 0 ≤ _)⟩)
    dsimp only [Pt.U, Pt.locs, Pt.cells, Pt.slots] at X46 l46 y46 z46 st46 hQ46
    subst l46 y46 z46
    obtain ⟨rfl, N46q, hh46⟩ := hQ46
    have N46 := Fr.app N45 N46q
    obtain ⟨LL46, X46, N46⟩ := own_abs X46 N46
    refine own_go (fun t k => st46.trans k) ?_
    refine own_go (B := T46.setTop (mkF m 230 #[.val (.ref a1), .val (.ref a2), .val (.int 1), .val (.ref b1), .val (.ref S), .val (.int (0 + 1)), .val (.int 1), .val (.int te), .val (.int 1), .val (.int lo), .val (.int (gN33 ((((3 : Int32) * (1 : Int32)) + (2 : Int32))).toNatClampNeg))] [])) (fun t k => ?_) ?_
    · show Steps p.tables e below (T46.setTop (mkF m 216 #[.val (.ref a1), .val (.ref a2), .val (.int 1), .val (.ref b1), .val (.ref S), .val (.int (0 + 1)), .val (.int 1), .val (.int te), .val (.int 1), .val (.int lo), .val (.int hi)] [(.int (gN33 ((((3 : Int32) * (1 : Int32)) + (2 : Int32))).toNatClampNeg))])) t
      refine XS.goto X46.here hx rfl (pc0 := 216) (pc' := 228) rfl (hb hby d11_216) (by decide) (by decide) ?_
      refine XS.istore X46.here hx rfl (hb hby d11_228) rfl (l' := #[.val (.ref a1), .val (.ref a2), .val (.int 1), .val (.ref b1), .val (.ref S), .val (.int (0 + 1)), .val (.int 1), .val (.int te), .val (.int 1), .val (.int lo), .val (.int (gN33 ((((3 : Int32) * (1 : Int32)) + (2 : Int32))).toNatClampNeg))]) rfl ?_
      exact k
    obtain ⟨hi, hhi⟩ : ∃ z : Int32, z = (gN33 ((((3 : Int32) * (1 : Int32)) + (2 : Int32))).toNatClampNeg) := ⟨_, rfl⟩
    rw [← hhi]
    refine own_go (B := T46.setTop (mkF m 239 #[.val (.ref a1), .val (.ref a2), .val (.int 1), .val (.ref b1), .val (.ref S), .val (.int (0 + 1)), .val (.int 1), .val (.int te), .val (.int 1), .val (.int lo), .val (.int hi)] [(.int hi), (.int lo), (.int te), (.int (0 + 1)), (.ref a1)])) (fun t k => ?_) ?_
    · show Steps p.tables e below (T46.setTop (mkF m 230 #[.val (.ref a1), .val (.ref a2), .val (.int 1), .val (.ref b1), .val (.ref S), .val (.int (0 + 1)), .val (.int 1), .val (.int te), .val (.int 1), .val (.int lo), .val (.int hi)] [])) t
      refine XS.aloadN X46.here hx rfl (hb hby d11_230) rfl rfl ?_
      refine XS.iload X46.here hx rfl (hb hby d11_231) rfl ?_
      refine XS.iload X46.here hx rfl (hb hby d11_233) rfl ?_
      refine XS.iload X46.here hx rfl (hb hby d11_235) rfl ?_
      refine XS.iload X46.here hx rfl (hb hby d11_237) rfl ?_
      exact k
    have M47 := rm9 l Z a0 hw [] a1 ((0 : Int32) + (1 : Int32)) te lo hi N gN33 h41 n0 (Nat.le_trans (Nat.le_trans Zs K33.1) (Keep.of_wr W41).1) f41_3 f41_18 g_N dd0 (by decide) (by decide)
    obtain ⟨cq47, q47, q47'⟩ := f41_0.cell
    obtain ⟨_, _, ⟨T47, L47, k47, n47⟩, -, X47, ⟨Lc47, hQ47, l47, y47, z47⟩, st47⟩ := X46.privateBack hx (y := (⟨"com/example/liaise/liaise/NodeTable", "place", "(IIII)V"⟩ : MethodName)) hown (mvT hZ (own_at hw 51 rfl)) (mvT hZ (own_at hw 52 rfl)) (mvT hZ (own_selp (y := (⟨"com/example/liaise/liaise/NodeTable", "place", "(IIII)V"⟩ : MethodName)) (own_at hw 1 rfl) (own_at hw 53 rfl) (own_at hw 52 rfl) (by decide))) (Cond.privateMethod_at (mvP hZ (own_at hw 53 rfl) (args := #[]))) (mvT hZ (own_at hw 54 rfl)) (by decide) (backOf (W := 0) (M47) hZ (own_at hw 54 rfl) (own_at hw 2 rfl) (by decide) (by decide)) (g := (mkF m 239 #[.val (.ref a1), .val (.ref a2), .val (.int 1), .val (.ref b1), .val (.ref S), .val (.int (0 + 1)), .val (.int 1), .val (.int te), .val (.int 1), .val (.int lo), .val (.int hi)] [(.int hi), (.int lo), (.int te), (.int (0 + 1)), (.ref a1)])) rfl (by rw [hml]; rfl) (Steps.refl _) (a := a1) (by rw [hh46]; exact q47) q47' (argsL := [(.int (0 + 1)), (.int te), (.int lo), (.int hi)]) (rest := []) (lenOf pd_rm11_2_3 rfl) rfl (by show 2 * 0 + _ ≤ _; exact Nat.le_of_eq rfl) (hb hby d11_239) (fun _ _ => ⟨rfl, hh46, (by decide : 2 + 0 ≤ _), (by decide : 4 + 0 ≤ _)⟩)
    dsimp only [Pt.U, Pt.locs, Pt.cells, Pt.slots] at X47 l47 y47 z47 st47 hQ47
    subst l47 y47 z47
    obtain ⟨rfl, N47q, K47, gN47, An47, hpa47, hpb47, hpc47⟩ := hQ47
    have N47 := Fr.app N46 N47q
    obtain ⟨LL47, X47, N47⟩ := own_abs X47 N47
    refine own_go (fun t k => st47.trans k) ?_
    have KK47 : Keep h0 T47.heap [a1, N, H, S, C, a2] := K41.trans K47 (allS (Or.inl (List.mem_of_getElem? (i := 1) rfl)) all0)
    have f47_0 := f41_0.keep K47
    have f47_1 := own_staKeep f41_1 K47 (nsS f41_18.nestat ns0)
    have f47_2 := f41_2.keep K47 ni34
    have f47_3 := f41_3.keep K47 ni34
    have f47_4 := f41_4.keep K47 ni34
    have f47_5 := f41_5.keep K47 ni34
    have f47_6 := f41_6.keep K47 ni34
    have f47_7 := f41_7.keep K47 ni34
    have f47_8 := f41_8.keep K47 ni34
    have f47_9 := f41_9.keep K47 ni34
    have f47_10 := f41_10.keep K47 ni35
    have f47_11 := f41_11.keep K47 ni36
    have f47_12 := f41_12.keep K47 ni37
    have f47_13 := f41_13.keep K47 ni38
    have f47_14 := f41_14.keep K47
    have f47_15 := f41_15.keep K47 ni39
    have f47_16 := f41_16.keep K47 ni39
    have f47_17 := f41_17.keep K47 ni40
    have hv47_0 : gN47 0 = vr := (hpc47 0 (by decide)).trans hv33_0
    have hv47_1 : gN47 3 = vr := (congrArg gN47 (by decide : 3 = 3 * (((0 : Int32) + (1 : Int32))).toNatClampNeg)).trans (hpa47.trans (hte.trans ((congrArg gN33 (by decide : ((3 : Int32) * (1 : Int32)).toNatClampNeg = 3)).trans hv33_1)))
    refine own_go (B := T47.setTop (mkF m 248 #[.val (.ref a1), .val (.ref a2), .val (.int 1), .val (.ref b1), .val (.ref S), .val (.int (0 + 1)), .val (.int 1), .val (.int te), .val (.int 1), .val (.int lo), .val (.int hi)] [(.int (0 + 1)), (.int 1), (.ref S)])) (fun t k => ?_) ?_
    · show Steps p.tables e below (T47.setTop (mkF m 242 #[.val (.ref a1), .val (.ref a2), .val (.int 1), .val (.ref b1), .val (.ref S), .val (.int (0 + 1)), .val (.int 1), .val (.int te), .val (.int 1), .val (.int lo), .val (.int hi)] [])) t
      refine XS.aload X47.here hx rfl (hb hby d11_242) rfl rfl ?_
      refine XS.iload X47.here hx rfl (hb hby d11_244) rfl ?_
      refine XS.iload X47.here hx rfl (hb hby d11_246) rfl ?_
      exact k
    obtain ⟨cl48, Ar48, hin48, -, -, -⟩ := f47_11.get (j := (1 : Int32)) (by decide) (by decide)
    obtain ⟨T48, h48, X48, e48, W48, st48⟩ := stI X47 hx hZ rfl Ar48 (j := (1 : Int32)) hin48 (g := (mkF m 248 #[.val (.ref a1), .val (.ref a2), .val (.int 1), .val (.ref b1), .val (.ref S), .val (.int (0 + 1)), .val (.int 1), .val (.int te), .val (.int 1), .val (.int lo), .val (.int hi)] [(.int (0 + 1)), (.int 1), (.ref S)])) rfl rfl (hb hby d11_248)
    refine own_go (fun t k => st48 t k) ?_
    have N48 := Fr.snoc X48 N47 g_S
    obtain ⟨LL48, X48, N48⟩ := own_abs X48 N48
    have K48 : Keep h0 h48 [a1, N, H, S, C, a2] := KK47.wr W48 (Or.inl (List.mem_of_getElem? (i := 3) rfl))
    have f48_0 := f47_0.wr W48
    have f48_1 := f47_1.wr W48
    have f48_2 := f47_2.other W48 (Or.inl dd2)
    have f48_3 := f47_3.other W48 (Or.inl dd2)
    have f48_4 := f47_4.other W48 (Or.inl dd2)
    have f48_5 := f47_5.other W48 (Or.inl dd2)
    have f48_6 := f47_6.other W48 (Or.inl dd2)
    have f48_7 := f47_7.other W48 (Or.inl dd2)
    have f48_8 := f47_8.other W48 (Or.inl dd2)
    have f48_9 := f47_9.other W48 (Or.inl dd2)
    have f48_10 := f47_10.other W48 dd7
    have f48_11 := f47_11.setk W48 1 (by decide)
    have f48_12 := f47_12.other W48 (Ne.symm dd9)
    have f48_13 := f47_13.other W48 (Ne.symm de3)
    have f48_14 := f47_14.wr W48
    have f48_15 := f47_15.other W48 (Or.inl (Ne.symm ne1_S))
    have f48_16 := f47_16.other W48 (Or.inl (Ne.symm ne1_S))
    have f48_17 := f47_17.other W48 (Ne.symm (Nat.ne_of_lt (Nat.lt_of_lt_of_le f1_12.lt sw3)))
    have f48_18 := An47.other W48 dd5
    refine own_go (B := T48.setTop (mkF m 257 #[.val (.ref a1), .val (.ref a2), .val (.int 1), .val (.ref b1), .val (.ref S), .val (.int ((0 + 1) + 1)), .val (.int 1), .val (.int te), .val (.int 1), .val (.int lo), .val (.int hi)] [(.int (1 + 1)), (.ref b1)])) (fun t k => ?_) ?_
    · show Steps p.tables e below (T48.setTop (mkF m 249 #[.val (.ref a1), .val (.ref a2), .val (.int 1), .val (.ref b1), .val (.ref S), .val (.int (0 + 1)), .val (.int 1), .val (.int te), .val (.int 1), .val (.int lo), .val (.int hi)] [])) t
      refine XS.iinc X48.here hx rfl (hb hby d11_249) rfl (l' := #[.val (.ref a1), .val (.ref a2), .val (.int 1), .val (.ref b1), .val (.ref S), .val (.int ((0 + 1) + 1)), .val (.int 1), .val (.int te), .val (.int 1), .val (.int lo), .val (.int hi)]) rfl ?_
      refine XS.aloadN X48.here hx rfl (hb hby d11_252) rfl rfl ?_
      refine XS.iload X48.here hx rfl (hb hby d11_253) rfl ?_
      refine XS.iconst X48.here hx rfl (hb hby d11_255) ?_
      refine XS.iadd X48.here hx rfl (hb hby d11_256) rfl ?_
      exact k
    have M49 := rm21b l Z a0 hw [] b1 ((1 : Int32) + (1 : Int32)) W3 gW (0 : Int64) h48 n0 (Nat.le_trans (Nat.le_trans (Nat.le_trans (Nat.le_trans Zs K33.1) (Keep.of_wr W41).1) K47.1) (Keep.of_wr W48).1) f48_14 f48_16 f48_17 f48_15 f48_1 (by decide) (by decide) (by rw [hW]; decide) (by decide)
    obtain ⟨cq49, kq49, q49a, q49b, q49c⟩ := isOf hZ e48 f48_14
    obtain ⟨_, _, ⟨T49, L49, k49, n49⟩, -, X49, ⟨Lc49, hQ49, l49, y49, z49⟩, st49⟩ := X48.virtualBack hx (y := (⟨"java/util/BitSet", "nextSetBit", "(I)I"⟩ : MethodName)) (z := (⟨"java/util/BitSet", "nextSetBit", "(I)I"⟩ : MethodName)) hown (mvT hZ (own_at hw 121 rfl)) (mvT hZ (own_at hw 122 rfl)) (notFace_of_selects (args := #[]) (mvT hZ (own_at hw 124 rfl))) (mvT hZ (own_at hw 124 rfl)) (mvT hZ (own_at hw 123 rfl)) (by decide) (backOf (W := 0) (M49) hZ (own_at hw 125 rfl) (own_at hw 70 rfl) (by decide) (by decide)) q49a q49c (g := (mkF m 257 #[.val (.ref a1), .val (.ref a2), .val (.int 1), .val (.ref b1), .val (.ref S), .val (.int ((0 + 1) + 1)), .val (.int 1), .val (.int te), .val (.int 1), .val (.int lo), .val (.int hi)] [(.int (1 + 1)), (.ref b1)])) rfl (by rw [hml]; rfl) (Steps.refl _) (argsL := [(.int (1 + 1))]) (rest := []) (lenOf pd_rm11_2_2 rfl) rfl (by show 2 * 0 + _ ≤ _; exact Nat.le_of_eq rfl) (hb hby d11_257) (fun _ _ => ⟨rfl, e48, (by decide : 2 + 0 ≤ _), (by decide : 4 + 0 ≤ _)⟩)
    dsimp only [Pt.U, Pt.locs, Pt.cells, Pt.slots] at X49 l49 y49 z49 st49 hQ49
    subst l49 y49 z49
    obtain ⟨rfl, N49q, hh49⟩ := hQ49
    have N49 := Fr.app N48 N49q
    obtain ⟨LL49, X49, N49⟩ := own_abs X49 N49
    refine own_go (fun t k => st49.trans k) ?_
    refine own_go (B := T49.setTop (mkF m 282 #[.val (.ref a1), .val (.ref a2), .val (.int 1), .val (.ref b1), .val (.ref S), .val (.int ((0 + 1) + 1)), .val (.int 0), .val (.int te), .val (.int 1), .val (.int lo), .val (.int hi)] [(.int 0), (.ref a2), (.ref S), (.int 0), (.ref a2)])) (fun t k => ?_) ?_
    · show Steps p.tables e below (T49.setTop (mkF m 260 #[.val (.ref a1), .val (.ref a2), .val (.int 1), .val (.ref b1), .val (.ref S), .val (.int ((0 + 1) + 1)), .val (.int 1), .val (.int te), .val (.int 1), .val (.int lo), .val (.int hi)] [(.int (-1))])) t
      refine XS.istore X49.here hx rfl (hb hby d11_260) rfl (l' := #[.val (.ref a1), .val (.ref a2), .val (.int 1), .val (.ref b1), .val (.ref S), .val (.int ((0 + 1) + 1)), .val (.int (-1)), .val (.int te), .val (.int 1), .val (.int lo), .val (.int hi)]) rfl ?_
      refine XS.goto X49.here hx rfl (pc0 := 262) (pc' := 151) rfl (hb hby d11_262) (by decide) (by decide) ?_
      refine XS.iload X49.here hx rfl (hb hby d11_151) rfl ?_
      show Steps p.tables e below (T49.setTop (mkF m 153 #[.val (.ref a1), .val (.ref a2), .val (.int 1), .val (.ref b1), .val (.ref S), .val (.int ((0 + 1) + 1)), .val (.int (-1)), .val (.int te), .val (.int 1), .val (.int lo), .val (.int hi)] [(.int (-1))])) t
      refine XS.ifYes X49.here hx rfl (pc0 := 153) (pc' := 265) rfl (hb hby d11_153) rfl ((if0 _ _).trans (tlt (by decide : (-1 : Int32) < (0 : Int32))).1) (by decide) (by decide) ?_
      refine XS.iconst X49.here hx rfl (hb hby d11_265) ?_
      refine XS.istore X49.here hx rfl (hb hby d11_266) rfl (l' := #[.val (.ref a1), .val (.ref a2), .val (.int 1), .val (.ref b1), .val (.ref S), .val (.int ((0 + 1) + 1)), .val (.int 0), .val (.int te), .val (.int 1), .val (.int lo), .val (.int hi)]) rfl ?_
      show Steps p.tables e below (T49.setTop (mkF m 268 #[.val (.ref a1), .val (.ref a2), .val (.int 1), .val (.ref b1), .val (.ref S), .val (.int ((0 + 1) + 1)), .val (.int 0), .val (.int te), .val (.int 1), .val (.int lo), .val (.int hi)] [])) t
      refine XS.iload X49.here hx rfl (hb hby d11_268) rfl ?_
      refine XS.iloadN X49.here hx rfl (hb hby d11_270) rfl ?_
      show Steps p.tables e below (T49.setTop (mkF m 271 #[.val (.ref a1), .val (.ref a2), .val (.int 1), .val (.ref b1), .val (.ref S), .val (.int ((0 + 1) + 1)), .val (.int 0), .val (.int te), .val (.int 1), .val (.int lo), .val (.int hi)] [(.int 1), (.int 0)])) t
      refine XS.icmpNo X49.here hx rfl (hb hby d11_271) rfl (tlt (by decide : (0 : Int32) < (1 : Int32))).2.1 ?_
      refine XS.aloadN X49.here hx rfl (hb hby d11_274) rfl rfl ?_
      refine XS.iload X49.here hx rfl (hb hby d11_275) rfl ?_
      refine XS.aload X49.here hx rfl (hb hby d11_277) rfl rfl ?_
      show Steps p.tables e below (T49.setTop (mkF m 279 #[.val (.ref a1), .val (.ref a2), .val (.int 1), .val (.ref b1), .val (.ref S), .val (.int ((0 + 1) + 1)), .val (.int 0), .val (.int te), .val (.int 1), .val (.int lo), .val (.int hi)] [(.ref S), (.int 0), (.ref a2)])) t
      refine XS.aloadN X49.here hx rfl (hb hby d11_279) rfl rfl ?_
      refine XS.iload X49.here hx rfl (hb hby d11_280) rfl ?_
      exact k
    obtain ⟨cl50, Ar50, hin50, hat50, -, -⟩ := f48_13.get (j := (0 : Int32)) (by decide) (by decide)
    have hat50 : cl50.slots[((0 : Int32)).toNatClampNeg]? = some (.int av) := hat50.trans (by first | rfl | (rw [show ((0 : Int32)).toNatClampNeg = 0 from by decide]; rfl))
    refine own_go (X49.iaload hx (j := (0 : Int32)) (v := (.int av)) (by rw [hh49]; exact Ar50.1) (State.isArrayOf_alike hZ.alike Ar50.2.1) Ar50.2.2 hin50 hat50 (g := (mkF m 282 #[.val (.ref a1), .val (.ref a2), .val (.int 1), .val (.ref b1), .val (.ref S), .val (.int ((0 + 1) + 1)), .val (.int 0), .val (.int te), .val (.int 1), .val (.int lo), .val (.int hi)] [(.int 0), (.ref a2), (.ref S), (.int 0), (.ref a2)])) rfl rfl (hb hby d11_282)) ?_
    obtain ⟨cl51, Ar51, hin51, hat51, -, -⟩ := f48_11.get (j := av) (by rcases hav with rfl | rfl <;> decide) (by rcases hav with rfl | rfl <;> decide)
    refine own_go (X49.iaload hx (j := av) (v := (.int ((fun i => if i = 1 then ((0 : Int32) + (1 : Int32)) else (fun i => if i = 0 then (0 : Int32) else gS i) i) (av).toNatClampNeg))) (by rw [hh49]; exact Ar51.1) (State.isArrayOf_alike hZ.alike Ar51.2.1) Ar51.2.2 hin51 hat51 (g := (mkF m 283 #[.val (.ref a1), .val (.ref a2), .val (.int 1), .val (.ref b1), .val (.ref S), .val (.int ((0 + 1) + 1)), .val (.int 0), .val (.int te), .val (.int 1), .val (.int lo), .val (.int hi)] [(.int av), (.ref S), (.int 0), (.ref a2)])) rfl rfl (hb hby d11_283)) ?_
    obtain ⟨cl52, Ar52, hin52, -, -, -⟩ := f48_13.get (j := (0 : Int32)) (by decide) (by decide)
    obtain ⟨T52, h52, X52, e52, W52, st52⟩ := stI X49 hx hZ hh49 Ar52 (j := (0 : Int32)) hin52 (g := (mkF m 284 #[.val (.ref a1), .val (.ref a2), .val (.int 1), .val (.ref b1), .val (.ref S), .val (.int ((0 + 1) + 1)), .val (.int 0), .val (.int te), .val (.int 1), .val (.int lo), .val (.int hi)] [(.int ((fun i => if i = 1 then ((0 : Int32) + (1 : Int32)) else (fun i => if i = 0 then (0 : Int32) else gS i) i) (av).toNatClampNeg)), (.int 0), (.ref a2)])) rfl rfl (hb hby d11_284)
    refine own_go (fun t k => st52 t k) ?_
    have N52 := Fr.snoc X52 N49 g_a2
    obtain ⟨LL52, X52, N52⟩ := own_abs X52 N52
    have K52 : Keep h0 h52 [a1, N, H, S, C, a2] := K48.wr W52 (Or.inl (List.mem_of_getElem? (i := 5) rfl))
    have f52_0 := f48_0.wr W52
    have f52_1 := f48_1.wr W52
    have f52_2 := f48_2.other W52 (Or.inl de0)
    have f52_3 := f48_3.other W52 (Or.inl de0)
    have f52_4 := f48_4.other W52 (Or.inl de0)
    have f52_5 := f48_5.other W52 (Or.inl de0)
    have f52_6 := f48_6.other W52 (Or.inl de0)
    have f52_7 := f48_7.other W52 (Or.inl de0)
    have f52_8 := f48_8.other W52 (Or.inl de0)
    have f52_9 := f48_9.other W52 (Or.inl de0)
    have f52_10 := f48_10.other W52 de2
    have f52_11 := f48_11.other W52 de3
    have f52_12 := f48_12.other W52 de4
    have f52_13 := f48_13.setk W52 0 (by decide)
    have f52_14 := f48_14.wr W52
    have f52_15 := f48_15.other W52 (Or.inl (Ne.symm ne1_a2))
    have f52_16 := f48_16.other W52 (Or.inl (Ne.symm ne1_a2))
    have f52_17 := f48_17.other W52 (Ne.symm (Nat.ne_of_lt (Nat.lt_of_lt_of_le f1_14.lt sw3)))
    have f52_18 := f48_18.other W52 de1
    refine own_go (B := T52.setTop (mkF m 297 #[.val (.ref a1), .val (.ref a2), .val (.int 1), .val (.ref b1), .val (.ref S), .val (.int ((0 + 1) + 1)), .val (.int 0), .val (.int te), .val (.int 1), .val (.int lo), .val (.int hi)] [(.ref a1), (.int 0)])) (fun t k => ?_) ?_
    · show Steps p.tables e below (T52.setTop (mkF m 285 #[.val (.ref a1), .val (.ref a2), .val (.int 1), .val (.ref b1), .val (.ref S), .val (.int ((0 + 1) + 1)), .val (.int 0), .val (.int te), .val (.int 1), .val (.int lo), .val (.int hi)] [])) t
      refine XS.iinc X52.here hx rfl (hb hby d11_285) rfl (l' := #[.val (.ref a1), .val (.ref a2), .val (.int 1), .val (.ref b1), .val (.ref S), .val (.int ((0 + 1) + 1)), .val (.int (0 + 1)), .val (.int te), .val (.int 1), .val (.int lo), .val (.int hi)]) rfl ?_
      refine XS.goto X52.here hx rfl (pc0 := 288) (pc' := 268) rfl (hb hby d11_288) (by decide) (by decide) ?_
      refine XS.iload X52.here hx rfl (hb hby d11_268) rfl ?_
      refine XS.iloadN X52.here hx rfl (hb hby d11_270) rfl ?_
      show Steps p.tables e below (T52.setTop (mkF m 271 #[.val (.ref a1), .val (.ref a2), .val (.int 1), .val (.ref b1), .val (.ref S), .val (.int ((0 + 1) + 1)), .val (.int (0 + 1)), .val (.int te), .val (.int 1), .val (.int lo), .val (.int hi)] [(.int 1), (.int (0 + 1))])) t
      refine XS.icmpYes X52.here hx rfl (pc0 := 271) (pc' := 291) rfl (hb hby d11_271) rfl (flt (by decide : ¬ (((0 : Int32) + (1 : Int32)) < (1 : Int32)))).2.1 (by decide) (by decide) ?_
      refine XS.iconst X52.here hx rfl (hb hby d11_291) ?_
      show Steps p.tables e below (T52.setTop (mkF m 292 #[.val (.ref a1), .val (.ref a2), .val (.int 1), .val (.ref b1), .val (.ref S), .val (.int ((0 + 1) + 1)), .val (.int (0 + 1)), .val (.int te), .val (.int 1), .val (.int lo), .val (.int hi)] [(.int 0)])) t
      refine XS.istore X52.here hx rfl (hb hby d11_292) rfl (l' := #[.val (.ref a1), .val (.ref a2), .val (.int 1), .val (.ref b1), .val (.ref S), .val (.int ((0 + 1) + 1)), .val (.int 0), .val (.int te), .val (.int 1), .val (.int lo), .val (.int hi)]) rfl ?_
      refine XS.iload X52.here hx rfl (hb hby d11_294) rfl ?_
      refine XS.aloadN X52.here hx rfl (hb hby d11_296) rfl rfl ?_
      exact k
    obtain ⟨T53, X53, e53, st53⟩ := getF X52 hx hZ hown (host := "") (Or.inl (own_at hw 61 rfl)) Via.refl e52 f52_7 (g := (mkF m 297 #[.val (.ref a1), .val (.ref a2), .val (.int 1), .val (.ref b1), .val (.ref S), .val (.int ((0 + 1) + 1)), .val (.int 0), .val (.int te), .val (.int 1), .val (.int lo), .val (.int hi)] [(.ref a1), (.int 0)])) rfl rfl (hb hby d11_297)
    refine own_go (fun t k => st53 t k) ?_
    by_cases hc300_54 : (0 : Int32) < hd
    · refine own_go (B := T53.setTop (mkF m 303 #[.val (.ref a1), .val (.ref a2), .val (.int 1), .val (.ref b1), .val (.ref S), .val (.int ((0 + 1) + 1)), .val (.int 0), .val (.int te), .val (.int 1), .val (.int lo), .val (.int hi)] [])) (fun t k => ?_) ?_
      · show Steps p.tables e below (T53.setTop (mkF m 300 #[.val (.ref a1), .val (.ref a2), .val (.int 1), .val (.ref b1), .val (.ref S), .val (.int ((0 + 1) + 1)), .val (.int 0), .val (.int te), .val (.int 1), .val (.int lo), .val (.int hi)] [(.int hd), (.int 0)])) t
        refine XS.icmpNo X53.here hx rfl (hb hby d11_300) rfl (tlt hc300_54).2.1 ?_
        exact k
      have hg : gH 0 = av := hH (hd01.resolve_left fun q => by rw [q] at hc300_54; exact absurd hc300_54 (by decide))
      refine own_go (B := T53.setTop (mkF m 304 #[.val (.ref a1), .val (.ref a2), .val (.int 1), .val (.ref b1), .val (.ref S), .val (.int ((0 + 1) + 1)), .val (.int 0), .val (.int te), .val (.int 1), .val (.int lo), .val (.int hi)] [(.ref a1)])) (fun t k => ?_) ?_
      · refine XS.aloadN X53.here hx rfl (hb hby d11_303) rfl rfl ?_
        exact k
      obtain ⟨T55, X55, e55, st55⟩ := getF X53 hx hZ hown (host := "") (Or.inl (own_at hw 14 rfl)) Via.refl e53 f52_6 (g := (mkF m 304 #[.val (.ref a1), .val (.ref a2), .val (.int 1), .val (.ref b1), .val (.ref S), .val (.int ((0 + 1) + 1)), .val (.int 0), .val (.int te), .val (.int 1), .val (.int lo), .val (.int hi)] [(.ref a1)])) rfl rfl (hb hby d11_304)
      refine own_go (fun t k => st55 t k) ?_
      refine own_go (B := T55.setTop (mkF m 312 #[.val (.ref a1), .val (.ref a2), .val (.int 1), .val (.ref b1), .val (.ref S), .val (.int ((0 + 1) + 1)), .val (.int 0), .val (.int te), .val (.int 1), .val (.int lo), .val (.int hi)] [(.ref a1), (.ref S), (.int 0), (.ref H)])) (fun t k => ?_) ?_
      · show Steps p.tables e below (T55.setTop (mkF m 307 #[.val (.ref a1), .val (.ref a2), .val (.int 1), .val (.ref b1), .val (.ref S), .val (.int ((0 + 1) + 1)), .val (.int 0), .val (.int te), .val (.int 1), .val (.int lo), .val (.int hi)] [(.ref H)])) t
        refine XS.iload X55.here hx rfl (hb hby d11_307) rfl ?_
        refine XS.aload X55.here hx rfl (hb hby d11_309) rfl rfl ?_
        refine XS.aloadN X55.here hx rfl (hb hby d11_311) rfl rfl ?_
        exact k
      obtain ⟨T56, X56, e56, st56⟩ := getF X55 hx hZ hown (host := "") (Or.inl (own_at hw 14 rfl)) Via.refl e55 f52_6 (g := (mkF m 312 #[.val (.ref a1), .val (.ref a2), .val (.int 1), .val (.ref b1), .val (.ref S), .val (.int ((0 + 1) + 1)), .val (.int 0), .val (.int te), .val (.int 1), .val (.int lo), .val (.int hi)] [(.ref a1), (.ref S), (.int 0), (.ref H)])) rfl rfl (hb hby d11_312)
      refine own_go (fun t k => st56 t k) ?_
      refine own_go (B := T56.setTop (mkF m 317 #[.val (.ref a1), .val (.ref a2), .val (.int 1), .val (.ref b1), .val (.ref S), .val (.int ((0 + 1) + 1)), .val (.int 0), .val (.int te), .val (.int 1), .val (.int lo), .val (.int hi)] [(.int 0), (.ref H), (.ref S), (.int 0), (.ref H)])) (fun t k => ?_) ?_
      · show Steps p.tables e below (T56.setTop (mkF m 315 #[.val (.ref a1), .val (.ref a2), .val (.int 1), .val (.ref b1), .val (.ref S), .val (.int ((0 + 1) + 1)), .val (.int 0), .val (.int te), .val (.int 1), .val (.int lo), .val (.int hi)] [(.ref H), (.ref S), (.int 0), (.ref H)])) t
        refine XS.iload X56.here hx rfl (hb hby d11_315) rfl ?_
        exact k
      obtain ⟨cl57, Ar57, hin57, hat57, -, -⟩ := f52_10.get (j := (0 : Int32)) (by decide) (by decide)
      have hat57 : cl57.slots[((0 : Int32)).toNatClampNeg]? = some (.int (gH 0)) := hat57.trans (by first | rfl | (rw [show ((0 : Int32)).toNatClampNeg = 0 from by decide]; rfl))
      refine own_go (X56.iaload hx (j := (0 : Int32)) (v := (.int (gH 0))) (by rw [e56]; exact Ar57.1) (State.isArrayOf_alike hZ.alike Ar57.2.1) Ar57.2.2 hin57 hat57 (g := (mkF m 317 #[.val (.ref a1), .val (.ref a2), .val (.int 1), .val (.ref b1), .val (.ref S), .val (.int ((0 + 1) + 1)), .val (.int 0), .val (.int te), .val (.int 1), .val (.int lo), .val (.int hi)] [(.int 0), (.ref H), (.ref S), (.int 0), (.ref H)])) rfl rfl (hb hby d11_317)) ?_
      obtain ⟨cl58, Ar58, hin58, hat58, -, -⟩ := f52_11.get (j := (gH 0)) (by rw [hg]; rcases hav with rfl | rfl <;> decide) (by rw [hg]; rcases hav with rfl | rfl <;> decide)
      refine own_go (X56.iaload hx (j := (gH 0)) (v := (.int ((fun i => if i = 1 then ((0 : Int32) + (1 : Int32)) else (fun i => if i = 0 then (0 : Int32) else gS i) i) ((gH 0)).toNatClampNeg))) (by rw [e56]; exact Ar58.1) (State.isArrayOf_alike hZ.alike Ar58.2.1) Ar58.2.2 hin58 hat58 (g := (mkF m 318 #[.val (.ref a1), .val (.ref a2), .val (.int 1), .val (.ref b1), .val (.ref S), .val (.int ((0 + 1) + 1)), .val (.int 0), .val (.int te), .val (.int 1), .val (.int lo), .val (.int hi)] [(.int (gH 0)), (.ref S), (.int 0), (.ref H)])) rfl rfl (hb hby d11_318)) ?_
      obtain ⟨cl59, Ar59, hin59, -, -, -⟩ := f52_10.get (j := (0 : Int32)) (by decide) (by decide)
      obtain ⟨T59, h59, X59, e59, W59, st59⟩ := stI X56 hx hZ e56 Ar59 (j := (0 : Int32)) hin59 (g := (mkF m 319 #[.val (.ref a1), .val (.ref a2), .val (.int 1), .val (.ref b1), .val (.ref S), .val (.int ((0 + 1) + 1)), .val (.int 0), .val (.int te), .val (.int 1), .val (.int lo), .val (.int hi)] [(.int ((fun i => if i = 1 then ((0 : Int32) + (1 : Int32)) else (fun i => if i = 0 then (0 : Int32) else gS i) i) ((gH 0)).toNatClampNeg)), (.int 0), (.ref H)])) rfl rfl (hb hby d11_319)
      refine own_go (fun t k => st59 t k) ?_
      have N59 := Fr.snoc X59 N52 g_H
      obtain ⟨LL59, X59, N59⟩ := own_abs X59 N59
      have K59 : Keep h0 h59 [a1, N, H, S, C, a2] := K52.wr W59 (Or.inl (List.mem_of_getElem? (i := 2) rfl))
      have f59_0 := f52_0.wr W59
      have f59_1 := f52_1.wr W59
      have f59_2 := f52_2.other W59 (Or.inl dd1)
      have f59_3 := f52_3.other W59 (Or.inl dd1)
      have f59_4 := f52_4.other W59 (Or.inl dd1)
      have f59_5 := f52_5.other W59 (Or.inl dd1)
      have f59_6 := f52_6.other W59 (Or.inl dd1)
      have f59_7 := f52_7.other W59 (Or.inl dd1)
      have f59_8 := f52_8.other W59 (Or.inl dd1)
      have f59_9 := f52_9.other W59 (Or.inl dd1)
      have f59_10 := f52_10.setk W59 0 (by decide)
      have f59_11 := f52_11.other W59 (Ne.symm dd7)
      have f59_12 := f52_12.other W59 (Ne.symm dd8)
      have f59_13 := f52_13.other W59 (Ne.symm de2)
      have f59_14 := f52_14.wr W59
      have f59_15 := f52_15.other W59 (Or.inl (Ne.symm ne1_H))
      have f59_16 := f52_16.other W59 (Or.inl (Ne.symm ne1_H))
      have f59_17 := f52_17.other W59 (Ne.symm (Nat.ne_of_lt (Nat.lt_of_lt_of_le f1_11.lt sw3)))
      have f59_18 := f52_18.other W59 dd4
      refine own_go (B := T59.setTop (mkF m 297 #[.val (.ref a1), .val (.ref a2), .val (.int 1), .val (.ref b1), .val (.ref S), .val (.int ((0 + 1) + 1)), .val (.int (0 + 1)), .val (.int te), .val (.int 1), .val (.int lo), .val (.int hi)] [(.ref a1), (.int (0 + 1))])) (fun t k => ?_) ?_
      · show Steps p.tables e below (T59.setTop (mkF m 320 #[.val (.ref a1), .val (.ref a2), .val (.int 1), .val (.ref b1), .val (.ref S), .val (.int ((0 + 1) + 1)), .val (.int 0), .val (.int te), .val (.int 1), .val (.int lo), .val (.int hi)] [])) t
        refine XS.iinc X59.here hx rfl (hb hby d11_320) rfl (l' := #[.val (.ref a1), .val (.ref a2), .val (.int 1), .val (.ref b1), .val (.ref S), .val (.int ((0 + 1) + 1)), .val (.int (0 + 1)), .val (.int te), .val (.int 1), .val (.int lo), .val (.int hi)]) rfl ?_
        refine XS.goto X59.here hx rfl (pc0 := 323) (pc' := 294) rfl (hb hby d11_323) (by decide) (by decide) ?_
        refine XS.iload X59.here hx rfl (hb hby d11_294) rfl ?_
        refine XS.aloadN X59.here hx rfl (hb hby d11_296) rfl rfl ?_
        exact k
      obtain ⟨T60, X60, e60, st60⟩ := getF X59 hx hZ hown (host := "") (Or.inl (own_at hw 61 rfl)) Via.refl e59 f59_7 (g := (mkF m 297 #[.val (.ref a1), .val (.ref a2), .val (.int 1), .val (.ref b1), .val (.ref S), .val (.int ((0 + 1) + 1)), .val (.int (0 + 1)), .val (.int te), .val (.int 1), .val (.int lo), .val (.int hi)] [(.ref a1), (.int (0 + 1))])) rfl rfl (hb hby d11_297)
      refine own_go (fun t k => st60 t k) ?_
      refine own_go (B := T60.setTop (mkF m 329 #[.val (.ref a1), .val (.ref a2), .val (.int 1), .val (.ref b1), .val (.ref S), .val (.int ((0 + 1) + 1)), .val (.int (0 + 1)), .val (.int te), .val (.int 1), .val (.int lo), .val (.int hi)] [(.int ((0 + 1) + 1)), (.ref a1)])) (fun t k => ?_) ?_
      · show Steps p.tables e below (T60.setTop (mkF m 300 #[.val (.ref a1), .val (.ref a2), .val (.int 1), .val (.ref b1), .val (.ref S), .val (.int ((0 + 1) + 1)), .val (.int (0 + 1)), .val (.int te), .val (.int 1), .val (.int lo), .val (.int hi)] [(.int hd), (.int (0 + 1))])) t
        refine XS.icmpYes X60.here hx rfl (pc0 := 300) (pc' := 326) rfl (hb hby d11_300) rfl (flt (by rcases hd01 with rfl | rfl <;> decide : ¬ (((0 : Int32) + (1 : Int32)) < hd))).2.1 (by decide) (by decide) ?_
        refine XS.aloadN X60.here hx rfl (hb hby d11_326) rfl rfl ?_
        refine XS.iload X60.here hx rfl (hb hby d11_327) rfl ?_
        exact k
      obtain ⟨T61, h61, X61, e61, W61, st61⟩ := putF X60 hx hZ hown (host := "") (Or.inl (own_at hw 49 rfl)) Via.refl e60 f59_4 f59_0 (Or.inl (own_at hw 50 rfl)) (own_at hw 1 rfl) (ty := .int) (by decide) rfl rfl (g := (mkF m 329 #[.val (.ref a1), .val (.ref a2), .val (.int 1), .val (.ref b1), .val (.ref S), .val (.int ((0 + 1) + 1)), .val (.int (0 + 1)), .val (.int te), .val (.int 1), .val (.int lo), .val (.int hi)] [(.int ((0 + 1) + 1)), (.ref a1)])) rfl rfl (hb hby d11_329)
      refine own_go (fun t k => st61 t k) ?_
      have N61 := Fr.snoc X61 N59 g_a1
      obtain ⟨LL61, X61, N61⟩ := own_abs X61 N61
      have K61 : Keep h0 h61 [a1, N, H, S, C, a2] := K59.wr W61 (Or.inl (List.mem_of_getElem? (i := 0) rfl))
      have f61_0 := f59_0.wr W61
      have f61_1 := f59_1.wr W61
      have f61_2 := f59_2.other W61 (Or.inr (slot_ne (Or.inr (own_at hw 19 rfl)) (Or.inl (own_at hw 50 rfl)) (by decide) (t := .int) (t' := .int) (by decide) (by decide)))
      have f61_3 := f59_3.other W61 (Or.inr (slot_ne (Or.inl (own_at hw 11 rfl)) (Or.inl (own_at hw 50 rfl)) (by decide) (t := (.array .int)) (t' := .int) (by decide) (by decide)))
      have f61_4 := f59_4.same W61
      have f61_5 := f59_5.other W61 (Or.inr (slot_ne (Or.inl (own_at hw 13 rfl)) (Or.inl (own_at hw 50 rfl)) (by decide) (t := .int) (t' := .int) (by decide) (by decide)))
      have f61_6 := f59_6.other W61 (Or.inr (slot_ne (Or.inl (own_at hw 15 rfl)) (Or.inl (own_at hw 50 rfl)) (by decide) (t := (.array .int)) (t' := .int) (by decide) (by decide)))
      have f61_7 := f59_7.other W61 (Or.inr (slot_ne (Or.inl (own_at hw 62 rfl)) (Or.inl (own_at hw 50 rfl)) (by decide) (t := .int) (t' := .int) (by decide) (by decide)))
      have f61_8 := f59_8.other W61 (Or.inr (slot_ne (Or.inl (own_at hw 17 rfl)) (Or.inl (own_at hw 50 rfl)) (by decide) (t := (.array .int)) (t' := .int) (by decide) (by decide)))
      have f61_9 := f59_9.other W61 (Or.inr (slot_ne (Or.inl (own_at hw 29 rfl)) (Or.inl (own_at hw 50 rfl)) (by decide) (t := (.array .int)) (t' := .int) (by decide) (by decide)))
      have f61_10 := f59_10.other W61 (Ne.symm dd1)
      have f61_11 := f59_11.other W61 (Ne.symm dd2)
      have f61_12 := f59_12.other W61 (Ne.symm dd3)
      have f61_13 := f59_13.other W61 (Ne.symm de0)
      have f61_14 := f59_14.wr W61
      have f61_15 := f59_15.other W61 (Or.inl (Ne.symm ne1_a1))
      have f61_16 := f59_16.other W61 (Or.inl (Ne.symm ne1_a1))
      have f61_17 := f59_17.other W61 (Ne.symm (Nat.ne_of_lt (Nat.lt_of_lt_of_le f1_0.lt sw3)))
      have f61_18 := f59_18.other W61 (Ne.symm dd0)
      refine own_go (B := T61.setTop (mkF m 335 #[.val (.ref a1), .val (.ref a2), .val (.int 1), .val (.ref b1), .val (.ref S), .val (.int ((0 + 1) + 1)), .val (.int (0 + 1)), .val (.int te), .val (.int 1), .val (.int lo), .val (.int hi)] [(.int ((0 + 1) + 1)), (.ref a1)])) (fun t k => ?_) ?_
      · show Steps p.tables e below (T61.setTop (mkF m 332 #[.val (.ref a1), .val (.ref a2), .val (.int 1), .val (.ref b1), .val (.ref S), .val (.int ((0 + 1) + 1)), .val (.int (0 + 1)), .val (.int te), .val (.int 1), .val (.int lo), .val (.int hi)] [])) t
        refine XS.aloadN X61.here hx rfl (hb hby d11_332) rfl rfl ?_
        refine XS.iload X61.here hx rfl (hb hby d11_333) rfl ?_
        exact k
      obtain ⟨T62, h62, X62, e62, W62, st62⟩ := putF X61 hx hZ hown (host := "") (Or.inl (own_at hw 12 rfl)) Via.refl e61 f61_5 f61_0 (Or.inl (own_at hw 13 rfl)) (own_at hw 1 rfl) (ty := .int) (by decide) rfl rfl (g := (mkF m 335 #[.val (.ref a1), .val (.ref a2), .val (.int 1), .val (.ref b1), .val (.ref S), .val (.int ((0 + 1) + 1)), .val (.int (0 + 1)), .val (.int te), .val (.int 1), .val (.int lo), .val (.int hi)] [(.int ((0 + 1) + 1)), (.ref a1)])) rfl rfl (hb hby d11_335)
      refine own_go (fun t k => st62 t k) ?_
      have N62 := Fr.snoc X62 N61 g_a1
      obtain ⟨LL62, X62, N62⟩ := own_abs X62 N62
      have K62 : Keep h0 h62 [a1, N, H, S, C, a2] := K61.wr W62 (Or.inl (List.mem_of_getElem? (i := 0) rfl))
      have f62_0 := f61_0.wr W62
      have f62_1 := f61_1.wr W62
      have f62_2 := f61_2.other W62 (Or.inr (slot_ne (Or.inr (own_at hw 19 rfl)) (Or.inl (own_at hw 13 rfl)) (by decide) (t := .int) (t' := .int) (by decide) (by decide)))
      have f62_3 := f61_3.other W62 (Or.inr (slot_ne (Or.inl (own_at hw 11 rfl)) (Or.inl (own_at hw 13 rfl)) (by decide) (t := (.array .int)) (t' := .int) (by decide) (by decide)))
      have f62_4 := f61_4.other W62 (Or.inr (slot_ne (Or.inl (own_at hw 50 rfl)) (Or.inl (own_at hw 13 rfl)) (by decide) (t := .int) (t' := .int) (by decide) (by decide)))
      have f62_5 := f61_5.same W62
      have f62_6 := f61_6.other W62 (Or.inr (slot_ne (Or.inl (own_at hw 15 rfl)) (Or.inl (own_at hw 13 rfl)) (by decide) (t := (.array .int)) (t' := .int) (by decide) (by decide)))
      have f62_7 := f61_7.other W62 (Or.inr (slot_ne (Or.inl (own_at hw 62 rfl)) (Or.inl (own_at hw 13 rfl)) (by decide) (t := .int) (t' := .int) (by decide) (by decide)))
      have f62_8 := f61_8.other W62 (Or.inr (slot_ne (Or.inl (own_at hw 17 rfl)) (Or.inl (own_at hw 13 rfl)) (by decide) (t := (.array .int)) (t' := .int) (by decide) (by decide)))
      have f62_9 := f61_9.other W62 (Or.inr (slot_ne (Or.inl (own_at hw 29 rfl)) (Or.inl (own_at hw 13 rfl)) (by decide) (t := (.array .int)) (t' := .int) (by decide) (by decide)))
      have f62_10 := f61_10.other W62 (Ne.symm dd1)
      have f62_11 := f61_11.other W62 (Ne.symm dd2)
      have f62_12 := f61_12.other W62 (Ne.symm dd3)
      have f62_13 := f61_13.other W62 (Ne.symm de0)
      have f62_14 := f61_14.wr W62
      have f62_15 := f61_15.other W62 (Or.inl (Ne.symm ne1_a1))
      have f62_16 := f61_16.other W62 (Or.inl (Ne.symm ne1_a1))
      have f62_17 := f61_17.other W62 (Ne.symm (Nat.ne_of_lt (Nat.lt_of_lt_of_le f1_0.lt sw3)))
      have f62_18 := f61_18.other W62 (Ne.symm dd0)
      have hNN : ∀ i, i < ((((0 : Int32) + (1 : Int32)) + (1 : Int32))).toNatClampNeg → gN47 (3 * i) = vr := by
        intro i hi
        rw [show ((((0 : Int32) + (1 : Int32)) + (1 : Int32))).toNatClampNeg = 2 by decide] at hi
        obtain rfl | rfl : i = 0 ∨ i = 1 := by omega
        · exact hv47_0
        · exact hv47_1
      refine own_go (B := T62.setTop (mkF m 347 #[.val (.ref a1), .val (.ref a2), .val (.int 1), .val (.ref b1), .val (.ref S), .val (.int ((0 + 1) + 1)), .val (.int 1024), .val (.int te), .val (.int 1), .val (.int lo), .val (.int hi)] [(.ref a1), (.int 2), (.int 1024)])) (fun t k => ?_) ?_
      · show Steps p.tables e below (T62.setTop (mkF m 338 #[.val (.ref a1), .val (.ref a2), .val (.int 1), .val (.ref b1), .val (.ref S), .val (.int ((0 + 1) + 1)), .val (.int (0 + 1)), .val (.int te), .val (.int 1), .val (.int lo), .val (.int hi)] [])) t
        refine XS.sipush X62.here hx rfl (hb hby d11_338) ?_
        refine XS.istore X62.here hx rfl (hb hby d11_341) rfl (l' := #[.val (.ref a1), .val (.ref a2), .val (.int 1), .val (.ref b1), .val (.ref S), .val (.int ((0 + 1) + 1)), .val (.int 1024), .val (.int te), .val (.int 1), .val (.int lo), .val (.int hi)]) rfl ?_
        refine XS.iload X62.here hx rfl (hb hby d11_343) rfl ?_
        refine XS.iconst X62.here hx rfl (hb hby d11_345) ?_
        refine XS.aloadN X62.here hx rfl (hb hby d11_346) rfl rfl ?_
        exact k
      obtain ⟨T63, X63, e63, st63⟩ := getF X62 hx hZ hown (host := "") (Or.inl (own_at hw 12 rfl)) Via.refl e62 f62_5 (g := (mkF m 347 #[.val (.ref a1), .val (.ref a2), .val (.int 1), .val (.ref b1), .val (.ref S), .val (.int ((0 + 1) + 1)), .val (.int 1024), .val (.int te), .val (.int 1), .val (.int lo), .val (.int hi)] [(.ref a1), (.int 2), (.int 1024)])) rfl rfl (hb hby d11_347)
      refine own_go (fun t k => st63 t k) ?_
      refine own_go (B := T63.setTop (mkF m 374 #[.val (.ref a1), .val (.ref a2), .val (.int 1), .val (.ref b1), .val (.ref S), .val (.int ((0 + 1) + 1)), .val (.int 1024), .val (.int te), .val (.int 1), .val (.int lo), .val (.int hi)] [(.ref a1), (.int 1024), (.ref a1)])) (fun t k => ?_) ?_
      · show Steps p.tables e below (T63.setTop (mkF m 350 #[.val (.ref a1), .val (.ref a2), .val (.int 1), .val (.ref b1), .val (.ref S), .val (.int ((0 + 1) + 1)), .val (.int 1024), .val (.int te), .val (.int 1), .val (.int lo), .val (.int hi)] [(.int ((0 + 1) + 1)), (.int 2), (.int 1024)])) t
        refine XS.imul X63.here hx rfl (hb hby d11_350) rfl ?_
        show Steps p.tables e below (T63.setTop (mkF m 351 #[.val (.ref a1), .val (.ref a2), .val (.int 1), .val (.ref b1), .val (.ref S), .val (.int ((0 + 1) + 1)), .val (.int 1024), .val (.int te), .val (.int 1), .val (.int lo), .val (.int hi)] [(.int (2 * ((0 + 1) + 1))), (.int 1024)])) t
        refine XS.icmpYes X63.here hx rfl (pc0 := 351) (pc' := 370) rfl (hb hby d11_351) rfl (flt (by decide : ¬ ((1024 : Int32) < ((2 : Int32) * (((0 : Int32) + (1 : Int32)) + (1 : Int32)))))).2.1 (by decide) (by decide) ?_
        refine XS.aloadN X63.here hx rfl (hb hby d11_370) rfl rfl ?_
        refine XS.iload X63.here hx rfl (hb hby d11_371) rfl ?_
        refine XS.aloadN X63.here hx rfl (hb hby d11_373) rfl rfl ?_
        exact k
      have M64 := rm4 l Z a0 hw [] a1 N gN47 h62 n0 (Nat.le_trans (Nat.le_trans (Nat.le_trans (Nat.le_trans (Nat.le_trans (Nat.le_trans (Nat.le_trans (Nat.le_trans Zs K33.1) (Keep.of_wr W41).1) K47.1) (Keep.of_wr W48).1) (Keep.of_wr W52).1) (Keep.of_wr W59).1) (Keep.of_wr W61).1) (Keep.of_wr W62).1) f62_3 f62_18
      obtain ⟨cq64, q64, q64'⟩ := f62_0.cell
      obtain ⟨_, _, ⟨T64, L64, k64, n64⟩, -, X64, ⟨Lc64, hQ64, l64, y64, z64⟩, st64⟩ := X63.privateBack hx (y := (⟨"com/example/liaise/liaise/NodeTable", "capacity", "()I"⟩ : MethodName)) hown (mvT hZ (own_at hw 24 rfl)) (mvT hZ (own_at hw 25 rfl)) (mvT hZ (own_selp (y := (⟨"com/example/liaise/liaise/NodeTable", "capacity", "()I"⟩ : MethodName)) (own_at hw 1 rfl) (own_at hw 26 rfl) (own_at hw 25 rfl) (by decide))) (Cond.privateMethod_at (mvP hZ (own_at hw 26 rfl) (args := #[]))) (mvT hZ (own_at hw 27 rfl)) (by decide) (backOf (W := 2) (M64) hZ (own_at hw 27 rfl) (own_at hw 2 rfl) (by decide) (by decide)) (g := (mkF m 374 #[.val (.ref a1), .val (.ref a2), .val (.int 1), .val (.ref b1), .val (.ref S), .val (.int ((0 + 1) + 1)), .val (.int 1024), .val (.int te), .val (.int 1), .val (.int lo), .val (.int hi)] [(.ref a1), (.int 1024), (.ref a1)])) rfl (by rw [hml]; rfl) (Steps.refl _) (a := a1) (by rw [e63]; exact q64) q64' (argsL := []) (rest := [(.int 1024), (.ref a1)]) (lenOf pd_rm11_2_4 rfl) rfl (by show 2 * 0 + _ ≤ _; exact Nat.le_of_eq rfl) (hb hby d11_374) (fun _ _ => ⟨rfl, e63, (by decide : 2 + 0 ≤ _), (by decide : 4 + 0 ≤ _)⟩)
      dsimp only [Pt.U, Pt.locs, Pt.cells, Pt.slots] at X64 l64 y64 z64 st64 hQ64
      subst l64 y64 z64
      obtain ⟨rfl, N64q, hh64⟩ := hQ64
      have N64 := Fr.app N62 N64q
      obtain ⟨LL64, X64, N64⟩ := own_abs X64 N64
      refine own_go (fun t k => st64.trans k) ?_
      have M65 := rm26 l Z a0 hw [] h62 n0 (Nat.le_trans (Nat.le_trans (Nat.le_trans (Nat.le_trans (Nat.le_trans (Nat.le_trans (Nat.le_trans (Nat.le_trans Zs K33.1) (Keep.of_wr W41).1) K47.1) (Keep.of_wr W48).1) (Keep.of_wr W52).1) (Keep.of_wr W59).1) (Keep.of_wr W61).1) (Keep.of_wr W62).1)
      obtain ⟨_, _, ⟨T65, L65, k65, n65⟩, -, X65, ⟨Lc65, hQ65, l65, y65, z65⟩, st65⟩ := Jvm.LawKit.callS X64 hx (y := (⟨"java/lang/Math", "min", "(II)I"⟩ : MethodName)) hown (mvT hZ (own_at hw 146 rfl)) (mvT hZ (own_at hw 147 rfl)) (mvT hZ (own_at hw 148 rfl)) (mvT hZ (own_at hw 149 rfl)) (by decide) (backOf (W := 1) (M65) hZ (own_at hw 149 rfl) (own_at hw 148 rfl) (by decide) (by decide)) (g := (mkF m 377 #[.val (.ref a1), .val (.ref a2), .val (.int 1), .val (.ref b1), .val (.ref S), .val (.int ((0 + 1) + 1)), .val (.int 1024), .val (.int te), .val (.int 1), .val (.int lo), .val (.int hi)] [(.int 1024), (.int 1024), (.ref a1)])) rfl (by rw [hml]; rfl) (argsL := [(.int 1024), (.int 1024)]) (rest := [(.ref a1)]) (lenOf pd_rm11_2_5 rfl) rfl (by show 2 * 0 + _ ≤ _; exact Nat.le_of_eq rfl) (hb hby d11_377) (fun _ _ => ⟨rfl, hh64, (by decide : 2 + 0 ≤ _), (by decide : 4 + 0 ≤ _)⟩)
      dsimp only [Pt.U, Pt.locs, Pt.cells, Pt.slots] at X65 l65 y65 z65 st65 hQ65
      subst l65 y65 z65
      obtain ⟨rfl, N65q, hh65⟩ := hQ65
      have N65 := Fr.app N64 N65q
      obtain ⟨LL65, X65, N65⟩ := own_abs X65 N65
      refine own_go (fun t k => st65 t k) ?_
      have M66 := rm27 l Z a0 hw [] a1 N S (((0 : Int32) + (1 : Int32)) + (1 : Int32)) vr gN47 (fun i => if i = 1 then ((0 : Int32) + (1 : Int32)) else (fun i => if i = 0 then (0 : Int32) else gS i) i) C gC h62 n0 (Nat.le_trans (Nat.le_trans (Nat.le_trans (Nat.le_trans (Nat.le_trans (Nat.le_trans (Nat.le_trans (Nat.le_trans Zs K33.1) (Keep.of_wr W41).1) K47.1) (Keep.of_wr W48).1) (Keep.of_wr W52).1) (Keep.of_wr W59).1) (Keep.of_wr W61).1) (Keep.of_wr W62).1) f62_0 f62_3 f62_8 f62_4 f62_18 f62_11 g_S dd2 dd5 (by decide) (by decide) hNN f62_9 f62_12 g_C dd3 dd6 dd9
      obtain ⟨cq66, q66, q66'⟩ := f62_0.cell
      obtain ⟨_, _, ⟨T66, L66, k66, n66⟩, -, X66, ⟨Lc66, hQ66, l66, y66, z66⟩, st66⟩ := X65.privateBack hx (y := (⟨"com/example/liaise/liaise/NodeTable", "resize", "(I)V"⟩ : MethodName)) hown (mvT hZ (own_at hw 150 rfl)) (mvT hZ (own_at hw 151 rfl)) (mvT hZ (own_selp (y := (⟨"com/example/liaise/liaise/NodeTable", "resize", "(I)V"⟩ : MethodName)) (own_at hw 1 rfl) (own_at hw 152 rfl) (own_at hw 151 rfl) (by decide))) (Cond.privateMethod_at (mvP hZ (own_at hw 152 rfl) (args := #[]))) (mvT hZ (own_at hw 153 rfl)) (by decide) (backOf (W := 0) (M66) hZ (own_at hw 153 rfl) (own_at hw 2 rfl) (by decide) (by decide)) (g := (mkF m 380 #[.val (.ref a1), .val (.ref a2), .val (.int 1), .val (.ref b1), .val (.ref S), .val (.int ((0 + 1) + 1)), .val (.int 1024), .val (.int te), .val (.int 1), .val (.int lo), .val (.int hi)] [(.int 1024), (.ref a1)])) rfl (by rw [hml]; rfl) (Steps.refl _) (a := a1) (by rw [hh65]; exact q66) q66' (argsL := [(.int 1024)]) (rest := []) (lenOf pd_rm11_2_0 rfl) rfl (by show 2 * 0 + _ ≤ _; exact Nat.le_of_eq rfl) (hb hby d11_380) (fun _ _ => ⟨rfl, hh65, (by decide : 2 + 0 ≤ _), (by decide : 4 + 0 ≤ _)⟩)
      dsimp only [Pt.U, Pt.locs, Pt.cells, Pt.slots] at X66 l66 y66 z66 st66 hQ66
      subst l66 y66 z66
      obtain ⟨gS66, gC66, rfl, N66q, K66, As66, Ac66, I66⟩ := hQ66
      have N66 := Fr.app N65 N66q
      obtain ⟨LL66, X66, N66⟩ := own_abs X66 N66
      refine own_go (fun t k => st66.trans k) ?_
      have KK66 : Keep h0 T66.heap [a1, N, H, S, C, a2] := K62.trans K66 (allS (Or.inl (List.mem_of_getElem? (i := 3) rfl)) (allS (Or.inl (List.mem_of_getElem? (i := 4) rfl)) all0))
      have f66_0 := f62_0.keep K66
      have f66_1 := own_staKeep f62_1 K66 (nsS f62_11.nestat (nsS f62_12.nestat ns0))
      have ni67 : a1 ∉ [S, C] := (ninS dd2 (ninS dd3 nin0))
      have f66_2 := f62_2.keep K66 ni67
      have f66_3 := f62_3.keep K66 ni67
      have f66_4 := f62_4.keep K66 ni67
      have f66_5 := f62_5.keep K66 ni67
      have f66_6 := f62_6.keep K66 ni67
      have f66_7 := f62_7.keep K66 ni67
      have f66_8 := f62_8.keep K66 ni67
      have f66_9 := f62_9.keep K66 ni67
      have ni68 : H ∉ [S, C] := (ninS dd7 (ninS dd8 nin0))
      have f66_10 := f62_10.keep K66 ni68
      have ni69 : a2 ∉ [S, C] := (ninS (Ne.symm de3) (ninS (Ne.symm de4) nin0))
      have f66_13 := f62_13.keep K66 ni69
      have f66_14 := f62_14.keep K66
      have ni70 : b1 ∉ [S, C] := (ninS (Ne.symm ne1_S) (ninS (Ne.symm ne1_C) nin0))
      have f66_15 := f62_15.keep K66 ni70
      have f66_16 := f62_16.keep K66 ni70
      have ni71 : W3 ∉ [S, C] := (ninS (Ne.symm (Nat.ne_of_lt (Nat.lt_of_lt_of_le f1_12.lt sw3))) (ninS (Ne.symm (Nat.ne_of_lt (Nat.lt_of_lt_of_le f1_13.lt sw3))) nin0))
      have f66_17 := f62_17.keep K66 ni71
      have ni72 : N ∉ [S, C] := (ninS dd5 (ninS dd6 nin0))
      have f66_18 := f62_18.keep K66 ni72
      obtain ⟨fs, hr, hrun, hended, hW, hsame⟩ := X66.leave (v := none) (fun _ => rfl)
      refine ⟨_, _, ?_, hrun, hended, _, _, rfl, ?_, ⟨_, rfl⟩, hW, hsame.mono (by decide) (by decide)⟩
      · show Steps p.tables e below (T66.setTop (mkF m 383 #[.val (.ref a1), .val (.ref a2), .val (.int 1), .val (.ref b1), .val (.ref S), .val (.int ((0 + 1) + 1)), .val (.int 1024), .val (.int te), .val (.int 1), .val (.int lo), .val (.int hi)] [])) _
        exact X66.returnOut hx Bd.returns (hb hby d11_383) hr
      · show Q11_2 Z a1 a2 N H S C vr hd av gN gH gS gC h0 n0 _ T66.heap _
        exact ⟨_, _, _, _, rfl, N66, KK66, f66_2, f66_3, f66_4, f66_5, f66_6, f66_7, f66_8, f66_9, f66_18, f66_10, As66, Ac66, I66⟩
    · refine own_go (B := T53.setTop (mkF m 326 #[.val (.ref a1), .val (.ref a2), .val (.int 1), .val (.ref b1), .val (.ref S), .val (.int ((0 + 1) + 1)), .val (.int 0), .val (.int te), .val (.int 1), .val (.int lo), .val (.int hi)] [])) (fun t k => ?_) ?_
      · show Steps p.tables e below (T53.setTop (mkF m 300 #[.val (.ref a1), .val (.ref a2), .val (.int 1), .val (.ref b1), .val (.ref S), .val (.int ((0 + 1) + 1)), .val (.int 0), .val (.int te), .val (.int 1), .val (.int lo), .val (.int hi)] [(.int hd), (.int 0)])) t
        refine XS.icmpYes X53.here hx rfl (pc0 := 300) (pc' := 326) rfl (hb hby d11_300) rfl (flt hc300_54).2.1 (by decide) (by decide) ?_
        exact k
      refine own_go (B := T53.setTop (mkF m 329 #[.val (.ref a1), .val (.ref a2), .val (.int 1), .val (.ref b1), .val (.ref S), .val (.int ((0 + 1) + 1)), .val (.int 0), .val (.int te), .val (.int 1), .val (.int lo), .val (.int hi)] [(.int ((0 + 1) + 1)), (.ref a1)])) (fun t k => ?_) ?_
      · refine XS.aloadN X53.here hx rfl (hb hby d11_326) rfl rfl ?_
        refine XS.iload X53.here hx rfl (hb hby d11_327) rfl ?_
        exact k
      obtain ⟨T73, h73, X73, e73, W73, st73⟩ := putF X53 hx hZ hown (host := "") (Or.inl (own_at hw 49 rfl)) Via.refl e53 f52_4 f52_0 (Or.inl (own_at hw 50 rfl)) (own_at hw 1 rfl) (ty := .int) (by decide) rfl rfl (g := (mkF m 329 #[.val (.ref a1), .val (.ref a2), .val (.int 1), .val (.ref b1), .val (.ref S), .val (.int ((0 + 1) + 1)), .val (.int 0), .val (.int te), .val (.int 1), .val (.int lo), .val (.int hi)] [(.int ((0 + 1) + 1)), (.ref a1)])) rfl rfl (hb hby d11_329)
      refine own_go (fun t k => st73 t k) ?_
      have N73 := Fr.snoc X73 N52 g_a1
      obtain ⟨LL73, X73, N73⟩ := own_abs X73 N73
      have K73 : Keep h0 h73 [a1, N, H, S, C, a2] := K52.wr W73 (Or.inl (List.mem_of_getElem? (i := 0) rfl))
      have f73_0 := f52_0.wr W73
      have f73_1 := f52_1.wr W73
      have f73_2 := f52_2.other W73 (Or.inr (slot_ne (Or.inr (own_at hw 19 rfl)) (Or.inl (own_at hw 50 rfl)) (by decide) (t := .int) (t' := .int) (by decide) (by decide)))
      have f73_3 := f52_3.other W73 (Or.inr (slot_ne (Or.inl (own_at hw 11 rfl)) (Or.inl (own_at hw 50 rfl)) (by decide) (t := (.array .int)) (t' := .int) (by decide) (by decide)))
      have f73_4 := f52_4.same W73
      have f73_5 := f52_5.other W73 (Or.inr (slot_ne (Or.inl (own_at hw 13 rfl)) (Or.inl (own_at hw 50 rfl)) (by decide) (t := .int) (t' := .int) (by decide) (by decide)))
      have f73_6 := f52_6.other W73 (Or.inr (slot_ne (Or.inl (own_at hw 15 rfl)) (Or.inl (own_at hw 50 rfl)) (by decide) (t := (.array .int)) (t' := .int) (by decide) (by decide)))
      have f73_7 := f52_7.other W73 (Or.inr (slot_ne (Or.inl (own_at hw 62 rfl)) (Or.inl (own_at hw 50 rfl)) (by decide) (t := .int) (t' := .int) (by decide) (by decide)))
      have f73_8 := f52_8.other W73 (Or.inr (slot_ne (Or.inl (own_at hw 17 rfl)) (Or.inl (own_at hw 50 rfl)) (by decide) (t := (.array .int)) (t' := .int) (by decide) (by decide)))
      have f73_9 := f52_9.other W73 (Or.inr (slot_ne (Or.inl (own_at hw 29 rfl)) (Or.inl (own_at hw 50 rfl)) (by decide) (t := (.array .int)) (t' := .int) (by decide) (by decide)))
      have f73_10 := f52_10.other W73 (Ne.symm dd1)
      have f73_11 := f52_11.other W73 (Ne.symm dd2)
      have f73_12 := f52_12.other W73 (Ne.symm dd3)
      have f73_13 := f52_13.other W73 (Ne.symm de0)
      have f73_14 := f52_14.wr W73
      have f73_15 := f52_15.other W73 (Or.inl (Ne.symm ne1_a1))
      have f73_16 := f52_16.other W73 (Or.inl (Ne.symm ne1_a1))
      have f73_17 := f52_17.other W73 (Ne.symm (Nat.ne_of_lt (Nat.lt_of_lt_of_le f1_0.lt sw3)))
      have f73_18 := f52_18.other W73 (Ne.symm dd0)
      refine own_go (B := T73.setTop (mkF m 335 #[.val (.ref a1), .val (.ref a2), .val (.int 1), .val (.ref b1), .val (.ref S), .val (.int ((0 + 1) + 1)), .val (.int 0), .val (.int te), .val (.int 1), .val (.int lo), .val (.int hi)] [(.int ((0 + 1) + 1)), (.ref a1)])) (fun t k => ?_) ?_
      · show Steps p.tables e below (T73.setTop (mkF m 332 #[.val (.ref a1), .val (.ref a2), .val (.int 1), .val (.ref b1), .val (.ref S), .val (.int ((0 + 1) + 1)), .val (.int 0), .val (.int te), .val (.int 1), .val (.int lo), .val (.int hi)] [])) t
        refine XS.aloadN X73.here hx rfl (hb hby d11_332) rfl rfl ?_
        refine XS.iload X73.here hx rfl (hb hby d11_333) rfl ?_
        exact k
      obtain ⟨T74, h74, X74, e74, W74, st74⟩ := putF X73 hx hZ hown (host := "") (Or.inl (own_at hw 12 rfl)) Via.refl e73 f73_5 f73_0 (Or.inl (own_at hw 13 rfl)) (own_at hw 1 rfl) (ty := .int) (by decide) rfl rfl (g := (mkF m 335 #[.val (.ref a1), .val (.ref a2), .val (.int 1), .val (.ref b1), .val (.ref S), .val (.int ((0 + 1) + 1)), .val (.int 0), .val (.int te), .val (.int 1), .val (.int lo), .val (.int hi)] [(.int ((0 + 1) + 1)), (.ref a1)])) rfl rfl (hb hby d11_335)
      refine own_go (fun t k => st74 t k) ?_
      have N74 := Fr.snoc X74 N73 g_a1
      obtain ⟨LL74, X74, N74⟩ := own_abs X74 N74
      have K74 : Keep h0 h74 [a1, N, H, S, C, a2] := K73.wr W74 (Or.inl (List.mem_of_getElem? (i := 0) rfl))
      have f74_0 := f73_0.wr W74
      have f74_1 := f73_1.wr W74
      have f74_2 := f73_2.other W74 (Or.inr (slot_ne (Or.inr (own_at hw 19 rfl)) (Or.inl (own_at hw 13 rfl)) (by decide) (t := .int) (t' := .int) (by decide) (by decide)))
      have f74_3 := f73_3.other W74 (Or.inr (slot_ne (Or.inl (own_at hw 11 rfl)) (Or.inl (own_at hw 13 rfl)) (by decide) (t := (.array .int)) (t' := .int) (by decide) (by decide)))
      have f74_4 := f73_4.other W74 (Or.inr (slot_ne (Or.inl (own_at hw 50 rfl)) (Or.inl (own_at hw 13 rfl)) (by decide) (t := .int) (t' := .int) (by decide) (by decide)))
      have f74_5 := f73_5.same W74
      have f74_6 := f73_6.other W74 (Or.inr (slot_ne (Or.inl (own_at hw 15 rfl)) (Or.inl (own_at hw 13 rfl)) (by decide) (t := (.array .int)) (t' := .int) (by decide) (by decide)))
      have f74_7 := f73_7.other W74 (Or.inr (slot_ne (Or.inl (own_at hw 62 rfl)) (Or.inl (own_at hw 13 rfl)) (by decide) (t := .int) (t' := .int) (by decide) (by decide)))
      have f74_8 := f73_8.other W74 (Or.inr (slot_ne (Or.inl (own_at hw 17 rfl)) (Or.inl (own_at hw 13 rfl)) (by decide) (t := (.array .int)) (t' := .int) (by decide) (by decide)))
      have f74_9 := f73_9.other W74 (Or.inr (slot_ne (Or.inl (own_at hw 29 rfl)) (Or.inl (own_at hw 13 rfl)) (by decide) (t := (.array .int)) (t' := .int) (by decide) (by decide)))
      have f74_10 := f73_10.other W74 (Ne.symm dd1)
      have f74_11 := f73_11.other W74 (Ne.symm dd2)
      have f74_12 := f73_12.other W74 (Ne.symm dd3)
      have f74_13 := f73_13.other W74 (Ne.symm de0)
      have f74_14 := f73_14.wr W74
      have f74_15 := f73_15.other W74 (Or.inl (Ne.symm ne1_a1))
      have f74_16 := f73_16.other W74 (Or.inl (Ne.symm ne1_a1))
      have f74_17 := f73_17.other W74 (Ne.symm (Nat.ne_of_lt (Nat.lt_of_lt_of_le f1_0.lt sw3)))
      have f74_18 := f73_18.other W74 (Ne.symm dd0)
      have hNN : ∀ i, i < ((((0 : Int32) + (1 : Int32)) + (1 : Int32))).toNatClampNeg → gN47 (3 * i) = vr := by
        intro i hi
        rw [show ((((0 : Int32) + (1 : Int32)) + (1 : Int32))).toNatClampNeg = 2 by decide] at hi
        obtain rfl | rfl : i = 0 ∨ i = 1 := by omega
        · exact hv47_0
        · exact hv47_1
      refine own_go (B := T74.setTop (mkF m 347 #[.val (.ref a1), .val (.ref a2), .val (.int 1), .val (.ref b1), .val (.ref S), .val (.int ((0 + 1) + 1)), .val (.int 1024), .val (.int te), .val (.int 1), .val (.int lo), .val (.int hi)] [(.ref a1), (.int 2), (.int 1024)])) (fun t k => ?_) ?_
      · show Steps p.tables e below (T74.setTop (mkF m 338 #[.val (.ref a1), .val (.ref a2), .val (.int 1), .val (.ref b1), .val (.ref S), .val (.int ((0 + 1) + 1)), .val (.int 0), .val (.int te), .val (.int 1), .val (.int lo), .val (.int hi)] [])) t
        refine XS.sipush X74.here hx rfl (hb hby d11_338) ?_
        refine XS.istore X74.here hx rfl (hb hby d11_341) rfl (l' := #[.val (.ref a1), .val (.ref a2), .val (.int 1), .val (.ref b1), .val (.ref S), .val (.int ((0 + 1) + 1)), .val (.int 1024), .val (.int te), .val (.int 1), .val (.int lo), .val (.int hi)]) rfl ?_
        refine XS.iload X74.here hx rfl (hb hby d11_343) rfl ?_
        refine XS.iconst X74.here hx rfl (hb hby d11_345) ?_
        refine XS.aloadN X74.here hx rfl (hb hby d11_346) rfl rfl ?_
        exact k
      obtain ⟨T75, X75, e75, st75⟩ := getF X74 hx hZ hown (host := "") (Or.inl (own_at hw 12 rfl)) Via.refl e74 f74_5 (g := (mkF m 347 #[.val (.ref a1), .val (.ref a2), .val (.int 1), .val (.ref b1), .val (.ref S), .val (.int ((0 + 1) + 1)), .val (.int 1024), .val (.int te), .val (.int 1), .val (.int lo), .val (.int hi)] [(.ref a1), (.int 2), (.int 1024)])) rfl rfl (hb hby d11_347)
      refine own_go (fun t k => st75 t k) ?_
      refine own_go (B := T75.setTop (mkF m 374 #[.val (.ref a1), .val (.ref a2), .val (.int 1), .val (.ref b1), .val (.ref S), .val (.int ((0 + 1) + 1)), .val (.int 1024), .val (.int te), .val (.int 1), .val (.int lo), .val (.int hi)] [(.ref a1), (.int 1024), (.ref a1)])) (fun t k => ?_) ?_
      · show Steps p.tables e below (T75.setTop (mkF m 350 #[.val (.ref a1), .val (.ref a2), .val (.int 1), .val (.ref b1), .val (.ref S), .val (.int ((0 + 1) + 1)), .val (.int 1024), .val (.int te), .val (.int 1), .val (.int lo), .val (.int hi)] [(.int ((0 + 1) + 1)), (.int 2), (.int 1024)])) t
        refine XS.imul X75.here hx rfl (hb hby d11_350) rfl ?_
        show Steps p.tables e below (T75.setTop (mkF m 351 #[.val (.ref a1), .val (.ref a2), .val (.int 1), .val (.ref b1), .val (.ref S), .val (.int ((0 + 1) + 1)), .val (.int 1024), .val (.int te), .val (.int 1), .val (.int lo), .val (.int hi)] [(.int (2 * ((0 + 1) + 1))), (.int 1024)])) t
        refine XS.icmpYes X75.here hx rfl (pc0 := 351) (pc' := 370) rfl (hb hby d11_351) rfl (flt (by decide : ¬ ((1024 : Int32) < ((2 : Int32) * (((0 : Int32) + (1 : Int32)) + (1 : Int32)))))).2.1 (by decide) (by decide) ?_
        refine XS.aloadN X75.here hx rfl (hb hby d11_370) rfl rfl ?_
        refine XS.iload X75.here hx rfl (hb hby d11_371) rfl ?_
        refine XS.aloadN X75.here hx rfl (hb hby d11_373) rfl rfl ?_
        exact k
      have M76 := rm4 l Z a0 hw [] a1 N gN47 h74 n0 (Nat.le_trans (Nat.le_trans (Nat.le_trans (Nat.le_trans (Nat.le_trans (Nat.le_trans (Nat.le_trans Zs K33.1) (Keep.of_wr W41).1) K47.1) (Keep.of_wr W48).1) (Keep.of_wr W52).1) (Keep.of_wr W73).1) (Keep.of_wr W74).1) f74_3 f74_18
      obtain ⟨cq76, q76, q76'⟩ := f74_0.cell
      obtain ⟨_, _, ⟨T76, L76, k76, n76⟩, -, X76, ⟨Lc76, hQ76, l76, y76, z76⟩, st76⟩ := X75.privateBack hx (y := (⟨"com/example/liaise/liaise/NodeTable", "capacity", "()I"⟩ : MethodName)) hown (mvT hZ (own_at hw 24 rfl)) (mvT hZ (own_at hw 25 rfl)) (mvT hZ (own_selp (y := (⟨"com/example/liaise/liaise/NodeTable", "capacity", "()I"⟩ : MethodName)) (own_at hw 1 rfl) (own_at hw 26 rfl) (own_at hw 25 rfl) (by decide))) (Cond.privateMethod_at (mvP hZ (own_at hw 26 rfl) (args := #[]))) (mvT hZ (own_at hw 27 rfl)) (by decide) (backOf (W := 2) (M76) hZ (own_at hw 27 rfl) (own_at hw 2 rfl) (by decide) (by decide)) (g := (mkF m 374 #[.val (.ref a1), .val (.ref a2), .val (.int 1), .val (.ref b1), .val (.ref S), .val (.int ((0 + 1) + 1)), .val (.int 1024), .val (.int te), .val (.int 1), .val (.int lo), .val (.int hi)] [(.ref a1), (.int 1024), (.ref a1)])) rfl (by rw [hml]; rfl) (Steps.refl _) (a := a1) (by rw [e75]; exact q76) q76' (argsL := []) (rest := [(.int 1024), (.ref a1)]) (lenOf pd_rm11_2_4 rfl) rfl (by show 2 * 0 + _ ≤ _; exact Nat.le_of_eq rfl) (hb hby d11_374) (fun _ _ => ⟨rfl, e75, (by decide : 2 + 0 ≤ _), (by decide : 4 + 0 ≤ _)⟩)
      dsimp only [Pt.U, Pt.locs, Pt.cells, Pt.slots] at X76 l76 y76 z76 st76 hQ76
      subst l76 y76 z76
      obtain ⟨rfl, N76q, hh76⟩ := hQ76
      have N76 := Fr.app N74 N76q
      obtain ⟨LL76, X76, N76⟩ := own_abs X76 N76
      refine own_go (fun t k => st76.trans k) ?_
      have M77 := rm26 l Z a0 hw [] h74 n0 (Nat.le_trans (Nat.le_trans (Nat.le_trans (Nat.le_trans (Nat.le_trans (Nat.le_trans (Nat.le_trans Zs K33.1) (Keep.of_wr W41).1) K47.1) (Keep.of_wr W48).1) (Keep.of_wr W52).1) (Keep.of_wr W73).1) (Keep.of_wr W74).1)
      obtain ⟨_, _, ⟨T77, L77, k77, n77⟩, -, X77, ⟨Lc77, hQ77, l77, y77, z77⟩, st77⟩ := Jvm.LawKit.callS X76 hx (y := (⟨"java/lang/Math", "min", "(II)I"⟩ : MethodName)) hown (mvT hZ (own_at hw 146 rfl)) (mvT hZ (own_at hw 147 rfl)) (mvT hZ (own_at hw 148 rfl)) (mvT hZ (own_at hw 149 rfl)) (by decide) (backOf (W := 1) (M77) hZ (own_at hw 149 rfl) (own_at hw 148 rfl) (by decide) (by decide)) (g := (mkF m 377 #[.val (.ref a1), .val (.ref a2), .val (.int 1), .val (.ref b1), .val (.ref S), .val (.int ((0 + 1) + 1)), .val (.int 1024), .val (.int te), .val (.int 1), .val (.int lo), .val (.int hi)] [(.int 1024), (.int 1024), (.ref a1)])) rfl (by rw [hml]; rfl) (argsL := [(.int 1024), (.int 1024)]) (rest := [(.ref a1)]) (lenOf pd_rm11_2_5 rfl) rfl (by show 2 * 0 + _ ≤ _; exact Nat.le_of_eq rfl) (hb hby d11_377) (fun _ _ => ⟨rfl, hh76, (by decide : 2 + 0 ≤ _), (by decide : 4 + 0 ≤ _)⟩)
      dsimp only [Pt.U, Pt.locs, Pt.cells, Pt.slots] at X77 l77 y77 z77 st77 hQ77
      subst l77 y77 z77
      obtain ⟨rfl, N77q, hh77⟩ := hQ77
      have N77 := Fr.app N76 N77q
      obtain ⟨LL77, X77, N77⟩ := own_abs X77 N77
      refine own_go (fun t k => st77 t k) ?_
      have M78 := rm27 l Z a0 hw [] a1 N S (((0 : Int32) + (1 : Int32)) + (1 : Int32)) vr gN47 (fun i => if i = 1 then ((0 : Int32) + (1 : Int32)) else (fun i => if i = 0 then (0 : Int32) else gS i) i) C gC h74 n0 (Nat.le_trans (Nat.le_trans (Nat.le_trans (Nat.le_trans (Nat.le_trans (Nat.le_trans (Nat.le_trans Zs K33.1) (Keep.of_wr W41).1) K47.1) (Keep.of_wr W48).1) (Keep.of_wr W52).1) (Keep.of_wr W73).1) (Keep.of_wr W74).1) f74_0 f74_3 f74_8 f74_4 f74_18 f74_11 g_S dd2 dd5 (by decide) (by decide) hNN f74_9 f74_12 g_C dd3 dd6 dd9
      obtain ⟨cq78, q78, q78'⟩ := f74_0.cell
      obtain ⟨_, _, ⟨T78, L78, k78, n78⟩, -, X78, ⟨Lc78, hQ78, l78, y78, z78⟩, st78⟩ := X77.privateBack hx (y := (⟨"com/example/liaise/liaise/NodeTable", "resize", "(I)V"⟩ : MethodName)) hown (mvT hZ (own_at hw 150 rfl)) (mvT hZ (own_at hw 151 rfl)) (mvT hZ (own_selp (y := (⟨"com/example/liaise/liaise/NodeTable", "resize", "(I)V"⟩ : MethodName)) (own_at hw 1 rfl) (own_at hw 152 rfl) (own_at hw 151 rfl) (by decide))) (Cond.privateMethod_at (mvP hZ (own_at hw 152 rfl) (args := #[]))) (mvT hZ (own_at hw 153 rfl)) (by decide) (backOf (W := 0) (M78) hZ (own_at hw 153 rfl) (own_at hw 2 rfl) (by decide) (by decide)) (g := (mkF m 380 #[.val (.ref a1), .val (.ref a2), .val (.int 1), .val (.ref b1), .val (.ref S), .val (.int ((0 + 1) + 1)), .val (.int 1024), .val (.int te), .val (.int 1), .val (.int lo), .val (.int hi)] [(.int 1024), (.ref a1)])) rfl (by rw [hml]; rfl) (Steps.refl _) (a := a1) (by rw [hh77]; exact q78) q78' (argsL := [(.int 1024)]) (rest := []) (lenOf pd_rm11_2_0 rfl) rfl (by show 2 * 0 + _ ≤ _; exact Nat.le_of_eq rfl) (hb hby d11_380) (fun _ _ => ⟨rfl, hh77, (by decide : 2 + 0 ≤ _), (by decide : 4 + 0 ≤ _)⟩)
      dsimp only [Pt.U, Pt.locs, Pt.cells, Pt.slots] at X78 l78 y78 z78 st78 hQ78
      subst l78 y78 z78
      obtain ⟨gS78, gC78, rfl, N78q, K78, As78, Ac78, I78⟩ := hQ78
      have N78 := Fr.app N77 N78q
      obtain ⟨LL78, X78, N78⟩ := own_abs X78 N78
      refine own_go (fun t k => st78.trans k) ?_
      have KK78 : Keep h0 T78.heap [a1, N, H, S, C, a2] := K74.trans K78 (allS (Or.inl (List.mem_of_getElem? (i := 3) rfl)) (allS (Or.inl (List.mem_of_getElem? (i := 4) rfl)) all0))
      have f78_0 := f74_0.keep K78
      have f78_1 := own_staKeep f74_1 K78 (nsS f74_11.nestat (nsS f74_12.nestat ns0))
      have ni79 : a1 ∉ [S, C] := (ninS dd2 (ninS dd3 nin0))
      have f78_2 := f74_2.keep K78 ni79
      have f78_3 := f74_3.keep K78 ni79
      have f78_4 := f74_4.keep K78 ni79
      have f78_5 := f74_5.keep K78 ni79
      have f78_6 := f74_6.keep K78 ni79
      have f78_7 := f74_7.keep K78 ni79
      have f78_8 := f74_8.keep K78 ni79
      have f78_9 := f74_9.keep K78 ni79
      have ni80 : H ∉ [S, C] := (ninS dd7 (ninS dd8 nin0))
      have f78_10 := f74_10.keep K78 ni80
      have ni81 : a2 ∉ [S, C] := (ninS (Ne.symm de3) (ninS (Ne.symm de4) nin0))
      have f78_13 := f74_13.keep K78 ni81
      have f78_14 := f74_14.keep K78
      have ni82 : b1 ∉ [S, C] := (ninS (Ne.symm ne1_S) (ninS (Ne.symm ne1_C) nin0))
      have f78_15 := f74_15.keep K78 ni82
      have f78_16 := f74_16.keep K78 ni82
      have ni83 : W3 ∉ [S, C] := (ninS (Ne.symm (Nat.ne_of_lt (Nat.lt_of_lt_of_le f1_12.lt sw3))) (ninS (Ne.symm (Nat.ne_of_lt (Nat.lt_of_lt_of_le f1_13.lt sw3))) nin0))
      have f78_17 := f74_17.keep K78 ni83
      have ni84 : N ∉ [S, C] := (ninS dd5 (ninS dd6 nin0))
      have f78_18 := f74_18.keep K78 ni84
      obtain ⟨fs, hr, hrun, hended, hW, hsame⟩ := X78.leave (v := none) (fun _ => rfl)
      refine ⟨_, _, ?_, hrun, hended, _, _, rfl, ?_, ⟨_, rfl⟩, hW, hsame.mono (by decide) (by decide)⟩
      · show Steps p.tables e below (T78.setTop (mkF m 383 #[.val (.ref a1), .val (.ref a2), .val (.int 1), .val (.ref b1), .val (.ref S), .val (.int ((0 + 1) + 1)), .val (.int 1024), .val (.int te), .val (.int 1), .val (.int lo), .val (.int hi)] [])) _
        exact X78.returnOut hx Bd.returns (hb hby d11_383) hr
      · show Q11_2 Z a1 a2 N H S C vr hd av gN gH gS gC h0 n0 _ T78.heap _
        exact ⟨_, _, _, _, rfl, N78, KK78, f78_2, f78_3, f78_4, f78_5, f78_6, f78_7, f78_8, f78_9, f78_18, f78_10, As78, Ac78, I78⟩
  refine own_go (B := T19.setTop (mkF m 51 #[.val (.ref a1), .val (.ref a2), .val (.int 1), .val (.ref b1), .val (.int 0), .unset, .unset, .unset, .unset, .unset, .unset] [(.ref a1), (.int 0)])) (fun t k => ?_) ?_
  · refine XS.iload X19.here hx rfl (hb hby d11_48) rfl ?_
    refine XS.aloadN X19.here hx rfl (hb hby d11_50) rfl rfl ?_
    exact k
  obtain ⟨T85, X85, e85, st85⟩ := getF X19 hx hZ hown (host := "") (Or.inl (own_at hw 61 rfl)) Via.refl rfl f19_7 (g := (mkF m 51 #[.val (.ref a1), .val (.ref a2), .val (.int 1), .val (.ref b1), .val (.int 0), .unset, .unset, .unset, .unset, .unset, .unset] [(.ref a1), (.int 0)])) rfl rfl (hb hby d11_51)
  refine own_go (fun t k => st85 t k) ?_
  by_cases hc54_86 : (0 : Int32) < hd
  · refine own_go (B := T85.setTop (mkF m 57 #[.val (.ref a1), .val (.ref a2), .val (.int 1), .val (.ref b1), .val (.int 0), .unset, .unset, .unset, .unset, .unset, .unset] [])) (fun t k => ?_) ?_
    · show Steps p.tables e below (T85.setTop (mkF m 54 #[.val (.ref a1), .val (.ref a2), .val (.int 1), .val (.ref b1), .val (.int 0), .unset, .unset, .unset, .unset, .unset, .unset] [(.int hd), (.int 0)])) t
      refine XS.icmpNo X85.here hx rfl (hb hby d11_54) rfl (tlt hc54_86).2.1 ?_
      exact k
    have hg : gH 0 = av := hH (hd01.resolve_left fun q => by rw [q] at hc54_86; exact absurd hc54_86 (by decide))
    refine own_go (B := T85.setTop (mkF m 59 #[.val (.ref a1), .val (.ref a2), .val (.int 1), .val (.ref b1), .val (.int 0), .unset, .unset, .unset, .unset, .unset, .unset] [(.ref a1), (.ref b1)])) (fun t k => ?_) ?_
    · refine XS.aloadN X85.here hx rfl (hb hby d11_57) rfl rfl ?_
      refine XS.aloadN X85.here hx rfl (hb hby d11_58) rfl rfl ?_
      exact k
    obtain ⟨T87, X87, e87, st87⟩ := getF X85 hx hZ hown (host := "") (Or.inl (own_at hw 14 rfl)) Via.refl e85 f19_6 (g := (mkF m 59 #[.val (.ref a1), .val (.ref a2), .val (.int 1), .val (.ref b1), .val (.int 0), .unset, .unset, .unset, .unset, .unset, .unset] [(.ref a1), (.ref b1)])) rfl rfl (hb hby d11_59)
    refine own_go (fun t k => st87 t k) ?_
    refine own_go (B := T87.setTop (mkF m 64 #[.val (.ref a1), .val (.ref a2), .val (.int 1), .val (.ref b1), .val (.int 0), .unset, .unset, .unset, .unset, .unset, .unset] [(.int 0), (.ref H), (.ref b1)])) (fun t k => ?_) ?_
    · show Steps p.tables e below (T87.setTop (mkF m 62 #[.val (.ref a1), .val (.ref a2), .val (.int 1), .val (.ref b1), .val (.int 0), .unset, .unset, .unset, .unset, .unset, .unset] [(.ref H), (.ref b1)])) t
      refine XS.iload X87.here hx rfl (hb hby d11_62) rfl ?_
      exact k
    obtain ⟨cl88, Ar88, hin88, hat88, -, -⟩ := f19_11.get (j := (0 : Int32)) (by decide) (by decide)
    have hat88 : cl88.slots[((0 : Int32)).toNatClampNeg]? = some (.int (gH 0)) := hat88.trans (by first | rfl | (rw [show ((0 : Int32)).toNatClampNeg = 0 from by decide]; rfl))
    refine own_go (X87.iaload hx (j := (0 : Int32)) (v := (.int (gH 0))) (by rw [e87]; exact Ar88.1) (State.isArrayOf_alike hZ.alike Ar88.2.1) Ar88.2.2 hin88 hat88 (g := (mkF m 64 #[.val (.ref a1), .val (.ref a2), .val (.int 1), .val (.ref b1), .val (.int 0), .unset, .unset, .unset, .unset, .unset, .unset] [(.int 0), (.ref H), (.ref b1)])) rfl rfl (hb hby d11_64)) ?_
    have M89 := rm15 l Z a0 hw [] b1 (gH 0) W3 gW19 (1 : Int32) T19.heap n0 (Nat.le_trans (Nat.le_trans (Nat.le_trans (Nat.le_trans (Nat.le_trans Z0 E1.1) K3.1) K10.1) K17.1) K19.1) f19_15 Fw19 Aw19 Fu19 (Or.inr rfl) g_b1 (Nat.ne_of_lt (Nat.lt_of_lt_of_le A1.lt sw3)) gw3 f19_1 (by rw [hg]; rcases hav with rfl | rfl <;> decide) (by rw [hg]; rcases hav with rfl | rfl <;> decide)
    obtain ⟨cq89, kq89, q89a, q89b, q89c⟩ := isOf hZ e87 f19_15
    obtain ⟨_, _, ⟨T89, L89, k89, n89⟩, -, X89, ⟨Lc89, hQ89, l89, y89, z89⟩, st89⟩ := X87.virtualBack hx (y := (⟨"java/util/BitSet", "set", "(I)V"⟩ : MethodName)) (z := (⟨"java/util/BitSet", "set", "(I)V"⟩ : MethodName)) hown (mvT hZ (own_at hw 90 rfl)) (mvT hZ (own_at hw 91 rfl)) (notFace_of_selects (args := #[]) (mvT hZ (own_at hw 93 rfl))) (mvT hZ (own_at hw 93 rfl)) (mvT hZ (own_at hw 92 rfl)) (by decide) (backOf (W := 0) (M89) hZ (own_at hw 94 rfl) (own_at hw 70 rfl) (by decide) (by decide)) q89a q89c (g := (mkF m 65 #[.val (.ref a1), .val (.ref a2), .val (.int 1), .val (.ref b1), .val (.int 0), .unset, .unset, .unset, .unset, .unset, .unset] [(.int (gH 0)), (.ref b1)])) rfl (by rw [hml]; rfl) (Steps.refl _) (argsL := [(.int (gH 0))]) (rest := []) (lenOf pd_rm11_2_0 rfl) rfl (by show 2 * 0 + _ ≤ _; exact Nat.le_of_eq rfl) (hb hby d11_65) (fun _ _ => ⟨rfl, e87, (by decide : 2 + 0 ≤ _), (by decide : 4 + 0 ≤ _)⟩)
    dsimp only [Pt.U, Pt.locs, Pt.cells, Pt.slots] at X89 l89 y89 z89 st89 hQ89
    subst l89 y89 z89
    obtain ⟨gW89, rfl, N89q, K89, Fu89, Fw89, Aw89, hs89⟩ := hQ89
    have N89 := Fr.app N19 N89q
    obtain ⟨LL89, X89, N89⟩ := own_abs X89 N89
    refine own_go (fun t k => st89.trans k) ?_
    have KK89 : Keep h0 T89.heap [a1, N, H, S, C, a2] := KK19.trans K89 (allS (Or.inr sz_b1) (allS (Or.inr (Nat.le_trans K1.1 sw3)) all0))
    have f89_0 := f19_0.keep K89
    have f89_1 := own_staKeep f19_1 K89 (nsS f19_15.nostat (nsS Aw19.nestat ns0))
    have f89_2 := f19_2.keep K89 ni11
    have f89_3 := f19_3.keep K89 ni11
    have f89_4 := f19_4.keep K89 ni11
    have f89_5 := f19_5.keep K89 ni11
    have f89_6 := f19_6.keep K89 ni11
    have f89_7 := f19_7.keep K89 ni11
    have f89_8 := f19_8.keep K89 ni11
    have f89_9 := f19_9.keep K89 ni11
    have f89_10 := f19_10.keep K89 ni12
    have f89_11 := f19_11.keep K89 ni13
    have f89_12 := f19_12.keep K89 ni14
    have f89_13 := f19_13.keep K89 ni15
    have f89_14 := f19_14.keep K89 ni16
    have f89_15 := f19_15.keep K89
    refine own_go (B := T89.setTop (mkF m 48 #[.val (.ref a1), .val (.ref a2), .val (.int 1), .val (.ref b1), .val (.int (0 + 1)), .unset, .unset, .unset, .unset, .unset, .unset] [])) (fun t k => ?_) ?_
    · show Steps p.tables e below (T89.setTop (mkF m 68 #[.val (.ref a1), .val (.ref a2), .val (.int 1), .val (.ref b1), .val (.int 0), .unset, .unset, .unset, .unset, .unset, .unset] [])) t
      refine XS.iinc X89.here hx rfl (hb hby d11_68) rfl (l' := #[.val (.ref a1), .val (.ref a2), .val (.int 1), .val (.ref b1), .val (.int (0 + 1)), .unset, .unset, .unset, .unset, .unset, .unset]) rfl ?_
      refine XS.goto X89.here hx rfl (pc0 := 71) (pc' := 48) rfl (hb hby d11_71) (by decide) (by decide) ?_
      exact k
    refine own_go (B := T89.setTop (mkF m 51 #[.val (.ref a1), .val (.ref a2), .val (.int 1), .val (.ref b1), .val (.int (0 + 1)), .unset, .unset, .unset, .unset, .unset, .unset] [(.ref a1), (.int (0 + 1))])) (fun t k => ?_) ?_
    · refine XS.iload X89.here hx rfl (hb hby d11_48) rfl ?_
      refine XS.aloadN X89.here hx rfl (hb hby d11_50) rfl rfl ?_
      exact k
    obtain ⟨T90, X90, e90, st90⟩ := getF X89 hx hZ hown (host := "") (Or.inl (own_at hw 61 rfl)) Via.refl rfl f89_7 (g := (mkF m 51 #[.val (.ref a1), .val (.ref a2), .val (.int 1), .val (.ref b1), .val (.int (0 + 1)), .unset, .unset, .unset, .unset, .unset, .unset] [(.ref a1), (.int (0 + 1))])) rfl rfl (hb hby d11_51)
    refine own_go (fun t k => st90 t k) ?_
    refine own_go (B := T90.setTop (mkF m 74 #[.val (.ref a1), .val (.ref a2), .val (.int 1), .val (.ref b1), .val (.int (0 + 1)), .unset, .unset, .unset, .unset, .unset, .unset] [])) (fun t k => ?_) ?_
    · show Steps p.tables e below (T90.setTop (mkF m 54 #[.val (.ref a1), .val (.ref a2), .val (.int 1), .val (.ref b1), .val (.int (0 + 1)), .unset, .unset, .unset, .unset, .unset, .unset] [(.int hd), (.int (0 + 1))])) t
      refine XS.icmpYes X90.here hx rfl (pc0 := 54) (pc' := 74) rfl (hb hby d11_54) rfl (flt (by rcases hd01 with rfl | rfl <;> decide : ¬ (((0 : Int32) + (1 : Int32)) < hd))).2.1 (by decide) (by decide) ?_
      exact k
    have hW : gW89 0 = (3 : Int64) := by
      rw [hs89, hs19, hs17, hs10]
      rw [hg]
      rcases hav with rfl | rfl <;> decide
    exact rest _ _ _ _ _ hW X90 e90 N89 (Nat.le_trans (Nat.le_trans (Nat.le_trans (Nat.le_trans (Nat.le_trans (Nat.le_trans Z0 E1.1) K3.1) K10.1) K17.1) K19.1) K89.1) KK89 f89_0 f89_1 f89_2 f89_3 f89_4 f89_5 f89_6 f89_7 f89_8 f89_9 f89_10 f89_11 f89_12 f89_13 f89_14 f89_15 Fu89 Fw89 Aw89
  · refine own_go (B := T85.setTop (mkF m 74 #[.val (.ref a1), .val (.ref a2), .val (.int 1), .val (.ref b1), .val (.int 0), .unset, .unset, .unset, .unset, .unset, .unset] [])) (fun t k => ?_) ?_
    · show Steps p.tables e below (T85.setTop (mkF m 54 #[.val (.ref a1), .val (.ref a2), .val (.int 1), .val (.ref b1), .val (.int 0), .unset, .unset, .unset, .unset, .unset, .unset] [(.int hd), (.int 0)])) t
      refine XS.icmpYes X85.here hx rfl (pc0 := 54) (pc' := 74) rfl (hb hby d11_54) rfl (flt hc54_86).2.1 (by decide) (by decide) ?_
      exact k
    have hW : gW19 0 = (3 : Int64) := by
      rw [hs19, hs17, hs10]
      rcases hav with rfl | rfl <;> decide
    exact rest _ _ _ _ _ hW X85 e85 N19 (Nat.le_trans (Nat.le_trans (Nat.le_trans (Nat.le_trans (Nat.le_trans Z0 E1.1) K3.1) K10.1) K17.1) K19.1) KK19 f19_0 f19_1 f19_2 f19_3 f19_4 f19_5 f19_6 f19_7 f19_8 f19_9 f19_10 f19_11 f19_12 f19_13 f19_14 f19_15 Fu19 Fw19 Aw19
theorem pn_rm11_3 : plainName "com/example/liaise/liaise/NodeTable" = true := by first | (simp [plainName, overriddenIn]; done) | decide +kernel
theorem pd_rm11_3_0 : parseMethodDescriptor "(I)V" = some ⟨[.int], none⟩ := by decide +kernel
theorem pd_rm11_3_1 : parseMethodDescriptor "(I)Z" = some ⟨[.int], some .boolean⟩ := by decide +kernel
theorem pd_rm11_3_2 : parseMethodDescriptor "(I)I" = some ⟨[.int], some .int⟩ := by decide +kernel
theorem pd_rm11_3_3 : parseMethodDescriptor "(IIII)V" = some ⟨[.int, .int, .int, .int], none⟩ := by decide +kernel
theorem pd_rm11_3_4 : parseMethodDescriptor "()I" = some ⟨[], some .int⟩ := by decide +kernel
theorem pd_rm11_3_5 : parseMethodDescriptor "(II)I" = some ⟨[.int, .int], some .int⟩ := by decide +kernel
theorem ef_rm11_3 (m : MethodId) (x0 : Addr) (x1 : Addr) (x2 : Int32) : entryFrame m #[(.ref x0), (.ref x1), (.int x2)] 11 = mkF m 0 #[.val (.ref x0), .val (.ref x1), .val (.int x2), .unset, .unset, .unset, .unset, .unset, .unset, .unset, .unset] [] := by first | (simp [entryFrame, mkF, argsToLocals, Value.category]; done) | rfl
def Q11_3 (Z : State) (a1 : Addr) (a2 : Addr) (N H S C : Addr) (vr hd av : Int32) (gN gH gS gC : Nat → Int32) (h0 : Heap) (n0 : Nat) (v : Option Value) (h : Heap) (L : List Loc) : Prop := ∃ gN' gH' gS' gC' : Nat → Int32, v = none ∧ Fr n0 L ∧ Keep h0 h [a1, N, H, S, C, a2] ∧ Fld Z h a1 "com/example/liaise/liaise/NodeTable" "variables" "I" (.int vr) ∧ Fld Z h a1 "com/example/liaise/liaise/NodeTable" "nodes" "[I" (.ref N) ∧ Fld Z h a1 "com/example/liaise/liaise/NodeTable" "size" "I" (.int ((((0 : Int32) + (1 : Int32)) + (1 : Int32)) + (1 : Int32))) ∧ Fld Z h a1 "com/example/liaise/liaise/NodeTable" "kept" "I" (.int ((((0 : Int32) + (1 : Int32)) + (1 : Int32)) + (1 : Int32))) ∧ Fld Z h a1 "com/example/liaise/liaise/NodeTable" "held" "[I" (.ref H) ∧ Fld Z h a1 "com/example/liaise/liaise/NodeTable" "holding" "I" (.int hd) ∧ Fld Z h a1 "com/example/liaise/liaise/NodeTable" "slots" "[I" (.ref S) ∧ Fld Z h a1 "com/example/liaise/liaise/NodeTable" "cache" "[I" (.ref C) ∧ own_Ag Value.int Z h N .int (3072 : Int32) gN' ∧ own_Ag Value.int Z h H .int (2 : Int32) gH' ∧ own_Ag Value.int Z h S .int (2048 : Int32) gS' ∧ own_Ag Value.int Z h C .int (2048 : Int32) gC' ∧ own_I vr ((((0 : Int32) + (1 : Int32)) + (1 : Int32)) + (1 : Int32)) gN' gS'
set_option maxRecDepth 65536 in
set_option maxHeartbeats 40000000 in
theorem rm11_3 (l : Launch) (Z : State) (a0 : Array Value) (hw : ∀ d ∈ tables_1, d.before a0 Z = true) (ws : List Jvm.Cond) (a1 : Addr) (a2 : Addr) (N H S C : Addr) (vr hd av : Int32) (gN gH gS gC : Nat → Int32) (h0 : Heap) (n0 : Nat) (Z0 : n0 ≤ h0.size) (EX : Exa Z h0 a1 "com/example/liaise/liaise/NodeTable") (SA : Sta Z h0 "java/util/BitSet" "$assertionsDisabled" "Z" (.int (1 : Int32))) (F_variables : Fld Z h0 a1 "com/example/liaise/liaise/NodeTable" "variables" "I" (.int vr)) (F_nodes : Fld Z h0 a1 "com/example/liaise/liaise/NodeTable" "nodes" "[I" (.ref N)) (F_size : Fld Z h0 a1 "com/example/liaise/liaise/NodeTable" "size" "I" (.int (3 : Int32))) (F_kept : Fld Z h0 a1 "com/example/liaise/liaise/NodeTable" "kept" "I" (.int (2 : Int32))) (F_held : Fld Z h0 a1 "com/example/liaise/liaise/NodeTable" "held" "[I" (.ref H)) (F_holding : Fld Z h0 a1 "com/example/liaise/liaise/NodeTable" "holding" "I" (.int hd)) (F_slots : Fld Z h0 a1 "com/example/liaise/liaise/NodeTable" "slots" "[I" (.ref S)) (F_cache : Fld Z h0 a1 "com/example/liaise/liaise/NodeTable" "cache" "[I" (.ref C)) (A_N : own_Ag Value.int Z h0 N .int (3072 : Int32) gN) (A_H : own_Ag Value.int Z h0 H .int (2 : Int32) gH) (A_S : own_Ag Value.int Z h0 S .int (2048 : Int32) gS) (A_C : own_Ag Value.int Z h0 C .int (2048 : Int32) gC) (A_R : own_Ag Value.int Z h0 a2 .int (1 : Int32) (fun _ => av)) (g_a1 : n0 ≤ a1) (g_N : n0 ≤ N) (g_H : n0 ≤ H) (g_S : n0 ≤ S) (g_C : n0 ≤ C) (g_a2 : n0 ≤ a2) (dd0 : a1 ≠ N) (dd1 : a1 ≠ H) (dd2 : a1 ≠ S) (dd3 : a1 ≠ C) (dd4 : N ≠ H) (dd5 : N ≠ S) (dd6 : N ≠ C) (dd7 : H ≠ S) (dd8 : H ≠ C) (dd9 : S ≠ C) (de0 : a1 ≠ a2) (de1 : N ≠ a2) (de2 : H ≠ a2) (de3 : S ≠ a2) (de4 : C ≠ a2) (hv_0 : gN 0 = vr) (hv_1 : gN 3 = vr) (hv_2 : gN 6 = vr) (hd01 : hd = (0 : Int32) ∨ hd = (1 : Int32)) (hav : av = (2 : Int32)) (hH : hd = (1 : Int32) → gH 0 = av) :
    MetFree l (⟨"com/example/liaise/liaise/NodeTable", "collect", "([II)V"⟩ : MethodName) (head1 (Jvm.Cond.code (⟨"com/example/liaise/liaise/NodeTable", "collect", "([II)V"⟩ : MethodName) prog_47_method_25_code 11 none :: ws) ({ frames := 3, cells := 2, slots := 4, locals := 44 } : Room)) (fun a U => a = #[(.ref a1), (.ref a2), (.int 1)] ∧ Z.Warmed39 U.vm ∧ U.heap = h0) (fun _ _ _ _ _ => True) (fun _ U o U' => ∃ v L, o = .returned v ∧ Q11_3 Z a1 a2 N H S C vr hd av gN gH gS gC h0 n0 v U'.heap L ∧ FrameEnd U o U' L ({ frames := 3, cells := 2, slots := 4, locals := 44 } : Room).cells ({ frames := 3, cells := 2, slots := 4, locals := 44 } : Room).slots) := by
  refine MetFree.of_bodySF (plainFor_of_name pn_rm11_3) hisR ?_
  intro p e s m args below meth c s₁ Bd hml0 hP hK
  obtain ⟨rfl, hZ, hh⟩ := hP
  have hx := Bd.exec
  have hby := Bd.bytes
  have hml : c.maxLocals = 11 := hml0
  have hown : s.vm.findClass "com/example/liaise/liaise/NodeTable" = some m.cls := findClass_of_methodNamed Bd.named
  have hnm := (name_of_methodNamed Bd.named Bd.method).1
  have X0 : Stand p l e ({ frames := 3, cells := 2, slots := 4, locals := 44 } : Room) s m #[(.ref a1), (.ref a2), (.int 1)] below meth c s₁ [] 0 0 := Stand.of_body Bd
  have e0 : s₁.heap = h0 := by rw [← hh, Bd.state]; rfl
  have N0 := Fr.nil n0
  have pre0 : ∀ t, Steps p.tables e below (s₁.setTop (mkF m 0 #[.val (.ref a1), .val (.ref a2), .val (.int 1), .unset, .unset, .unset, .unset, .unset, .unset, .unset, .unset] [])) t → Steps p.tables e below (s₁.setTop (entryFrame m #[(.ref a1), (.ref a2), (.int 1)] 11)) t := fun t k => castTop (ef_rm11_3 m a1 a2 (1 : Int32)) k
  show own_Fin p e below _ _
  refine own_go pre0 ?_
  obtain ⟨T1, h1, X1, e1, E1, A1, D1, -, st1⟩ := newO X0 hx hZ hown (own_at hw 68 rfl) (own_at hw 69 rfl) (own_at hw 70 rfl) e0 (g := (mkF m 0 #[.val (.ref a1), .val (.ref a2), .val (.int 1), .unset, .unset, .unset, .unset, .unset, .unset, .unset, .unset] [])) rfl (hb hby d11_0) (by decide) (by decide)
  obtain ⟨b1, g1⟩ : ∃ z, z = h0.size := ⟨_, rfl⟩
  rw [← g1] at A1 D1 st1
  refine own_go (fun t k => st1 t k) ?_
  have g_b1 : n0 ≤ b1 := Nat.le_trans Z0 (Nat.le_of_eq g1.symm)
  have sz_b1 : h0.size ≤ b1 := Nat.le_trans (Keep.refl h0 [a1, N, H, S, C, a2]).1 (Nat.le_of_eq g1.symm)
  have ne1_a1 : a1 ≠ b1 := Nat.ne_of_lt (Nat.lt_of_lt_of_le EX.lt (Nat.le_of_eq g1.symm))
  have ne1_N : N ≠ b1 := Nat.ne_of_lt (Nat.lt_of_lt_of_le A_N.lt (Nat.le_of_eq g1.symm))
  have ne1_H : H ≠ b1 := Nat.ne_of_lt (Nat.lt_of_lt_of_le A_H.lt (Nat.le_of_eq g1.symm))
  have ne1_S : S ≠ b1 := Nat.ne_of_lt (Nat.lt_of_lt_of_le A_S.lt (Nat.le_of_eq g1.symm))
  have ne1_C : C ≠ b1 := Nat.ne_of_lt (Nat.lt_of_lt_of_le A_C.lt (Nat.le_of_eq g1.symm))
  have ne1_a2 : a2 ≠ b1 := Nat.ne_of_lt (Nat.lt_of_lt_of_le A_R.lt (Nat.le_of_eq g1.symm))
  have K1 : Keep h0 h1 [a1, N, H, S, C, a2] := (Keep.refl h0 [a1, N, H, S, C, a2]).ext E1
  have f1_0 := EX.ext E1
  have f1_1 := SA.ext E1
  have f1_2 := F_variables.ext E1
  have f1_3 := F_nodes.ext E1
  have f1_4 := F_size.ext E1
  have f1_5 := F_kept.ext E1
  have f1_6 := F_held.ext E1
  have f1_7 := F_holding.ext E1
  have f1_8 := F_slots.ext E1
  have f1_9 := F_cache.ext E1
  have f1_10 := A_N.ext E1
  have f1_11 := A_H.ext E1
  have f1_12 := A_S.ext E1
  have f1_13 := A_C.ext E1
  have f1_14 := A_R.ext E1
  have F1_wordsInUse : Fld Z h1 b1 "java/util/BitSet" "wordsInUse" "I" (.int 0) := D1 (Or.inl (own_at hw 76 rfl)) (ty := .int) (by decide)
  have F1_sizeIsSticky : Fld Z h1 b1 "java/util/BitSet" "sizeIsSticky" "Z" (.int 0) := D1 (Or.inl (own_at hw 78 rfl)) (ty := .boolean) (by decide)
  have F1_words : Fld Z h1 b1 "java/util/BitSet" "words" "[J" .null := D1 (Or.inl (own_at hw 89 rfl)) (ty := (.array .long)) (by decide)
  refine own_go (B := T1.setTop (mkF m 5 #[.val (.ref a1), .val (.ref a2), .val (.int 1), .unset, .unset, .unset, .unset, .unset, .unset, .unset, .unset] [(.ref a1), (.ref b1), (.ref b1)])) (fun t k => ?_) ?_
  · show Steps p.tables e below (T1.setTop (mkF m 3 #[.val (.ref a1), .val (.ref a2), .val (.int 1), .unset, .unset, .unset, .unset, .unset, .unset, .unset, .unset] [(.ref b1)])) t
    refine XS.dup X1.here hx rfl (hb hby d11_3) rfl rfl ?_
    refine XS.aloadN X1.here hx rfl (hb hby d11_4) rfl rfl ?_
    exact k
  obtain ⟨T2, X2, e2, st2⟩ := getF X1 hx hZ hown (host := "") (Or.inl (own_at hw 49 rfl)) Via.refl e1 f1_4 (g := (mkF m 5 #[.val (.ref a1), .val (.ref a2), .val (.int 1), .unset, .unset, .unset, .unset, .unset, .unset, .unset, .unset] [(.ref a1), (.ref b1), (.ref b1)])) rfl rfl (hb hby d11_5)
  refine own_go (fun t k => st2 t k) ?_
  have M3 := rm12 l Z a0 hw [] b1 (3 : Int32) h1 n0 (Nat.le_trans Z0 E1.1) A1 F1_words F1_wordsInUse F1_sizeIsSticky g_b1 (by decide) (by decide) (by decide)
  obtain ⟨_, _, ⟨T3, L3, k3, n3⟩, -, X3, ⟨Lc3, hQ3, l3, y3, z3⟩, st3⟩ := X2.specialBack hx (y := (⟨"java/util/BitSet", "<init>", "(I)V"⟩ : MethodName)) rfl hown (mvT hZ (own_at hw 71 rfl)) (mvT hZ (own_at hw 72 rfl)) (mvT hZ (own_at hw 73 rfl)) (by decide) (backOf (W := 1) (M3) hZ (own_at hw 73 rfl) (own_at hw 70 rfl) (by decide) (by decide)) (g := (mkF m 8 #[.val (.ref a1), .val (.ref a2), .val (.int 1), .unset, .unset, .unset, .unset, .unset, .unset, .unset, .unset] [(.int 3), (.ref b1), (.ref b1)])) rfl (by rw [hml]; rfl) (Steps.refl _) (a := b1) (argsL := [(.int 3)]) (rest := [(.ref b1)]) (lenOf pd_rm11_3_0 rfl) rfl (by show 2 * 0 + _ ≤ _; exact Nat.le_of_eq rfl) (hb hby d11_8) (fun _ _ => ⟨rfl, e2, (by decide : 1 + 1 ≤ _), (by decide : 3 + 1 ≤ _)⟩)
  dsimp only [Pt.U, Pt.locs, Pt.cells, Pt.slots] at X3 l3 y3 z3 st3 hQ3
  subst l3 y3 z3
  obtain ⟨W3, rfl, N3q, K3, Fw3, Fu3, Aw3, gw3, sw3⟩ := hQ3
  have N3 := Fr.app N0 N3q
  obtain ⟨LL3, X3, N3⟩ := own_abs X3 N3
  refine own_go (fun t k => st3.trans k) ?_
  have KK3 : Keep h0 T3.heap [a1, N, H, S, C, a2] := K1.trans K3 (allS (Or.inr sz_b1) all0)
  have f3_0 := f1_0.keep K3
  have f3_1 := own_staKeep f1_1 K3 (nsS A1.nostat ns0)
  have ni4 : a1 ∉ [b1] := (ninS ne1_a1 nin0)
  have f3_2 := f1_2.keep K3 ni4
  have f3_3 := f1_3.keep K3 ni4
  have f3_4 := f1_4.keep K3 ni4
  have f3_5 := f1_5.keep K3 ni4
  have f3_6 := f1_6.keep K3 ni4
  have f3_7 := f1_7.keep K3 ni4
  have f3_8 := f1_8.keep K3 ni4
  have f3_9 := f1_9.keep K3 ni4
  have ni5 : N ∉ [b1] := (ninS ne1_N nin0)
  have f3_10 := f1_10.keep K3 ni5
  have ni6 : H ∉ [b1] := (ninS ne1_H nin0)
  have f3_11 := f1_11.keep K3 ni6
  have ni7 : S ∉ [b1] := (ninS ne1_S nin0)
  have f3_12 := f1_12.keep K3 ni7
  have ni8 : C ∉ [b1] := (ninS ne1_C nin0)
  have f3_13 := f1_13.keep K3 ni8
  have ni9 : a2 ∉ [b1] := (ninS ne1_a2 nin0)
  have f3_14 := f1_14.keep K3 ni9
  have f3_15 := A1.keep K3
  refine own_go (B := T3.setTop (mkF m 14 #[.val (.ref a1), .val (.ref a2), .val (.int 1), .val (.ref b1), .unset, .unset, .unset, .unset, .unset, .unset, .unset] [(.int 0), (.ref b1)])) (fun t k => ?_) ?_
  · show Steps p.tables e below (T3.setTop (mkF m 11 #[.val (.ref a1), .val (.ref a2), .val (.int 1), .unset, .unset, .unset, .unset, .unset, .unset, .unset, .unset] [(.ref b1)])) t
    refine XS.astoreN X3.here hx rfl (hb hby d11_11) rfl rfl (l' := #[.val (.ref a1), .val (.ref a2), .val (.int 1), .val (.ref b1), .unset, .unset, .unset, .unset, .unset, .unset, .unset]) rfl ?_
    refine XS.aloadN X3.here hx rfl (hb hby d11_12) rfl rfl ?_
    refine XS.iconst X3.here hx rfl (hb hby d11_13) ?_
    exact k
  have M10 := rm15 l Z a0 hw [] b1 (0 : Int32) W3 (fun _ => (0 : Int64)) (0 : Int32) T3.heap n0 (Nat.le_trans (Nat.le_trans Z0 E1.1) K3.1) f3_15 Fw3 Aw3 Fu3 (Or.inl rfl) g_b1 (Nat.ne_of_lt (Nat.lt_of_lt_of_le A1.lt sw3)) gw3 f3_1 (by decide) (by decide)
  obtain ⟨cq10, kq10, q10a, q10b, q10c⟩ := isOf hZ rfl f3_15
  obtain ⟨_, _, ⟨T10, L10, k10, n10⟩, -, X10, ⟨Lc10, hQ10, l10, y10, z10⟩, st10⟩ := X3.virtualBack hx (y := (⟨"java/util/BitSet", "set", "(I)V"⟩ : MethodName)) (z := (⟨"java/util/BitSet", "set", "(I)V"⟩ : MethodName)) hown (mvT hZ (own_at hw 90 rfl)) (mvT hZ (own_at hw 91 rfl)) (notFace_of_selects (args := #[]) (mvT hZ (own_at hw 93 rfl))) (mvT hZ (own_at hw 93 rfl)) (mvT hZ (own_at hw 92 rfl)) (by decide) (backOf (W := 0) (M10) hZ (own_at hw 94 rfl) (own_at hw 70 rfl) (by decide) (by decide)) q10a q10c (g := (mkF m 14 #[.val (.ref a1), .val (.ref a2), .val (.int 1), .val (.ref b1), .unset, .unset, .unset, .unset, .unset, .unset, .unset] [(.int 0), (.ref b1)])) rfl (by rw [hml]; rfl) (Steps.refl _) (argsL := [(.int 0)]) (rest := []) (lenOf pd_rm11_3_0 rfl) rfl (by show 2 * 0 + _ ≤ _; exact Nat.le_of_eq rfl) (hb hby d11_14) (fun _ _ => ⟨rfl, rfl, (by decide : 2 + 0 ≤ _), (by decide : 4 + 0 ≤ _)⟩)
  dsimp only [Pt.U, Pt.locs, Pt.cells, Pt.slots] at X10 l10 y10 z10 st10 hQ10
  subst l10 y10 z10
  obtain ⟨gW10, rfl, N10q, K10, Fu10, Fw10, Aw10, hs10⟩ := hQ10
  have N10 := Fr.app N3 N10q
  obtain ⟨LL10, X10, N10⟩ := own_abs X10 N10
  refine own_go (fun t k => st10.trans k) ?_
  have KK10 : Keep h0 T10.heap [a1, N, H, S, C, a2] := KK3.trans K10 (allS (Or.inr sz_b1) (allS (Or.inr (Nat.le_trans K1.1 sw3)) all0))
  have f10_0 := f3_0.keep K10
  have f10_1 := own_staKeep f3_1 K10 (nsS f3_15.nostat (nsS Aw3.nestat ns0))
  have ni11 : a1 ∉ [b1, W3] := (ninS ne1_a1 (ninS (Nat.ne_of_lt (Nat.lt_of_lt_of_le f1_0.lt sw3)) nin0))
  have f10_2 := f3_2.keep K10 ni11
  have f10_3 := f3_3.keep K10 ni11
  have f10_4 := f3_4.keep K10 ni11
  have f10_5 := f3_5.keep K10 ni11
  have f10_6 := f3_6.keep K10 ni11
  have f10_7 := f3_7.keep K10 ni11
  have f10_8 := f3_8.keep K10 ni11
  have f10_9 := f3_9.keep K10 ni11
  have ni12 : N ∉ [b1, W3] := (ninS ne1_N (ninS (Nat.ne_of_lt (Nat.lt_of_lt_of_le f1_10.lt sw3)) nin0))
  have f10_10 := f3_10.keep K10 ni12
  have ni13 : H ∉ [b1, W3] := (ninS ne1_H (ninS (Nat.ne_of_lt (Nat.lt_of_lt_of_le f1_11.lt sw3)) nin0))
  have f10_11 := f3_11.keep K10 ni13
  have ni14 : S ∉ [b1, W3] := (ninS ne1_S (ninS (Nat.ne_of_lt (Nat.lt_of_lt_of_le f1_12.lt sw3)) nin0))
  have f10_12 := f3_12.keep K10 ni14
  have ni15 : C ∉ [b1, W3] := (ninS ne1_C (ninS (Nat.ne_of_lt (Nat.lt_of_lt_of_le f1_13.lt sw3)) nin0))
  have f10_13 := f3_13.keep K10 ni15
  have ni16 : a2 ∉ [b1, W3] := (ninS ne1_a2 (ninS (Nat.ne_of_lt (Nat.lt_of_lt_of_le f1_14.lt sw3)) nin0))
  have f10_14 := f3_14.keep K10 ni16
  have f10_15 := f3_15.keep K10
  refine own_go (B := T10.setTop (mkF m 19 #[.val (.ref a1), .val (.ref a2), .val (.int 1), .val (.ref b1), .unset, .unset, .unset, .unset, .unset, .unset, .unset] [(.int 1), (.ref b1)])) (fun t k => ?_) ?_
  · show Steps p.tables e below (T10.setTop (mkF m 17 #[.val (.ref a1), .val (.ref a2), .val (.int 1), .val (.ref b1), .unset, .unset, .unset, .unset, .unset, .unset, .unset] [])) t
    refine XS.aloadN X10.here hx rfl (hb hby d11_17) rfl rfl ?_
    refine XS.iconst X10.here hx rfl (hb hby d11_18) ?_
    exact k
  have M17 := rm15 l Z a0 hw [] b1 (1 : Int32) W3 gW10 (1 : Int32) T10.heap n0 (Nat.le_trans (Nat.le_trans (Nat.le_trans Z0 E1.1) K3.1) K10.1) f10_15 Fw10 Aw10 Fu10 (Or.inr rfl) g_b1 (Nat.ne_of_lt (Nat.lt_of_lt_of_le A1.lt sw3)) gw3 f10_1 (by decide) (by decide)
  obtain ⟨cq17, kq17, q17a, q17b, q17c⟩ := isOf hZ rfl f10_15
  obtain ⟨_, _, ⟨T17, L17, k17, n17⟩, -, X17, ⟨Lc17, hQ17, l17, y17, z17⟩, st17⟩ := X10.virtualBack hx (y := (⟨"java/util/BitSet", "set", "(I)V"⟩ : MethodName)) (z := (⟨"java/util/BitSet", "set", "(I)V"⟩ : MethodName)) hown (mvT hZ (own_at hw 90 rfl)) (mvT hZ (own_at hw 91 rfl)) (notFace_of_selects (args := #[]) (mvT hZ (own_at hw 93 rfl))) (mvT hZ (own_at hw 93 rfl)) (mvT hZ (own_at hw 92 rfl)) (by decide) (backOf (W := 0) (M17) hZ (own_at hw 94 rfl) (own_at hw 70 rfl) (by decide) (by decide)) q17a q17c (g := (mkF m 19 #[.val (.ref a1), .val (.ref a2), .val (.int 1), .val (.ref b1), .unset, .unset, .unset, .unset, .unset, .unset, .unset] [(.int 1), (.ref b1)])) rfl (by rw [hml]; rfl) (Steps.refl _) (argsL := [(.int 1)]) (rest := []) (lenOf pd_rm11_3_0 rfl) rfl (by show 2 * 0 + _ ≤ _; exact Nat.le_of_eq rfl) (hb hby d11_19) (fun _ _ => ⟨rfl, rfl, (by decide : 2 + 0 ≤ _), (by decide : 4 + 0 ≤ _)⟩)
  dsimp only [Pt.U, Pt.locs, Pt.cells, Pt.slots] at X17 l17 y17 z17 st17 hQ17
  subst l17 y17 z17
  obtain ⟨gW17, rfl, N17q, K17, Fu17, Fw17, Aw17, hs17⟩ := hQ17
  have N17 := Fr.app N10 N17q
  obtain ⟨LL17, X17, N17⟩ := own_abs X17 N17
  refine own_go (fun t k => st17.trans k) ?_
  have KK17 : Keep h0 T17.heap [a1, N, H, S, C, a2] := KK10.trans K17 (allS (Or.inr sz_b1) (allS (Or.inr (Nat.le_trans K1.1 sw3)) all0))
  have f17_0 := f10_0.keep K17
  have f17_1 := own_staKeep f10_1 K17 (nsS f10_15.nostat (nsS Aw10.nestat ns0))
  have f17_2 := f10_2.keep K17 ni11
  have f17_3 := f10_3.keep K17 ni11
  have f17_4 := f10_4.keep K17 ni11
  have f17_5 := f10_5.keep K17 ni11
  have f17_6 := f10_6.keep K17 ni11
  have f17_7 := f10_7.keep K17 ni11
  have f17_8 := f10_8.keep K17 ni11
  have f17_9 := f10_9.keep K17 ni11
  have f17_10 := f10_10.keep K17 ni12
  have f17_11 := f10_11.keep K17 ni13
  have f17_12 := f10_12.keep K17 ni14
  have f17_13 := f10_13.keep K17 ni15
  have f17_14 := f10_14.keep K17 ni16
  have f17_15 := f10_15.keep K17
  refine own_go (B := T17.setTop (mkF m 35 #[.val (.ref a1), .val (.ref a2), .val (.int 1), .val (.ref b1), .val (.int 0), .unset, .unset, .unset, .unset, .unset, .unset] [(.int 0), (.ref a2), (.ref b1)])) (fun t k => ?_) ?_
  · show Steps p.tables e below (T17.setTop (mkF m 22 #[.val (.ref a1), .val (.ref a2), .val (.int 1), .val (.ref b1), .unset, .unset, .unset, .unset, .unset, .unset, .unset] [])) t
    refine XS.iconst X17.here hx rfl (hb hby d11_22) ?_
    refine XS.istore X17.here hx rfl (hb hby d11_23) rfl (l' := #[.val (.ref a1), .val (.ref a2), .val (.int 1), .val (.ref b1), .val (.int 0), .unset, .unset, .unset, .unset, .unset, .unset]) rfl ?_
    refine XS.iload X17.here hx rfl (hb hby d11_25) rfl ?_
    refine XS.iloadN X17.here hx rfl (hb hby d11_27) rfl ?_
    show Steps p.tables e below (T17.setTop (mkF m 28 #[.val (.ref a1), .val (.ref a2), .val (.int 1), .val (.ref b1), .val (.int 0), .unset, .unset, .unset, .unset, .unset, .unset] [(.int 1), (.int 0)])) t
    refine XS.icmpNo X17.here hx rfl (hb hby d11_28) rfl (tlt (by decide : (0 : Int32) < (1 : Int32))).2.1 ?_
    refine XS.aloadN X17.here hx rfl (hb hby d11_31) rfl rfl ?_
    show Steps p.tables e below (T17.setTop (mkF m 32 #[.val (.ref a1), .val (.ref a2), .val (.int 1), .val (.ref b1), .val (.int 0), .unset, .unset, .unset, .unset, .unset, .unset] [(.ref b1)])) t
    refine XS.aloadN X17.here hx rfl (hb hby d11_32) rfl rfl ?_
    refine XS.iload X17.here hx rfl (hb hby d11_33) rfl ?_
    exact k
  obtain ⟨cl18, Ar18, hin18, hat18, -, -⟩ := f17_14.get (j := (0 : Int32)) (by decide) (by decide)
  have hat18 : cl18.slots[((0 : Int32)).toNatClampNeg]? = some (.int av) := hat18.trans (by first | rfl | (rw [show ((0 : Int32)).toNatClampNeg = 0 from by decide]; rfl))
  refine own_go (X17.iaload hx (j := (0 : Int32)) (v := (.int av)) (by rw [show T17.heap = T17.heap from rfl]; exact Ar18.1) (State.isArrayOf_alike hZ.alike Ar18.2.1) Ar18.2.2 hin18 hat18 (g := (mkF m 35 #[.val (.ref a1), .val (.ref a2), .val (.int 1), .val (.ref b1), .val (.int 0), .unset, .unset, .unset, .unset, .unset, .unset] [(.int 0), (.ref a2), (.ref b1)])) rfl rfl (hb hby d11_35)) ?_
  have M19 := rm15 l Z a0 hw [] b1 av W3 gW17 (1 : Int32) T17.heap n0 (Nat.le_trans (Nat.le_trans (Nat.le_trans (Nat.le_trans Z0 E1.1) K3.1) K10.1) K17.1) f17_15 Fw17 Aw17 Fu17 (Or.inr rfl) g_b1 (Nat.ne_of_lt (Nat.lt_of_lt_of_le A1.lt sw3)) gw3 f17_1 (by subst hav; decide) (by subst hav; decide)
  obtain ⟨cq19, kq19, q19a, q19b, q19c⟩ := isOf hZ rfl f17_15
  obtain ⟨_, _, ⟨T19, L19, k19, n19⟩, -, X19, ⟨Lc19, hQ19, l19, y19, z19⟩, st19⟩ := X17.virtualBack hx (y := (⟨"java/util/BitSet", "set", "(I)V"⟩ : MethodName)) (z := (⟨"java/util/BitSet", "set", "(I)V"⟩ : MethodName)) hown (mvT hZ (own_at hw 90 rfl)) (mvT hZ (own_at hw 91 rfl)) (notFace_of_selects (args := #[]) (mvT hZ (own_at hw 93 rfl))) (mvT hZ (own_at hw 93 rfl)) (mvT hZ (own_at hw 92 rfl)) (by decide) (backOf (W := 0) (M19) hZ (own_at hw 94 rfl) (own_at hw 70 rfl) (by decide) (by decide)) q19a q19c (g := (mkF m 36 #[.val (.ref a1), .val (.ref a2), .val (.int 1), .val (.ref b1), .val (.int 0), .unset, .unset, .unset, .unset, .unset, .unset] [(.int av), (.ref b1)])) rfl (by rw [hml]; rfl) (Steps.refl _) (argsL := [(.int av)]) (rest := []) (lenOf pd_rm11_3_0 rfl) rfl (by show 2 * 0 + _ ≤ _; exact Nat.le_of_eq rfl) (hb hby d11_36) (fun _ _ => ⟨rfl, rfl, (by decide : 2 + 0 ≤ _), (by decide : 4 + 0 ≤ _)⟩)
  dsimp only [Pt.U, Pt.locs, Pt.cells, Pt.slots] at X19 l19 y19 z19 st19 hQ19
  subst l19 y19 z19
  obtain ⟨gW19, rfl, N19q, K19, Fu19, Fw19, Aw19, hs19⟩ := hQ19
  have N19 := Fr.app N17 N19q
  obtain ⟨LL19, X19, N19⟩ := own_abs X19 N19
  refine own_go (fun t k => st19.trans k) ?_
  have KK19 : Keep h0 T19.heap [a1, N, H, S, C, a2] := KK17.trans K19 (allS (Or.inr sz_b1) (allS (Or.inr (Nat.le_trans K1.1 sw3)) all0))
  have f19_0 := f17_0.keep K19
  have f19_1 := own_staKeep f17_1 K19 (nsS f17_15.nostat (nsS Aw17.nestat ns0))
  have f19_2 := f17_2.keep K19 ni11
  have f19_3 := f17_3.keep K19 ni11
  have f19_4 := f17_4.keep K19 ni11
  have f19_5 := f17_5.keep K19 ni11
  have f19_6 := f17_6.keep K19 ni11
  have f19_7 := f17_7.keep K19 ni11
  have f19_8 := f17_8.keep K19 ni11
  have f19_9 := f17_9.keep K19 ni11
  have f19_10 := f17_10.keep K19 ni12
  have f19_11 := f17_11.keep K19 ni13
  have f19_12 := f17_12.keep K19 ni14
  have f19_13 := f17_13.keep K19 ni15
  have f19_14 := f17_14.keep K19 ni16
  have f19_15 := f17_15.keep K19
  refine own_go (B := T19.setTop (mkF m 48 #[.val (.ref a1), .val (.ref a2), .val (.int 1), .val (.ref b1), .val (.int 0), .unset, .unset, .unset, .unset, .unset, .unset] [])) (fun t k => ?_) ?_
  · show Steps p.tables e below (T19.setTop (mkF m 39 #[.val (.ref a1), .val (.ref a2), .val (.int 1), .val (.ref b1), .val (.int 0), .unset, .unset, .unset, .unset, .unset, .unset] [])) t
    refine XS.iinc X19.here hx rfl (hb hby d11_39) rfl (l' := #[.val (.ref a1), .val (.ref a2), .val (.int 1), .val (.ref b1), .val (.int (0 + 1)), .unset, .unset, .unset, .unset, .unset, .unset]) rfl ?_
    refine XS.goto X19.here hx rfl (pc0 := 42) (pc' := 25) rfl (hb hby d11_42) (by decide) (by decide) ?_
    refine XS.iload X19.here hx rfl (hb hby d11_25) rfl ?_
    refine XS.iloadN X19.here hx rfl (hb hby d11_27) rfl ?_
    show Steps p.tables e below (T19.setTop (mkF m 28 #[.val (.ref a1), .val (.ref a2), .val (.int 1), .val (.ref b1), .val (.int (0 + 1)), .unset, .unset, .unset, .unset, .unset, .unset] [(.int 1), (.int (0 + 1))])) t
    refine XS.icmpYes X19.here hx rfl (pc0 := 28) (pc' := 45) rfl (hb hby d11_28) rfl (flt (by decide : ¬ (((0 : Int32) + (1 : Int32)) < (1 : Int32)))).2.1 (by decide) (by decide) ?_
    refine XS.iconst X19.here hx rfl (hb hby d11_45) ?_
    show Steps p.tables e below (T19.setTop (mkF m 46 #[.val (.ref a1), .val (.ref a2), .val (.int 1), .val (.ref b1), .val (.int (0 + 1)), .unset, .unset, .unset, .unset, .unset, .unset] [(.int 0)])) t
    refine XS.istore X19.here hx rfl (hb hby d11_46) rfl (l' := #[.val (.ref a1), .val (.ref a2), .val (.int 1), .val (.ref b1), .val (.int 0), .unset, .unset, .unset, .unset, .unset, .unset]) rfl ?_
    exact k
  have rest : ∀ (gW : Nat → Int64) (i4 : Int32) (T : State) (locs : List Loc) (hp : Heap), gW 0 = (7 : Int64) → Stand p l e ({ frames := 3, cells := 2, slots := 4, locals := 44 } : Room) s m #[(.ref a1), (.ref a2), (.int (1 : Int32))] below meth c T locs 2 4 → T.heap = hp → Fr n0 locs → n0 ≤ hp.size → Keep h0 hp [a1, N, H, S, C, a2] → Exa Z hp a1 "com/example/liaise/liaise/NodeTable" → Sta Z hp "java/util/BitSet" "$assertionsDisabled" "Z" (.int 1) → Fld Z hp a1 "com/example/liaise/liaise/NodeTable" "variables" "I" (.int vr) → Fld Z hp a1 "com/example/liaise/liaise/NodeTable" "nodes" "[I" (.ref N) → Fld Z hp a1 "com/example/liaise/liaise/NodeTable" "size" "I" (.int 3) → Fld Z hp a1 "com/example/liaise/liaise/NodeTable" "kept" "I" (.int 2) → Fld Z hp a1 "com/example/liaise/liaise/NodeTable" "held" "[I" (.ref H) → Fld Z hp a1 "com/example/liaise/liaise/NodeTable" "holding" "I" (.int hd) → Fld Z hp a1 "com/example/liaise/liaise/NodeTable" "slots" "[I" (.ref S) → Fld Z hp a1 "com/example/liaise/liaise/NodeTable" "cache" "[I" (.ref C) → own_Ag Value.int Z hp N .int (3072 : Int32) gN → own_Ag Value.int Z hp H .int (2 : Int32) gH → own_Ag Value.int Z hp S .int (2048 : Int32) gS → own_Ag Value.int Z hp C .int (2048 : Int32) gC → own_Ag Value.int Z hp a2 .int (1 : Int32) (fun _ => av) → Exa Z hp b1 "java/util/BitSet" → Fld Z hp b1 "java/util/BitSet" "wordsInUse" "I" (.int 1) → Fld Z hp b1 "java/util/BitSet" "words" "[J" (.ref W3) → own_Ag Value.long Z hp W3 .long (1 : Int32) gW → own_Fin p e below (fun o U' => ∃ v L, o = .returned v ∧ Q11_3 Z a1 a2 N H S C vr hd av gN gH gS gC h0 n0 v U'.heap L ∧ FrameEnd s o U' L ({ frames := 3, cells := 2, slots := 4, locals := 44 } : Room).cells ({ frames := 3, cells := 2, slots := 4, locals := 44 } : Room).slots) (T.setTop (mkF m 74 #[.val (.ref a1), .val (.ref a2), .val (.int 1), .val (.ref b1), .val (.int i4), .unset, .unset, .unset, .unset, .unset, .unset] [])) := by
    intro gW i4 T locs hp hW X eT Nf Zs Kp r_0 r_1 r_2 r_3 r_4 r_5 r_6 r_7 r_8 r_9 r_10 r_11 r_12 r_13 r_14 r_15 r_16 r_17 r_18
    refine own_go (B := T.setTop (mkF m 75 #[.val (.ref a1), .val (.ref a2), .val (.int 1), .val (.ref b1), .val (.int i4), .unset, .unset, .unset, .unset, .unset, .unset] [(.ref a1)])) (fun t k => ?_) ?_
    · show Steps p.tables e below (T.setTop (mkF m 74 #[.val (.ref a1), .val (.ref a2), .val (.int 1), .val (.ref b1), .val (.int i4), .unset, .unset, .unset, .unset, .unset, .unset] [])) t
      refine XS.aloadN X.here hx rfl (hb hby d11_74) rfl rfl ?_
      exact k
    obtain ⟨T20, X20, e20, st20⟩ := getF X hx hZ hown (host := "") (Or.inl (own_at hw 49 rfl)) Via.refl eT r_4 (g := (mkF m 75 #[.val (.ref a1), .val (.ref a2), .val (.int 1), .val (.ref b1), .val (.int i4), .unset, .unset, .unset, .unset, .unset, .unset] [(.ref a1)])) rfl rfl (hb hby d11_75)
    refine own_go (fun t k => st20 t k) ?_
    refine own_go (B := T20.setTop (mkF m 90 #[.val (.ref a1), .val (.ref a2), .val (.int 1), .val (.ref b1), .val (.int (3 - 1)), .unset, .unset, .unset, .unset, .unset, .unset] [(.int (3 - 1)), (.ref b1)])) (fun t k => ?_) ?_
    · show Steps p.tables e below (T20.setTop (mkF m 78 #[.val (.ref a1), .val (.ref a2), .val (.int 1), .val (.ref b1), .val (.int i4), .unset, .unset, .unset, .unset, .unset, .unset] [(.int 3)])) t
      refine XS.iconst X20.here hx rfl (hb hby d11_78) ?_
      refine XS.isub X20.here hx rfl (hb hby d11_79) rfl ?_
      refine XS.istore X20.here hx rfl (hb hby d11_80) rfl (l' := #[.val (.ref a1), .val (.ref a2), .val (.int 1), .val (.ref b1), .val (.int (3 - 1)), .unset, .unset, .unset, .unset, .unset, .unset]) rfl ?_
      refine XS.iload X20.here hx rfl (hb hby d11_82) rfl ?_
      show Steps p.tables e below (T20.setTop (mkF m 84 #[.val (.ref a1), .val (.ref a2), .val (.int 1), .val (.ref b1), .val (.int (3 - 1)), .unset, .unset, .unset, .unset, .unset, .unset] [(.int (3 - 1))])) t
      refine XS.ifNo X20.here hx rfl (hb hby d11_84) rfl ((if0 _ _).trans (flt (by decide : ¬ (((3 : Int32) - (1 : Int32)) < (0 : Int32)))).1) ?_
      refine XS.aloadN X20.here hx rfl (hb hby d11_87) rfl rfl ?_
      show Steps p.tables e below (T20.setTop (mkF m 88 #[.val (.ref a1), .val (.ref a2), .val (.int 1), .val (.ref b1), .val (.int (3 - 1)), .unset, .unset, .unset, .unset, .unset, .unset] [(.ref b1)])) t
      refine XS.iload X20.here hx rfl (hb hby d11_88) rfl ?_
      exact k
    have M21 := rm19 l Z a0 hw [] b1 ((3 : Int32) - (1 : Int32)) W3 gW hp n0 Zs r_15 r_17 r_18 r_16 r_1 (by decide) (by decide) (by rw [hW]; decide)
    obtain ⟨cq21, kq21, q21a, q21b, q21c⟩ := isOf hZ e20 r_15
    obtain ⟨_, _, ⟨T21, L21, k21, n21⟩, -, X21, ⟨Lc21, hQ21, l21, y21, z21⟩, st21⟩ := X20.virtualBack hx (y := (⟨"java/util/BitSet", "get", "(I)Z"⟩ : MethodName)) (z := (⟨"java/util/BitSet", "get", "(I)Z"⟩ : MethodName)) hown (mvT hZ (own_at hw 111 rfl)) (mvT hZ (own_at hw 112 rfl)) (notFace_of_selects (args := #[]) (mvT hZ (own_at hw 114 rfl))) (mvT hZ (own_at hw 114 rfl)) (mvT hZ (own_at hw 113 rfl)) (by decide) (backOf (W := 0) (M21) hZ (own_at hw 115 rfl) (own_at hw 70 rfl) (by decide) (by decide)) q21a q21c (g := (mkF m 90 #[.val (.ref a1), .val (.ref a2), .val (.int 1), .val (.ref b1), .val (.int (3 - 1)), .unset, .unset, .unset, .unset, .unset, .unset] [(.int (3 - 1)), (.ref b1)])) rfl (by rw [hml]; rfl) (Steps.refl _) (argsL := [(.int (3 - 1))]) (rest := []) (lenOf pd_rm11_3_1 rfl) rfl (by show 2 * 0 + _ ≤ _; exact Nat.le_of_eq rfl) (hb hby d11_90) (fun _ _ => ⟨rfl, e20, (by decide : 2 + 0 ≤ _), (by decide : 4 + 0 ≤ _)⟩)
    dsimp only [Pt.U, Pt.locs, Pt.cells, Pt.slots] at X21 l21 y21 z21 st21 hQ21
    subst l21 y21 z21
    obtain ⟨rfl, N21q, hh21⟩ := hQ21
    have N21 := Fr.app Nf N21q
    obtain ⟨LL21, X21, N21⟩ := own_abs X21 N21
    refine own_go (fun t k => st21.trans k) ?_
    refine own_go (B := T21.setTop (mkF m 99 #[.val (.ref a1), .val (.ref a2), .val (.int 1), .val (.ref b1), .val (.int (3 - 1)), .unset, .unset, .unset, .unset, .unset, .unset] [(.int (3 - 1)), (.ref a1)])) (fun t k => ?_) ?_
    · show Steps p.tables e below (T21.setTop (mkF m 93 #[.val (.ref a1), .val (.ref a2), .val (.int 1), .val (.ref b1), .val (.int (3 - 1)), .unset, .unset, .unset, .unset, .unset, .unset] [(.int 1)])) t
      refine XS.ifNo X21.here hx rfl (hb hby d11_93) rfl ((if0 _ _).trans (feq (by decide : ¬ ((1 : Int32) = (0 : Int32)))).1) ?_
      refine XS.aloadN X21.here hx rfl (hb hby d11_96) rfl rfl ?_
      refine XS.iload X21.here hx rfl (hb hby d11_97) rfl ?_
      exact k
    have M22 := rm20 l Z a0 hw [] a1 ((3 : Int32) - (1 : Int32)) N gN hp n0 Zs r_3 r_10 (by decide) (by decide)
    obtain ⟨cq22, kq22, q22a, q22b, q22c⟩ := isOf hZ hh21 r_0
    obtain ⟨_, _, ⟨T22, L22, k22, n22⟩, -, X22, ⟨Lc22, hQ22, l22, y22, z22⟩, st22⟩ := X21.virtualBack hx (y := (⟨"com/example/liaise/liaise/NodeTable", "variable", "(I)I"⟩ : MethodName)) (z := (⟨"com/example/liaise/liaise/NodeTable", "variable", "(I)I"⟩ : MethodName)) hown (mvT hZ (own_at hw 116 rfl)) (mvT hZ (own_at hw 117 rfl)) (notFace_of_selects (args := #[]) (mvT hZ (own_at hw 119 rfl))) (mvT hZ (own_at hw 119 rfl)) (mvT hZ (own_at hw 118 rfl)) (by decide) (backOf (W := 0) (M22) hZ (own_at hw 120 rfl) (own_at hw 2 rfl) (by decide) (by decide)) q22a q22c (g := (mkF m 99 #[.val (.ref a1), .val (.ref a2), .val (.int 1), .val (.ref b1), .val (.int (3 - 1)), .unset, .unset, .unset, .unset, .unset, .unset] [(.int (3 - 1)), (.ref a1)])) rfl (by rw [hml]; rfl) (Steps.refl _) (argsL := [(.int (3 - 1))]) (rest := []) (lenOf pd_rm11_3_2 rfl) rfl (by show 2 * 0 + _ ≤ _; exact Nat.le_of_eq rfl) (hb hby d11_99) (fun _ _ => ⟨rfl, hh21, (by decide : 2 + 0 ≤ _), (by decide : 4 + 0 ≤ _)⟩)
    dsimp only [Pt.U, Pt.locs, Pt.cells, Pt.slots] at X22 l22 y22 z22 st22 hQ22
    subst l22 y22 z22
    obtain ⟨rfl, N22q, hh22⟩ := hQ22
    have N22 := Fr.app N21 N22q
    obtain ⟨LL22, X22, N22⟩ := own_abs X22 N22
    refine own_go (fun t k => st22.trans k) ?_
    refine own_go (B := T22.setTop (mkF m 103 #[.val (.ref a1), .val (.ref a2), .val (.int 1), .val (.ref b1), .val (.int (3 - 1)), .unset, .unset, .unset, .unset, .unset, .unset] [(.ref a1), (.int (gN (((3 : Int32) * ((3 : Int32) - (1 : Int32)))).toNatClampNeg))])) (fun t k => ?_) ?_
    · show Steps p.tables e below (T22.setTop (mkF m 102 #[.val (.ref a1), .val (.ref a2), .val (.int 1), .val (.ref b1), .val (.int (3 - 1)), .unset, .unset, .unset, .unset, .unset, .unset] [(.int (gN (((3 : Int32) * ((3 : Int32) - (1 : Int32)))).toNatClampNeg))])) t
      refine XS.aloadN X22.here hx rfl (hb hby d11_102) rfl rfl ?_
      exact k
    obtain ⟨T23, X23, e23, st23⟩ := getF X22 hx hZ hown (host := "") (Or.inl (own_at hw 18 rfl)) Via.refl hh22 r_2 (g := (mkF m 103 #[.val (.ref a1), .val (.ref a2), .val (.int 1), .val (.ref b1), .val (.int (3 - 1)), .unset, .unset, .unset, .unset, .unset, .unset] [(.ref a1), (.int (gN (((3 : Int32) * ((3 : Int32) - (1 : Int32)))).toNatClampNeg))])) rfl rfl (hb hby d11_103)
    refine own_go (fun t k => st23 t k) ?_
    refine own_go (B := T23.setTop (mkF m 90 #[.val (.ref a1), .val (.ref a2), .val (.int 1), .val (.ref b1), .val (.int ((3 - 1) + (-1))), .unset, .unset, .unset, .unset, .unset, .unset] [(.int ((3 - 1) + (-1))), (.ref b1)])) (fun t k => ?_) ?_
    · show Steps p.tables e below (T23.setTop (mkF m 106 #[.val (.ref a1), .val (.ref a2), .val (.int 1), .val (.ref b1), .val (.int (3 - 1)), .unset, .unset, .unset, .unset, .unset, .unset] [(.int vr), (.int (gN (((3 : Int32) * ((3 : Int32) - (1 : Int32)))).toNatClampNeg))])) t
      refine XS.icmpYes X23.here hx rfl (pc0 := 106) (pc' := 129) rfl (hb hby d11_106) rfl (flt (fun q => absurd (((congrArg gN (by decide : ((3 : Int32) * ((3 : Int32) - (1 : Int32))).toNatClampNeg = 6)).trans hv_2) ▸ q : vr < vr) Int32.lt_irrefl : ¬ ((gN (((3 : Int32) * ((3 : Int32) - (1 : Int32)))).toNatClampNeg) < vr))).2.1 (by decide) (by decide) ?_
      refine XS.iinc X23.here hx rfl (hb hby d11_129) rfl (l' := #[.val (.ref a1), .val (.ref a2), .val (.int 1), .val (.ref b1), .val (.int ((3 - 1) + (-1))), .unset, .unset, .unset, .unset, .unset, .unset]) rfl ?_
      refine XS.goto X23.here hx rfl (pc0 := 132) (pc' := 82) rfl (hb hby d11_132) (by decide) (by decide) ?_
      refine XS.iload X23.here hx rfl (hb hby d11_82) rfl ?_
      show Steps p.tables e below (T23.setTop (mkF m 84 #[.val (.ref a1), .val (.ref a2), .val (.int 1), .val (.ref b1), .val (.int ((3 - 1) + (-1))), .unset, .unset, .unset, .unset, .unset, .unset] [(.int ((3 - 1) + (-1)))])) t
      refine XS.ifNo X23.here hx rfl (hb hby d11_84) rfl ((if0 _ _).trans (flt (by decide : ¬ ((((3 : Int32) - (1 : Int32)) + (-1 : Int32)) < (0 : Int32)))).1) ?_
      refine XS.aloadN X23.here hx rfl (hb hby d11_87) rfl rfl ?_
      show Steps p.tables e below (T23.setTop (mkF m 88 #[.val (.ref a1), .val (.ref a2), .val (.int 1), .val (.ref b1), .val (.int ((3 - 1) + (-1))), .unset, .unset, .unset, .unset, .unset, .unset] [(.ref b1)])) t
      refine XS.iload X23.here hx rfl (hb hby d11_88) rfl ?_
      exact k
    have M24 := rm19 l Z a0 hw [] b1 (((3 : Int32) - (1 : Int32)) + (-1 : Int32)) W3 gW hp n0 Zs r_15 r_17 r_18 r_16 r_1 (by decide) (by decide) (by rw [hW]; decide)
    obtain ⟨cq24, kq24, q24a, q24b, q24c⟩ := isOf hZ e23 r_15
    obtain ⟨_, _, ⟨T24, L24, k24, n24⟩, -, X24, ⟨Lc24, hQ24, l24, y24, z24⟩, st24⟩ := X23.virtualBack hx (y := (⟨"java/util/BitSet", "get", "(I)Z"⟩ : MethodName)) (z := (⟨"java/util/BitSet", "get", "(I)Z"⟩ : MethodName)) hown (mvT hZ (own_at hw 111 rfl)) (mvT hZ (own_at hw 112 rfl)) (notFace_of_selects (args := #[]) (mvT hZ (own_at hw 114 rfl))) (mvT hZ (own_at hw 114 rfl)) (mvT hZ (own_at hw 113 rfl)) (by decide) (backOf (W := 0) (M24) hZ (own_at hw 115 rfl) (own_at hw 70 rfl) (by decide) (by decide)) q24a q24c (g := (mkF m 90 #[.val (.ref a1), .val (.ref a2), .val (.int 1), .val (.ref b1), .val (.int ((3 - 1) + (-1))), .unset, .unset, .unset, .unset, .unset, .unset] [(.int ((3 - 1) + (-1))), (.ref b1)])) rfl (by rw [hml]; rfl) (Steps.refl _) (argsL := [(.int ((3 - 1) + (-1)))]) (rest := []) (lenOf pd_rm11_3_1 rfl) rfl (by show 2 * 0 + _ ≤ _; exact Nat.le_of_eq rfl) (hb hby d11_90) (fun _ _ => ⟨rfl, e23, (by decide : 2 + 0 ≤ _), (by decide : 4 + 0 ≤ _)⟩)
    dsimp only [Pt.U, Pt.locs, Pt.cells, Pt.slots] at X24 l24 y24 z24 st24 hQ24
    subst l24 y24 z24
    obtain ⟨rfl, N24q, hh24⟩ := hQ24
    have N24 := Fr.app N22 N24q
    obtain ⟨LL24, X24, N24⟩ := own_abs X24 N24
    refine own_go (fun t k => st24.trans k) ?_
    refine own_go (B := T24.setTop (mkF m 99 #[.val (.ref a1), .val (.ref a2), .val (.int 1), .val (.ref b1), .val (.int ((3 - 1) + (-1))), .unset, .unset, .unset, .unset, .unset, .unset] [(.int ((3 - 1) + (-1))), (.ref a1)])) (fun t k => ?_) ?_
    · show Steps p.tables e below (T24.setTop (mkF m 93 #[.val (.ref a1), .val (.ref a2), .val (.int 1), .val (.ref b1), .val (.int ((3 - 1) + (-1))), .unset, .unset, .unset, .unset, .unset, .unset] [(.int 1)])) t
      refine XS.ifNo X24.here hx rfl (hb hby d11_93) rfl ((if0 _ _).trans (feq (by decide : ¬ ((1 : Int32) = (0 : Int32)))).1) ?_
      refine XS.aloadN X24.here hx rfl (hb hby d11_96) rfl rfl ?_
      refine XS.iload X24.here hx rfl (hb hby d11_97) rfl ?_
      exact k
    have M25 := rm20 l Z a0 hw [] a1 (((3 : Int32) - (1 : Int32)) + (-1 : Int32)) N gN hp n0 Zs r_3 r_10 (by decide) (by decide)
    obtain ⟨cq25, kq25, q25a, q25b, q25c⟩ := isOf hZ hh24 r_0
    obtain ⟨_, _, ⟨T25, L25, k25, n25⟩, -, X25, ⟨Lc25, hQ25, l25, y25, z25⟩, st25⟩ := X24.virtualBack hx (y := (⟨"com/example/liaise/liaise/NodeTable", "variable", "(I)I"⟩ : MethodName)) (z := (⟨"com/example/liaise/liaise/NodeTable", "variable", "(I)I"⟩ : MethodName)) hown (mvT hZ (own_at hw 116 rfl)) (mvT hZ (own_at hw 117 rfl)) (notFace_of_selects (args := #[]) (mvT hZ (own_at hw 119 rfl))) (mvT hZ (own_at hw 119 rfl)) (mvT hZ (own_at hw 118 rfl)) (by decide) (backOf (W := 0) (M25) hZ (own_at hw 120 rfl) (own_at hw 2 rfl) (by decide) (by decide)) q25a q25c (g := (mkF m 99 #[.val (.ref a1), .val (.ref a2), .val (.int 1), .val (.ref b1), .val (.int ((3 - 1) + (-1))), .unset, .unset, .unset, .unset, .unset, .unset] [(.int ((3 - 1) + (-1))), (.ref a1)])) rfl (by rw [hml]; rfl) (Steps.refl _) (argsL := [(.int ((3 - 1) + (-1)))]) (rest := []) (lenOf pd_rm11_3_2 rfl) rfl (by show 2 * 0 + _ ≤ _; exact Nat.le_of_eq rfl) (hb hby d11_99) (fun _ _ => ⟨rfl, hh24, (by decide : 2 + 0 ≤ _), (by decide : 4 + 0 ≤ _)⟩)
    dsimp only [Pt.U, Pt.locs, Pt.cells, Pt.slots] at X25 l25 y25 z25 st25 hQ25
    subst l25 y25 z25
    obtain ⟨rfl, N25q, hh25⟩ := hQ25
    have N25 := Fr.app N24 N25q
    obtain ⟨LL25, X25, N25⟩ := own_abs X25 N25
    refine own_go (fun t k => st25.trans k) ?_
    refine own_go (B := T25.setTop (mkF m 103 #[.val (.ref a1), .val (.ref a2), .val (.int 1), .val (.ref b1), .val (.int ((3 - 1) + (-1))), .unset, .unset, .unset, .unset, .unset, .unset] [(.ref a1), (.int (gN (((3 : Int32) * (((3 : Int32) - (1 : Int32)) + (-1 : Int32)))).toNatClampNeg))])) (fun t k => ?_) ?_
    · show Steps p.tables e below (T25.setTop (mkF m 102 #[.val (.ref a1), .val (.ref a2), .val (.int 1), .val (.ref b1), .val (.int ((3 - 1) + (-1))), .unset, .unset, .unset, .unset, .unset, .unset] [(.int (gN (((3 : Int32) * (((3 : Int32) - (1 : Int32)) + (-1 : Int32)))).toNatClampNeg))])) t
      refine XS.aloadN X25.here hx rfl (hb hby d11_102) rfl rfl ?_
      exact k
    obtain ⟨T26, X26, e26, st26⟩ := getF X25 hx hZ hown (host := "") (Or.inl (own_at hw 18 rfl)) Via.refl hh25 r_2 (g := (mkF m 103 #[.val (.ref a1), .val (.ref a2), .val (.int 1), .val (.ref b1), .val (.int ((3 - 1) + (-1))), .unset, .unset, .unset, .unset, .unset, .unset] [(.ref a1), (.int (gN (((3 : Int32) * (((3 : Int32) - (1 : Int32)) + (-1 : Int32)))).toNatClampNeg))])) rfl rfl (hb hby d11_103)
    refine own_go (fun t k => st26 t k) ?_
    refine own_go (B := T26.setTop (mkF m 90 #[.val (.ref a1), .val (.ref a2), .val (.int 1), .val (.ref b1), .val (.int (((3 - 1) + (-1)) + (-1))), .unset, .unset, .unset, .unset, .unset, .unset] [(.int (((3 - 1) + (-1)) + (-1))), (.ref b1)])) (fun t k => ?_) ?_
    · show Steps p.tables e below (T26.setTop (mkF m 106 #[.val (.ref a1), .val (.ref a2), .val (.int 1), .val (.ref b1), .val (.int ((3 - 1) + (-1))), .unset, .unset, .unset, .unset, .unset, .unset] [(.int vr), (.int (gN (((3 : Int32) * (((3 : Int32) - (1 : Int32)) + (-1 : Int32)))).toNatClampNeg))])) t
      refine XS.icmpYes X26.here hx rfl (pc0 := 106) (pc' := 129) rfl (hb hby d11_106) rfl (flt (fun q => absurd (((congrArg gN (by decide : ((3 : Int32) * (((3 : Int32) - (1 : Int32)) + (-1 : Int32))).toNatClampNeg = 3)).trans hv_1) ▸ q : vr < vr) Int32.lt_irrefl : ¬ ((gN (((3 : Int32) * (((3 : Int32) - (1 : Int32)) + (-1 : Int32)))).toNatClampNeg) < vr))).2.1 (by decide) (by decide) ?_
      refine XS.iinc X26.here hx rfl (hb hby d11_129) rfl (l' := #[.val (.ref a1), .val (.ref a2), .val (.int 1), .val (.ref b1), .val (.int (((3 - 1) + (-1)) + (-1))), .unset, .unset, .unset, .unset, .unset, .unset]) rfl ?_
      refine XS.goto X26.here hx rfl (pc0 := 132) (pc' := 82) rfl (hb hby d11_132) (by decide) (by decide) ?_
      refine XS.iload X26.here hx rfl (hb hby d11_82) rfl ?_
      show Steps p.tables e below (T26.setTop (mkF m 84 #[.val (.ref a1), .val (.ref a2), .val (.int 1), .val (.ref b1), .val (.int (((3 - 1) + (-1)) + (-1))), .unset, .unset, .unset, .unset, .unset, .unset] [(.int (((3 - 1) + (-1)) + (-1)))])) t
      refine XS.ifNo X26.here hx rfl (hb hby d11_84) rfl ((if0 _ _).trans (flt (by decide : ¬ (((((3 : Int32) - (1 : Int32)) + (-1 : Int32)) + (-1 : Int32)) < (0 : Int32)))).1) ?_
      refine XS.aloadN X26.here hx rfl (hb hby d11_87) rfl rfl ?_
      show Steps p.tables e below (T26.setTop (mkF m 88 #[.val (.ref a1), .val (.ref a2), .val (.int 1), .val (.ref b1), .val (.int (((3 - 1) + (-1)) + (-1))), .unset, .unset, .unset, .unset, .unset, .unset] [(.ref b1)])) t
      refine XS.iload X26.here hx rfl (hb hby d11_88) rfl ?_
      exact k
    have M27 := rm19 l Z a0 hw [] b1 ((((3 : Int32) - (1 : Int32)) + (-1 : Int32)) + (-1 : Int32)) W3 gW hp n0 Zs r_15 r_17 r_18 r_16 r_1 (by decide) (by decide) (by rw [hW]; decide)
    obtain ⟨cq27, kq27, q27a, q27b, q27c⟩ := isOf hZ e26 r_15
    obtain ⟨_, _, ⟨T27, L27, k27, n27⟩, -, X27, ⟨Lc27, hQ27, l27, y27, z27⟩, st27⟩ := X26.virtualBack hx (y := (⟨"java/util/BitSet", "get", "(I)Z"⟩ : MethodName)) (z := (⟨"java/util/BitSet", "get", "(I)Z"⟩ : MethodName)) hown (mvT hZ (own_at hw 111 rfl)) (mvT hZ (own_at hw 112 rfl)) (notFace_of_selects (args := #[]) (mvT hZ (own_at hw 114 rfl))) (mvT hZ (own_at hw 114 rfl)) (mvT hZ (own_at hw 113 rfl)) (by decide) (backOf (W := 0) (M27) hZ (own_at hw 115 rfl) (own_at hw 70 rfl) (by decide) (by decide)) q27a q27c (g := (mkF m 90 #[.val (.ref a1), .val (.ref a2), .val (.int 1), .val (.ref b1), .val (.int (((3 - 1) + (-1)) + (-1))), .unset, .unset, .unset, .unset, .unset, .unset] [(.int (((3 - 1) + (-1)) + (-1))), (.ref b1)])) rfl (by rw [hml]; rfl) (Steps.refl _) (argsL := [(.int (((3 - 1) + (-1)) + (-1)))]) (rest := []) (lenOf pd_rm11_3_1 rfl) rfl (by show 2 * 0 + _ ≤ _; exact Nat.le_of_eq rfl) (hb hby d11_90) (fun _ _ => ⟨rfl, e26, (by decide : 2 + 0 ≤ _), (by decide : 4 + 0 ≤ _)⟩)
    dsimp only [Pt.U, Pt.locs, Pt.cells, Pt.slots] at X27 l27 y27 z27 st27 hQ27
    subst l27 y27 z27
    obtain ⟨rfl, N27q, hh27⟩ := hQ27
    have N27 := Fr.app N25 N27q
    obtain ⟨LL27, X27, N27⟩ := own_abs X27 N27
    refine own_go (fun t k => st27.trans k) ?_
    refine own_go (B := T27.setTop (mkF m 99 #[.val (.ref a1), .val (.ref a2), .val (.int 1), .val (.ref b1), .val (.int (((3 - 1) + (-1)) + (-1))), .unset, .unset, .unset, .unset, .unset, .unset] [(.int (((3 - 1) + (-1)) + (-1))), (.ref a1)])) (fun t k => ?_) ?_
    · show Steps p.tables e below (T27.setTop (mkF m 93 #[.val (.ref a1), .val (.ref a2), .val (.int 1), .val (.ref b1), .val (.int (((3 - 1) + (-1)) + (-1))), .unset, .unset, .unset, .unset, .unset, .unset] [(.int 1)])) t
      refine XS.ifNo X27.here hx rfl (hb hby d11_93) rfl ((if0 _ _).trans (feq (by decide : ¬ ((1 : Int32) = (0 : Int32)))).1) ?_
      refine XS.aloadN X27.here hx rfl (hb hby d11_96) rfl rfl ?_
      refine XS.iload X27.here hx rfl (hb hby d11_97) rfl ?_
      exact k
    have M28 := rm20 l Z a0 hw [] a1 ((((3 : Int32) - (1 : Int32)) + (-1 : Int32)) + (-1 : Int32)) N gN hp n0 Zs r_3 r_10 (by decide) (by decide)
    obtain ⟨cq28, kq28, q28a, q28b, q28c⟩ := isOf hZ hh27 r_0
    obtain ⟨_, _, ⟨T28, L28, k28, n28⟩, -, X28, ⟨Lc28, hQ28, l28, y28, z28⟩, st28⟩ := X27.virtualBack hx (y := (⟨"com/example/liaise/liaise/NodeTable", "variable", "(I)I"⟩ : MethodName)) (z := (⟨"com/example/liaise/liaise/NodeTable", "variable", "(I)I"⟩ : MethodName)) hown (mvT hZ (own_at hw 116 rfl)) (mvT hZ (own_at hw 117 rfl)) (notFace_of_selects (args := #[]) (mvT hZ (own_at hw 119 rfl))) (mvT hZ (own_at hw 119 rfl)) (mvT hZ (own_at hw 118 rfl)) (by decide) (backOf (W := 0) (M28) hZ (own_at hw 120 rfl) (own_at hw 2 rfl) (by decide) (by decide)) q28a q28c (g := (mkF m 99 #[.val (.ref a1), .val (.ref a2), .val (.int 1), .val (.ref b1), .val (.int (((3 - 1) + (-1)) + (-1))), .unset, .unset, .unset, .unset, .unset, .unset] [(.int (((3 - 1) + (-1)) + (-1))), (.ref a1)])) rfl (by rw [hml]; rfl) (Steps.refl _) (argsL := [(.int (((3 - 1) + (-1)) + (-1)))]) (rest := []) (lenOf pd_rm11_3_2 rfl) rfl (by show 2 * 0 + _ ≤ _; exact Nat.le_of_eq rfl) (hb hby d11_99) (fun _ _ => ⟨rfl, hh27, (by decide : 2 + 0 ≤ _), (by decide : 4 + 0 ≤ _)⟩)
    dsimp only [Pt.U, Pt.locs, Pt.cells, Pt.slots] at X28 l28 y28 z28 st28 hQ28
    subst l28 y28 z28
    obtain ⟨rfl, N28q, hh28⟩ := hQ28
    have N28 := Fr.app N27 N28q
    obtain ⟨LL28, X28, N28⟩ := own_abs X28 N28
    refine own_go (fun t k => st28.trans k) ?_
    refine own_go (B := T28.setTop (mkF m 103 #[.val (.ref a1), .val (.ref a2), .val (.int 1), .val (.ref b1), .val (.int (((3 - 1) + (-1)) + (-1))), .unset, .unset, .unset, .unset, .unset, .unset] [(.ref a1), (.int (gN (((3 : Int32) * ((((3 : Int32) - (1 : Int32)) + (-1 : Int32)) + (-1 : Int32)))).toNatClampNeg))])) (fun t k => ?_) ?_
    · show Steps p.tables e below (T28.setTop (mkF m 102 #[.val (.ref a1), .val (.ref a2), .val (.int 1), .val (.ref b1), .val (.int (((3 - 1) + (-1)) + (-1))), .unset, .unset, .unset, .unset, .unset, .unset] [(.int (gN (((3 : Int32) * ((((3 : Int32) - (1 : Int32)) + (-1 : Int32)) + (-1 : Int32)))).toNatClampNeg))])) t
      refine XS.aloadN X28.here hx rfl (hb hby d11_102) rfl rfl ?_
      exact k
    obtain ⟨T29, X29, e29, st29⟩ := getF X28 hx hZ hown (host := "") (Or.inl (own_at hw 18 rfl)) Via.refl hh28 r_2 (g := (mkF m 103 #[.val (.ref a1), .val (.ref a2), .val (.int 1), .val (.ref b1), .val (.int (((3 - 1) + (-1)) + (-1))), .unset, .unset, .unset, .unset, .unset, .unset] [(.ref a1), (.int (gN (((3 : Int32) * ((((3 : Int32) - (1 : Int32)) + (-1 : Int32)) + (-1 : Int32)))).toNatClampNeg))])) rfl rfl (hb hby d11_103)
    refine own_go (fun t k => st29 t k) ?_
    refine own_go (B := T29.setTop (mkF m 136 #[.val (.ref a1), .val (.ref a2), .val (.int 1), .val (.ref b1), .val (.int ((((3 - 1) + (-1)) + (-1)) + (-1))), .unset, .unset, .unset, .unset, .unset, .unset] [(.ref a1)])) (fun t k => ?_) ?_
    · show Steps p.tables e below (T29.setTop (mkF m 106 #[.val (.ref a1), .val (.ref a2), .val (.int 1), .val (.ref b1), .val (.int (((3 - 1) + (-1)) + (-1))), .unset, .unset, .unset, .unset, .unset, .unset] [(.int vr), (.int (gN (((3 : Int32) * ((((3 : Int32) - (1 : Int32)) + (-1 : Int32)) + (-1 : Int32)))).toNatClampNeg))])) t
      refine XS.icmpYes X29.here hx rfl (pc0 := 106) (pc' := 129) rfl (hb hby d11_106) rfl (flt (fun q => absurd (((congrArg gN (by decide : ((3 : Int32) * ((((3 : Int32) - (1 : Int32)) + (-1 : Int32)) + (-1 : Int32))).toNatClampNeg = 0)).trans hv_0) ▸ q : vr < vr) Int32.lt_irrefl : ¬ ((gN (((3 : Int32) * ((((3 : Int32) - (1 : Int32)) + (-1 : Int32)) + (-1 : Int32)))).toNatClampNeg) < vr))).2.1 (by decide) (by decide) ?_
      refine XS.iinc X29.here hx rfl (hb hby d11_129) rfl (l' := #[.val (.ref a1), .val (.ref a2), .val (.int 1), .val (.ref b1), .val (.int ((((3 - 1) + (-1)) + (-1)) + (-1))), .unset, .unset, .unset, .unset, .unset, .unset]) rfl ?_
      refine XS.goto X29.here hx rfl (pc0 := 132) (pc' := 82) rfl (hb hby d11_132) (by decide) (by decide) ?_
      refine XS.iload X29.here hx rfl (hb hby d11_82) rfl ?_
      show Steps p.tables e below (T29.setTop (mkF m 84 #[.val (.ref a1), .val (.ref a2), .val (.int 1), .val (.ref b1), .val (.int ((((3 - 1) + (-1)) + (-1)) + (-1))), .unset, .unset, .unset, .unset, .unset, .unset] [(.int ((((3 - 1) + (-1)) + (-1)) + (-1)))])) t
      refine XS.ifYes X29.here hx rfl (pc0 := 84) (pc' := 135) rfl (hb hby d11_84) rfl ((if0 _ _).trans (tlt (by decide : (((((3 : Int32) - (1 : Int32)) + (-1 : Int32)) + (-1 : Int32)) + (-1 : Int32)) < (0 : Int32))).1) (by decide) (by decide) ?_
      refine XS.aloadN X29.here hx rfl (hb hby d11_135) rfl rfl ?_
      exact k
    obtain ⟨T30, X30, e30, st30⟩ := getF X29 hx hZ hown (host := "") (Or.inl (own_at hw 16 rfl)) Via.refl e29 r_8 (g := (mkF m 136 #[.val (.ref a1), .val (.ref a2), .val (.int 1), .val (.ref b1), .val (.int ((((3 - 1) + (-1)) + (-1)) + (-1))), .unset, .unset, .unset, .unset, .unset, .unset] [(.ref a1)])) rfl rfl (hb hby d11_136)
    refine own_go (fun t k => st30 t k) ?_
    refine own_go (B := T30.setTop (mkF m 146 #[.val (.ref a1), .val (.ref a2), .val (.int 1), .val (.ref b1), .val (.ref S), .val (.int 0), .unset, .unset, .unset, .unset, .unset] [(.int 0), (.ref b1)])) (fun t k => ?_) ?_
    · show Steps p.tables e below (T30.setTop (mkF m 139 #[.val (.ref a1), .val (.ref a2), .val (.int 1), .val (.ref b1), .val (.int ((((3 - 1) + (-1)) + (-1)) + (-1))), .unset, .unset, .unset, .unset, .unset, .unset] [(.ref S)])) t
      refine XS.astore X30.here hx rfl (hb hby d11_139) rfl rfl (l' := #[.val (.ref a1), .val (.ref a2), .val (.int 1), .val (.ref b1), .val (.ref S), .unset, .unset, .unset, .unset, .unset, .unset]) rfl ?_
      refine XS.iconst X30.here hx rfl (hb hby d11_141) ?_
      refine XS.istore X30.here hx rfl (hb hby d11_142) rfl (l' := #[.val (.ref a1), .val (.ref a2), .val (.int 1), .val (.ref b1), .val (.ref S), .val (.int 0), .unset, .unset, .unset, .unset, .unset]) rfl ?_
      refine XS.aloadN X30.here hx rfl (hb hby d11_144) rfl rfl ?_
      refine XS.iconst X30.here hx rfl (hb hby d11_145) ?_
      exact k
    have M31 := rm21 l Z a0 hw [] b1 (0 : Int32) W3 gW (7 : Int64) (0 : Int32) (0 : Int32) hp n0 Zs r_15 r_17 r_18 r_16 r_1 (by decide) (by decide) (by rw [hW]; decide) (by decide) (by decide) (by decide) (by decide)
    obtain ⟨cq31, kq31, q31a, q31b, q31c⟩ := isOf hZ e30 r_15
    obtain ⟨_, _, ⟨T31, L31, k31, n31⟩, -, X31, ⟨Lc31, hQ31, l31, y31, z31⟩, st31⟩ := X30.virtualBack hx (y := (⟨"java/util/BitSet", "nextSetBit", "(I)I"⟩ : MethodName)) (z := (⟨"java/util/BitSet", "nextSetBit", "(I)I"⟩ : MethodName)) hown (mvT hZ (own_at hw 121 rfl)) (mvT hZ (own_at hw 122 rfl)) (notFace_of_selects (args := #[]) (mvT hZ (own_at hw 124 rfl))) (mvT hZ (own_at hw 124 rfl)) (mvT hZ (own_at hw 123 rfl)) (by decide) (backOf (W := 0) (M31) hZ (own_at hw 125 rfl) (own_at hw 70 rfl) (by decide) (by decide)) q31a q31c (g := (mkF m 146 #[.val (.ref a1), .val (.ref a2), .val (.int 1), .val (.ref b1), .val (.ref S), .val (.int 0), .unset, .unset, .unset, .unset, .unset] [(.int 0), (.ref b1)])) rfl (by rw [hml]; rfl) (Steps.refl _) (argsL := [(.int 0)]) (rest := []) (lenOf pd_rm11_3_2 rfl) rfl (by show 2 * 0 + _ ≤ _; exact Nat.le_of_eq rfl) (hb hby d11_146) (fun _ _ => ⟨rfl, e30, (by decide : 2 + 0 ≤ _), (by decide : 4 + 0 ≤ _)⟩)
    dsimp only [Pt.U, Pt.locs, Pt.cells, Pt.slots] at X31 l31 y31 z31 st31 hQ31
    subst l31 y31 z31
    obtain ⟨rfl, N31q, hh31⟩ := hQ31
    have N31 := Fr.app N28 N31q
    obtain ⟨LL31, X31, N31⟩ := own_abs X31 N31
    refine own_go (fun t k => st31.trans k) ?_
    refine own_go (B := T31.setTop (mkF m 159 #[.val (.ref a1), .val (.ref a2), .val (.int 1), .val (.ref b1), .val (.ref S), .val (.int 0), .val (.int 0), .unset, .unset, .unset, .unset] [(.int 0), (.ref a1)])) (fun t k => ?_) ?_
    · show Steps p.tables e below (T31.setTop (mkF m 149 #[.val (.ref a1), .val (.ref a2), .val (.int 1), .val (.ref b1), .val (.ref S), .val (.int 0), .unset, .unset, .unset, .unset, .unset] [(.int 0)])) t
      refine XS.istore X31.here hx rfl (hb hby d11_149) rfl (l' := #[.val (.ref a1), .val (.ref a2), .val (.int 1), .val (.ref b1), .val (.ref S), .val (.int 0), .val (.int 0), .unset, .unset, .unset, .unset]) rfl ?_
      refine XS.iload X31.here hx rfl (hb hby d11_151) rfl ?_
      show Steps p.tables e below (T31.setTop (mkF m 153 #[.val (.ref a1), .val (.ref a2), .val (.int 1), .val (.ref b1), .val (.ref S), .val (.int 0), .val (.int 0), .unset, .unset, .unset, .unset] [(.int 0)])) t
      refine XS.ifNo X31.here hx rfl (hb hby d11_153) rfl ((if0 _ _).trans (flt (by decide : ¬ ((0 : Int32) < (0 : Int32)))).1) ?_
      refine XS.aloadN X31.here hx rfl (hb hby d11_156) rfl rfl ?_
      refine XS.iload X31.here hx rfl (hb hby d11_157) rfl ?_
      exact k
    have M32 := rm20 l Z a0 hw [] a1 (0 : Int32) N gN hp n0 Zs r_3 r_10 (by decide) (by decide)
    obtain ⟨cq32, kq32, q32a, q32b, q32c⟩ := isOf hZ hh31 r_0
    obtain ⟨_, _, ⟨T32, L32, k32, n32⟩, -, X32, ⟨Lc32, hQ32, l32, y32, z32⟩, st32⟩ := X31.virtualBack hx (y := (⟨"com/example/liaise/liaise/NodeTable", "variable", "(I)I"⟩ : MethodName)) (z := (⟨"com/example/liaise/liaise/NodeTable", "variable", "(I)I"⟩ : MethodName)) hown (mvT hZ (own_at hw 116 rfl)) (mvT hZ (own_at hw 117 rfl)) (notFace_of_selects (args := #[]) (mvT hZ (own_at hw 119 rfl))) (mvT hZ (own_at hw 119 rfl)) (mvT hZ (own_at hw 118 rfl)) (by decide) (backOf (W := 0) (M32) hZ (own_at hw 120 rfl) (own_at hw 2 rfl) (by decide) (by decide)) q32a q32c (g := (mkF m 159 #[.val (.ref a1), .val (.ref a2), .val (.int 1), .val (.ref b1), .val (.ref S), .val (.int 0), .val (.int 0), .unset, .unset, .unset, .unset] [(.int 0), (.ref a1)])) rfl (by rw [hml]; rfl) (Steps.refl _) (argsL := [(.int 0)]) (rest := []) (lenOf pd_rm11_3_2 rfl) rfl (by show 2 * 0 + _ ≤ _; exact Nat.le_of_eq rfl) (hb hby d11_159) (fun _ _ => ⟨rfl, hh31, (by decide : 2 + 0 ≤ _), (by decide : 4 + 0 ≤ _)⟩)
    dsimp only [Pt.U, Pt.locs, Pt.cells, Pt.slots] at X32 l32 y32 z32 st32 hQ32
    subst l32 y32 z32
    obtain ⟨rfl, N32q, hh32⟩ := hQ32
    have N32 := Fr.app N31 N32q
    obtain ⟨LL32, X32, N32⟩ := own_abs X32 N32
    refine own_go (fun t k => st32.trans k) ?_
    refine own_go (B := T32.setTop (mkF m 164 #[.val (.ref a1), .val (.ref a2), .val (.int 1), .val (.ref b1), .val (.ref S), .val (.int 0), .val (.int 0), .val (.int (gN (((3 : Int32) * (0 : Int32))).toNatClampNeg)), .unset, .unset, .unset] [])) (fun t k => ?_) ?_
    · show Steps p.tables e below (T32.setTop (mkF m 162 #[.val (.ref a1), .val (.ref a2), .val (.int 1), .val (.ref b1), .val (.ref S), .val (.int 0), .val (.int 0), .unset, .unset, .unset, .unset] [(.int (gN (((3 : Int32) * (0 : Int32))).toNatClampNeg))])) t
      refine XS.istore X32.here hx rfl (hb hby d11_162) rfl (l' := #[.val (.ref a1), .val (.ref a2), .val (.int 1), .val (.ref b1), .val (.ref S), .val (.int 0), .val (.int 0), .val (.int (gN (((3 : Int32) * (0 : Int32))).toNatClampNeg)), .unset, .unset, .unset]) rfl ?_
      exact k
    obtain ⟨te, hte⟩ : ∃ z : Int32, z = (gN (((3 : Int32) * (0 : Int32))).toNatClampNeg) := ⟨_, rfl⟩
    rw [← hte]
    refine own_go (B := T32.setTop (mkF m 167 #[.val (.ref a1), .val (.ref a2), .val (.int 1), .val (.ref b1), .val (.ref S), .val (.int 0), .val (.int 0), .val (.int te), .unset, .unset, .unset] [(.ref a1), (.int te)])) (fun t k => ?_) ?_
    · show Steps p.tables e below (T32.setTop (mkF m 164 #[.val (.ref a1), .val (.ref a2), .val (.int 1), .val (.ref b1), .val (.ref S), .val (.int 0), .val (.int 0), .val (.int te), .unset, .unset, .unset] [])) t
      refine XS.iload X32.here hx rfl (hb hby d11_164) rfl ?_
      refine XS.aloadN X32.here hx rfl (hb hby d11_166) rfl rfl ?_
      exact k
    obtain ⟨T33, X33, e33, st33⟩ := getF X32 hx hZ hown (host := "") (Or.inl (own_at hw 18 rfl)) Via.refl hh32 r_2 (g := (mkF m 167 #[.val (.ref a1), .val (.ref a2), .val (.int 1), .val (.ref b1), .val (.ref S), .val (.int 0), .val (.int 0), .val (.int te), .unset, .unset, .unset] [(.ref a1), (.int te)])) rfl rfl (hb hby d11_167)
    refine own_go (fun t k => st33 t k) ?_
    refine own_go (B := T33.setTop (mkF m 188 #[.val (.ref a1), .val (.ref a2), .val (.int 1), .val (.ref b1), .val (.ref S), .val (.int 0), .val (.int 0), .val (.int te), .val (.int 1), .unset, .unset] [(.int 0), (.ref a1)])) (fun t k => ?_) ?_
    · show Steps p.tables e below (T33.setTop (mkF m 170 #[.val (.ref a1), .val (.ref a2), .val (.int 1), .val (.ref b1), .val (.ref S), .val (.int 0), .val (.int 0), .val (.int te), .unset, .unset, .unset] [(.int vr), (.int te)])) t
      refine XS.icmpNo X33.here hx rfl (hb hby d11_170) rfl (teq (hte.trans ((congrArg gN (by decide : ((3 : Int32) * (0 : Int32)).toNatClampNeg = 0)).trans hv_0) : te = vr)).2 ?_
      refine XS.iconst X33.here hx rfl (hb hby d11_173) ?_
      refine XS.goto X33.here hx rfl (pc0 := 174) (pc' := 178) rfl (hb hby d11_174) (by decide) (by decide) ?_
      refine XS.istore X33.here hx rfl (hb hby d11_178) rfl (l' := #[.val (.ref a1), .val (.ref a2), .val (.int 1), .val (.ref b1), .val (.ref S), .val (.int 0), .val (.int 0), .val (.int te), .val (.int 1), .unset, .unset]) rfl ?_
      refine XS.iload X33.here hx rfl (hb hby d11_180) rfl ?_
      show Steps p.tables e below (T33.setTop (mkF m 182 #[.val (.ref a1), .val (.ref a2), .val (.int 1), .val (.ref b1), .val (.ref S), .val (.int 0), .val (.int 0), .val (.int te), .val (.int 1), .unset, .unset] [(.int 1)])) t
      refine XS.ifNo X33.here hx rfl (hb hby d11_182) rfl ((if0 _ _).trans (feq (by decide : ¬ ((1 : Int32) = (0 : Int32)))).1) ?_
      show Steps p.tables e below (T33.setTop (mkF m 185 #[.val (.ref a1), .val (.ref a2), .val (.int 1), .val (.ref b1), .val (.ref S), .val (.int 0), .val (.int 0), .val (.int te), .val (.int 1), .unset, .unset] [])) t
      refine XS.aloadN X33.here hx rfl (hb hby d11_185) rfl rfl ?_
      refine XS.iload X33.here hx rfl (hb hby d11_186) rfl ?_
      exact k
    have M34 := rm24 l Z a0 hw [] a1 (0 : Int32) N gN hp n0 Zs r_3 r_10 (by decide) (by decide)
    obtain ⟨cq34, kq34, q34a, q34b, q34c⟩ := isOf hZ e33 r_0
    obtain ⟨_, _, ⟨T34, L34, k34, n34⟩, -, X34, ⟨Lc34, hQ34, l34, y34, z34⟩, st34⟩ := X33.virtualBack hx (y := (⟨"com/example/liaise/liaise/NodeTable", "low", "(I)I"⟩ : MethodName)) (z := (⟨"com/example/liaise/liaise/NodeTable", "low", "(I)I"⟩ : MethodName)) hown (mvT hZ (own_at hw 135 rfl)) (mvT hZ (own_at hw 136 rfl)) (notFace_of_selects (args := #[]) (mvT hZ (own_at hw 138 rfl))) (mvT hZ (own_at hw 138 rfl)) (mvT hZ (own_at hw 137 rfl)) (by decide) (backOf (W := 0) (M34) hZ (own_at hw 139 rfl) (own_at hw 2 rfl) (by decide) (by decide)) q34a q34c (g := (mkF m 188 #[.val (.ref a1), .val (.ref a2), .val (.int 1), .val (.ref b1), .val (.ref S), .val (.int 0), .val (.int 0), .val (.int te), .val (.int 1), .unset, .unset] [(.int 0), (.ref a1)])) rfl (by rw [hml]; rfl) (Steps.refl _) (argsL := [(.int 0)]) (rest := []) (lenOf pd_rm11_3_2 rfl) rfl (by show 2 * 0 + _ ≤ _; exact Nat.le_of_eq rfl) (hb hby d11_188) (fun _ _ => ⟨rfl, e33, (by decide : 2 + 0 ≤ _), (by decide : 4 + 0 ≤ _)⟩)
    dsimp only [Pt.U, Pt.locs, Pt.cells, Pt.slots] at X34 l34 y34 z34 st34 hQ34
    subst l34 y34 z34
    obtain ⟨rfl, N34q, hh34⟩ := hQ34
    have N34 := Fr.app N32 N34q
    obtain ⟨LL34, X34, N34⟩ := own_abs X34 N34
    refine own_go (fun t k => st34.trans k) ?_
    refine own_go (B := T34.setTop (mkF m 205 #[.val (.ref a1), .val (.ref a2), .val (.int 1), .val (.ref b1), .val (.ref S), .val (.int 0), .val (.int 0), .val (.int te), .val (.int 1), .val (.int (gN ((((3 : Int32) * (0 : Int32)) + (1 : Int32))).toNatClampNeg)), .unset] [])) (fun t k => ?_) ?_
    · show Steps p.tables e below (T34.setTop (mkF m 191 #[.val (.ref a1), .val (.ref a2), .val (.int 1), .val (.ref b1), .val (.ref S), .val (.int 0), .val (.int 0), .val (.int te), .val (.int 1), .unset, .unset] [(.int (gN ((((3 : Int32) * (0 : Int32)) + (1 : Int32))).toNatClampNeg))])) t
      refine XS.goto X34.here hx rfl (pc0 := 191) (pc' := 203) rfl (hb hby d11_191) (by decide) (by decide) ?_
      refine XS.istore X34.here hx rfl (hb hby d11_203) rfl (l' := #[.val (.ref a1), .val (.ref a2), .val (.int 1), .val (.ref b1), .val (.ref S), .val (.int 0), .val (.int 0), .val (.int te), .val (.int 1), .val (.int (gN ((((3 : Int32) * (0 : Int32)) + (1 : Int32))).toNatClampNeg)), .unset]) rfl ?_
      exact k
    obtain ⟨lo, hlo⟩ : ∃ z : Int32, z = (gN ((((3 : Int32) * (0 : Int32)) + (1 : Int32))).toNatClampNeg) := ⟨_, rfl⟩
    rw [← hlo]
    refine own_go (B := T34.setTop (mkF m 213 #[.val (.ref a1), .val (.ref a2), .val (.int 1), .val (.ref b1), .val (.ref S), .val (.int 0), .val (.int 0), .val (.int te), .val (.int 1), .val (.int lo), .unset] [(.int 0), (.ref a1)])) (fun t k => ?_) ?_
    · show Steps p.tables e below (T34.setTop (mkF m 205 #[.val (.ref a1), .val (.ref a2), .val (.int 1), .val (.ref b1), .val (.ref S), .val (.int 0), .val (.int 0), .val (.int te), .val (.int 1), .val (.int lo), .unset] [])) t
      refine XS.iload X34.here hx rfl (hb hby d11_205) rfl ?_
      show Steps p.tables e below (T34.setTop (mkF m 207 #[.val (.ref a1), .val (.ref a2), .val (.int 1), .val (.ref b1), .val (.ref S), .val (.int 0), .val (.int 0), .val (.int te), .val (.int 1), .val (.int lo), .unset] [(.int 1)])) t
      refine XS.ifNo X34.here hx rfl (hb hby d11_207) rfl ((if0 _ _).trans (feq (by decide : ¬ ((1 : Int32) = (0 : Int32)))).1) ?_
      refine XS.aloadN X34.here hx rfl (hb hby d11_210) rfl rfl ?_
      refine XS.iload X34.here hx rfl (hb hby d11_211) rfl ?_
      exact k
    have M35 := rm25 l Z a0 hw [] a1 (0 : Int32) N gN hp n0 Zs r_3 r_10 (by decide) (by decide)
    obtain ⟨cq35, kq35, q35a, q35b, q35c⟩ := isOf hZ hh34 r_0
    obtain ⟨_, _, ⟨T35, L35, k35, n35⟩, -, X35, ⟨Lc35, hQ35, l35, y35, z35⟩, st35⟩ := X34.virtualBack hx (y := (⟨"com/example/liaise/liaise/NodeTable", "high", "(I)I"⟩ : MethodName)) (z := (⟨"com/example/liaise/liaise/NodeTable", "high", "(I)I"⟩ : MethodName)) hown (mvT hZ (own_at hw 140 rfl)) (mvT hZ (own_at hw 141 rfl)) (notFace_of_selects (args := #[]) (mvT hZ (own_at hw 143 rfl))) (mvT hZ (own_at hw 143 rfl)) (mvT hZ (own_at hw 142 rfl)) (by decide) (backOf (W := 0) (M35) hZ (own_at hw 144 rfl) (own_at hw 2 rfl) (by decide) (by decide)) q35a q35c (g := (mkF m 213 #[.val (.ref a1), .val (.ref a2), .val (.int 1), .val (.ref b1), .val (.ref S), .val (.int 0), .val (.int 0), .val (.int te), .val (.int 1), .val (.int lo), .unset] [(.int 0), (.ref a1)])) rfl (by rw [hml]; rfl) (Steps.refl _) (argsL := [(.int 0)]) (rest := []) (lenOf pd_rm11_3_2 rfl) rfl (by show 2 * 0 + _ ≤ _; exact Nat.le_of_eq rfl) (hb hby d11_213) (fun _ _ => ⟨rfl, hh34, (by decide : 2 + 0 ≤ _), (by decide : 4 + 0 ≤ _)⟩)
    dsimp only [Pt.U, Pt.locs, Pt.cells, Pt.slots] at X35 l35 y35 z35 st35 hQ35
    subst l35 y35 z35
    obtain ⟨rfl, N35q, hh35⟩ := hQ35
    have N35 := Fr.app N34 N35q
    obtain ⟨LL35, X35, N35⟩ := own_abs X35 N35
    refine own_go (fun t k => st35.trans k) ?_
    refine own_go (B := T35.setTop (mkF m 230 #[.val (.ref a1), .val (.ref a2), .val (.int 1), .val (.ref b1), .val (.ref S), .val (.int 0), .val (.int 0), .val (.int te), .val (.int 1), .val (.int lo), .val (.int (gN ((((3 : Int32) * (0 : Int32)) + (2 : Int32))).toNatClampNeg))] [])) (fun t k => ?_) ?_
    · show Steps p.tables e below (T35.setTop (mkF m 216 #[.val (.ref a1), .val (.ref a2), .val (.int 1), .val (.ref b1), .val (.ref S), .val (.int 0), .val (.int 0), .val (.int te), .val (.int 1), .val (.int lo), .unset] [(.int (gN ((((3 : Int32) * (0 : Int32)) + (2 : Int32))).toNatClampNeg))])) t
      refine XS.goto X35.here hx rfl (pc0 := 216) (pc' := 228) rfl (hb hby d11_216) (by decide) (by decide) ?_
      refine XS.istore X35.here hx rfl (hb hby d11_228) rfl (l' := #[.val (.ref a1), .val (.ref a2), .val (.int 1), .val (.ref b1), .val (.ref S), .val (.int 0), .val (.int 0), .val (.int te), .val (.int 1), .val (.int lo), .val (.int (gN ((((3 : Int32) * (0 : Int32)) + (2 : Int32))).toNatClampNeg))]) rfl ?_
      exact k
    obtain ⟨hi, hhi⟩ : ∃ z : Int32, z = (gN ((((3 : Int32) * (0 : Int32)) + (2 : Int32))).toNatClampNeg) := ⟨_, rfl⟩
    rw [← hhi]
    refine own_go (B := T35.setTop (mkF m 239 #[.val (.ref a1), .val (.ref a2), .val (.int 1), .val (.ref b1), .val (.ref S), .val (.int 0), .val (.int 0), .val (.int te), .val (.int 1), .val (.int lo), .val (.int hi)] [(.int hi), (.int lo), (.int te), (.int 0), (.ref a1)])) (fun t k => ?_) ?_
    · show Steps p.tables e below (T35.setTop (mkF m 230 #[.val (.ref a1), .val (.ref a2), .val (.int 1), .val (.ref b1), .val (.ref S), .val (.int 0), .val (.int 0), .val (.int te), .val (.int 1), .val (.int lo), .val (.int hi)] [])) t
      refine XS.aloadN X35.here hx rfl (hb hby d11_230) rfl rfl ?_
      refine XS.iload X35.here hx rfl (hb hby d11_231) rfl ?_
      refine XS.iload X35.here hx rfl (hb hby d11_233) rfl ?_
      refine XS.iload X35.here hx rfl (hb hby d11_235) rfl ?_
      refine XS.iload X35.here hx rfl (hb hby d11_237) rfl ?_
      exact k
    have M36 := rm9 l Z a0 hw [] a1 (0 : Int32) te lo hi N gN hp n0 Zs r_3 r_10 g_N dd0 (by decide) (by decide)
    obtain ⟨cq36, q36, q36'⟩ := r_0.cell
    obtain ⟨_, _, ⟨T36, L36, k36, n36⟩, -, X36, ⟨Lc36, hQ36, l36, y36, z36⟩, st36⟩ := X35.privateBack hx (y := (⟨"com/example/liaise/liaise/NodeTable", "place", "(IIII)V"⟩ : MethodName)) hown (mvT hZ (own_at hw 51 rfl)) (mvT hZ (own_at hw 52 rfl)) (mvT hZ (own_selp (y := (⟨"com/example/liaise/liaise/NodeTable", "place", "(IIII)V"⟩ : MethodName)) (own_at hw 1 rfl) (own_at hw 53 rfl) (own_at hw 52 rfl) (by decide))) (Cond.privateMethod_at (mvP hZ (own_at hw 53 rfl) (args := #[]))) (mvT hZ (own_at hw 54 rfl)) (by decide) (backOf (W := 0) (M36) hZ (own_at hw 54 rfl) (own_at hw 2 rfl) (by decide) (by decide)) (g := (mkF m 239 #[.val (.ref a1), .val (.ref a2), .val (.int 1), .val (.ref b1), .val (.ref S), .val (.int 0), .val (.int 0), .val (.int te), .val (.int 1), .val (.int lo), .val (.int hi)] [(.int hi), (.int lo), (.int te), (.int 0), (.ref a1)])) rfl (by rw [hml]; rfl) (Steps.refl _) (a := a1) (by rw [hh35]; exact q36) q36' (argsL := [(.int 0), (.int te), (.int lo), (.int hi)]) (rest := []) (lenOf pd_rm11_3_3 rfl) rfl (by show 2 * 0 + _ ≤ _; exact Nat.le_of_eq rfl) (hb hby d11_239) (fun _ _ => ⟨rfl, hh35, (by decide : 2 + 0 ≤ _), (by decide : 4 + 0 ≤ _)⟩)
    dsimp only [Pt.U, Pt.locs, Pt.cells, Pt.slots] at X36 l36 y36 z36 st36 hQ36
    subst l36 y36 z36
    obtain ⟨rfl, N36q, K36, gN36, An36, hpa36, hpb36, hpc36⟩ := hQ36
    have N36 := Fr.app N35 N36q
    obtain ⟨LL36, X36, N36⟩ := own_abs X36 N36
    refine own_go (fun t k => st36.trans k) ?_
    have KK36 : Keep h0 T36.heap [a1, N, H, S, C, a2] := Kp.trans K36 (allS (Or.inl (List.mem_of_getElem? (i := 1) rfl)) all0)
    have f36_0 := r_0.keep K36
    have f36_1 := own_staKeep r_1 K36 (nsS r_10.nestat ns0)
    have ni37 : a1 ∉ [N] := (ninS dd0 nin0)
    have f36_2 := r_2.keep K36 ni37
    have f36_3 := r_3.keep K36 ni37
    have f36_4 := r_4.keep K36 ni37
    have f36_5 := r_5.keep K36 ni37
    have f36_6 := r_6.keep K36 ni37
    have f36_7 := r_7.keep K36 ni37
    have f36_8 := r_8.keep K36 ni37
    have f36_9 := r_9.keep K36 ni37
    have ni38 : H ∉ [N] := (ninS (Ne.symm dd4) nin0)
    have f36_11 := r_11.keep K36 ni38
    have ni39 : S ∉ [N] := (ninS (Ne.symm dd5) nin0)
    have f36_12 := r_12.keep K36 ni39
    have ni40 : C ∉ [N] := (ninS (Ne.symm dd6) nin0)
    have f36_13 := r_13.keep K36 ni40
    have ni41 : a2 ∉ [N] := (ninS (Ne.symm de1) nin0)
    have f36_14 := r_14.keep K36 ni41
    have f36_15 := r_15.keep K36
    have ni42 : b1 ∉ [N] := (ninS (Ne.symm ne1_N) nin0)
    have f36_16 := r_16.keep K36 ni42
    have f36_17 := r_17.keep K36 ni42
    have ni43 : W3 ∉ [N] := (ninS (Ne.symm (Nat.ne_of_lt (Nat.lt_of_lt_of_le f1_10.lt sw3))) nin0)
    have f36_18 := r_18.keep K36 ni43
    have hv36_0 : gN36 0 = vr := (congrArg gN36 (by decide : 0 = 3 * ((0 : Int32)).toNatClampNeg)).trans (hpa36.trans (hte.trans ((congrArg gN (by decide : ((3 : Int32) * (0 : Int32)).toNatClampNeg = 0)).trans hv_0)))
    have hv36_1 : gN36 3 = vr := (hpc36 3 (by decide)).trans hv_1
    have hv36_2 : gN36 6 = vr := (hpc36 6 (by decide)).trans hv_2
    refine own_go (B := T36.setTop (mkF m 248 #[.val (.ref a1), .val (.ref a2), .val (.int 1), .val (.ref b1), .val (.ref S), .val (.int 0), .val (.int 0), .val (.int te), .val (.int 1), .val (.int lo), .val (.int hi)] [(.int 0), (.int 0), (.ref S)])) (fun t k => ?_) ?_
    · show Steps p.tables e below (T36.setTop (mkF m 242 #[.val (.ref a1), .val (.ref a2), .val (.int 1), .val (.ref b1), .val (.ref S), .val (.int 0), .val (.int 0), .val (.int te), .val (.int 1), .val (.int lo), .val (.int hi)] [])) t
      refine XS.aload X36.here hx rfl (hb hby d11_242) rfl rfl ?_
      refine XS.iload X36.here hx rfl (hb hby d11_244) rfl ?_
      refine XS.iload X36.here hx rfl (hb hby d11_246) rfl ?_
      exact k
    obtain ⟨cl44, Ar44, hin44, -, -, -⟩ := f36_12.get (j := (0 : Int32)) (by decide) (by decide)
    obtain ⟨T44, h44, X44, e44, W44, st44⟩ := stI X36 hx hZ rfl Ar44 (j := (0 : Int32)) hin44 (g := (mkF m 248 #[.val (.ref a1), .val (.ref a2), .val (.int 1), .val (.ref b1), .val (.ref S), .val (.int 0), .val (.int 0), .val (.int te), .val (.int 1), .val (.int lo), .val (.int hi)] [(.int 0), (.int 0), (.ref S)])) rfl rfl (hb hby d11_248)
    refine own_go (fun t k => st44 t k) ?_
    have N44 := Fr.snoc X44 N36 g_S
    obtain ⟨LL44, X44, N44⟩ := own_abs X44 N44
    have K44 : Keep h0 h44 [a1, N, H, S, C, a2] := KK36.wr W44 (Or.inl (List.mem_of_getElem? (i := 3) rfl))
    have f44_0 := f36_0.wr W44
    have f44_1 := f36_1.wr W44
    have f44_2 := f36_2.other W44 (Or.inl dd2)
    have f44_3 := f36_3.other W44 (Or.inl dd2)
    have f44_4 := f36_4.other W44 (Or.inl dd2)
    have f44_5 := f36_5.other W44 (Or.inl dd2)
    have f44_6 := f36_6.other W44 (Or.inl dd2)
    have f44_7 := f36_7.other W44 (Or.inl dd2)
    have f44_8 := f36_8.other W44 (Or.inl dd2)
    have f44_9 := f36_9.other W44 (Or.inl dd2)
    have f44_10 := f36_11.other W44 dd7
    have f44_11 := f36_12.setk W44 0 (by decide)
    have f44_12 := f36_13.other W44 (Ne.symm dd9)
    have f44_13 := f36_14.other W44 (Ne.symm de3)
    have f44_14 := f36_15.wr W44
    have f44_15 := f36_16.other W44 (Or.inl (Ne.symm ne1_S))
    have f44_16 := f36_17.other W44 (Or.inl (Ne.symm ne1_S))
    have f44_17 := f36_18.other W44 (Ne.symm (Nat.ne_of_lt (Nat.lt_of_lt_of_le f1_12.lt sw3)))
    have f44_18 := An36.other W44 dd5
    refine own_go (B := T44.setTop (mkF m 257 #[.val (.ref a1), .val (.ref a2), .val (.int 1), .val (.ref b1), .val (.ref S), .val (.int (0 + 1)), .val (.int 0), .val (.int te), .val (.int 1), .val (.int lo), .val (.int hi)] [(.int (0 + 1)), (.ref b1)])) (fun t k => ?_) ?_
    · show Steps p.tables e below (T44.setTop (mkF m 249 #[.val (.ref a1), .val (.ref a2), .val (.int 1), .val (.ref b1), .val (.ref S), .val (.int 0), .val (.int 0), .val (.int te), .val (.int 1), .val (.int lo), .val (.int hi)] [])) t
      refine XS.iinc X44.here hx rfl (hb hby d11_249) rfl (l' := #[.val (.ref a1), .val (.ref a2), .val (.int 1), .val (.ref b1), .val (.ref S), .val (.int (0 + 1)), .val (.int 0), .val (.int te), .val (.int 1), .val (.int lo), .val (.int hi)]) rfl ?_
      refine XS.aloadN X44.here hx rfl (hb hby d11_252) rfl rfl ?_
      refine XS.iload X44.here hx rfl (hb hby d11_253) rfl ?_
      refine XS.iconst X44.here hx rfl (hb hby d11_255) ?_
      refine XS.iadd X44.here hx rfl (hb hby d11_256) rfl ?_
      exact k
    have M45 := rm21 l Z a0 hw [] b1 ((0 : Int32) + (1 : Int32)) W3 gW (6 : Int64) (1 : Int32) (1 : Int32) h44 n0 (Nat.le_trans (Nat.le_trans Zs K36.1) (Keep.of_wr W44).1) f44_14 f44_16 f44_17 f44_15 f44_1 (by decide) (by decide) (by rw [hW]; decide) (by decide) (by decide) (by decide) (by decide)
    obtain ⟨cq45, kq45, q45a, q45b, q45c⟩ := isOf hZ e44 f44_14
    obtain ⟨_, _, ⟨T45, L45, k45, n45⟩, -, X45, ⟨Lc45, hQ45, l45, y45, z45⟩, st45⟩ := X44.virtualBack hx (y := (⟨"java/util/BitSet", "nextSetBit", "(I)I"⟩ : MethodName)) (z := (⟨"java/util/BitSet", "nextSetBit", "(I)I"⟩ : MethodName)) hown (mvT hZ (own_at hw 121 rfl)) (mvT hZ (own_at hw 122 rfl)) (notFace_of_selects (args := #[]) (mvT hZ (own_at hw 124 rfl))) (mvT hZ (own_at hw 124 rfl)) (mvT hZ (own_at hw 123 rfl)) (by decide) (backOf (W := 0) (M45) hZ (own_at hw 125 rfl) (own_at hw 70 rfl) (by decide) (by decide)) q45a q45c (g := (mkF m 257 #[.val (.ref a1), .val (.ref a2), .val (.int 1), .val (.ref b1), .val (.ref S), .val (.int (0 + 1)), .val (.int 0), .val (.int te), .val (.int 1), .val (.int lo), .val (.int hi)] [(.int (0 + 1)), (.ref b1)])) rfl (by rw [hml]; rfl) (Steps.refl _) (argsL := [(.int (0 + 1))]) (rest := []) (lenOf pd_rm11_3_2 rfl) rfl (by show 2 * 0 + _ ≤ _; exact Nat.le_of_eq rfl) (hb hby d11_257) (fun _ _ => ⟨rfl, e44, (by decide : 2 + 0 ≤ _), (by decide : 4 + 0 ≤ _)⟩)
    dsimp only [Pt.U, Pt.locs, Pt.cells, Pt.slots] at X45 l45 y45 z45 st45 hQ45
    subst l45 y45 z45
    obtain ⟨rfl, N45q, hh45⟩ := hQ45
    have N45 := Fr.app N44 N45q
    obtain ⟨LL45, X45, N45⟩ := own_abs X45 N45
    refine own_go (fun t k => st45.trans k) ?_
    refine own_go (B := T45.setTop (mkF m 159 #[.val (.ref a1), .val (.ref a2), .val (.int 1), .val (.ref b1), .val (.ref S), .val (.int (0 + 1)), .val (.int 1), .val (.int te), .val (.int 1), .val (.int lo), .val (.int hi)] [(.int 1), (.ref a1)])) (fun t k => ?_) ?_
    · show Steps p.tables e below (T45.setTop (mkF m 260 #[.val (.ref a1), .val (.ref a2), .val (.int 1), .val (.ref b1), .val (.ref S), .val (.int (0 + 1)), .val (.int 0), .val (.int te), .val (.int 1), .val (.int lo), .val (.int hi)] [(.int 1)])) t
      refine XS.istore X45.here hx rfl (hb hby d11_260) rfl (l' := #[.val (.ref a1), .val (.ref a2), .val (.int 1), .val (.ref b1), .val (.ref S), .val (.int (0 + 1)), .val (.int 1), .val (.int te), .val (.int 1), .val (.int lo), .val (.int hi)]) rfl ?_
      refine XS.goto X45.here hx rfl (pc0 := 262) (pc' := 151) rfl (hb hby d11_262) (by decide) (by decide) ?_
      refine XS.iload X45.here hx rfl (hb hby d11_151) rfl ?_
      show Steps p.tables e below (T45.setTop (mkF m 153 #[.val (.ref a1), .val (.ref a2), .val (.int 1), .val (.ref b1), .val (.ref S), .val (.int (0 + 1)), .val (.int 1), .val (.int te), .val (.int 1), .val (.int lo), .val (.int hi)] [(.int 1)])) t
      refine XS.ifNo X45.here hx rfl (hb hby d11_153) rfl ((if0 _ _).trans (flt (by decide : ¬ ((1 : Int32) < (0 : Int32)))).1) ?_
      refine XS.aloadN X45.here hx rfl (hb hby d11_156) rfl rfl ?_
      refine XS.iload X45.here hx rfl (hb hby d11_157) rfl ?_
      exact k
    have M46 := rm20 l Z a0 hw [] a1 (1 : Int32) N gN36 h44 n0 (Nat.le_trans (Nat.le_trans Zs K36.1) (Keep.of_wr W44).1) f44_3 f44_18 (by decide) (by decide)
    obtain ⟨cq46, kq46, q46a, q46b, q46c⟩ := isOf hZ hh45 f44_0
    obtain ⟨_, _, ⟨T46, L46, k46, n46⟩, -, X46, ⟨Lc46, hQ46, l46, y46, z46⟩, st46⟩ := X45.virtualBack hx (y := (⟨"com/example/liaise/liaise/NodeTable", "variable", "(I)I"⟩ : MethodName)) (z := (⟨"com/example/liaise/liaise/NodeTable", "variable", "(I)I"⟩ : MethodName)) hown (mvT hZ (own_at hw 116 rfl)) (mvT hZ (own_at hw 117 rfl)) (notFace_of_selects (args := #[]) (mvT hZ (own_at hw 119 rfl))) (mvT hZ (own_at hw 119 rfl)) (mvT hZ (own_at hw 118 rfl)) (by decide) (backOf (W := 0) (M46) hZ (own_at hw 120 rfl) (own_at hw 2 rfl) (by decide) (by decide)) q46a q46c (g := (mkF m 159 #[.val (.ref a1), .val (.ref a2), .val (.int 1), .val (.ref b1), .val (.ref S), .val (.int (0 + 1)), .val (.int 1), .val (.int te), .val (.int 1), .val (.int lo), .val (.int hi)] [(.int 1), (.ref a1)])) rfl (by rw [hml]; rfl) (Steps.refl _) (argsL := [(.int 1)]) (rest := []) (lenOf pd_rm11_3_2 rfl) rfl (by show 2 * 0 + _ ≤ _; exact Nat.le_of_eq rfl) (hb hby d11_159) (fun _ _ => ⟨rfl, hh45, (by decide : 2 + 0 ≤ _), (by decide : 4 + 0 ≤ _)⟩)
    dsimp only [Pt.U, Pt.locs, Pt.cells, Pt.slots] at X46 l46 y46 z46 st46 hQ46
    subst l46 y46 z46
    obtain ⟨rfl, N46q, hh46⟩ := hQ46
    have N46 := Fr.app N45 N46q
    obtain ⟨LL46, X46, N46⟩ := own_abs X46 N46
    refine own_go (fun t k => st46.trans k) ?_
    refine own_go (B := T46.setTop (mkF m 164 #[.val (.ref a1), .val (.ref a2), .val (.int 1), .val (.ref b1), .val (.ref S), .val (.int (0 + 1)), .val (.int 1), .val (.int (gN36 (((3 : Int32) * (1 : Int32))).toNatClampNeg)), .val (.int 1), .val (.int lo), .val (.int hi)] [])) (fun t k => ?_) ?_
    · show Steps p.tables e below (T46.setTop (mkF m 162 #[.val (.ref a1), .val (.ref a2), .val (.int 1), .val (.ref b1), .val (.ref S), .val (.int (0 + 1)), .val (.int 1), .val (.int te), .val (.int 1), .val (.int lo), .val (.int hi)] [(.int (gN36 (((3 : Int32) * (1 : Int32))).toNatClampNeg))])) t
      refine XS.istore X46.here hx rfl (hb hby d11_162) rfl (l' := #[.val (.ref a1), .val (.ref a2), .val (.int 1), .val (.ref b1), .val (.ref S), .val (.int (0 + 1)), .val (.int 1), .val (.int (gN36 (((3 : Int32) * (1 : Int32))).toNatClampNeg)), .val (.int 1), .val (.int lo), .val (.int hi)]) rfl ?_
      exact k
    obtain ⟨te, hte⟩ : ∃ z : Int32, z = (gN36 (((3 : Int32) * (1 : Int32))).toNatClampNeg) := ⟨_, rfl⟩
    rw [← hte]
    refine own_go (B := T46.setTop (mkF m 167 #[.val (.ref a1), .val (.ref a2), .val (.int 1), .val (.ref b1), .val (.ref S), .val (.int (0 + 1)), .val (.int 1), .val (.int te), .val (.int 1), .val (.int lo), .val (.int hi)] [(.ref a1), (.int te)])) (fun t k => ?_) ?_
    · show Steps p.tables e below (T46.setTop (mkF m 164 #[.val (.ref a1), .val (.ref a2), .val (.int 1), .val (.ref b1), .val (.ref S), .val (.int (0 + 1)), .val (.int 1), .val (.int te), .val (.int 1), .val (.int lo), .val (.int hi)] [])) t
      refine XS.iload X46.here hx rfl (hb hby d11_164) rfl ?_
      refine XS.aloadN X46.here hx rfl (hb hby d11_166) rfl rfl ?_
      exact k
    obtain ⟨T47, X47, e47, st47⟩ := getF X46 hx hZ hown (host := "") (Or.inl (own_at hw 18 rfl)) Via.refl hh46 f44_2 (g := (mkF m 167 #[.val (.ref a1), .val (.ref a2), .val (.int 1), .val (.ref b1), .val (.ref S), .val (.int (0 + 1)), .val (.int 1), .val (.int te), .val (.int 1), .val (.int lo), .val (.int hi)] [(.ref a1), (.int te)])) rfl rfl (hb hby d11_167)
    refine own_go (fun t k => st47 t k) ?_
    refine own_go (B := T47.setTop (mkF m 188 #[.val (.ref a1), .val (.ref a2), .val (.int 1), .val (.ref b1), .val (.ref S), .val (.int (0 + 1)), .val (.int 1), .val (.int te), .val (.int 1), .val (.int lo), .val (.int hi)] [(.int 1), (.ref a1)])) (fun t k => ?_) ?_
    · show Steps p.tables e below (T47.setTop (mkF m 170 #[.val (.ref a1), .val (.ref a2), .val (.int 1), .val (.ref b1), .val (.ref S), .val (.int (0 + 1)), .val (.int 1), .val (.int te), .val (.int 1), .val (.int lo), .val (.int hi)] [(.int vr), (.int te)])) t
      refine XS.icmpNo X47.here hx rfl (hb hby d11_170) rfl (teq (hte.trans ((congrArg gN36 (by decide : ((3 : Int32) * (1 : Int32)).toNatClampNeg = 3)).trans hv36_1) : te = vr)).2 ?_
      refine XS.iconst X47.here hx rfl (hb hby d11_173) ?_
      refine XS.goto X47.here hx rfl (pc0 := 174) (pc' := 178) rfl (hb hby d11_174) (by decide) (by decide) ?_
      refine XS.istore X47.here hx rfl (hb hby d11_178) rfl (l' := #[.val (.ref a1), .val (.ref a2), .val (.int 1), .val (.ref b1), .val (.ref S), .val (.int (0 + 1)), .val (.int 1), .val (.int te), .val (.int 1), .val (.int lo), .val (.int hi)]) rfl ?_
      refine XS.iload X47.here hx rfl (hb hby d11_180) rfl ?_
      show Steps p.tables e below (T47.setTop (mkF m 182 #[.val (.ref a1), .val (.ref a2), .val (.int 1), .val (.ref b1), .val (.ref S), .val (.int (0 + 1)), .val (.int 1), .val (.int te), .val (.int 1), .val (.int lo), .val (.int hi)] [(.int 1)])) t
      refine XS.ifNo X47.here hx rfl (hb hby d11_182) rfl ((if0 _ _).trans (feq (by decide : ¬ ((1 : Int32) = (0 : Int32)))).1) ?_
      show Steps p.tables e below (T47.setTop (mkF m 185 #[.val (.ref a1), .val (.ref a2), .val (.int 1), .val (.ref b1), .val (.ref S), .val (.int (0 + 1)), .val (.int 1), .val (.int te), .val (.int 1), .val (.int lo), .val (.int hi)] [])) t
      refine XS.aloadN X47.here hx rfl (hb hby d11_185) rfl rfl ?_
      refine XS.iload X47.here hx rfl (hb hby d11_186) rfl ?_
      exact k
    have M48 := rm24 l Z a0 hw [] a1 (1 : Int32) N gN36 h44 n0 (Nat.le_trans (Nat.le_trans Zs K36.1) (Keep.of_wr W44).1) f44_3 f44_18 (by decide) (by decide)
    obtain ⟨cq48, kq48, q48a, q48b, q48c⟩ := isOf hZ e47 f44_0
    obtain ⟨_, _, ⟨T48, L48, k48, n48⟩, -, X48, ⟨Lc48, hQ48, l48, y48, z48⟩, st48⟩ := X47.virtualBack hx (y := (⟨"com/example/liaise/liaise/NodeTable", "low", "(I)I"⟩ : MethodName)) (z := (⟨"com/example/liaise/liaise/NodeTable", "low", "(I)I"⟩ : MethodName)) hown (mvT hZ (own_at hw 135 rfl)) (mvT hZ (own_at hw 136 rfl)) (notFace_of_selects (args := #[]) (mvT hZ (own_at hw 138 rfl))) (mvT hZ (own_at hw 138 rfl)) (mvT hZ (own_at hw 137 rfl)) (by decide) (backOf (W := 0) (M48) hZ (own_at hw 139 rfl) (own_at hw 2 rfl) (by decide) (by decide)) q48a q48c (g := (mkF m 188 #[.val (.ref a1), .val (.ref a2), .val (.int 1), .val (.ref b1), .val (.ref S), .val (.int (0 + 1)), .val (.int 1), .val (.int te), .val (.int 1), .val (.int lo), .val (.int hi)] [(.int 1), (.ref a1)])) rfl (by rw [hml]; rfl) (Steps.refl _) (argsL := [(.int 1)]) (rest := []) (lenOf pd_rm11_3_2 rfl) rfl (by show 2 * 0 + _ ≤ _; exact Nat.le_of_eq rfl) (hb hby d11_188) (fun _ _ => ⟨rfl, e47, (by decide : 2 + 0 ≤ _), (by decide : 4 + 0 ≤ _)⟩)
    dsimp only [Pt.U, Pt.locs, Pt.cells, Pt.slots] at X48 l48 y48 z48 st48 hQ48
    subst l48 y48 z48
    obtain ⟨rfl, N48q, hh48⟩ := hQ48
    have N48 := Fr.app N46 N48q
    obtain ⟨LL48, X48, N48⟩ := own_abs X48 N48
    refine own_go (fun t k => st48.trans k) ?_
    refine own_go (B := T48.setTop (mkF m 205 #[.val (.ref a1), .val (.ref a2), .val (.int 1), .val (.ref b1), .val (.ref S), .val (.int (0 + 1)), .val (.int 1), .val (.int te), .val (.int 1), .val (.int (gN36 ((((3 : Int32) * (1 : Int32)) + (1 : Int32))).toNatClampNeg)), .val (.int hi)] [])) (fun t k => ?_) ?_
    · show Steps p.tables e below (T48.setTop (mkF m 191 #[.val (.ref a1), .val (.ref a2), .val (.int 1), .val (.ref b1), .val (.ref S), .val (.int (0 + 1)), .val (.int 1), .val (.int te), .val (.int 1), .val (.int lo), .val (.int hi)] [(.int (gN36 ((((3 : Int32) * (1 : Int32)) + (1 : Int32))).toNatClampNeg))])) t
      refine XS.goto X48.here hx rfl (pc0 := 191) (pc' := 203) rfl (hb hby d11_191) (by decide) (by decide) ?_
      refine XS.istore X48.here hx rfl (hb hby d11_203) rfl (l' := #[.val (.ref a1), .val (.ref a2), .val (.int 1), .val (.ref b1), .val (.ref S), .val (.int (0 + 1)), .val (.int 1), .val (.int te), .val (.int 1), .val (.int (gN36 ((((3 : Int32) * (1 : Int32)) + (1 : Int32))).toNatClampNeg)), .val (.int hi)]) rfl ?_
      exact k
    obtain ⟨lo, hlo⟩ : ∃ z : Int32, z = (gN36 ((((3 : Int32) * (1 : Int32)) + (1 : Int32))).toNatClampNeg) := ⟨_, rfl⟩
    rw [← hlo]
    refine own_go (B := T48.setTop (mkF m 213 #[.val (.ref a1), .val (.ref a2), .val (.int 1), .val (.ref b1), .val (.ref S), .val (.int (0 + 1)), .val (.int 1), .val (.int te), .val (.int 1), .val (.int lo), .val (.int hi)] [(.int 1), (.ref a1)])) (fun t k => ?_) ?_
    · show Steps p.tables e below (T48.setTop (mkF m 205 #[.val (.ref a1), .val (.ref a2), .val (.int 1), .val (.ref b1), .val (.ref S), .val (.int (0 + 1)), .val (.int 1), .val (.int te), .val (.int 1), .val (.int lo), .val (.int hi)] [])) t
      refine XS.iload X48.here hx rfl (hb hby d11_205) rfl ?_
      show Steps p.tables e below (T48.setTop (mkF m 207 #[.val (.ref a1), .val (.ref a2), .val (.int 1), .val (.ref b1), .val (.ref S), .val (.int (0 + 1)), .val (.int 1), .val (.int te), .val (.int 1), .val (.int lo), .val (.int hi)] [(.int 1)])) t
      refine XS.ifNo X48.here hx rfl (hb hby d11_207) rfl ((if0 _ _).trans (feq (by decide : ¬ ((1 : Int32) = (0 : Int32)))).1) ?_
      refine XS.aloadN X48.here hx rfl (hb hby d11_210) rfl rfl ?_
      refine XS.iload X48.here hx rfl (hb hby d11_211) rfl ?_
      exact k
    have M49 := rm25 l Z a0 hw [] a1 (1 : Int32) N gN36 h44 n0 (Nat.le_trans (Nat.le_trans Zs K36.1) (Keep.of_wr W44).1) f44_3 f44_18 (by decide) (by decide)
    obtain ⟨cq49, kq49, q49a, q49b, q49c⟩ := isOf hZ hh48 f44_0
    obtain ⟨_, _, ⟨T49, L49, k49, n49⟩, -, X49, ⟨Lc49, hQ49, l49, y49, z49⟩, st49⟩ := X48.virtualBack hx (y := (⟨"com/example/liaise/liaise/NodeTable", "high", "(I)I"⟩ : MethodName)) (z := (⟨"com/example/liaise/liaise/NodeTable", "high", "(I)I"⟩ : MethodName)) hown (mvT hZ (own_at hw 140 rfl)) (mvT hZ (own_at hw 141 rfl)) (notFace_of_selects (args := #[]) (mvT hZ (own_at hw 143 rfl))) (mvT hZ (own_at hw 143 rfl)) (mvT hZ (own_at hw 142 rfl)) (by decide) (backOf (W := 0) (M49) hZ (own_at hw 144 rfl) (own_at hw 2 rfl) (by decide) (by decide)) q49a q49c (g := (mkF m 213 #[.val (.ref a1), .val (.ref a2), .val (.int 1), .val (.ref b1), .val (.ref S), .val (.int (0 + 1)), .val (.int 1), .val (.int te), .val (.int 1), .val (.int lo), .val (.int hi)] [(.int 1), (.ref a1)])) rfl (by rw [hml]; rfl) (Steps.refl _) (argsL := [(.int 1)]) (rest := []) (lenOf pd_rm11_3_2 rfl) rfl (by show 2 * 0 + _ ≤ _; exact Nat.le_of_eq rfl) (hb hby d11_213) (fun _ _ => ⟨rfl, hh48, (by decide : 2 + 0 ≤ _), (by decide : 4 + 0 ≤ _)⟩)
    dsimp only [Pt.U, Pt.locs, Pt.cells, Pt.slots] at X49 l49 y49 z49 st49 hQ49
    subst l49 y49 z49
    obtain ⟨rfl, N49q, hh49⟩ := hQ49
    have N49 := Fr.app N48 N49q
    obtain ⟨LL49, X49, N49⟩ := own_abs X49 N49
    refine own_go (fun t k => st49.trans k) ?_
    refine own_go (B := T49.setTop (mkF m 230 #[.val (.ref a1), .val (.ref a2), .val (.int 1), .val (.ref b1), .val (.ref S), .val (.int (0 + 1)), .val (.int 1), .val (.int te), .val (.int 1), .val (.int lo), .val (.int (gN36 ((((3 : Int32) * (1 : Int32)) + (2 : Int32))).toNatClampNeg))] [])) (fun t k => ?_) ?_
    · show Steps p.tables e below (T49.setTop (mkF m 216 #[.val (.ref a1), .val (.ref a2), .val (.int 1), .val (.ref b1), .val (.ref S), .val (.int (0 + 1)), .val (.int 1), .val (.int te), .val (.int 1), .val (.int lo), .val (.int hi)] [(.int (gN36 ((((3 : Int32) * (1 : Int32)) + (2 : Int32))).toNatClampNeg))])) t
      refine XS.goto X49.here hx rfl (pc0 := 216) (pc' := 228) rfl (hb hby d11_216) (by decide) (by decide) ?_
      refine XS.istore X49.here hx rfl (hb hby d11_228) rfl (l' := #[.val (.ref a1), .val (.ref a2), .val (.int 1), .val (.ref b1), .val (.ref S), .val (.int (0 + 1)), .val (.int 1), .val (.int te), .val (.int 1), .val (.int lo), .val (.int (gN36 ((((3 : Int32) * (1 : Int32)) + (2 : Int32))).toNatClampNeg))]) rfl ?_
      exact k
    obtain ⟨hi, hhi⟩ : ∃ z : Int32, z = (gN36 ((((3 : Int32) * (1 : Int32)) + (2 : Int32))).toNatClampNeg) := ⟨_, rfl⟩
    rw [← hhi]
    refine own_go (B := T49.setTop (mkF m 239 #[.val (.ref a1), .val (.ref a2), .val (.int 1), .val (.ref b1), .val (.ref S), .val (.int (0 + 1)), .val (.int 1), .val (.int te), .val (.int 1), .val (.int lo), .val (.int hi)] [(.int hi), (.int lo), (.int te), (.int (0 + 1)), (.ref a1)])) (fun t k => ?_) ?_
    · show Steps p.tables e below (T49.setTop (mkF m 230 #[.val (.ref a1), .val (.ref a2), .val (.int 1), .val (.ref b1), .val (.ref S), .val (.int (0 + 1)), .val (.int 1), .val (.int te), .val (.int 1), .val (.int lo), .val (.int hi)] [])) t
      refine XS.aloadN X49.here hx rfl (hb hby d11_230) rfl rfl ?_
      refine XS.iload X49.here hx rfl (hb hby d11_231) rfl ?_
      refine XS.iload X49.here hx rfl (hb hby d11_233) rfl ?_
      refine XS.iload X49.here hx rfl (hb hby d11_235) rfl ?_
      refine XS.iload X49.here hx rfl (hb hby d11_237) rfl ?_
      exact k
    have M50 := rm9 l Z a0 hw [] a1 ((0 : Int32) + (1 : Int32)) te lo hi N gN36 h44 n0 (Nat.le_trans (Nat.le_trans Zs K36.1) (Keep.of_wr W44).1) f44_3 f44_18 g_N dd0 (by decide) (by decide)
    obtain ⟨cq50, q50, q50'⟩ := f44_0.cell
    obtain ⟨_, _, ⟨T50, L50, k50, n50⟩, -, X50, ⟨Lc50, hQ50, l50, y50, z50⟩, st50⟩ := X49.privateBack hx (y := (⟨"com/example/liaise/liaise/NodeTable", "place", "(IIII)V"⟩ : MethodName)) hown (mvT hZ (own_at hw 51 rfl)) (mvT hZ (own_at hw 52 rfl)) (mvT hZ (own_selp (y := (⟨"com/example/liaise/liaise/NodeTable", "place", "(IIII)V"⟩ : MethodName)) (own_at hw 1 rfl) (own_at hw 53 rfl) (own_at hw 52 rfl) (by decide))) (Cond.privateMethod_at (mvP hZ (own_at hw 53 rfl) (args := #[]))) (mvT hZ (own_at hw 54 rfl)) (by decide) (backOf (W := 0) (M50) hZ (own_at hw 54 rfl) (own_at hw 2 rfl) (by decide) (by decide)) (g := (mkF m 239 #[.val (.ref a1), .val (.ref a2), .val (.int 1), .val (.ref b1), .val (.ref S), .val (.int (0 + 1)), .val (.int 1), .val (.int te), .val (.int 1), .val (.int lo), .val (.int hi)] [(.int hi), (.int lo), (.int te), (.int (0 + 1)), (.ref a1)])) rfl (by rw [hml]; rfl) (Steps.refl _) (a := a1) (by rw [hh49]; exact q50) q50' (argsL := [(.int (0 + 1)), (.int te), (.int lo), (.int hi)]) (rest := []) (lenOf pd_rm11_3_3 rfl) rfl (by show 2 * 0 + _ ≤ _; exact Nat.le_of_eq rfl) (hb hby d11_239) (fun _ _ => ⟨rfl, hh49, (by decide : 2 + 0 ≤ _), (by decide : 4 + 0 ≤ _)⟩)
    dsimp only [Pt.U, Pt.locs, Pt.cells, Pt.slots] at X50 l50 y50 z50 st50 hQ50
    subst l50 y50 z50
    obtain ⟨rfl, N50q, K50, gN50, An50, hpa50, hpb50, hpc50⟩ := hQ50
    have N50 := Fr.app N49 N50q
    obtain ⟨LL50, X50, N50⟩ := own_abs X50 N50
    refine own_go (fun t k => st50.trans k) ?_
    have KK50 : Keep h0 T50.heap [a1, N, H, S, C, a2] := K44.trans K50 (allS (Or.inl (List.mem_of_getElem? (i := 1) rfl)) all0)
    have f50_0 := f44_0.keep K50
    have f50_1 := own_staKeep f44_1 K50 (nsS f44_18.nestat ns0)
    have f50_2 := f44_2.keep K50 ni37
    have f50_3 := f44_3.keep K50 ni37
    have f50_4 := f44_4.keep K50 ni37
    have f50_5 := f44_5.keep K50 ni37
    have f50_6 := f44_6.keep K50 ni37
    have f50_7 := f44_7.keep K50 ni37
    have f50_8 := f44_8.keep K50 ni37
    have f50_9 := f44_9.keep K50 ni37
    have f50_10 := f44_10.keep K50 ni38
    have f50_11 := f44_11.keep K50 ni39
    have f50_12 := f44_12.keep K50 ni40
    have f50_13 := f44_13.keep K50 ni41
    have f50_14 := f44_14.keep K50
    have f50_15 := f44_15.keep K50 ni42
    have f50_16 := f44_16.keep K50 ni42
    have f50_17 := f44_17.keep K50 ni43
    have hv50_0 : gN50 0 = vr := (hpc50 0 (by decide)).trans hv36_0
    have hv50_1 : gN50 3 = vr := (congrArg gN50 (by decide : 3 = 3 * (((0 : Int32) + (1 : Int32))).toNatClampNeg)).trans (hpa50.trans (hte.trans ((congrArg gN36 (by decide : ((3 : Int32) * (1 : Int32)).toNatClampNeg = 3)).trans hv36_1)))
    have hv50_2 : gN50 6 = vr := (hpc50 6 (by decide)).trans hv36_2
    refine own_go (B := T50.setTop (mkF m 248 #[.val (.ref a1), .val (.ref a2), .val (.int 1), .val (.ref b1), .val (.ref S), .val (.int (0 + 1)), .val (.int 1), .val (.int te), .val (.int 1), .val (.int lo), .val (.int hi)] [(.int (0 + 1)), (.int 1), (.ref S)])) (fun t k => ?_) ?_
    · show Steps p.tables e below (T50.setTop (mkF m 242 #[.val (.ref a1), .val (.ref a2), .val (.int 1), .val (.ref b1), .val (.ref S), .val (.int (0 + 1)), .val (.int 1), .val (.int te), .val (.int 1), .val (.int lo), .val (.int hi)] [])) t
      refine XS.aload X50.here hx rfl (hb hby d11_242) rfl rfl ?_
      refine XS.iload X50.here hx rfl (hb hby d11_244) rfl ?_
      refine XS.iload X50.here hx rfl (hb hby d11_246) rfl ?_
      exact k
    obtain ⟨cl51, Ar51, hin51, -, -, -⟩ := f50_11.get (j := (1 : Int32)) (by decide) (by decide)
    obtain ⟨T51, h51, X51, e51, W51, st51⟩ := stI X50 hx hZ rfl Ar51 (j := (1 : Int32)) hin51 (g := (mkF m 248 #[.val (.ref a1), .val (.ref a2), .val (.int 1), .val (.ref b1), .val (.ref S), .val (.int (0 + 1)), .val (.int 1), .val (.int te), .val (.int 1), .val (.int lo), .val (.int hi)] [(.int (0 + 1)), (.int 1), (.ref S)])) rfl rfl (hb hby d11_248)
    refine own_go (fun t k => st51 t k) ?_
    have N51 := Fr.snoc X51 N50 g_S
    obtain ⟨LL51, X51, N51⟩ := own_abs X51 N51
    have K51 : Keep h0 h51 [a1, N, H, S, C, a2] := KK50.wr W51 (Or.inl (List.mem_of_getElem? (i := 3) rfl))
    have f51_0 := f50_0.wr W51
    have f51_1 := f50_1.wr W51
    have f51_2 := f50_2.other W51 (Or.inl dd2)
    have f51_3 := f50_3.other W51 (Or.inl dd2)
    have f51_4 := f50_4.other W51 (Or.inl dd2)
    have f51_5 := f50_5.other W51 (Or.inl dd2)
    have f51_6 := f50_6.other W51 (Or.inl dd2)
    have f51_7 := f50_7.other W51 (Or.inl dd2)
    have f51_8 := f50_8.other W51 (Or.inl dd2)
    have f51_9 := f50_9.other W51 (Or.inl dd2)
    have f51_10 := f50_10.other W51 dd7
    have f51_11 := f50_11.setk W51 1 (by decide)
    have f51_12 := f50_12.other W51 (Ne.symm dd9)
    have f51_13 := f50_13.other W51 (Ne.symm de3)
    have f51_14 := f50_14.wr W51
    have f51_15 := f50_15.other W51 (Or.inl (Ne.symm ne1_S))
    have f51_16 := f50_16.other W51 (Or.inl (Ne.symm ne1_S))
    have f51_17 := f50_17.other W51 (Ne.symm (Nat.ne_of_lt (Nat.lt_of_lt_of_le f1_12.lt sw3)))
    have f51_18 := An50.other W51 dd5
    refine own_go (B := T51.setTop (mkF m 257 #[.val (.ref a1), .val (.ref a2), .val (.int 1), .val (.ref b1), .val (.ref S), .val (.int ((0 + 1) + 1)), .val (.int 1), .val (.int te), .val (.int 1), .val (.int lo), .val (.int hi)] [(.int (1 + 1)), (.ref b1)])) (fun t k => ?_) ?_
    · show Steps p.tables e below (T51.setTop (mkF m 249 #[.val (.ref a1), .val (.ref a2), .val (.int 1), .val (.ref b1), .val (.ref S), .val (.int (0 + 1)), .val (.int 1), .val (.int te), .val (.int 1), .val (.int lo), .val (.int hi)] [])) t
      refine XS.iinc X51.here hx rfl (hb hby d11_249) rfl (l' := #[.val (.ref a1), .val (.ref a2), .val (.int 1), .val (.ref b1), .val (.ref S), .val (.int ((0 + 1) + 1)), .val (.int 1), .val (.int te), .val (.int 1), .val (.int lo), .val (.int hi)]) rfl ?_
      refine XS.aloadN X51.here hx rfl (hb hby d11_252) rfl rfl ?_
      refine XS.iload X51.here hx rfl (hb hby d11_253) rfl ?_
      refine XS.iconst X51.here hx rfl (hb hby d11_255) ?_
      refine XS.iadd X51.here hx rfl (hb hby d11_256) rfl ?_
      exact k
    have M52 := rm21 l Z a0 hw [] b1 ((1 : Int32) + (1 : Int32)) W3 gW (4 : Int64) (3 : Int32) (2 : Int32) h51 n0 (Nat.le_trans (Nat.le_trans (Nat.le_trans (Nat.le_trans Zs K36.1) (Keep.of_wr W44).1) K50.1) (Keep.of_wr W51).1) f51_14 f51_16 f51_17 f51_15 f51_1 (by decide) (by decide) (by rw [hW]; decide) (by decide) (by decide) (by decide) (by decide)
    obtain ⟨cq52, kq52, q52a, q52b, q52c⟩ := isOf hZ e51 f51_14
    obtain ⟨_, _, ⟨T52, L52, k52, n52⟩, -, X52, ⟨Lc52, hQ52, l52, y52, z52⟩, st52⟩ := X51.virtualBack hx (y := (⟨"java/util/BitSet", "nextSetBit", "(I)I"⟩ : MethodName)) (z := (⟨"java/util/BitSet", "nextSetBit", "(I)I"⟩ : MethodName)) hown (mvT hZ (own_at hw 121 rfl)) (mvT hZ (own_at hw 122 rfl)) (notFace_of_selects (args := #[]) (mvT hZ (own_at hw 124 rfl))) (mvT hZ (own_at hw 124 rfl)) (mvT hZ (own_at hw 123 rfl)) (by decide) (backOf (W := 0) (M52) hZ (own_at hw 125 rfl) (own_at hw 70 rfl) (by decide) (by decide)) q52a q52c (g := (mkF m 257 #[.val (.ref a1), .val (.ref a2), .val (.int 1), .val (.ref b1), .val (.ref S), .val (.int ((0 + 1) + 1)), .val (.int 1), .val (.int te), .val (.int 1), .val (.int lo), .val (.int hi)] [(.int (1 + 1)), (.ref b1)])) rfl (by rw [hml]; rfl) (Steps.refl _) (argsL := [(.int (1 + 1))]) (rest := []) (lenOf pd_rm11_3_2 rfl) rfl (by show 2 * 0 + _ ≤ _; exact Nat.le_of_eq rfl) (hb hby d11_257) (fun _ _ => ⟨rfl, e51, (by decide : 2 + 0 ≤ _), (by decide : 4 + 0 ≤ _)⟩)
    dsimp only [Pt.U, Pt.locs, Pt.cells, Pt.slots] at X52 l52 y52 z52 st52 hQ52
    subst l52 y52 z52
    obtain ⟨rfl, N52q, hh52⟩ := hQ52
    have N52 := Fr.app N51 N52q
    obtain ⟨LL52, X52, N52⟩ := own_abs X52 N52
    refine own_go (fun t k => st52.trans k) ?_
    refine own_go (B := T52.setTop (mkF m 159 #[.val (.ref a1), .val (.ref a2), .val (.int 1), .val (.ref b1), .val (.ref S), .val (.int ((0 + 1) + 1)), .val (.int 2), .val (.int te), .val (.int 1), .val (.int lo), .val (.int hi)] [(.int 2), (.ref a1)])) (fun t k => ?_) ?_
    · show Steps p.tables e below (T52.setTop (mkF m 260 #[.val (.ref a1), .val (.ref a2), .val (.int 1), .val (.ref b1), .val (.ref S), .val (.int ((0 + 1) + 1)), .val (.int 1), .val (.int te), .val (.int 1), .val (.int lo), .val (.int hi)] [(.int 2)])) t
      refine XS.istore X52.here hx rfl (hb hby d11_260) rfl (l' := #[.val (.ref a1), .val (.ref a2), .val (.int 1), .val (.ref b1), .val (.ref S), .val (.int ((0 + 1) + 1)), .val (.int 2), .val (.int te), .val (.int 1), .val (.int lo), .val (.int hi)]) rfl ?_
      refine XS.goto X52.here hx rfl (pc0 := 262) (pc' := 151) rfl (hb hby d11_262) (by decide) (by decide) ?_
      refine XS.iload X52.here hx rfl (hb hby d11_151) rfl ?_
      show Steps p.tables e below (T52.setTop (mkF m 153 #[.val (.ref a1), .val (.ref a2), .val (.int 1), .val (.ref b1), .val (.ref S), .val (.int ((0 + 1) + 1)), .val (.int 2), .val (.int te), .val (.int 1), .val (.int lo), .val (.int hi)] [(.int 2)])) t
      refine XS.ifNo X52.here hx rfl (hb hby d11_153) rfl ((if0 _ _).trans (flt (by decide : ¬ ((2 : Int32) < (0 : Int32)))).1) ?_
      refine XS.aloadN X52.here hx rfl (hb hby d11_156) rfl rfl ?_
      refine XS.iload X52.here hx rfl (hb hby d11_157) rfl ?_
      exact k
    have M53 := rm20 l Z a0 hw [] a1 (2 : Int32) N gN50 h51 n0 (Nat.le_trans (Nat.le_trans (Nat.le_trans (Nat.le_trans Zs K36.1) (Keep.of_wr W44).1) K50.1) (Keep.of_wr W51).1) f51_3 f51_18 (by decide) (by decide)
    obtain ⟨cq53, kq53, q53a, q53b, q53c⟩ := isOf hZ hh52 f51_0
    obtain ⟨_, _, ⟨T53, L53, k53, n53⟩, -, X53, ⟨Lc53, hQ53, l53, y53, z53⟩, st53⟩ := X52.virtualBack hx (y := (⟨"com/example/liaise/liaise/NodeTable", "variable", "(I)I"⟩ : MethodName)) (z := (⟨"com/example/liaise/liaise/NodeTable", "variable", "(I)I"⟩ : MethodName)) hown (mvT hZ (own_at hw 116 rfl)) (mvT hZ (own_at hw 117 rfl)) (notFace_of_selects (args := #[]) (mvT hZ (own_at hw 119 rfl))) (mvT hZ (own_at hw 119 rfl)) (mvT hZ (own_at hw 118 rfl)) (by decide) (backOf (W := 0) (M53) hZ (own_at hw 120 rfl) (own_at hw 2 rfl) (by decide) (by decide)) q53a q53c (g := (mkF m 159 #[.val (.ref a1), .val (.ref a2), .val (.int 1), .val (.ref b1), .val (.ref S), .val (.int ((0 + 1) + 1)), .val (.int 2), .val (.int te), .val (.int 1), .val (.int lo), .val (.int hi)] [(.int 2), (.ref a1)])) rfl (by rw [hml]; rfl) (Steps.refl _) (argsL := [(.int 2)]) (rest := []) (lenOf pd_rm11_3_2 rfl) rfl (by show 2 * 0 + _ ≤ _; exact Nat.le_of_eq rfl) (hb hby d11_159) (fun _ _ => ⟨rfl, hh52, (by decide : 2 + 0 ≤ _), (by decide : 4 + 0 ≤ _)⟩)
    dsimp only [Pt.U, Pt.locs, Pt.cells, Pt.slots] at X53 l53 y53 z53 st53 hQ53
    subst l53 y53 z53
    obtain ⟨rfl, N53q, hh53⟩ := hQ53
    have N53 := Fr.app N52 N53q
    obtain ⟨LL53, X53, N53⟩ := own_abs X53 N53
    refine own_go (fun t k => st53.trans k) ?_
    refine own_go (B := T53.setTop (mkF m 164 #[.val (.ref a1), .val (.ref a2), .val (.int 1), .val (.ref b1), .val (.ref S), .val (.int ((0 + 1) + 1)), .val (.int 2), .val (.int (gN50 (((3 : Int32) * (2 : Int32))).toNatClampNeg)), .val (.int 1), .val (.int lo), .val (.int hi)] [])) (fun t k => ?_) ?_
    · show Steps p.tables e below (T53.setTop (mkF m 162 #[.val (.ref a1), .val (.ref a2), .val (.int 1), .val (.ref b1), .val (.ref S), .val (.int ((0 + 1) + 1)), .val (.int 2), .val (.int te), .val (.int 1), .val (.int lo), .val (.int hi)] [(.int (gN50 (((3 : Int32) * (2 : Int32))).toNatClampNeg))])) t
      refine XS.istore X53.here hx rfl (hb hby d11_162) rfl (l' := #[.val (.ref a1), .val (.ref a2), .val (.int 1), .val (.ref b1), .val (.ref S), .val (.int ((0 + 1) + 1)), .val (.int 2), .val (.int (gN50 (((3 : Int32) * (2 : Int32))).toNatClampNeg)), .val (.int 1), .val (.int lo), .val (.int hi)]) rfl ?_
      exact k
    obtain ⟨te, hte⟩ : ∃ z : Int32, z = (gN50 (((3 : Int32) * (2 : Int32))).toNatClampNeg) := ⟨_, rfl⟩
    rw [← hte]
    refine own_go (B := T53.setTop (mkF m 167 #[.val (.ref a1), .val (.ref a2), .val (.int 1), .val (.ref b1), .val (.ref S), .val (.int ((0 + 1) + 1)), .val (.int 2), .val (.int te), .val (.int 1), .val (.int lo), .val (.int hi)] [(.ref a1), (.int te)])) (fun t k => ?_) ?_
    · show Steps p.tables e below (T53.setTop (mkF m 164 #[.val (.ref a1), .val (.ref a2), .val (.int 1), .val (.ref b1), .val (.ref S), .val (.int ((0 + 1) + 1)), .val (.int 2), .val (.int te), .val (.int 1), .val (.int lo), .val (.int hi)] [])) t
      refine XS.iload X53.here hx rfl (hb hby d11_164) rfl ?_
      refine XS.aloadN X53.here hx rfl (hb hby d11_166) rfl rfl ?_
      exact k
    obtain ⟨T54, X54, e54, st54⟩ := getF X53 hx hZ hown (host := "") (Or.inl (own_at hw 18 rfl)) Via.refl hh53 f51_2 (g := (mkF m 167 #[.val (.ref a1), .val (.ref a2), .val (.int 1), .val (.ref b1), .val (.ref S), .val (.int ((0 + 1) + 1)), .val (.int 2), .val (.int te), .val (.int 1), .val (.int lo), .val (.int hi)] [(.ref a1), (.int te)])) rfl rfl (hb hby d11_167)
    refine own_go (fun t k => st54 t k) ?_
    refine own_go (B := T54.setTop (mkF m 188 #[.val (.ref a1), .val (.ref a2), .val (.int 1), .val (.ref b1), .val (.ref S), .val (.int ((0 + 1) + 1)), .val (.int 2), .val (.int te), .val (.int 1), .val (.int lo), .val (.int hi)] [(.int 2), (.ref a1)])) (fun t k => ?_) ?_
    · show Steps p.tables e below (T54.setTop (mkF m 170 #[.val (.ref a1), .val (.ref a2), .val (.int 1), .val (.ref b1), .val (.ref S), .val (.int ((0 + 1) + 1)), .val (.int 2), .val (.int te), .val (.int 1), .val (.int lo), .val (.int hi)] [(.int vr), (.int te)])) t
      refine XS.icmpNo X54.here hx rfl (hb hby d11_170) rfl (teq (hte.trans ((congrArg gN50 (by decide : ((3 : Int32) * (2 : Int32)).toNatClampNeg = 6)).trans hv50_2) : te = vr)).2 ?_
      refine XS.iconst X54.here hx rfl (hb hby d11_173) ?_
      refine XS.goto X54.here hx rfl (pc0 := 174) (pc' := 178) rfl (hb hby d11_174) (by decide) (by decide) ?_
      refine XS.istore X54.here hx rfl (hb hby d11_178) rfl (l' := #[.val (.ref a1), .val (.ref a2), .val (.int 1), .val (.ref b1), .val (.ref S), .val (.int ((0 + 1) + 1)), .val (.int 2), .val (.int te), .val (.int 1), .val (.int lo), .val (.int hi)]) rfl ?_
      refine XS.iload X54.here hx rfl (hb hby d11_180) rfl ?_
      show Steps p.tables e below (T54.setTop (mkF m 182 #[.val (.ref a1), .val (.ref a2), .val (.int 1), .val (.ref b1), .val (.ref S), .val (.int ((0 + 1) + 1)), .val (.int 2), .val (.int te), .val (.int 1), .val (.int lo), .val (.int hi)] [(.int 1)])) t
      refine XS.ifNo X54.here hx rfl (hb hby d11_182) rfl ((if0 _ _).trans (feq (by decide : ¬ ((1 : Int32) = (0 : Int32)))).1) ?_
      show Steps p.tables e below (T54.setTop (mkF m 185 #[.val (.ref a1), .val (.ref a2), .val (.int 1), .val (.ref b1), .val (.ref S), .val (.int ((0 + 1) + 1)), .val (.int 2), .val (.int te), .val (.int 1), .val (.int lo), .val (.int hi)] [])) t
      refine XS.aloadN X54.here hx rfl (hb hby d11_185) rfl rfl ?_
      refine XS.iload X54.here hx rfl (hb hby d11_186) rfl ?_
      exact k
    have M55 := rm24 l Z a0 hw [] a1 (2 : Int32) N gN50 h51 n0 (Nat.le_trans (Nat.le_trans (Nat.le_trans (Nat.le_trans Zs K36.1) (Keep.of_wr W44).1) K50.1) (Keep.of_wr W51).1) f51_3 f51_18 (by decide) (by decide)
    obtain ⟨cq55, kq55, q55a, q55b, q55c⟩ := isOf hZ e54 f51_0
    obtain ⟨_, _, ⟨T55, L55, k55, n55⟩, -, X55, ⟨Lc55, hQ55, l55, y55, z55⟩, st55⟩ := X54.virtualBack hx (y := (⟨"com/example/liaise/liaise/NodeTable", "low", "(I)I"⟩ : MethodName)) (z := (⟨"com/example/liaise/liaise/NodeTable", "low", "(I)I"⟩ : MethodName)) hown (mvT hZ (own_at hw 135 rfl)) (mvT hZ (own_at hw 136 rfl)) (notFace_of_selects (args := #[]) (mvT hZ (own_at hw 138 rfl))) (mvT hZ (own_at hw 138 rfl)) (mvT hZ (own_at hw 137 rfl)) (by decide) (backOf (W := 0) (M55) hZ (own_at hw 139 rfl) (own_at hw 2 rfl) (by decide) (by decide)) q55a q55c (g := (mkF m 188 #[.val (.ref a1), .val (.ref a2), .val (.int 1), .val (.ref b1), .val (.ref S), .val (.int ((0 + 1) + 1)), .val (.int 2), .val (.int te), .val (.int 1), .val (.int lo), .val (.int hi)] [(.int 2), (.ref a1)])) rfl (by rw [hml]; rfl) (Steps.refl _) (argsL := [(.int 2)]) (rest := []) (lenOf pd_rm11_3_2 rfl) rfl (by show 2 * 0 + _ ≤ _; exact Nat.le_of_eq rfl) (hb hby d11_188) (fun _ _ => ⟨rfl, e54, (by decide : 2 + 0 ≤ _), (by decide : 4 + 0 ≤ _)⟩)
    dsimp only [Pt.U, Pt.locs, Pt.cells, Pt.slots] at X55 l55 y55 z55 st55 hQ55
    subst l55 y55 z55
    obtain ⟨rfl, N55q, hh55⟩ := hQ55
    have N55 := Fr.app N53 N55q
    obtain ⟨LL55, X55, N55⟩ := own_abs X55 N55
    refine own_go (fun t k => st55.trans k) ?_
    refine own_go (B := T55.setTop (mkF m 205 #[.val (.ref a1), .val (.ref a2), .val (.int 1), .val (.ref b1), .val (.ref S), .val (.int ((0 + 1) + 1)), .val (.int 2), .val (.int te), .val (.int 1), .val (.int (gN50 ((((3 : Int32) * (2 : Int32)) + (1 : Int32))).toNatClampNeg)), .val (.int hi)] [])) (fun t k => ?_) ?_
    · show Steps p.tables e below (T55.setTop (mkF m 191 #[.val (.ref a1), .val (.ref a2), .val (.int 1), .val (.ref b1), .val (.ref S), .val (.int ((0 + 1) + 1)), .val (.int 2), .val (.int te), .val (.int 1), .val (.int lo), .val (.int hi)] [(.int (gN50 ((((3 : Int32) * (2 : Int32)) + (1 : Int32))).toNatClampNeg))])) t
      refine XS.goto X55.here hx rfl (pc0 := 191) (pc' := 203) rfl (hb hby d11_191) (by decide) (by decide) ?_
      refine XS.istore X55.here hx rfl (hb hby d11_203) rfl (l' := #[.val (.ref a1), .val (.ref a2), .val (.int 1), .val (.ref b1), .val (.ref S), .val (.int ((0 + 1) + 1)), .val (.int 2), .val (.int te), .val (.int 1), .val (.int (gN50 ((((3 : Int32) * (2 : Int32)) + (1 : Int32))).toNatClampNeg)), .val (.int hi)]) rfl ?_
      exact k
    obtain ⟨lo, hlo⟩ : ∃ z : Int32, z = (gN50 ((((3 : Int32) * (2 : Int32)) + (1 : Int32))).toNatClampNeg) := ⟨_, rfl⟩
    rw [← hlo]
    refine own_go (B := T55.setTop (mkF m 213 #[.val (.ref a1), .val (.ref a2), .val (.int 1), .val (.ref b1), .val (.ref S), .val (.int ((0 + 1) + 1)), .val (.int 2), .val (.int te), .val (.int 1), .val (.int lo), .val (.int hi)] [(.int 2), (.ref a1)])) (fun t k => ?_) ?_
    · show Steps p.tables e below (T55.setTop (mkF m 205 #[.val (.ref a1), .val (.ref a2), .val (.int 1), .val (.ref b1), .val (.ref S), .val (.int ((0 + 1) + 1)), .val (.int 2), .val (.int te), .val (.int 1), .val (.int lo), .val (.int hi)] [])) t
      refine XS.iload X55.here hx rfl (hb hby d11_205) rfl ?_
      show Steps p.tables e below (T55.setTop (mkF m 207 #[.val (.ref a1), .val (.ref a2), .val (.int 1), .val (.ref b1), .val (.ref S), .val (.int ((0 + 1) + 1)), .val (.int 2), .val (.int te), .val (.int 1), .val (.int lo), .val (.int hi)] [(.int 1)])) t
      refine XS.ifNo X55.here hx rfl (hb hby d11_207) rfl ((if0 _ _).trans (feq (by decide : ¬ ((1 : Int32) = (0 : Int32)))).1) ?_
      refine XS.aloadN X55.here hx rfl (hb hby d11_210) rfl rfl ?_
      refine XS.iload X55.here hx rfl (hb hby d11_211) rfl ?_
      exact k
    have M56 := rm25 l Z a0 hw [] a1 (2 : Int32) N gN50 h51 n0 (Nat.le_trans (Nat.le_trans (Nat.le_trans (Nat.le_trans Zs K36.1) (Keep.of_wr W44).1) K50.1) (Keep.of_wr W51).1) f51_3 f51_18 (by decide) (by decide)
    obtain ⟨cq56, kq56, q56a, q56b, q56c⟩ := isOf hZ hh55 f51_0
    obtain ⟨_, _, ⟨T56, L56, k56, n56⟩, -, X56, ⟨Lc56, hQ56, l56, y56, z56⟩, st56⟩ := X55.virtualBack hx (y := (⟨"com/example/liaise/liaise/NodeTable", "high", "(I)I"⟩ : MethodName)) (z := (⟨"com/example/liaise/liaise/NodeTable", "high", "(I)I"⟩ : MethodName)) hown (mvT hZ (own_at hw 140 rfl)) (mvT hZ (own_at hw 141 rfl)) (notFace_of_selects (args := #[]) (mvT hZ (own_at hw 143 rfl))) (mvT hZ (own_at hw 143 rfl)) (mvT hZ (own_at hw 142 rfl)) (by decide) (backOf (W := 0) (M56) hZ (own_at hw 144 rfl) (own_at hw 2 rfl) (by decide) (by decide)) q56a q56c (g := (mkF m 213 #[.val (.ref a1), .val (.ref a2), .val (.int 1), .val (.ref b1), .val (.ref S), .val (.int ((0 + 1) + 1)), .val (.int 2), .val (.int te), .val (.int 1), .val (.int lo), .val (.int hi)] [(.int 2), (.ref a1)])) rfl (by rw [hml]; rfl) (Steps.refl _) (argsL := [(.int 2)]) (rest := []) (lenOf pd_rm11_3_2 rfl) rfl (by show 2 * 0 + _ ≤ _; exact Nat.le_of_eq rfl) (hb hby d11_213) (fun _ _ => ⟨rfl, hh55, (by decide : 2 + 0 ≤ _), (by decide : 4 + 0 ≤ _)⟩)
    dsimp only [Pt.U, Pt.locs, Pt.cells, Pt.slots] at X56 l56 y56 z56 st56 hQ56
    subst l56 y56 z56
    obtain ⟨rfl, N56q, hh56⟩ := hQ56
    have N56 := Fr.app N55 N56q
    obtain ⟨LL56, X56, N56⟩ := own_abs X56 N56
    refine own_go (fun t k => st56.trans k) ?_
    refine own_go (B := T56.setTop (mkF m 230 #[.val (.ref a1), .val (.ref a2), .val (.int 1), .val (.ref b1), .val (.ref S), .val (.int ((0 + 1) + 1)), .val (.int 2), .val (.int te), .val (.int 1), .val (.int lo), .val (.int (gN50 ((((3 : Int32) * (2 : Int32)) + (2 : Int32))).toNatClampNeg))] [])) (fun t k => ?_) ?_
    · show Steps p.tables e below (T56.setTop (mkF m 216 #[.val (.ref a1), .val (.ref a2), .val (.int 1), .val (.ref b1), .val (.ref S), .val (.int ((0 + 1) + 1)), .val (.int 2), .val (.int te), .val (.int 1), .val (.int lo), .val (.int hi)] [(.int (gN50 ((((3 : Int32) * (2 : Int32)) + (2 : Int32))).toNatClampNeg))])) t
      refine XS.goto X56.here hx rfl (pc0 := 216) (pc' := 228) rfl (hb hby d11_216) (by decide) (by decide) ?_
      refine XS.istore X56.here hx rfl (hb hby d11_228) rfl (l' := #[.val (.ref a1), .val (.ref a2), .val (.int 1), .val (.ref b1), .val (.ref S), .val (.int ((0 + 1) + 1)), .val (.int 2), .val (.int te), .val (.int 1), .val (.int lo), .val (.int (gN50 ((((3 : Int32) * (2 : Int32)) + (2 : Int32))).toNatClampNeg))]) rfl ?_
      exact k
    obtain ⟨hi, hhi⟩ : ∃ z : Int32, z = (gN50 ((((3 : Int32) * (2 : Int32)) + (2 : Int32))).toNatClampNeg) := ⟨_, rfl⟩
    rw [← hhi]
    refine own_go (B := T56.setTop (mkF m 239 #[.val (.ref a1), .val (.ref a2), .val (.int 1), .val (.ref b1), .val (.ref S), .val (.int ((0 + 1) + 1)), .val (.int 2), .val (.int te), .val (.int 1), .val (.int lo), .val (.int hi)] [(.int hi), (.int lo), (.int te), (.int ((0 + 1) + 1)), (.ref a1)])) (fun t k => ?_) ?_
    · show Steps p.tables e below (T56.setTop (mkF m 230 #[.val (.ref a1), .val (.ref a2), .val (.int 1), .val (.ref b1), .val (.ref S), .val (.int ((0 + 1) + 1)), .val (.int 2), .val (.int te), .val (.int 1), .val (.int lo), .val (.int hi)] [])) t
      refine XS.aloadN X56.here hx rfl (hb hby d11_230) rfl rfl ?_
      refine XS.iload X56.here hx rfl (hb hby d11_231) rfl ?_
      refine XS.iload X56.here hx rfl (hb hby d11_233) rfl ?_
      refine XS.iload X56.here hx rfl (hb hby d11_235) rfl ?_
      refine XS.iload X56.here hx rfl (hb hby d11_237) rfl ?_
      exact k
    have M57 := rm9 l Z a0 hw [] a1 (((0 : Int32) + (1 : Int32)) + (1 : Int32)) te lo hi N gN50 h51 n0 (Nat.le_trans (Nat.le_trans (Nat.le_trans (Nat.le_trans Zs K36.1) (Keep.of_wr W44).1) K50.1) (Keep.of_wr W51).1) f51_3 f51_18 g_N dd0 (by decide) (by decide)
    obtain ⟨cq57, q57, q57'⟩ := f51_0.cell
    obtain ⟨_, _, ⟨T57, L57, k57, n57⟩, -, X57, ⟨Lc57, hQ57, l57, y57, z57⟩, st57⟩ := X56.privateBack hx (y := (⟨"com/example/liaise/liaise/NodeTable", "place", "(IIII)V"⟩ : MethodName)) hown (mvT hZ (own_at hw 51 rfl)) (mvT hZ (own_at hw 52 rfl)) (mvT hZ (own_selp (y := (⟨"com/example/liaise/liaise/NodeTable", "place", "(IIII)V"⟩ : MethodName)) (own_at hw 1 rfl) (own_at hw 53 rfl) (own_at hw 52 rfl) (by decide))) (Cond.privateMethod_at (mvP hZ (own_at hw 53 rfl) (args := #[]))) (mvT hZ (own_at hw 54 rfl)) (by decide) (backOf (W := 0) (M57) hZ (own_at hw 54 rfl) (own_at hw 2 rfl) (by decide) (by decide)) (g := (mkF m 239 #[.val (.ref a1), .val (.ref a2), .val (.int 1), .val (.ref b1), .val (.ref S), .val (.int ((0 + 1) + 1)), .val (.int 2), .val (.int te), .val (.int 1), .val (.int lo), .val (.int hi)] [(.int hi), (.int lo), (.int te), (.int ((0 + 1) + 1)), (.ref a1)])) rfl (by rw [hml]; rfl) (Steps.refl _) (a := a1) (by rw [hh56]; exact q57) q57' (argsL := [(.int ((0 + 1) + 1)), (.int te), (.int lo), (.int hi)]) (rest := []) (lenOf pd_rm11_3_3 rfl) rfl (by show 2 * 0 + _ ≤ _; exact Nat.le_of_eq rfl) (hb hby d11_239) (fun _ _ => ⟨rfl, hh56, (by decide : 2 + 0 ≤ _), (by decide : 4 + 0 ≤ _)⟩)
    dsimp only [Pt.U, Pt.locs, Pt.cells, Pt.slots] at X57 l57 y57 z57 st57 hQ57
    subst l57 y57 z57
    obtain ⟨rfl, N57q, K57, gN57, An57, hpa57, hpb57, hpc57⟩ := hQ57
    have N57 := Fr.app N56 N57q
    obtain ⟨LL57, X57, N57⟩ := own_abs X57 N57
    refine own_go (fun t k => st57.trans k) ?_
    have KK57 : Keep h0 T57.heap [a1, N, H, S, C, a2] := K51.trans K57 (allS (Or.inl (List.mem_of_getElem? (i := 1) rfl)) all0)
    have f57_0 := f51_0.keep K57
    have f57_1 := own_staKeep f51_1 K57 (nsS f51_18.nestat ns0)
    have f57_2 := f51_2.keep K57 ni37
    have f57_3 := f51_3.keep K57 ni37
    have f57_4 := f51_4.keep K57 ni37
    have f57_5 := f51_5.keep K57 ni37
    have f57_6 := f51_6.keep K57 ni37
    have f57_7 := f51_7.keep K57 ni37
    have f57_8 := f51_8.keep K57 ni37
    have f57_9 := f51_9.keep K57 ni37
    have f57_10 := f51_10.keep K57 ni38
    have f57_11 := f51_11.keep K57 ni39
    have f57_12 := f51_12.keep K57 ni40
    have f57_13 := f51_13.keep K57 ni41
    have f57_14 := f51_14.keep K57
    have f57_15 := f51_15.keep K57 ni42
    have f57_16 := f51_16.keep K57 ni42
    have f57_17 := f51_17.keep K57 ni43
    have hv57_0 : gN57 0 = vr := (hpc57 0 (by decide)).trans hv50_0
    have hv57_1 : gN57 3 = vr := (hpc57 3 (by decide)).trans hv50_1
    have hv57_2 : gN57 6 = vr := (congrArg gN57 (by decide : 6 = 3 * ((((0 : Int32) + (1 : Int32)) + (1 : Int32))).toNatClampNeg)).trans (hpa57.trans (hte.trans ((congrArg gN50 (by decide : ((3 : Int32) * (2 : Int32)).toNatClampNeg = 6)).trans hv50_2)))
    refine own_go (B := T57.setTop (mkF m 248 #[.val (.ref a1), .val (.ref a2), .val (.int 1), .val (.ref b1), .val (.ref S), .val (.int ((0 + 1) + 1)), .val (.int 2), .val (.int te), .val (.int 1), .val (.int lo), .val (.int hi)] [(.int ((0 + 1) + 1)), (.int 2), (.ref S)])) (fun t k => ?_) ?_
    · show Steps p.tables e below (T57.setTop (mkF m 242 #[.val (.ref a1), .val (.ref a2), .val (.int 1), .val (.ref b1), .val (.ref S), .val (.int ((0 + 1) + 1)), .val (.int 2), .val (.int te), .val (.int 1), .val (.int lo), .val (.int hi)] [])) t
      refine XS.aload X57.here hx rfl (hb hby d11_242) rfl rfl ?_
      refine XS.iload X57.here hx rfl (hb hby d11_244) rfl ?_
      refine XS.iload X57.here hx rfl (hb hby d11_246) rfl ?_
      exact k
    obtain ⟨cl58, Ar58, hin58, -, -, -⟩ := f57_11.get (j := (2 : Int32)) (by decide) (by decide)
    obtain ⟨T58, h58, X58, e58, W58, st58⟩ := stI X57 hx hZ rfl Ar58 (j := (2 : Int32)) hin58 (g := (mkF m 248 #[.val (.ref a1), .val (.ref a2), .val (.int 1), .val (.ref b1), .val (.ref S), .val (.int ((0 + 1) + 1)), .val (.int 2), .val (.int te), .val (.int 1), .val (.int lo), .val (.int hi)] [(.int ((0 + 1) + 1)), (.int 2), (.ref S)])) rfl rfl (hb hby d11_248)
    refine own_go (fun t k => st58 t k) ?_
    have N58 := Fr.snoc X58 N57 g_S
    obtain ⟨LL58, X58, N58⟩ := own_abs X58 N58
    have K58 : Keep h0 h58 [a1, N, H, S, C, a2] := KK57.wr W58 (Or.inl (List.mem_of_getElem? (i := 3) rfl))
    have f58_0 := f57_0.wr W58
    have f58_1 := f57_1.wr W58
    have f58_2 := f57_2.other W58 (Or.inl dd2)
    have f58_3 := f57_3.other W58 (Or.inl dd2)
    have f58_4 := f57_4.other W58 (Or.inl dd2)
    have f58_5 := f57_5.other W58 (Or.inl dd2)
    have f58_6 := f57_6.other W58 (Or.inl dd2)
    have f58_7 := f57_7.other W58 (Or.inl dd2)
    have f58_8 := f57_8.other W58 (Or.inl dd2)
    have f58_9 := f57_9.other W58 (Or.inl dd2)
    have f58_10 := f57_10.other W58 dd7
    have f58_11 := f57_11.setk W58 2 (by decide)
    have f58_12 := f57_12.other W58 (Ne.symm dd9)
    have f58_13 := f57_13.other W58 (Ne.symm de3)
    have f58_14 := f57_14.wr W58
    have f58_15 := f57_15.other W58 (Or.inl (Ne.symm ne1_S))
    have f58_16 := f57_16.other W58 (Or.inl (Ne.symm ne1_S))
    have f58_17 := f57_17.other W58 (Ne.symm (Nat.ne_of_lt (Nat.lt_of_lt_of_le f1_12.lt sw3)))
    have f58_18 := An57.other W58 dd5
    refine own_go (B := T58.setTop (mkF m 257 #[.val (.ref a1), .val (.ref a2), .val (.int 1), .val (.ref b1), .val (.ref S), .val (.int (((0 + 1) + 1) + 1)), .val (.int 2), .val (.int te), .val (.int 1), .val (.int lo), .val (.int hi)] [(.int (2 + 1)), (.ref b1)])) (fun t k => ?_) ?_
    · show Steps p.tables e below (T58.setTop (mkF m 249 #[.val (.ref a1), .val (.ref a2), .val (.int 1), .val (.ref b1), .val (.ref S), .val (.int ((0 + 1) + 1)), .val (.int 2), .val (.int te), .val (.int 1), .val (.int lo), .val (.int hi)] [])) t
      refine XS.iinc X58.here hx rfl (hb hby d11_249) rfl (l' := #[.val (.ref a1), .val (.ref a2), .val (.int 1), .val (.ref b1), .val (.ref S), .val (.int (((0 + 1) + 1) + 1)), .val (.int 2), .val (.int te), .val (.int 1), .val (.int lo), .val (.int hi)]) rfl ?_
      refine XS.aloadN X58.here hx rfl (hb hby d11_252) rfl rfl ?_
      refine XS.iload X58.here hx rfl (hb hby d11_253) rfl ?_
      refine XS.iconst X58.here hx rfl (hb hby d11_255) ?_
      refine XS.iadd X58.here hx rfl (hb hby d11_256) rfl ?_
      exact k
    have M59 := rm21b l Z a0 hw [] b1 ((2 : Int32) + (1 : Int32)) W3 gW (0 : Int64) h58 n0 (Nat.le_trans (Nat.le_trans (Nat.le_trans (Nat.le_trans (Nat.le_trans (Nat.le_trans Zs K36.1) (Keep.of_wr W44).1) K50.1) (Keep.of_wr W51).1) K57.1) (Keep.of_wr W58).1) f58_14 f58_16 f58_17 f58_15 f58_1 (by decide) (by decide) (by rw [hW]; decide) (by decide)
    obtain ⟨cq59, kq59, q59a, q59b, q59c⟩ := isOf hZ e58 f58_14
    obtain ⟨_, _, ⟨T59, L59, k59, n59⟩, -, X59, ⟨Lc59, hQ59, l59, y59, z59⟩, st59⟩ := X58.virtualBack hx (y := (⟨"java/util/BitSet", "nextSetBit", "(I)I"⟩ : MethodName)) (z := (⟨"java/util/BitSet", "nextSetBit", "(I)I"⟩ : MethodName)) hown (mvT hZ (own_at hw 121 rfl)) (mvT hZ (own_at hw 122 rfl)) (notFace_of_selects (args := #[]) (mvT hZ (own_at hw 124 rfl))) (mvT hZ (own_at hw 124 rfl)) (mvT hZ (own_at hw 123 rfl)) (by decide) (backOf (W := 0) (M59) hZ (own_at hw 125 rfl) (own_at hw 70 rfl) (by decide) (by decide)) q59a q59c (g := (mkF m 257 #[.val (.ref a1), .val (.ref a2), .val (.int 1), .val (.ref b1), .val (.ref S), .val (.int (((0 + 1) + 1) + 1)), .val (.int 2), .val (.int te), .val (.int 1), .val (.int lo), .val (.int hi)] [(.int (2 + 1)), (.ref b1)])) rfl (by rw [hml]; rfl) (Steps.refl _) (argsL := [(.int (2 + 1))]) (rest := []) (lenOf pd_rm11_3_2 rfl) rfl (by show 2 * 0 + _ ≤ _; exact Nat.le_of_eq rfl) (hb hby d11_257) (fun _ _ => ⟨rfl, e58, (by decide : 2 + 0 ≤ _), (by decide : 4 + 0 ≤ _)⟩)
    dsimp only [Pt.U, Pt.locs, Pt.cells, Pt.slots] at X59 l59 y59 z59 st59 hQ59
    subst l59 y59 z59
    obtain ⟨rfl, N59q, hh59⟩ := hQ59
    have N59 := Fr.app N58 N59q
    obtain ⟨LL59, X59, N59⟩ := own_abs X59 N59
    refine own_go (fun t k => st59.trans k) ?_
    refine own_go (B := T59.setTop (mkF m 282 #[.val (.ref a1), .val (.ref a2), .val (.int 1), .val (.ref b1), .val (.ref S), .val (.int (((0 + 1) + 1) + 1)), .val (.int 0), .val (.int te), .val (.int 1), .val (.int lo), .val (.int hi)] [(.int 0), (.ref a2), (.ref S), (.int 0), (.ref a2)])) (fun t k => ?_) ?_
    · show Steps p.tables e below (T59.setTop (mkF m 260 #[.val (.ref a1), .val (.ref a2), .val (.int 1), .val (.ref b1), .val (.ref S), .val (.int (((0 + 1) + 1) + 1)), .val (.int 2), .val (.int te), .val (.int 1), .val (.int lo), .val (.int hi)] [(.int (-1))])) t
      refine XS.istore X59.here hx rfl (hb hby d11_260) rfl (l' := #[.val (.ref a1), .val (.ref a2), .val (.int 1), .val (.ref b1), .val (.ref S), .val (.int (((0 + 1) + 1) + 1)), .val (.int (-1)), .val (.int te), .val (.int 1), .val (.int lo), .val (.int hi)]) rfl ?_
      refine XS.goto X59.here hx rfl (pc0 := 262) (pc' := 151) rfl (hb hby d11_262) (by decide) (by decide) ?_
      refine XS.iload X59.here hx rfl (hb hby d11_151) rfl ?_
      show Steps p.tables e below (T59.setTop (mkF m 153 #[.val (.ref a1), .val (.ref a2), .val (.int 1), .val (.ref b1), .val (.ref S), .val (.int (((0 + 1) + 1) + 1)), .val (.int (-1)), .val (.int te), .val (.int 1), .val (.int lo), .val (.int hi)] [(.int (-1))])) t
      refine XS.ifYes X59.here hx rfl (pc0 := 153) (pc' := 265) rfl (hb hby d11_153) rfl ((if0 _ _).trans (tlt (by decide : (-1 : Int32) < (0 : Int32))).1) (by decide) (by decide) ?_
      refine XS.iconst X59.here hx rfl (hb hby d11_265) ?_
      refine XS.istore X59.here hx rfl (hb hby d11_266) rfl (l' := #[.val (.ref a1), .val (.ref a2), .val (.int 1), .val (.ref b1), .val (.ref S), .val (.int (((0 + 1) + 1) + 1)), .val (.int 0), .val (.int te), .val (.int 1), .val (.int lo), .val (.int hi)]) rfl ?_
      show Steps p.tables e below (T59.setTop (mkF m 268 #[.val (.ref a1), .val (.ref a2), .val (.int 1), .val (.ref b1), .val (.ref S), .val (.int (((0 + 1) + 1) + 1)), .val (.int 0), .val (.int te), .val (.int 1), .val (.int lo), .val (.int hi)] [])) t
      refine XS.iload X59.here hx rfl (hb hby d11_268) rfl ?_
      refine XS.iloadN X59.here hx rfl (hb hby d11_270) rfl ?_
      show Steps p.tables e below (T59.setTop (mkF m 271 #[.val (.ref a1), .val (.ref a2), .val (.int 1), .val (.ref b1), .val (.ref S), .val (.int (((0 + 1) + 1) + 1)), .val (.int 0), .val (.int te), .val (.int 1), .val (.int lo), .val (.int hi)] [(.int 1), (.int 0)])) t
      refine XS.icmpNo X59.here hx rfl (hb hby d11_271) rfl (tlt (by decide : (0 : Int32) < (1 : Int32))).2.1 ?_
      refine XS.aloadN X59.here hx rfl (hb hby d11_274) rfl rfl ?_
      refine XS.iload X59.here hx rfl (hb hby d11_275) rfl ?_
      refine XS.aload X59.here hx rfl (hb hby d11_277) rfl rfl ?_
      show Steps p.tables e below (T59.setTop (mkF m 279 #[.val (.ref a1), .val (.ref a2), .val (.int 1), .val (.ref b1), .val (.ref S), .val (.int (((0 + 1) + 1) + 1)), .val (.int 0), .val (.int te), .val (.int 1), .val (.int lo), .val (.int hi)] [(.ref S), (.int 0), (.ref a2)])) t
      refine XS.aloadN X59.here hx rfl (hb hby d11_279) rfl rfl ?_
      refine XS.iload X59.here hx rfl (hb hby d11_280) rfl ?_
      exact k
    obtain ⟨cl60, Ar60, hin60, hat60, -, -⟩ := f58_13.get (j := (0 : Int32)) (by decide) (by decide)
    have hat60 : cl60.slots[((0 : Int32)).toNatClampNeg]? = some (.int av) := hat60.trans (by first | rfl | (rw [show ((0 : Int32)).toNatClampNeg = 0 from by decide]; rfl))
    refine own_go (X59.iaload hx (j := (0 : Int32)) (v := (.int av)) (by rw [hh59]; exact Ar60.1) (State.isArrayOf_alike hZ.alike Ar60.2.1) Ar60.2.2 hin60 hat60 (g := (mkF m 282 #[.val (.ref a1), .val (.ref a2), .val (.int 1), .val (.ref b1), .val (.ref S), .val (.int (((0 + 1) + 1) + 1)), .val (.int 0), .val (.int te), .val (.int 1), .val (.int lo), .val (.int hi)] [(.int 0), (.ref a2), (.ref S), (.int 0), (.ref a2)])) rfl rfl (hb hby d11_282)) ?_
    obtain ⟨cl61, Ar61, hin61, hat61, -, -⟩ := f58_11.get (j := av) (by subst hav; decide) (by subst hav; decide)
    refine own_go (X59.iaload hx (j := av) (v := (.int ((fun i => if i = 2 then (((0 : Int32) + (1 : Int32)) + (1 : Int32)) else (fun i => if i = 1 then ((0 : Int32) + (1 : Int32)) else (fun i => if i = 0 then (0 : Int32) else gS i) i) i) (av).toNatClampNeg))) (by rw [hh59]; exact Ar61.1) (State.isArrayOf_alike hZ.alike Ar61.2.1) Ar61.2.2 hin61 hat61 (g := (mkF m 283 #[.val (.ref a1), .val (.ref a2), .val (.int 1), .val (.ref b1), .val (.ref S), .val (.int (((0 + 1) + 1) + 1)), .val (.int 0), .val (.int te), .val (.int 1), .val (.int lo), .val (.int hi)] [(.int av), (.ref S), (.int 0), (.ref a2)])) rfl rfl (hb hby d11_283)) ?_
    obtain ⟨cl62, Ar62, hin62, -, -, -⟩ := f58_13.get (j := (0 : Int32)) (by decide) (by decide)
    obtain ⟨T62, h62, X62, e62, W62, st62⟩ := stI X59 hx hZ hh59 Ar62 (j := (0 : Int32)) hin62 (g := (mkF m 284 #[.val (.ref a1), .val (.ref a2), .val (.int 1), .val (.ref b1), .val (.ref S), .val (.int (((0 + 1) + 1) + 1)), .val (.int 0), .val (.int te), .val (.int 1), .val (.int lo), .val (.int hi)] [(.int ((fun i => if i = 2 then (((0 : Int32) + (1 : Int32)) + (1 : Int32)) else (fun i => if i = 1 then ((0 : Int32) + (1 : Int32)) else (fun i => if i = 0 then (0 : Int32) else gS i) i) i) (av).toNatClampNeg)), (.int 0), (.ref a2)])) rfl rfl (hb hby d11_284)
    refine own_go (fun t k => st62 t k) ?_
    have N62 := Fr.snoc X62 N59 g_a2
    obtain ⟨LL62, X62, N62⟩ := own_abs X62 N62
    have K62 : Keep h0 h62 [a1, N, H, S, C, a2] := K58.wr W62 (Or.inl (List.mem_of_getElem? (i := 5) rfl))
    have f62_0 := f58_0.wr W62
    have f62_1 := f58_1.wr W62
    have f62_2 := f58_2.other W62 (Or.inl de0)
    have f62_3 := f58_3.other W62 (Or.inl de0)
    have f62_4 := f58_4.other W62 (Or.inl de0)
    have f62_5 := f58_5.other W62 (Or.inl de0)
    have f62_6 := f58_6.other W62 (Or.inl de0)
    have f62_7 := f58_7.other W62 (Or.inl de0)
    have f62_8 := f58_8.other W62 (Or.inl de0)
    have f62_9 := f58_9.other W62 (Or.inl de0)
    have f62_10 := f58_10.other W62 de2
    have f62_11 := f58_11.other W62 de3
    have f62_12 := f58_12.other W62 de4
    have f62_13 := f58_13.setk W62 0 (by decide)
    have f62_14 := f58_14.wr W62
    have f62_15 := f58_15.other W62 (Or.inl (Ne.symm ne1_a2))
    have f62_16 := f58_16.other W62 (Or.inl (Ne.symm ne1_a2))
    have f62_17 := f58_17.other W62 (Ne.symm (Nat.ne_of_lt (Nat.lt_of_lt_of_le f1_14.lt sw3)))
    have f62_18 := f58_18.other W62 de1
    refine own_go (B := T62.setTop (mkF m 297 #[.val (.ref a1), .val (.ref a2), .val (.int 1), .val (.ref b1), .val (.ref S), .val (.int (((0 + 1) + 1) + 1)), .val (.int 0), .val (.int te), .val (.int 1), .val (.int lo), .val (.int hi)] [(.ref a1), (.int 0)])) (fun t k => ?_) ?_
    · show Steps p.tables e below (T62.setTop (mkF m 285 #[.val (.ref a1), .val (.ref a2), .val (.int 1), .val (.ref b1), .val (.ref S), .val (.int (((0 + 1) + 1) + 1)), .val (.int 0), .val (.int te), .val (.int 1), .val (.int lo), .val (.int hi)] [])) t
      refine XS.iinc X62.here hx rfl (hb hby d11_285) rfl (l' := #[.val (.ref a1), .val (.ref a2), .val (.int 1), .val (.ref b1), .val (.ref S), .val (.int (((0 + 1) + 1) + 1)), .val (.int (0 + 1)), .val (.int te), .val (.int 1), .val (.int lo), .val (.int hi)]) rfl ?_
      refine XS.goto X62.here hx rfl (pc0 := 288) (pc' := 268) rfl (hb hby d11_288) (by decide) (by decide) ?_
      refine XS.iload X62.here hx rfl (hb hby d11_268) rfl ?_
      refine XS.iloadN X62.here hx rfl (hb hby d11_270) rfl ?_
      show Steps p.tables e below (T62.setTop (mkF m 271 #[.val (.ref a1), .val (.ref a2), .val (.int 1), .val (.ref b1), .val (.ref S), .val (.int (((0 + 1) + 1) + 1)), .val (.int (0 + 1)), .val (.int te), .val (.int 1), .val (.int lo), .val (.int hi)] [(.int 1), (.int (0 + 1))])) t
      refine XS.icmpYes X62.here hx rfl (pc0 := 271) (pc' := 291) rfl (hb hby d11_271) rfl (flt (by decide : ¬ (((0 : Int32) + (1 : Int32)) < (1 : Int32)))).2.1 (by decide) (by decide) ?_
      refine XS.iconst X62.here hx rfl (hb hby d11_291) ?_
      show Steps p.tables e below (T62.setTop (mkF m 292 #[.val (.ref a1), .val (.ref a2), .val (.int 1), .val (.ref b1), .val (.ref S), .val (.int (((0 + 1) + 1) + 1)), .val (.int (0 + 1)), .val (.int te), .val (.int 1), .val (.int lo), .val (.int hi)] [(.int 0)])) t
      refine XS.istore X62.here hx rfl (hb hby d11_292) rfl (l' := #[.val (.ref a1), .val (.ref a2), .val (.int 1), .val (.ref b1), .val (.ref S), .val (.int (((0 + 1) + 1) + 1)), .val (.int 0), .val (.int te), .val (.int 1), .val (.int lo), .val (.int hi)]) rfl ?_
      refine XS.iload X62.here hx rfl (hb hby d11_294) rfl ?_
      refine XS.aloadN X62.here hx rfl (hb hby d11_296) rfl rfl ?_
      exact k
    obtain ⟨T63, X63, e63, st63⟩ := getF X62 hx hZ hown (host := "") (Or.inl (own_at hw 61 rfl)) Via.refl e62 f62_7 (g := (mkF m 297 #[.val (.ref a1), .val (.ref a2), .val (.int 1), .val (.ref b1), .val (.ref S), .val (.int (((0 + 1) + 1) + 1)), .val (.int 0), .val (.int te), .val (.int 1), .val (.int lo), .val (.int hi)] [(.ref a1), (.int 0)])) rfl rfl (hb hby d11_297)
    refine own_go (fun t k => st63 t k) ?_
    by_cases hc300_64 : (0 : Int32) < hd
    · refine own_go (B := T63.setTop (mkF m 303 #[.val (.ref a1), .val (.ref a2), .val (.int 1), .val (.ref b1), .val (.ref S), .val (.int (((0 + 1) + 1) + 1)), .val (.int 0), .val (.int te), .val (.int 1), .val (.int lo), .val (.int hi)] [])) (fun t k => ?_) ?_
      · show Steps p.tables e below (T63.setTop (mkF m 300 #[.val (.ref a1), .val (.ref a2), .val (.int 1), .val (.ref b1), .val (.ref S), .val (.int (((0 + 1) + 1) + 1)), .val (.int 0), .val (.int te), .val (.int 1), .val (.int lo), .val (.int hi)] [(.int hd), (.int 0)])) t
        refine XS.icmpNo X63.here hx rfl (hb hby d11_300) rfl (tlt hc300_64).2.1 ?_
        exact k
      have hg : gH 0 = av := hH (hd01.resolve_left fun q => by rw [q] at hc300_64; exact absurd hc300_64 (by decide))
      refine own_go (B := T63.setTop (mkF m 304 #[.val (.ref a1), .val (.ref a2), .val (.int 1), .val (.ref b1), .val (.ref S), .val (.int (((0 + 1) + 1) + 1)), .val (.int 0), .val (.int te), .val (.int 1), .val (.int lo), .val (.int hi)] [(.ref a1)])) (fun t k => ?_) ?_
      · refine XS.aloadN X63.here hx rfl (hb hby d11_303) rfl rfl ?_
        exact k
      obtain ⟨T65, X65, e65, st65⟩ := getF X63 hx hZ hown (host := "") (Or.inl (own_at hw 14 rfl)) Via.refl e63 f62_6 (g := (mkF m 304 #[.val (.ref a1), .val (.ref a2), .val (.int 1), .val (.ref b1), .val (.ref S), .val (.int (((0 + 1) + 1) + 1)), .val (.int 0), .val (.int te), .val (.int 1), .val (.int lo), .val (.int hi)] [(.ref a1)])) rfl rfl (hb hby d11_304)
      refine own_go (fun t k => st65 t k) ?_
      refine own_go (B := T65.setTop (mkF m 312 #[.val (.ref a1), .val (.ref a2), .val (.int 1), .val (.ref b1), .val (.ref S), .val (.int (((0 + 1) + 1) + 1)), .val (.int 0), .val (.int te), .val (.int 1), .val (.int lo), .val (.int hi)] [(.ref a1), (.ref S), (.int 0), (.ref H)])) (fun t k => ?_) ?_
      · show Steps p.tables e below (T65.setTop (mkF m 307 #[.val (.ref a1), .val (.ref a2), .val (.int 1), .val (.ref b1), .val (.ref S), .val (.int (((0 + 1) + 1) + 1)), .val (.int 0), .val (.int te), .val (.int 1), .val (.int lo), .val (.int hi)] [(.ref H)])) t
        refine XS.iload X65.here hx rfl (hb hby d11_307) rfl ?_
        refine XS.aload X65.here hx rfl (hb hby d11_309) rfl rfl ?_
        refine XS.aloadN X65.here hx rfl (hb hby d11_311) rfl rfl ?_
        exact k
      obtain ⟨T66, X66, e66, st66⟩ := getF X65 hx hZ hown (host := "") (Or.inl (own_at hw 14 rfl)) Via.refl e65 f62_6 (g := (mkF m 312 #[.val (.ref a1), .val (.ref a2), .val (.int 1), .val (.ref b1), .val (.ref S), .val (.int (((0 + 1) + 1) + 1)), .val (.int 0), .val (.int te), .val (.int 1), .val (.int lo), .val (.int hi)] [(.ref a1), (.ref S), (.int 0), (.ref H)])) rfl rfl (hb hby d11_312)
      refine own_go (fun t k => st66 t k) ?_
      refine own_go (B := T66.setTop (mkF m 317 #[.val (.ref a1), .val (.ref a2), .val (.int 1), .val (.ref b1), .val (.ref S), .val (.int (((0 + 1) + 1) + 1)), .val (.int 0), .val (.int te), .val (.int 1), .val (.int lo), .val (.int hi)] [(.int 0), (.ref H), (.ref S), (.int 0), (.ref H)])) (fun t k => ?_) ?_
      · show Steps p.tables e below (T66.setTop (mkF m 315 #[.val (.ref a1), .val (.ref a2), .val (.int 1), .val (.ref b1), .val (.ref S), .val (.int (((0 + 1) + 1) + 1)), .val (.int 0), .val (.int te), .val (.int 1), .val (.int lo), .val (.int hi)] [(.ref H), (.ref S), (.int 0), (.ref H)])) t
        refine XS.iload X66.here hx rfl (hb hby d11_315) rfl ?_
        exact k
      obtain ⟨cl67, Ar67, hin67, hat67, -, -⟩ := f62_10.get (j := (0 : Int32)) (by decide) (by decide)
      have hat67 : cl67.slots[((0 : Int32)).toNatClampNeg]? = some (.int (gH 0)) := hat67.trans (by first | rfl | (rw [show ((0 : Int32)).toNatClampNeg = 0 from by decide]; rfl))
      refine own_go (X66.iaload hx (j := (0 : Int32)) (v := (.int (gH 0))) (by rw [e66]; exact Ar67.1) (State.isArrayOf_alike hZ.alike Ar67.2.1) Ar67.2.2 hin67 hat67 (g := (mkF m 317 #[.val (.ref a1), .val (.ref a2), .val (.int 1), .val (.ref b1), .val (.ref S), .val (.int (((0 + 1) + 1) + 1)), .val (.int 0), .val (.int te), .val (.int 1), .val (.int lo), .val (.int hi)] [(.int 0), (.ref H), (.ref S), (.int 0), (.ref H)])) rfl rfl (hb hby d11_317)) ?_
      obtain ⟨cl68, Ar68, hin68, hat68, -, -⟩ := f62_11.get (j := (gH 0)) (by rw [hg]; subst hav; decide) (by rw [hg]; subst hav; decide)
      refine own_go (X66.iaload hx (j := (gH 0)) (v := (.int ((fun i => if i = 2 then (((0 : Int32) + (1 : Int32)) + (1 : Int32)) else (fun i => if i = 1 then ((0 : Int32) + (1 : Int32)) else (fun i => if i = 0 then (0 : Int32) else gS i) i) i) ((gH 0)).toNatClampNeg))) (by rw [e66]; exact Ar68.1) (State.isArrayOf_alike hZ.alike Ar68.2.1) Ar68.2.2 hin68 hat68 (g := (mkF m 318 #[.val (.ref a1), .val (.ref a2), .val (.int 1), .val (.ref b1), .val (.ref S), .val (.int (((0 + 1) + 1) + 1)), .val (.int 0), .val (.int te), .val (.int 1), .val (.int lo), .val (.int hi)] [(.int (gH 0)), (.ref S), (.int 0), (.ref H)])) rfl rfl (hb hby d11_318)) ?_
      obtain ⟨cl69, Ar69, hin69, -, -, -⟩ := f62_10.get (j := (0 : Int32)) (by decide) (by decide)
      obtain ⟨T69, h69, X69, e69, W69, st69⟩ := stI X66 hx hZ e66 Ar69 (j := (0 : Int32)) hin69 (g := (mkF m 319 #[.val (.ref a1), .val (.ref a2), .val (.int 1), .val (.ref b1), .val (.ref S), .val (.int (((0 + 1) + 1) + 1)), .val (.int 0), .val (.int te), .val (.int 1), .val (.int lo), .val (.int hi)] [(.int ((fun i => if i = 2 then (((0 : Int32) + (1 : Int32)) + (1 : Int32)) else (fun i => if i = 1 then ((0 : Int32) + (1 : Int32)) else (fun i => if i = 0 then (0 : Int32) else gS i) i) i) ((gH 0)).toNatClampNeg)), (.int 0), (.ref H)])) rfl rfl (hb hby d11_319)
      refine own_go (fun t k => st69 t k) ?_
      have N69 := Fr.snoc X69 N62 g_H
      obtain ⟨LL69, X69, N69⟩ := own_abs X69 N69
      have K69 : Keep h0 h69 [a1, N, H, S, C, a2] := K62.wr W69 (Or.inl (List.mem_of_getElem? (i := 2) rfl))
      have f69_0 := f62_0.wr W69
      have f69_1 := f62_1.wr W69
      have f69_2 := f62_2.other W69 (Or.inl dd1)
      have f69_3 := f62_3.other W69 (Or.inl dd1)
      have f69_4 := f62_4.other W69 (Or.inl dd1)
      have f69_5 := f62_5.other W69 (Or.inl dd1)
      have f69_6 := f62_6.other W69 (Or.inl dd1)
      have f69_7 := f62_7.other W69 (Or.inl dd1)
      have f69_8 := f62_8.other W69 (Or.inl dd1)
      have f69_9 := f62_9.other W69 (Or.inl dd1)
      have f69_10 := f62_10.setk W69 0 (by decide)
      have f69_11 := f62_11.other W69 (Ne.symm dd7)
      have f69_12 := f62_12.other W69 (Ne.symm dd8)
      have f69_13 := f62_13.other W69 (Ne.symm de2)
      have f69_14 := f62_14.wr W69
      have f69_15 := f62_15.other W69 (Or.inl (Ne.symm ne1_H))
      have f69_16 := f62_16.other W69 (Or.inl (Ne.symm ne1_H))
      have f69_17 := f62_17.other W69 (Ne.symm (Nat.ne_of_lt (Nat.lt_of_lt_of_le f1_11.lt sw3)))
      have f69_18 := f62_18.other W69 dd4
      refine own_go (B := T69.setTop (mkF m 297 #[.val (.ref a1), .val (.ref a2), .val (.int 1), .val (.ref b1), .val (.ref S), .val (.int (((0 + 1) + 1) + 1)), .val (.int (0 + 1)), .val (.int te), .val (.int 1), .val (.int lo), .val (.int hi)] [(.ref a1), (.int (0 + 1))])) (fun t k => ?_) ?_
      · show Steps p.tables e below (T69.setTop (mkF m 320 #[.val (.ref a1), .val (.ref a2), .val (.int 1), .val (.ref b1), .val (.ref S), .val (.int (((0 + 1) + 1) + 1)), .val (.int 0), .val (.int te), .val (.int 1), .val (.int lo), .val (.int hi)] [])) t
        refine XS.iinc X69.here hx rfl (hb hby d11_320) rfl (l' := #[.val (.ref a1), .val (.ref a2), .val (.int 1), .val (.ref b1), .val (.ref S), .val (.int (((0 + 1) + 1) + 1)), .val (.int (0 + 1)), .val (.int te), .val (.int 1), .val (.int lo), .val (.int hi)]) rfl ?_
        refine XS.goto X69.here hx rfl (pc0 := 323) (pc' := 294) rfl (hb hby d11_323) (by decide) (by decide) ?_
        refine XS.iload X69.here hx rfl (hb hby d11_294) rfl ?_
        refine XS.aloadN X69.here hx rfl (hb hby d11_296) rfl rfl ?_
        exact k
      obtain ⟨T70, X70, e70, st70⟩ := getF X69 hx hZ hown (host := "") (Or.inl (own_at hw 61 rfl)) Via.refl e69 f69_7 (g := (mkF m 297 #[.val (.ref a1), .val (.ref a2), .val (.int 1), .val (.ref b1), .val (.ref S), .val (.int (((0 + 1) + 1) + 1)), .val (.int (0 + 1)), .val (.int te), .val (.int 1), .val (.int lo), .val (.int hi)] [(.ref a1), (.int (0 + 1))])) rfl rfl (hb hby d11_297)
      refine own_go (fun t k => st70 t k) ?_
      refine own_go (B := T70.setTop (mkF m 329 #[.val (.ref a1), .val (.ref a2), .val (.int 1), .val (.ref b1), .val (.ref S), .val (.int (((0 + 1) + 1) + 1)), .val (.int (0 + 1)), .val (.int te), .val (.int 1), .val (.int lo), .val (.int hi)] [(.int (((0 + 1) + 1) + 1)), (.ref a1)])) (fun t k => ?_) ?_
      · show Steps p.tables e below (T70.setTop (mkF m 300 #[.val (.ref a1), .val (.ref a2), .val (.int 1), .val (.ref b1), .val (.ref S), .val (.int (((0 + 1) + 1) + 1)), .val (.int (0 + 1)), .val (.int te), .val (.int 1), .val (.int lo), .val (.int hi)] [(.int hd), (.int (0 + 1))])) t
        refine XS.icmpYes X70.here hx rfl (pc0 := 300) (pc' := 326) rfl (hb hby d11_300) rfl (flt (by rcases hd01 with rfl | rfl <;> decide : ¬ (((0 : Int32) + (1 : Int32)) < hd))).2.1 (by decide) (by decide) ?_
        refine XS.aloadN X70.here hx rfl (hb hby d11_326) rfl rfl ?_
        refine XS.iload X70.here hx rfl (hb hby d11_327) rfl ?_
        exact k
      obtain ⟨T71, h71, X71, e71, W71, st71⟩ := putF X70 hx hZ hown (host := "") (Or.inl (own_at hw 49 rfl)) Via.refl e70 f69_4 f69_0 (Or.inl (own_at hw 50 rfl)) (own_at hw 1 rfl) (ty := .int) (by decide) rfl rfl (g := (mkF m 329 #[.val (.ref a1), .val (.ref a2), .val (.int 1), .val (.ref b1), .val (.ref S), .val (.int (((0 + 1) + 1) + 1)), .val (.int (0 + 1)), .val (.int te), .val (.int 1), .val (.int lo), .val (.int hi)] [(.int (((0 + 1) + 1) + 1)), (.ref a1)])) rfl rfl (hb hby d11_329)
      refine own_go (fun t k => st71 t k) ?_
      have N71 := Fr.snoc X71 N69 g_a1
      obtain ⟨LL71, X71, N71⟩ := own_abs X71 N71
      have K71 : Keep h0 h71 [a1, N, H, S, C, a2] := K69.wr W71 (Or.inl (List.mem_of_getElem? (i := 0) rfl))
      have f71_0 := f69_0.wr W71
      have f71_1 := f69_1.wr W71
      have f71_2 := f69_2.other W71 (Or.inr (slot_ne (Or.inr (own_at hw 19 rfl)) (Or.inl (own_at hw 50 rfl)) (by decide) (t := .int) (t' := .int) (by decide) (by decide)))
      have f71_3 := f69_3.other W71 (Or.inr (slot_ne (Or.inl (own_at hw 11 rfl)) (Or.inl (own_at hw 50 rfl)) (by decide) (t := (.array .int)) (t' := .int) (by decide) (by decide)))
      have f71_4 := f69_4.same W71
      have f71_5 := f69_5.other W71 (Or.inr (slot_ne (Or.inl (own_at hw 13 rfl)) (Or.inl (own_at hw 50 rfl)) (by decide) (t := .int) (t' := .int) (by decide) (by decide)))
      have f71_6 := f69_6.other W71 (Or.inr (slot_ne (Or.inl (own_at hw 15 rfl)) (Or.inl (own_at hw 50 rfl)) (by decide) (t := (.array .int)) (t' := .int) (by decide) (by decide)))
      have f71_7 := f69_7.other W71 (Or.inr (slot_ne (Or.inl (own_at hw 62 rfl)) (Or.inl (own_at hw 50 rfl)) (by decide) (t := .int) (t' := .int) (by decide) (by decide)))
      have f71_8 := f69_8.other W71 (Or.inr (slot_ne (Or.inl (own_at hw 17 rfl)) (Or.inl (own_at hw 50 rfl)) (by decide) (t := (.array .int)) (t' := .int) (by decide) (by decide)))
      have f71_9 := f69_9.other W71 (Or.inr (slot_ne (Or.inl (own_at hw 29 rfl)) (Or.inl (own_at hw 50 rfl)) (by decide) (t := (.array .int)) (t' := .int) (by decide) (by decide)))
      have f71_10 := f69_10.other W71 (Ne.symm dd1)
      have f71_11 := f69_11.other W71 (Ne.symm dd2)
      have f71_12 := f69_12.other W71 (Ne.symm dd3)
      have f71_13 := f69_13.other W71 (Ne.symm de0)
      have f71_14 := f69_14.wr W71
      have f71_15 := f69_15.other W71 (Or.inl (Ne.symm ne1_a1))
      have f71_16 := f69_16.other W71 (Or.inl (Ne.symm ne1_a1))
      have f71_17 := f69_17.other W71 (Ne.symm (Nat.ne_of_lt (Nat.lt_of_lt_of_le f1_0.lt sw3)))
      have f71_18 := f69_18.other W71 (Ne.symm dd0)
      refine own_go (B := T71.setTop (mkF m 335 #[.val (.ref a1), .val (.ref a2), .val (.int 1), .val (.ref b1), .val (.ref S), .val (.int (((0 + 1) + 1) + 1)), .val (.int (0 + 1)), .val (.int te), .val (.int 1), .val (.int lo), .val (.int hi)] [(.int (((0 + 1) + 1) + 1)), (.ref a1)])) (fun t k => ?_) ?_
      · show Steps p.tables e below (T71.setTop (mkF m 332 #[.val (.ref a1), .val (.ref a2), .val (.int 1), .val (.ref b1), .val (.ref S), .val (.int (((0 + 1) + 1) + 1)), .val (.int (0 + 1)), .val (.int te), .val (.int 1), .val (.int lo), .val (.int hi)] [])) t
        refine XS.aloadN X71.here hx rfl (hb hby d11_332) rfl rfl ?_
        refine XS.iload X71.here hx rfl (hb hby d11_333) rfl ?_
        exact k
      obtain ⟨T72, h72, X72, e72, W72, st72⟩ := putF X71 hx hZ hown (host := "") (Or.inl (own_at hw 12 rfl)) Via.refl e71 f71_5 f71_0 (Or.inl (own_at hw 13 rfl)) (own_at hw 1 rfl) (ty := .int) (by decide) rfl rfl (g := (mkF m 335 #[.val (.ref a1), .val (.ref a2), .val (.int 1), .val (.ref b1), .val (.ref S), .val (.int (((0 + 1) + 1) + 1)), .val (.int (0 + 1)), .val (.int te), .val (.int 1), .val (.int lo), .val (.int hi)] [(.int (((0 + 1) + 1) + 1)), (.ref a1)])) rfl rfl (hb hby d11_335)
      refine own_go (fun t k => st72 t k) ?_
      have N72 := Fr.snoc X72 N71 g_a1
      obtain ⟨LL72, X72, N72⟩ := own_abs X72 N72
      have K72 : Keep h0 h72 [a1, N, H, S, C, a2] := K71.wr W72 (Or.inl (List.mem_of_getElem? (i := 0) rfl))
      have f72_0 := f71_0.wr W72
      have f72_1 := f71_1.wr W72
      have f72_2 := f71_2.other W72 (Or.inr (slot_ne (Or.inr (own_at hw 19 rfl)) (Or.inl (own_at hw 13 rfl)) (by decide) (t := .int) (t' := .int) (by decide) (by decide)))
      have f72_3 := f71_3.other W72 (Or.inr (slot_ne (Or.inl (own_at hw 11 rfl)) (Or.inl (own_at hw 13 rfl)) (by decide) (t := (.array .int)) (t' := .int) (by decide) (by decide)))
      have f72_4 := f71_4.other W72 (Or.inr (slot_ne (Or.inl (own_at hw 50 rfl)) (Or.inl (own_at hw 13 rfl)) (by decide) (t := .int) (t' := .int) (by decide) (by decide)))
      have f72_5 := f71_5.same W72
      have f72_6 := f71_6.other W72 (Or.inr (slot_ne (Or.inl (own_at hw 15 rfl)) (Or.inl (own_at hw 13 rfl)) (by decide) (t := (.array .int)) (t' := .int) (by decide) (by decide)))
      have f72_7 := f71_7.other W72 (Or.inr (slot_ne (Or.inl (own_at hw 62 rfl)) (Or.inl (own_at hw 13 rfl)) (by decide) (t := .int) (t' := .int) (by decide) (by decide)))
      have f72_8 := f71_8.other W72 (Or.inr (slot_ne (Or.inl (own_at hw 17 rfl)) (Or.inl (own_at hw 13 rfl)) (by decide) (t := (.array .int)) (t' := .int) (by decide) (by decide)))
      have f72_9 := f71_9.other W72 (Or.inr (slot_ne (Or.inl (own_at hw 29 rfl)) (Or.inl (own_at hw 13 rfl)) (by decide) (t := (.array .int)) (t' := .int) (by decide) (by decide)))
      have f72_10 := f71_10.other W72 (Ne.symm dd1)
      have f72_11 := f71_11.other W72 (Ne.symm dd2)
      have f72_12 := f71_12.other W72 (Ne.symm dd3)
      have f72_13 := f71_13.other W72 (Ne.symm de0)
      have f72_14 := f71_14.wr W72
      have f72_15 := f71_15.other W72 (Or.inl (Ne.symm ne1_a1))
      have f72_16 := f71_16.other W72 (Or.inl (Ne.symm ne1_a1))
      have f72_17 := f71_17.other W72 (Ne.symm (Nat.ne_of_lt (Nat.lt_of_lt_of_le f1_0.lt sw3)))
      have f72_18 := f71_18.other W72 (Ne.symm dd0)
      have hNN : ∀ i, i < (((((0 : Int32) + (1 : Int32)) + (1 : Int32)) + (1 : Int32))).toNatClampNeg → gN57 (3 * i) = vr := by
        intro i hi
        rw [show (((((0 : Int32) + (1 : Int32)) + (1 : Int32)) + (1 : Int32))).toNatClampNeg = 3 by decide] at hi
        obtain rfl | rfl | rfl : i = 0 ∨ i = 1 ∨ i = 2 := by omega
        · exact hv57_0
        · exact hv57_1
        · exact hv57_2
      refine own_go (B := T72.setTop (mkF m 347 #[.val (.ref a1), .val (.ref a2), .val (.int 1), .val (.ref b1), .val (.ref S), .val (.int (((0 + 1) + 1) + 1)), .val (.int 1024), .val (.int te), .val (.int 1), .val (.int lo), .val (.int hi)] [(.ref a1), (.int 2), (.int 1024)])) (fun t k => ?_) ?_
      · show Steps p.tables e below (T72.setTop (mkF m 338 #[.val (.ref a1), .val (.ref a2), .val (.int 1), .val (.ref b1), .val (.ref S), .val (.int (((0 + 1) + 1) + 1)), .val (.int (0 + 1)), .val (.int te), .val (.int 1), .val (.int lo), .val (.int hi)] [])) t
        refine XS.sipush X72.here hx rfl (hb hby d11_338) ?_
        refine XS.istore X72.here hx rfl (hb hby d11_341) rfl (l' := #[.val (.ref a1), .val (.ref a2), .val (.int 1), .val (.ref b1), .val (.ref S), .val (.int (((0 + 1) + 1) + 1)), .val (.int 1024), .val (.int te), .val (.int 1), .val (.int lo), .val (.int hi)]) rfl ?_
        refine XS.iload X72.here hx rfl (hb hby d11_343) rfl ?_
        refine XS.iconst X72.here hx rfl (hb hby d11_345) ?_
        refine XS.aloadN X72.here hx rfl (hb hby d11_346) rfl rfl ?_
        exact k
      obtain ⟨T73, X73, e73, st73⟩ := getF X72 hx hZ hown (host := "") (Or.inl (own_at hw 12 rfl)) Via.refl e72 f72_5 (g := (mkF m 347 #[.val (.ref a1), .val (.ref a2), .val (.int 1), .val (.ref b1), .val (.ref S), .val (.int (((0 + 1) + 1) + 1)), .val (.int 1024), .val (.int te), .val (.int 1), .val (.int lo), .val (.int hi)] [(.ref a1), (.int 2), (.int 1024)])) rfl rfl (hb hby d11_347)
      refine own_go (fun t k => st73 t k) ?_
      refine own_go (B := T73.setTop (mkF m 374 #[.val (.ref a1), .val (.ref a2), .val (.int 1), .val (.ref b1), .val (.ref S), .val (.int (((0 + 1) + 1) + 1)), .val (.int 1024), .val (.int te), .val (.int 1), .val (.int lo), .val (.int hi)] [(.ref a1), (.int 1024), (.ref a1)])) (fun t k => ?_) ?_
      · show Steps p.tables e below (T73.setTop (mkF m 350 #[.val (.ref a1), .val (.ref a2), .val (.int 1), .val (.ref b1), .val (.ref S), .val (.int (((0 + 1) + 1) + 1)), .val (.int 1024), .val (.int te), .val (.int 1), .val (.int lo), .val (.int hi)] [(.int (((0 + 1) + 1) + 1)), (.int 2), (.int 1024)])) t
        refine XS.imul X73.here hx rfl (hb hby d11_350) rfl ?_
        show Steps p.tables e below (T73.setTop (mkF m 351 #[.val (.ref a1), .val (.ref a2), .val (.int 1), .val (.ref b1), .val (.ref S), .val (.int (((0 + 1) + 1) + 1)), .val (.int 1024), .val (.int te), .val (.int 1), .val (.int lo), .val (.int hi)] [(.int (2 * (((0 + 1) + 1) + 1))), (.int 1024)])) t
        refine XS.icmpYes X73.here hx rfl (pc0 := 351) (pc' := 370) rfl (hb hby d11_351) rfl (flt (by decide : ¬ ((1024 : Int32) < ((2 : Int32) * ((((0 : Int32) + (1 : Int32)) + (1 : Int32)) + (1 : Int32)))))).2.1 (by decide) (by decide) ?_
        refine XS.aloadN X73.here hx rfl (hb hby d11_370) rfl rfl ?_
        refine XS.iload X73.here hx rfl (hb hby d11_371) rfl ?_
        refine XS.aloadN X73.here hx rfl (hb hby d11_373) rfl rfl ?_
        exact k
      have M74 := rm4 l Z a0 hw [] a1 N gN57 h72 n0 (Nat.le_trans (Nat.le_trans (Nat.le_trans (Nat.le_trans (Nat.le_trans (Nat.le_trans (Nat.le_trans (Nat.le_trans (Nat.le_trans (Nat.le_trans Zs K36.1) (Keep.of_wr W44).1) K50.1) (Keep.of_wr W51).1) K57.1) (Keep.of_wr W58).1) (Keep.of_wr W62).1) (Keep.of_wr W69).1) (Keep.of_wr W71).1) (Keep.of_wr W72).1) f72_3 f72_18
      obtain ⟨cq74, q74, q74'⟩ := f72_0.cell
      obtain ⟨_, _, ⟨T74, L74, k74, n74⟩, -, X74, ⟨Lc74, hQ74, l74, y74, z74⟩, st74⟩ := X73.privateBack hx (y := (⟨"com/example/liaise/liaise/NodeTable", "capacity", "()I"⟩ : MethodName)) hown (mvT hZ (own_at hw 24 rfl)) (mvT hZ (own_at hw 25 rfl)) (mvT hZ (own_selp (y := (⟨"com/example/liaise/liaise/NodeTable", "capacity", "()I"⟩ : MethodName)) (own_at hw 1 rfl) (own_at hw 26 rfl) (own_at hw 25 rfl) (by decide))) (Cond.privateMethod_at (mvP hZ (own_at hw 26 rfl) (args := #[]))) (mvT hZ (own_at hw 27 rfl)) (by decide) (backOf (W := 2) (M74) hZ (own_at hw 27 rfl) (own_at hw 2 rfl) (by decide) (by decide)) (g := (mkF m 374 #[.val (.ref a1), .val (.ref a2), .val (.int 1), .val (.ref b1), .val (.ref S), .val (.int (((0 + 1) + 1) + 1)), .val (.int 1024), .val (.int te), .val (.int 1), .val (.int lo), .val (.int hi)] [(.ref a1), (.int 1024), (.ref a1)])) rfl (by rw [hml]; rfl) (Steps.refl _) (a := a1) (by rw [e73]; exact q74) q74' (argsL := []) (rest := [(.int 1024), (.ref a1)]) (lenOf pd_rm11_3_4 rfl) rfl (by show 2 * 0 + _ ≤ _; exact Nat.le_of_eq rfl) (hb hby d11_374) (fun _ _ => ⟨rfl, e73, (by decide : 2 + 0 ≤ _), (by decide : 4 + 0 ≤ _)⟩)
      dsimp only [Pt.U, Pt.locs, Pt.cells, Pt.slots] at X74 l74 y74 z74 st74 hQ74
      subst l74 y74 z74
      obtain ⟨rfl, N74q, hh74⟩ := hQ74
      have N74 := Fr.app N72 N74q
      obtain ⟨LL74, X74, N74⟩ := own_abs X74 N74
      refine own_go (fun t k => st74.trans k) ?_
      have M75 := rm26 l Z a0 hw [] h72 n0 (Nat.le_trans (Nat.le_trans (Nat.le_trans (Nat.le_trans (Nat.le_trans (Nat.le_trans (Nat.le_trans (Nat.le_trans (Nat.le_trans (Nat.le_trans Zs K36.1) (Keep.of_wr W44).1) K50.1) (Keep.of_wr W51).1) K57.1) (Keep.of_wr W58).1) (Keep.of_wr W62).1) (Keep.of_wr W69).1) (Keep.of_wr W71).1) (Keep.of_wr W72).1)
      obtain ⟨_, _, ⟨T75, L75, k75, n75⟩, -, X75, ⟨Lc75, hQ75, l75, y75, z75⟩, st75⟩ := Jvm.LawKit.callS X74 hx (y := (⟨"java/lang/Math", "min", "(II)I"⟩ : MethodName)) hown (mvT hZ (own_at hw 146 rfl)) (mvT hZ (own_at hw 147 rfl)) (mvT hZ (own_at hw 148 rfl)) (mvT hZ (own_at hw 149 rfl)) (by decide) (backOf (W := 1) (M75) hZ (own_at hw 149 rfl) (own_at hw 148 rfl) (by decide) (by decide)) (g := (mkF m 377 #[.val (.ref a1), .val (.ref a2), .val (.int 1), .val (.ref b1), .val (.ref S), .val (.int (((0 + 1) + 1) + 1)), .val (.int 1024), .val (.int te), .val (.int 1), .val (.int lo), .val (.int hi)] [(.int 1024), (.int 1024), (.ref a1)])) rfl (by rw [hml]; rfl) (argsL := [(.int 1024), (.int 1024)]) (rest := [(.ref a1)]) (lenOf pd_rm11_3_5 rfl) rfl (by show 2 * 0 + _ ≤ _; exact Nat.le_of_eq rfl) (hb hby d11_377) (fun _ _ => ⟨rfl, hh74, (by decide : 2 + 0 ≤ _), (by decide : 4 + 0 ≤ _)⟩)
      dsimp only [Pt.U, Pt.locs, Pt.cells, Pt.slots] at X75 l75 y75 z75 st75 hQ75
      subst l75 y75 z75
      obtain ⟨rfl, N75q, hh75⟩ := hQ75
      have N75 := Fr.app N74 N75q
      obtain ⟨LL75, X75, N75⟩ := own_abs X75 N75
      refine own_go (fun t k => st75 t k) ?_
      have M76 := rm27 l Z a0 hw [] a1 N S ((((0 : Int32) + (1 : Int32)) + (1 : Int32)) + (1 : Int32)) vr gN57 (fun i => if i = 2 then (((0 : Int32) + (1 : Int32)) + (1 : Int32)) else (fun i => if i = 1 then ((0 : Int32) + (1 : Int32)) else (fun i => if i = 0 then (0 : Int32) else gS i) i) i) C gC h72 n0 (Nat.le_trans (Nat.le_trans (Nat.le_trans (Nat.le_trans (Nat.le_trans (Nat.le_trans (Nat.le_trans (Nat.le_trans (Nat.le_trans (Nat.le_trans Zs K36.1) (Keep.of_wr W44).1) K50.1) (Keep.of_wr W51).1) K57.1) (Keep.of_wr W58).1) (Keep.of_wr W62).1) (Keep.of_wr W69).1) (Keep.of_wr W71).1) (Keep.of_wr W72).1) f72_0 f72_3 f72_8 f72_4 f72_18 f72_11 g_S dd2 dd5 (by decide) (by decide) hNN f72_9 f72_12 g_C dd3 dd6 dd9
      obtain ⟨cq76, q76, q76'⟩ := f72_0.cell
      obtain ⟨_, _, ⟨T76, L76, k76, n76⟩, -, X76, ⟨Lc76, hQ76, l76, y76, z76⟩, st76⟩ := X75.privateBack hx (y := (⟨"com/example/liaise/liaise/NodeTable", "resize", "(I)V"⟩ : MethodName)) hown (mvT hZ (own_at hw 150 rfl)) (mvT hZ (own_at hw 151 rfl)) (mvT hZ (own_selp (y := (⟨"com/example/liaise/liaise/NodeTable", "resize", "(I)V"⟩ : MethodName)) (own_at hw 1 rfl) (own_at hw 152 rfl) (own_at hw 151 rfl) (by decide))) (Cond.privateMethod_at (mvP hZ (own_at hw 152 rfl) (args := #[]))) (mvT hZ (own_at hw 153 rfl)) (by decide) (backOf (W := 0) (M76) hZ (own_at hw 153 rfl) (own_at hw 2 rfl) (by decide) (by decide)) (g := (mkF m 380 #[.val (.ref a1), .val (.ref a2), .val (.int 1), .val (.ref b1), .val (.ref S), .val (.int (((0 + 1) + 1) + 1)), .val (.int 1024), .val (.int te), .val (.int 1), .val (.int lo), .val (.int hi)] [(.int 1024), (.ref a1)])) rfl (by rw [hml]; rfl) (Steps.refl _) (a := a1) (by rw [hh75]; exact q76) q76' (argsL := [(.int 1024)]) (rest := []) (lenOf pd_rm11_3_0 rfl) rfl (by show 2 * 0 + _ ≤ _; exact Nat.le_of_eq rfl) (hb hby d11_380) (fun _ _ => ⟨rfl, hh75, (by decide : 2 + 0 ≤ _), (by decide : 4 + 0 ≤ _)⟩)
      dsimp only [Pt.U, Pt.locs, Pt.cells, Pt.slots] at X76 l76 y76 z76 st76 hQ76
      subst l76 y76 z76
      obtain ⟨gS76, gC76, rfl, N76q, K76, As76, Ac76, I76⟩ := hQ76
      have N76 := Fr.app N75 N76q
      obtain ⟨LL76, X76, N76⟩ := own_abs X76 N76
      refine own_go (fun t k => st76.trans k) ?_
      have KK76 : Keep h0 T76.heap [a1, N, H, S, C, a2] := K72.trans K76 (allS (Or.inl (List.mem_of_getElem? (i := 3) rfl)) (allS (Or.inl (List.mem_of_getElem? (i := 4) rfl)) all0))
      have f76_0 := f72_0.keep K76
      have f76_1 := own_staKeep f72_1 K76 (nsS f72_11.nestat (nsS f72_12.nestat ns0))
      have ni77 : a1 ∉ [S, C] := (ninS dd2 (ninS dd3 nin0))
      have f76_2 := f72_2.keep K76 ni77
      have f76_3 := f72_3.keep K76 ni77
      have f76_4 := f72_4.keep K76 ni77
      have f76_5 := f72_5.keep K76 ni77
      have f76_6 := f72_6.keep K76 ni77
      have f76_7 := f72_7.keep K76 ni77
      have f76_8 := f72_8.keep K76 ni77
      have f76_9 := f72_9.keep K76 ni77
      have ni78 : H ∉ [S, C] := (ninS dd7 (ninS dd8 nin0))
      have f76_10 := f72_10.keep K76 ni78
      have ni79 : a2 ∉ [S, C] := (ninS (Ne.symm de3) (ninS (Ne.symm de4) nin0))
      have f76_13 := f72_13.keep K76 ni79
      have f76_14 := f72_14.keep K76
      have ni80 : b1 ∉ [S, C] := (ninS (Ne.symm ne1_S) (ninS (Ne.symm ne1_C) nin0))
      have f76_15 := f72_15.keep K76 ni80
      have f76_16 := f72_16.keep K76 ni80
      have ni81 : W3 ∉ [S, C] := (ninS (Ne.symm (Nat.ne_of_lt (Nat.lt_of_lt_of_le f1_12.lt sw3))) (ninS (Ne.symm (Nat.ne_of_lt (Nat.lt_of_lt_of_le f1_13.lt sw3))) nin0))
      have f76_17 := f72_17.keep K76 ni81
      have ni82 : N ∉ [S, C] := (ninS dd5 (ninS dd6 nin0))
      have f76_18 := f72_18.keep K76 ni82
      obtain ⟨fs, hr, hrun, hended, hW, hsame⟩ := X76.leave (v := none) (fun _ => rfl)
      refine ⟨_, _, ?_, hrun, hended, _, _, rfl, ?_, ⟨_, rfl⟩, hW, hsame.mono (by decide) (by decide)⟩
      · show Steps p.tables e below (T76.setTop (mkF m 383 #[.val (.ref a1), .val (.ref a2), .val (.int 1), .val (.ref b1), .val (.ref S), .val (.int (((0 + 1) + 1) + 1)), .val (.int 1024), .val (.int te), .val (.int 1), .val (.int lo), .val (.int hi)] [])) _
        exact X76.returnOut hx Bd.returns (hb hby d11_383) hr
      · show Q11_3 Z a1 a2 N H S C vr hd av gN gH gS gC h0 n0 _ T76.heap _
        exact ⟨_, _, _, _, rfl, N76, KK76, f76_2, f76_3, f76_4, f76_5, f76_6, f76_7, f76_8, f76_9, f76_18, f76_10, As76, Ac76, I76⟩
    · refine own_go (B := T63.setTop (mkF m 326 #[.val (.ref a1), .val (.ref a2), .val (.int 1), .val (.ref b1), .val (.ref S), .val (.int (((0 + 1) + 1) + 1)), .val (.int 0), .val (.int te), .val (.int 1), .val (.int lo), .val (.int hi)] [])) (fun t k => ?_) ?_
      · show Steps p.tables e below (T63.setTop (mkF m 300 #[.val (.ref a1), .val (.ref a2), .val (.int 1), .val (.ref b1), .val (.ref S), .val (.int (((0 + 1) + 1) + 1)), .val (.int 0), .val (.int te), .val (.int 1), .val (.int lo), .val (.int hi)] [(.int hd), (.int 0)])) t
        refine XS.icmpYes X63.here hx rfl (pc0 := 300) (pc' := 326) rfl (hb hby d11_300) rfl (flt hc300_64).2.1 (by decide) (by decide) ?_
        exact k
      refine own_go (B := T63.setTop (mkF m 329 #[.val (.ref a1), .val (.ref a2), .val (.int 1), .val (.ref b1), .val (.ref S), .val (.int (((0 + 1) + 1) + 1)), .val (.int 0), .val (.int te), .val (.int 1), .val (.int lo), .val (.int hi)] [(.int (((0 + 1) + 1) + 1)), (.ref a1)])) (fun t k => ?_) ?_
      · refine XS.aloadN X63.here hx rfl (hb hby d11_326) rfl rfl ?_
        refine XS.iload X63.here hx rfl (hb hby d11_327) rfl ?_
        exact k
      obtain ⟨T83, h83, X83, e83, W83, st83⟩ := putF X63 hx hZ hown (host := "") (Or.inl (own_at hw 49 rfl)) Via.refl e63 f62_4 f62_0 (Or.inl (own_at hw 50 rfl)) (own_at hw 1 rfl) (ty := .int) (by decide) rfl rfl (g := (mkF m 329 #[.val (.ref a1), .val (.ref a2), .val (.int 1), .val (.ref b1), .val (.ref S), .val (.int (((0 + 1) + 1) + 1)), .val (.int 0), .val (.int te), .val (.int 1), .val (.int lo), .val (.int hi)] [(.int (((0 + 1) + 1) + 1)), (.ref a1)])) rfl rfl (hb hby d11_329)
      refine own_go (fun t k => st83 t k) ?_
      have N83 := Fr.snoc X83 N62 g_a1
      obtain ⟨LL83, X83, N83⟩ := own_abs X83 N83
      have K83 : Keep h0 h83 [a1, N, H, S, C, a2] := K62.wr W83 (Or.inl (List.mem_of_getElem? (i := 0) rfl))
      have f83_0 := f62_0.wr W83
      have f83_1 := f62_1.wr W83
      have f83_2 := f62_2.other W83 (Or.inr (slot_ne (Or.inr (own_at hw 19 rfl)) (Or.inl (own_at hw 50 rfl)) (by decide) (t := .int) (t' := .int) (by decide) (by decide)))
      have f83_3 := f62_3.other W83 (Or.inr (slot_ne (Or.inl (own_at hw 11 rfl)) (Or.inl (own_at hw 50 rfl)) (by decide) (t := (.array .int)) (t' := .int) (by decide) (by decide)))
      have f83_4 := f62_4.same W83
      have f83_5 := f62_5.other W83 (Or.inr (slot_ne (Or.inl (own_at hw 13 rfl)) (Or.inl (own_at hw 50 rfl)) (by decide) (t := .int) (t' := .int) (by decide) (by decide)))
      have f83_6 := f62_6.other W83 (Or.inr (slot_ne (Or.inl (own_at hw 15 rfl)) (Or.inl (own_at hw 50 rfl)) (by decide) (t := (.array .int)) (t' := .int) (by decide) (by decide)))
      have f83_7 := f62_7.other W83 (Or.inr (slot_ne (Or.inl (own_at hw 62 rfl)) (Or.inl (own_at hw 50 rfl)) (by decide) (t := .int) (t' := .int) (by decide) (by decide)))
      have f83_8 := f62_8.other W83 (Or.inr (slot_ne (Or.inl (own_at hw 17 rfl)) (Or.inl (own_at hw 50 rfl)) (by decide) (t := (.array .int)) (t' := .int) (by decide) (by decide)))
      have f83_9 := f62_9.other W83 (Or.inr (slot_ne (Or.inl (own_at hw 29 rfl)) (Or.inl (own_at hw 50 rfl)) (by decide) (t := (.array .int)) (t' := .int) (by decide) (by decide)))
      have f83_10 := f62_10.other W83 (Ne.symm dd1)
      have f83_11 := f62_11.other W83 (Ne.symm dd2)
      have f83_12 := f62_12.other W83 (Ne.symm dd3)
      have f83_13 := f62_13.other W83 (Ne.symm de0)
      have f83_14 := f62_14.wr W83
      have f83_15 := f62_15.other W83 (Or.inl (Ne.symm ne1_a1))
      have f83_16 := f62_16.other W83 (Or.inl (Ne.symm ne1_a1))
      have f83_17 := f62_17.other W83 (Ne.symm (Nat.ne_of_lt (Nat.lt_of_lt_of_le f1_0.lt sw3)))
      have f83_18 := f62_18.other W83 (Ne.symm dd0)
      refine own_go (B := T83.setTop (mkF m 335 #[.val (.ref a1), .val (.ref a2), .val (.int 1), .val (.ref b1), .val (.ref S), .val (.int (((0 + 1) + 1) + 1)), .val (.int 0), .val (.int te), .val (.int 1), .val (.int lo), .val (.int hi)] [(.int (((0 + 1) + 1) + 1)), (.ref a1)])) (fun t k => ?_) ?_
      · show Steps p.tables e below (T83.setTop (mkF m 332 #[.val (.ref a1), .val (.ref a2), .val (.int 1), .val (.ref b1), .val (.ref S), .val (.int (((0 + 1) + 1) + 1)), .val (.int 0), .val (.int te), .val (.int 1), .val (.int lo), .val (.int hi)] [])) t
        refine XS.aloadN X83.here hx rfl (hb hby d11_332) rfl rfl ?_
        refine XS.iload X83.here hx rfl (hb hby d11_333) rfl ?_
        exact k
      obtain ⟨T84, h84, X84, e84, W84, st84⟩ := putF X83 hx hZ hown (host := "") (Or.inl (own_at hw 12 rfl)) Via.refl e83 f83_5 f83_0 (Or.inl (own_at hw 13 rfl)) (own_at hw 1 rfl) (ty := .int) (by decide) rfl rfl (g := (mkF m 335 #[.val (.ref a1), .val (.ref a2), .val (.int 1), .val (.ref b1), .val (.ref S), .val (.int (((0 + 1) + 1) + 1)), .val (.int 0), .val (.int te), .val (.int 1), .val (.int lo), .val (.int hi)] [(.int (((0 + 1) + 1) + 1)), (.ref a1)])) rfl rfl (hb hby d11_335)
      refine own_go (fun t k => st84 t k) ?_
      have N84 := Fr.snoc X84 N83 g_a1
      obtain ⟨LL84, X84, N84⟩ := own_abs X84 N84
      have K84 : Keep h0 h84 [a1, N, H, S, C, a2] := K83.wr W84 (Or.inl (List.mem_of_getElem? (i := 0) rfl))
      have f84_0 := f83_0.wr W84
      have f84_1 := f83_1.wr W84
      have f84_2 := f83_2.other W84 (Or.inr (slot_ne (Or.inr (own_at hw 19 rfl)) (Or.inl (own_at hw 13 rfl)) (by decide) (t := .int) (t' := .int) (by decide) (by decide)))
      have f84_3 := f83_3.other W84 (Or.inr (slot_ne (Or.inl (own_at hw 11 rfl)) (Or.inl (own_at hw 13 rfl)) (by decide) (t := (.array .int)) (t' := .int) (by decide) (by decide)))
      have f84_4 := f83_4.other W84 (Or.inr (slot_ne (Or.inl (own_at hw 50 rfl)) (Or.inl (own_at hw 13 rfl)) (by decide) (t := .int) (t' := .int) (by decide) (by decide)))
      have f84_5 := f83_5.same W84
      have f84_6 := f83_6.other W84 (Or.inr (slot_ne (Or.inl (own_at hw 15 rfl)) (Or.inl (own_at hw 13 rfl)) (by decide) (t := (.array .int)) (t' := .int) (by decide) (by decide)))
      have f84_7 := f83_7.other W84 (Or.inr (slot_ne (Or.inl (own_at hw 62 rfl)) (Or.inl (own_at hw 13 rfl)) (by decide) (t := .int) (t' := .int) (by decide) (by decide)))
      have f84_8 := f83_8.other W84 (Or.inr (slot_ne (Or.inl (own_at hw 17 rfl)) (Or.inl (own_at hw 13 rfl)) (by decide) (t := (.array .int)) (t' := .int) (by decide) (by decide)))
      have f84_9 := f83_9.other W84 (Or.inr (slot_ne (Or.inl (own_at hw 29 rfl)) (Or.inl (own_at hw 13 rfl)) (by decide) (t := (.array .int)) (t' := .int) (by decide) (by decide)))
      have f84_10 := f83_10.other W84 (Ne.symm dd1)
      have f84_11 := f83_11.other W84 (Ne.symm dd2)
      have f84_12 := f83_12.other W84 (Ne.symm dd3)
      have f84_13 := f83_13.other W84 (Ne.symm de0)
      have f84_14 := f83_14.wr W84
      have f84_15 := f83_15.other W84 (Or.inl (Ne.symm ne1_a1))
      have f84_16 := f83_16.other W84 (Or.inl (Ne.symm ne1_a1))
      have f84_17 := f83_17.other W84 (Ne.symm (Nat.ne_of_lt (Nat.lt_of_lt_of_le f1_0.lt sw3)))
      have f84_18 := f83_18.other W84 (Ne.symm dd0)
      have hNN : ∀ i, i < (((((0 : Int32) + (1 : Int32)) + (1 : Int32)) + (1 : Int32))).toNatClampNeg → gN57 (3 * i) = vr := by
        intro i hi
        rw [show (((((0 : Int32) + (1 : Int32)) + (1 : Int32)) + (1 : Int32))).toNatClampNeg = 3 by decide] at hi
        obtain rfl | rfl | rfl : i = 0 ∨ i = 1 ∨ i = 2 := by omega
        · exact hv57_0
        · exact hv57_1
        · exact hv57_2
      refine own_go (B := T84.setTop (mkF m 347 #[.val (.ref a1), .val (.ref a2), .val (.int 1), .val (.ref b1), .val (.ref S), .val (.int (((0 + 1) + 1) + 1)), .val (.int 1024), .val (.int te), .val (.int 1), .val (.int lo), .val (.int hi)] [(.ref a1), (.int 2), (.int 1024)])) (fun t k => ?_) ?_
      · show Steps p.tables e below (T84.setTop (mkF m 338 #[.val (.ref a1), .val (.ref a2), .val (.int 1), .val (.ref b1), .val (.ref S), .val (.int (((0 + 1) + 1) + 1)), .val (.int 0), .val (.int te), .val (.int 1), .val (.int lo), .val (.int hi)] [])) t
        refine XS.sipush X84.here hx rfl (hb hby d11_338) ?_
        refine XS.istore X84.here hx rfl (hb hby d11_341) rfl (l' := #[.val (.ref a1), .val (.ref a2), .val (.int 1), .val (.ref b1), .val (.ref S), .val (.int (((0 + 1) + 1) + 1)), .val (.int 1024), .val (.int te), .val (.int 1), .val (.int lo), .val (.int hi)]) rfl ?_
        refine XS.iload X84.here hx rfl (hb hby d11_343) rfl ?_
        refine XS.iconst X84.here hx rfl (hb hby d11_345) ?_
        refine XS.aloadN X84.here hx rfl (hb hby d11_346) rfl rfl ?_
        exact k
      obtain ⟨T85, X85, e85, st85⟩ := getF X84 hx hZ hown (host := "") (Or.inl (own_at hw 12 rfl)) Via.refl e84 f84_5 (g := (mkF m 347 #[.val (.ref a1), .val (.ref a2), .val (.int 1), .val (.ref b1), .val (.ref S), .val (.int (((0 + 1) + 1) + 1)), .val (.int 1024), .val (.int te), .val (.int 1), .val (.int lo), .val (.int hi)] [(.ref a1), (.int 2), (.int 1024)])) rfl rfl (hb hby d11_347)
      refine own_go (fun t k => st85 t k) ?_
      refine own_go (B := T85.setTop (mkF m 374 #[.val (.ref a1), .val (.ref a2), .val (.int 1), .val (.ref b1), .val (.ref S), .val (.int (((0 + 1) + 1) + 1)), .val (.int 1024), .val (.int te), .val (.int 1), .val (.int lo), .val (.int hi)] [(.ref a1), (.int 1024), (.ref a1)])) (fun t k => ?_) ?_
      · show Steps p.tables e below (T85.setTop (mkF m 350 #[.val (.ref a1), .val (.ref a2), .val (.int 1), .val (.ref b1), .val (.ref S), .val (.int (((0 + 1) + 1) + 1)), .val (.int 1024), .val (.int te), .val (.int 1), .val (.int lo), .val (.int hi)] [(.int (((0 + 1) + 1) + 1)), (.int 2), (.int 1024)])) t
        refine XS.imul X85.here hx rfl (hb hby d11_350) rfl ?_
        show Steps p.tables e below (T85.setTop (mkF m 351 #[.val (.ref a1), .val (.ref a2), .val (.int 1), .val (.ref b1), .val (.ref S), .val (.int (((0 + 1) + 1) + 1)), .val (.int 1024), .val (.int te), .val (.int 1), .val (.int lo), .val (.int hi)] [(.int (2 * (((0 + 1) + 1) + 1))), (.int 1024)])) t
        refine XS.icmpYes X85.here hx rfl (pc0 := 351) (pc' := 370) rfl (hb hby d11_351) rfl (flt (by decide : ¬ ((1024 : Int32) < ((2 : Int32) * ((((0 : Int32) + (1 : Int32)) + (1 : Int32)) + (1 : Int32)))))).2.1 (by decide) (by decide) ?_
        refine XS.aloadN X85.here hx rfl (hb hby d11_370) rfl rfl ?_
        refine XS.iload X85.here hx rfl (hb hby d11_371) rfl ?_
        refine XS.aloadN X85.here hx rfl (hb hby d11_373) rfl rfl ?_
        exact k
      have M86 := rm4 l Z a0 hw [] a1 N gN57 h84 n0 (Nat.le_trans (Nat.le_trans (Nat.le_trans (Nat.le_trans (Nat.le_trans (Nat.le_trans (Nat.le_trans (Nat.le_trans (Nat.le_trans Zs K36.1) (Keep.of_wr W44).1) K50.1) (Keep.of_wr W51).1) K57.1) (Keep.of_wr W58).1) (Keep.of_wr W62).1) (Keep.of_wr W83).1) (Keep.of_wr W84).1) f84_3 f84_18
      obtain ⟨cq86, q86, q86'⟩ := f84_0.cell
      obtain ⟨_, _, ⟨T86, L86, k86, n86⟩, -, X86, ⟨Lc86, hQ86, l86, y86, z86⟩, st86⟩ := X85.privateBack hx (y := (⟨"com/example/liaise/liaise/NodeTable", "capacity", "()I"⟩ : MethodName)) hown (mvT hZ (own_at hw 24 rfl)) (mvT hZ (own_at hw 25 rfl)) (mvT hZ (own_selp (y := (⟨"com/example/liaise/liaise/NodeTable", "capacity", "()I"⟩ : MethodName)) (own_at hw 1 rfl) (own_at hw 26 rfl) (own_at hw 25 rfl) (by decide))) (Cond.privateMethod_at (mvP hZ (own_at hw 26 rfl) (args := #[]))) (mvT hZ (own_at hw 27 rfl)) (by decide) (backOf (W := 2) (M86) hZ (own_at hw 27 rfl) (own_at hw 2 rfl) (by decide) (by decide)) (g := (mkF m 374 #[.val (.ref a1), .val (.ref a2), .val (.int 1), .val (.ref b1), .val (.ref S), .val (.int (((0 + 1) + 1) + 1)), .val (.int 1024), .val (.int te), .val (.int 1), .val (.int lo), .val (.int hi)] [(.ref a1), (.int 1024), (.ref a1)])) rfl (by rw [hml]; rfl) (Steps.refl _) (a := a1) (by rw [e85]; exact q86) q86' (argsL := []) (rest := [(.int 1024), (.ref a1)]) (lenOf pd_rm11_3_4 rfl) rfl (by show 2 * 0 + _ ≤ _; exact Nat.le_of_eq rfl) (hb hby d11_374) (fun _ _ => ⟨rfl, e85, (by decide : 2 + 0 ≤ _), (by decide : 4 + 0 ≤ _)⟩)
      dsimp only [Pt.U, Pt.locs, Pt.cells, Pt.slots] at X86 l86 y86 z86 st86 hQ86
      subst l86 y86 z86
      obtain ⟨rfl, N86q, hh86⟩ := hQ86
      have N86 := Fr.app N84 N86q
      obtain ⟨LL86, X86, N86⟩ := own_abs X86 N86
      refine own_go (fun t k => st86.trans k) ?_
      have M87 := rm26 l Z a0 hw [] h84 n0 (Nat.le_trans (Nat.le_trans (Nat.le_trans (Nat.le_trans (Nat.le_trans (Nat.le_trans (Nat.le_trans (Nat.le_trans (Nat.le_trans Zs K36.1) (Keep.of_wr W44).1) K50.1) (Keep.of_wr W51).1) K57.1) (Keep.of_wr W58).1) (Keep.of_wr W62).1) (Keep.of_wr W83).1) (Keep.of_wr W84).1)
      obtain ⟨_, _, ⟨T87, L87, k87, n87⟩, -, X87, ⟨Lc87, hQ87, l87, y87, z87⟩, st87⟩ := Jvm.LawKit.callS X86 hx (y := (⟨"java/lang/Math", "min", "(II)I"⟩ : MethodName)) hown (mvT hZ (own_at hw 146 rfl)) (mvT hZ (own_at hw 147 rfl)) (mvT hZ (own_at hw 148 rfl)) (mvT hZ (own_at hw 149 rfl)) (by decide) (backOf (W := 1) (M87) hZ (own_at hw 149 rfl) (own_at hw 148 rfl) (by decide) (by decide)) (g := (mkF m 377 #[.val (.ref a1), .val (.ref a2), .val (.int 1), .val (.ref b1), .val (.ref S), .val (.int (((0 + 1) + 1) + 1)), .val (.int 1024), .val (.int te), .val (.int 1), .val (.int lo), .val (.int hi)] [(.int 1024), (.int 1024), (.ref a1)])) rfl (by rw [hml]; rfl) (argsL := [(.int 1024), (.int 1024)]) (rest := [(.ref a1)]) (lenOf pd_rm11_3_5 rfl) rfl (by show 2 * 0 + _ ≤ _; exact Nat.le_of_eq rfl) (hb hby d11_377) (fun _ _ => ⟨rfl, hh86, (by decide : 2 + 0 ≤ _), (by decide : 4 + 0 ≤ _)⟩)
      dsimp only [Pt.U, Pt.locs, Pt.cells, Pt.slots] at X87 l87 y87 z87 st87 hQ87
      subst l87 y87 z87
      obtain ⟨rfl, N87q, hh87⟩ := hQ87
      have N87 := Fr.app N86 N87q
      obtain ⟨LL87, X87, N87⟩ := own_abs X87 N87
      refine own_go (fun t k => st87 t k) ?_
      have M88 := rm27 l Z a0 hw [] a1 N S ((((0 : Int32) + (1 : Int32)) + (1 : Int32)) + (1 : Int32)) vr gN57 (fun i => if i = 2 then (((0 : Int32) + (1 : Int32)) + (1 : Int32)) else (fun i => if i = 1 then ((0 : Int32) + (1 : Int32)) else (fun i => if i = 0 then (0 : Int32) else gS i) i) i) C gC h84 n0 (Nat.le_trans (Nat.le_trans (Nat.le_trans (Nat.le_trans (Nat.le_trans (Nat.le_trans (Nat.le_trans (Nat.le_trans (Nat.le_trans Zs K36.1) (Keep.of_wr W44).1) K50.1) (Keep.of_wr W51).1) K57.1) (Keep.of_wr W58).1) (Keep.of_wr W62).1) (Keep.of_wr W83).1) (Keep.of_wr W84).1) f84_0 f84_3 f84_8 f84_4 f84_18 f84_11 g_S dd2 dd5 (by decide) (by decide) hNN f84_9 f84_12 g_C dd3 dd6 dd9
      obtain ⟨cq88, q88, q88'⟩ := f84_0.cell
      obtain ⟨_, _, ⟨T88, L88, k88, n88⟩, -, X88, ⟨Lc88, hQ88, l88, y88, z88⟩, st88⟩ := X87.privateBack hx (y := (⟨"com/example/liaise/liaise/NodeTable", "resize", "(I)V"⟩ : MethodName)) hown (mvT hZ (own_at hw 150 rfl)) (mvT hZ (own_at hw 151 rfl)) (mvT hZ (own_selp (y := (⟨"com/example/liaise/liaise/NodeTable", "resize", "(I)V"⟩ : MethodName)) (own_at hw 1 rfl) (own_at hw 152 rfl) (own_at hw 151 rfl) (by decide))) (Cond.privateMethod_at (mvP hZ (own_at hw 152 rfl) (args := #[]))) (mvT hZ (own_at hw 153 rfl)) (by decide) (backOf (W := 0) (M88) hZ (own_at hw 153 rfl) (own_at hw 2 rfl) (by decide) (by decide)) (g := (mkF m 380 #[.val (.ref a1), .val (.ref a2), .val (.int 1), .val (.ref b1), .val (.ref S), .val (.int (((0 + 1) + 1) + 1)), .val (.int 1024), .val (.int te), .val (.int 1), .val (.int lo), .val (.int hi)] [(.int 1024), (.ref a1)])) rfl (by rw [hml]; rfl) (Steps.refl _) (a := a1) (by rw [hh87]; exact q88) q88' (argsL := [(.int 1024)]) (rest := []) (lenOf pd_rm11_3_0 rfl) rfl (by show 2 * 0 + _ ≤ _; exact Nat.le_of_eq rfl) (hb hby d11_380) (fun _ _ => ⟨rfl, hh87, (by decide : 2 + 0 ≤ _), (by decide : 4 + 0 ≤ _)⟩)
      dsimp only [Pt.U, Pt.locs, Pt.cells, Pt.slots] at X88 l88 y88 z88 st88 hQ88
      subst l88 y88 z88
      obtain ⟨gS88, gC88, rfl, N88q, K88, As88, Ac88, I88⟩ := hQ88
      have N88 := Fr.app N87 N88q
      obtain ⟨LL88, X88, N88⟩ := own_abs X88 N88
      refine own_go (fun t k => st88.trans k) ?_
      have KK88 : Keep h0 T88.heap [a1, N, H, S, C, a2] := K84.trans K88 (allS (Or.inl (List.mem_of_getElem? (i := 3) rfl)) (allS (Or.inl (List.mem_of_getElem? (i := 4) rfl)) all0))
      have f88_0 := f84_0.keep K88
      have f88_1 := own_staKeep f84_1 K88 (nsS f84_11.nestat (nsS f84_12.nestat ns0))
      have ni89 : a1 ∉ [S, C] := (ninS dd2 (ninS dd3 nin0))
      have f88_2 := f84_2.keep K88 ni89
      have f88_3 := f84_3.keep K88 ni89
      have f88_4 := f84_4.keep K88 ni89
      have f88_5 := f84_5.keep K88 ni89
      have f88_6 := f84_6.keep K88 ni89
      have f88_7 := f84_7.keep K88 ni89
      have f88_8 := f84_8.keep K88 ni89
      have f88_9 := f84_9.keep K88 ni89
      have ni90 : H ∉ [S, C] := (ninS dd7 (ninS dd8 nin0))
      have f88_10 := f84_10.keep K88 ni90
      have ni91 : a2 ∉ [S, C] := (ninS (Ne.symm de3) (ninS (Ne.symm de4) nin0))
      have f88_13 := f84_13.keep K88 ni91
      have f88_14 := f84_14.keep K88
      have ni92 : b1 ∉ [S, C] := (ninS (Ne.symm ne1_S) (ninS (Ne.symm ne1_C) nin0))
      have f88_15 := f84_15.keep K88 ni92
      have f88_16 := f84_16.keep K88 ni92
      have ni93 : W3 ∉ [S, C] := (ninS (Ne.symm (Nat.ne_of_lt (Nat.lt_of_lt_of_le f1_12.lt sw3))) (ninS (Ne.symm (Nat.ne_of_lt (Nat.lt_of_lt_of_le f1_13.lt sw3))) nin0))
      have f88_17 := f84_17.keep K88 ni93
      have ni94 : N ∉ [S, C] := (ninS dd5 (ninS dd6 nin0))
      have f88_18 := f84_18.keep K88 ni94
      obtain ⟨fs, hr, hrun, hended, hW, hsame⟩ := X88.leave (v := none) (fun _ => rfl)
      refine ⟨_, _, ?_, hrun, hended, _, _, rfl, ?_, ⟨_, rfl⟩, hW, hsame.mono (by decide) (by decide)⟩
      · show Steps p.tables e below (T88.setTop (mkF m 383 #[.val (.ref a1), .val (.ref a2), .val (.int 1), .val (.ref b1), .val (.ref S), .val (.int (((0 + 1) + 1) + 1)), .val (.int 1024), .val (.int te), .val (.int 1), .val (.int lo), .val (.int hi)] [])) _
        exact X88.returnOut hx Bd.returns (hb hby d11_383) hr
      · show Q11_3 Z a1 a2 N H S C vr hd av gN gH gS gC h0 n0 _ T88.heap _
        exact ⟨_, _, _, _, rfl, N88, KK88, f88_2, f88_3, f88_4, f88_5, f88_6, f88_7, f88_8, f88_9, f88_18, f88_10, As88, Ac88, I88⟩
  refine own_go (B := T19.setTop (mkF m 51 #[.val (.ref a1), .val (.ref a2), .val (.int 1), .val (.ref b1), .val (.int 0), .unset, .unset, .unset, .unset, .unset, .unset] [(.ref a1), (.int 0)])) (fun t k => ?_) ?_
  · refine XS.iload X19.here hx rfl (hb hby d11_48) rfl ?_
    refine XS.aloadN X19.here hx rfl (hb hby d11_50) rfl rfl ?_
    exact k
  obtain ⟨T95, X95, e95, st95⟩ := getF X19 hx hZ hown (host := "") (Or.inl (own_at hw 61 rfl)) Via.refl rfl f19_7 (g := (mkF m 51 #[.val (.ref a1), .val (.ref a2), .val (.int 1), .val (.ref b1), .val (.int 0), .unset, .unset, .unset, .unset, .unset, .unset] [(.ref a1), (.int 0)])) rfl rfl (hb hby d11_51)
  refine own_go (fun t k => st95 t k) ?_
  by_cases hc54_96 : (0 : Int32) < hd
  · refine own_go (B := T95.setTop (mkF m 57 #[.val (.ref a1), .val (.ref a2), .val (.int 1), .val (.ref b1), .val (.int 0), .unset, .unset, .unset, .unset, .unset, .unset] [])) (fun t k => ?_) ?_
    · show Steps p.tables e below (T95.setTop (mkF m 54 #[.val (.ref a1), .val (.ref a2), .val (.int 1), .val (.ref b1), .val (.int 0), .unset, .unset, .unset, .unset, .unset, .unset] [(.int hd), (.int 0)])) t
      refine XS.icmpNo X95.here hx rfl (hb hby d11_54) rfl (tlt hc54_96).2.1 ?_
      exact k
    have hg : gH 0 = av := hH (hd01.resolve_left fun q => by rw [q] at hc54_96; exact absurd hc54_96 (by decide))
    refine own_go (B := T95.setTop (mkF m 59 #[.val (.ref a1), .val (.ref a2), .val (.int 1), .val (.ref b1), .val (.int 0), .unset, .unset, .unset, .unset, .unset, .unset] [(.ref a1), (.ref b1)])) (fun t k => ?_) ?_
    · refine XS.aloadN X95.here hx rfl (hb hby d11_57) rfl rfl ?_
      refine XS.aloadN X95.here hx rfl (hb hby d11_58) rfl rfl ?_
      exact k
    obtain ⟨T97, X97, e97, st97⟩ := getF X95 hx hZ hown (host := "") (Or.inl (own_at hw 14 rfl)) Via.refl e95 f19_6 (g := (mkF m 59 #[.val (.ref a1), .val (.ref a2), .val (.int 1), .val (.ref b1), .val (.int 0), .unset, .unset, .unset, .unset, .unset, .unset] [(.ref a1), (.ref b1)])) rfl rfl (hb hby d11_59)
    refine own_go (fun t k => st97 t k) ?_
    refine own_go (B := T97.setTop (mkF m 64 #[.val (.ref a1), .val (.ref a2), .val (.int 1), .val (.ref b1), .val (.int 0), .unset, .unset, .unset, .unset, .unset, .unset] [(.int 0), (.ref H), (.ref b1)])) (fun t k => ?_) ?_
    · show Steps p.tables e below (T97.setTop (mkF m 62 #[.val (.ref a1), .val (.ref a2), .val (.int 1), .val (.ref b1), .val (.int 0), .unset, .unset, .unset, .unset, .unset, .unset] [(.ref H), (.ref b1)])) t
      refine XS.iload X97.here hx rfl (hb hby d11_62) rfl ?_
      exact k
    obtain ⟨cl98, Ar98, hin98, hat98, -, -⟩ := f19_11.get (j := (0 : Int32)) (by decide) (by decide)
    have hat98 : cl98.slots[((0 : Int32)).toNatClampNeg]? = some (.int (gH 0)) := hat98.trans (by first | rfl | (rw [show ((0 : Int32)).toNatClampNeg = 0 from by decide]; rfl))
    refine own_go (X97.iaload hx (j := (0 : Int32)) (v := (.int (gH 0))) (by rw [e97]; exact Ar98.1) (State.isArrayOf_alike hZ.alike Ar98.2.1) Ar98.2.2 hin98 hat98 (g := (mkF m 64 #[.val (.ref a1), .val (.ref a2), .val (.int 1), .val (.ref b1), .val (.int 0), .unset, .unset, .unset, .unset, .unset, .unset] [(.int 0), (.ref H), (.ref b1)])) rfl rfl (hb hby d11_64)) ?_
    have M99 := rm15 l Z a0 hw [] b1 (gH 0) W3 gW19 (1 : Int32) T19.heap n0 (Nat.le_trans (Nat.le_trans (Nat.le_trans (Nat.le_trans (Nat.le_trans Z0 E1.1) K3.1) K10.1) K17.1) K19.1) f19_15 Fw19 Aw19 Fu19 (Or.inr rfl) g_b1 (Nat.ne_of_lt (Nat.lt_of_lt_of_le A1.lt sw3)) gw3 f19_1 (by rw [hg]; subst hav; decide) (by rw [hg]; subst hav; decide)
    obtain ⟨cq99, kq99, q99a, q99b, q99c⟩ := isOf hZ e97 f19_15
    obtain ⟨_, _, ⟨T99, L99, k99, n99⟩, -, X99, ⟨Lc99, hQ99, l99, y99, z99⟩, st99⟩ := X97.virtualBack hx (y := (⟨"java/util/BitSet", "set", "(I)V"⟩ : MethodName)) (z := (⟨"java/util/BitSet", "set", "(I)V"⟩ : MethodName)) hown (mvT hZ (own_at hw 90 rfl)) (mvT hZ (own_at hw 91 rfl)) (notFace_of_selects (args := #[]) (mvT hZ (own_at hw 93 rfl))) (mvT hZ (own_at hw 93 rfl)) (mvT hZ (own_at hw 92 rfl)) (by decide) (backOf (W := 0) (M99) hZ (own_at hw 94 rfl) (own_at hw 70 rfl) (by decide) (by decide)) q99a q99c (g := (mkF m 65 #[.val (.ref a1), .val (.ref a2), .val (.int 1), .val (.ref b1), .val (.int 0), .unset, .unset, .unset, .unset, .unset, .unset] [(.int (gH 0)), (.ref b1)])) rfl (by rw [hml]; rfl) (Steps.refl _) (argsL := [(.int (gH 0))]) (rest := []) (lenOf pd_rm11_3_0 rfl) rfl (by show 2 * 0 + _ ≤ _; exact Nat.le_of_eq rfl) (hb hby d11_65) (fun _ _ => ⟨rfl, e97, (by decide : 2 + 0 ≤ _), (by decide : 4 + 0 ≤ _)⟩)
    dsimp only [Pt.U, Pt.locs, Pt.cells, Pt.slots] at X99 l99 y99 z99 st99 hQ99
    subst l99 y99 z99
    obtain ⟨gW99, rfl, N99q, K99, Fu99, Fw99, Aw99, hs99⟩ := hQ99
    have N99 := Fr.app N19 N99q
    obtain ⟨LL99, X99, N99⟩ := own_abs X99 N99
    refine own_go (fun t k => st99.trans k) ?_
    have KK99 : Keep h0 T99.heap [a1, N, H, S, C, a2] := KK19.trans K99 (allS (Or.inr sz_b1) (allS (Or.inr (Nat.le_trans K1.1 sw3)) all0))
    have f99_0 := f19_0.keep K99
    have f99_1 := own_staKeep f19_1 K99 (nsS f19_15.nostat (nsS Aw19.nestat ns0))
    have f99_2 := f19_2.keep K99 ni11
    have f99_3 := f19_3.keep K99 ni11
    have f99_4 := f19_4.keep K99 ni11
    have f99_5 := f19_5.keep K99 ni11
    have f99_6 := f19_6.keep K99 ni11
    have f99_7 := f19_7.keep K99 ni11
    have f99_8 := f19_8.keep K99 ni11
    have f99_9 := f19_9.keep K99 ni11
    have f99_10 := f19_10.keep K99 ni12
    have f99_11 := f19_11.keep K99 ni13
    have f99_12 := f19_12.keep K99 ni14
    have f99_13 := f19_13.keep K99 ni15
    have f99_14 := f19_14.keep K99 ni16
    have f99_15 := f19_15.keep K99
    refine own_go (B := T99.setTop (mkF m 48 #[.val (.ref a1), .val (.ref a2), .val (.int 1), .val (.ref b1), .val (.int (0 + 1)), .unset, .unset, .unset, .unset, .unset, .unset] [])) (fun t k => ?_) ?_
    · show Steps p.tables e below (T99.setTop (mkF m 68 #[.val (.ref a1), .val (.ref a2), .val (.int 1), .val (.ref b1), .val (.int 0), .unset, .unset, .unset, .unset, .unset, .unset] [])) t
      refine XS.iinc X99.here hx rfl (hb hby d11_68) rfl (l' := #[.val (.ref a1), .val (.ref a2), .val (.int 1), .val (.ref b1), .val (.int (0 + 1)), .unset, .unset, .unset, .unset, .unset, .unset]) rfl ?_
      refine XS.goto X99.here hx rfl (pc0 := 71) (pc' := 48) rfl (hb hby d11_71) (by decide) (by decide) ?_
      exact k
    refine own_go (B := T99.setTop (mkF m 51 #[.val (.ref a1), .val (.ref a2), .val (.int 1), .val (.ref b1), .val (.int (0 + 1)), .unset, .unset, .unset, .unset, .unset, .unset] [(.ref a1), (.int (0 + 1))])) (fun t k => ?_) ?_
    · refine XS.iload X99.here hx rfl (hb hby d11_48) rfl ?_
      refine XS.aloadN X99.here hx rfl (hb hby d11_50) rfl rfl ?_
      exact k
    obtain ⟨T100, X100, e100, st100⟩ := getF X99 hx hZ hown (host := "") (Or.inl (own_at hw 61 rfl)) Via.refl rfl f99_7 (g := (mkF m 51 #[.val (.ref a1), .val (.ref a2), .val (.int 1), .val (.ref b1), .val (.int (0 + 1)), .unset, .unset, .unset, .unset, .unset, .unset] [(.ref a1), (.int (0 + 1))])) rfl rfl (hb hby d11_51)
    refine own_go (fun t k => st100 t k) ?_
    refine own_go (B := T100.setTop (mkF m 74 #[.val (.ref a1), .val (.ref a2), .val (.int 1), .val (.ref b1), .val (.int (0 + 1)), .unset, .unset, .unset, .unset, .unset, .unset] [])) (fun t k => ?_) ?_
    · show Steps p.tables e below (T100.setTop (mkF m 54 #[.val (.ref a1), .val (.ref a2), .val (.int 1), .val (.ref b1), .val (.int (0 + 1)), .unset, .unset, .unset, .unset, .unset, .unset] [(.int hd), (.int (0 + 1))])) t
      refine XS.icmpYes X100.here hx rfl (pc0 := 54) (pc' := 74) rfl (hb hby d11_54) rfl (flt (by rcases hd01 with rfl | rfl <;> decide : ¬ (((0 : Int32) + (1 : Int32)) < hd))).2.1 (by decide) (by decide) ?_
      exact k
    have hW : gW99 0 = (7 : Int64) := by
      rw [hs99, hs19, hs17, hs10]
      rw [hg]
      subst hav; decide
    exact rest _ _ _ _ _ hW X100 e100 N99 (Nat.le_trans (Nat.le_trans (Nat.le_trans (Nat.le_trans (Nat.le_trans (Nat.le_trans Z0 E1.1) K3.1) K10.1) K17.1) K19.1) K99.1) KK99 f99_0 f99_1 f99_2 f99_3 f99_4 f99_5 f99_6 f99_7 f99_8 f99_9 f99_10 f99_11 f99_12 f99_13 f99_14 f99_15 Fu99 Fw99 Aw99
  · refine own_go (B := T95.setTop (mkF m 74 #[.val (.ref a1), .val (.ref a2), .val (.int 1), .val (.ref b1), .val (.int 0), .unset, .unset, .unset, .unset, .unset, .unset] [])) (fun t k => ?_) ?_
    · show Steps p.tables e below (T95.setTop (mkF m 54 #[.val (.ref a1), .val (.ref a2), .val (.int 1), .val (.ref b1), .val (.int 0), .unset, .unset, .unset, .unset, .unset, .unset] [(.int hd), (.int 0)])) t
      refine XS.icmpYes X95.here hx rfl (pc0 := 54) (pc' := 74) rfl (hb hby d11_54) rfl (flt hc54_96).2.1 (by decide) (by decide) ?_
      exact k
    have hW : gW19 0 = (7 : Int64) := by
      rw [hs19, hs17, hs10]
      subst hav; decide
    exact rest _ _ _ _ _ hW X95 e95 N19 (Nat.le_trans (Nat.le_trans (Nat.le_trans (Nat.le_trans (Nat.le_trans Z0 E1.1) K3.1) K10.1) K17.1) K19.1) KK19 f19_0 f19_1 f19_2 f19_3 f19_4 f19_5 f19_6 f19_7 f19_8 f19_9 f19_10 f19_11 f19_12 f19_13 f19_14 f19_15 Fu19 Fw19 Aw19
theorem own_and7 (x : Int32) : 0 ≤ (x &&& (7 : Int32)).toInt := by
  have h := c_mask x 7 3 (by decide) (by decide)
  omega
theorem own_Rle {sz sz' r lo : Int32} {gN gN' : Nat → Int32} {k : Int} (R : own_R sz sz' r lo gN gN') (h0 : 0 ≤ sz.toInt) (hm : sz.toInt ≤ k) (hk : k ≤ 7) : sz'.toInt ≤ k + 1 := by
  obtain ⟨⟨a, -, -⟩ | ⟨a, -⟩, -, -⟩ := R
  · rw [a]; omega
  · have e := own_addk (x := sz) (k := 1) (n := 1) (by decide) h0 (by omega) (by omega)
    rw [a]; omega
theorem own_01 {r : Int32} (h0 : 0 ≤ r.toInt) (h2 : r.toInt < (2 : Int32).toInt) : r = (0 : Int32) ∨ r = (1 : Int32) := by
  have k2 : (2 : Int32).toInt = 2 := by decide
  have k1 : (1 : Int32).toInt = 1 := by decide
  have k0 := own_z0
  by_cases q : r.toInt = 0
  · exact Or.inl (Int32.toInt_inj.mp (by omega))
  · exact Or.inr (Int32.toInt_inj.mp (by omega))
theorem pn_rm0 : plainName "com/example/liaise/liaise/NodeTableCrowdedPinLaw" = true := by first | (simp [plainName, overriddenIn]; done) | decide +kernel
theorem pd_rm0_0 : parseMethodDescriptor "(I)V" = some ⟨[.int], none⟩ := by decide +kernel
theorem pd_rm0_1 : parseMethodDescriptor "(I)I" = some ⟨[.int], some .int⟩ := by decide +kernel
theorem pd_rm0_2 : parseMethodDescriptor "()Z" = some ⟨[], some .boolean⟩ := by decide +kernel
theorem pd_rm0_3 : parseMethodDescriptor "()I" = some ⟨[], some .int⟩ := by decide +kernel
theorem pd_rm0_4 : parseMethodDescriptor "([II)V" = some ⟨[(.array .int), .int], none⟩ := by decide +kernel
theorem ef_rm0 (m : MethodId) (x0 : Int32) (x1 : Int32) (x2 : Int32) (x3 : Int32) (x4 : Int32) (x5 : Int32) : entryFrame m #[(.int x0), (.int x1), (.int x2), (.int x3), (.int x4), (.int x5)] maxLocals = mkF m 0 #[.val (.int x0), .val (.int x1), .val (.int x2), .val (.int x3), .val (.int x4), .val (.int x5), .unset, .unset, .unset, .unset, .unset, .unset, .unset, .unset] [] := by first | (simp [entryFrame, mkF, argsToLocals, Value.category, maxLocals]; done) | rfl
def Q0 (Z : State) (p1 : Int32) (p2 : Int32) (p3 : Int32) (p4 : Int32) (p5 : Int32) (p6 : Int32) (h0 : Heap) (n0 : Nat) (v : Option Value) (h : Heap) (L : List Loc) : Prop := v = some (.int (1 : Int32)) ∧ Fr n0 L
set_option maxRecDepth 65536 in
set_option maxHeartbeats 40000000 in
theorem rm0 (l : Launch) (Z : State) (a0 : Array Value) (hw : ∀ d ∈ tables_1, d.before a0 Z = true) (ws : List Jvm.Cond) (p1 : Int32) (p2 : Int32) (p3 : Int32) (p4 : Int32) (p5 : Int32) (p6 : Int32) (h0 : Heap) (n0 : Nat) (Z0 : n0 ≤ h0.size) (SA : Sta Z h0 "java/util/BitSet" "$assertionsDisabled" "Z" (.int (1 : Int32))) :
    MetFree l x (head1 (Jvm.Cond.code x code maxLocals ret :: ws) room_1) (fun a U => a = #[(.int p1), (.int p2), (.int p3), (.int p4), (.int p5), (.int p6)] ∧ Z.Warmed39 U.vm ∧ U.heap = h0) (fun _ _ _ _ _ => True) (fun _ U o U' => ∃ v L, o = .returned v ∧ Q0 Z p1 p2 p3 p4 p5 p6 h0 n0 v U'.heap L ∧ FrameEnd U o U' L room_1.cells room_1.slots) := by
  refine MetFree.of_bodySF (plainFor_of_name pn_rm0) hisR ?_
  intro p e s m args below meth c s₁ Bd hml0 hP hK
  obtain ⟨rfl, hZ, hh⟩ := hP
  have hx := Bd.exec
  have hby := Bd.bytes
  have hml : c.maxLocals = 14 := hml0
  have hown : s.vm.findClass "com/example/liaise/liaise/NodeTableCrowdedPinLaw" = some m.cls := findClass_of_methodNamed Bd.named
  have hnm := (name_of_methodNamed Bd.named Bd.method).1
  have X0 : Stand p l e room_1 s m #[(.int p1), (.int p2), (.int p3), (.int p4), (.int p5), (.int p6)] below meth c s₁ [] 0 0 := Stand.of_body Bd
  have e0 : s₁.heap = h0 := by rw [← hh, Bd.state]; rfl
  have N0 := Fr.nil n0
  have pre0 : ∀ t, Steps p.tables e below (s₁.setTop (mkF m 0 #[.val (.int p1), .val (.int p2), .val (.int p3), .val (.int p4), .val (.int p5), .val (.int p6), .unset, .unset, .unset, .unset, .unset, .unset, .unset, .unset] [])) t → Steps p.tables e below (s₁.setTop (entryFrame m #[(.int p1), (.int p2), (.int p3), (.int p4), (.int p5), (.int p6)] maxLocals)) t := fun t k => castTop (ef_rm0 m p1 p2 p3 p4 p5 p6) k
  show own_Fin p e below _ _
  refine own_go pre0 ?_
  obtain ⟨T1, h1, X1, e1, E1, A1, D1, -, st1⟩ := newO X0 hx hZ hown (own_at hw 0 rfl) (own_at hw 1 rfl) (own_at hw 2 rfl) e0 (g := (mkF m 0 #[.val (.int p1), .val (.int p2), .val (.int p3), .val (.int p4), .val (.int p5), .val (.int p6), .unset, .unset, .unset, .unset, .unset, .unset, .unset, .unset] [])) rfl (hb hby at_0) (by decide) (by decide)
  obtain ⟨b1, g1⟩ : ∃ z, z = h0.size := ⟨_, rfl⟩
  rw [← g1] at A1 D1 st1
  refine own_go (fun t k => st1 t k) ?_
  have g_b1 : n0 ≤ b1 := Nat.le_trans Z0 (Nat.le_of_eq g1.symm)
  have f1_0 := SA.ext E1
  have F1_nodes : Fld Z h1 b1 "com/example/liaise/liaise/NodeTable" "nodes" "[I" .null := D1 (Or.inl (own_at hw 11 rfl)) (ty := (.array .int)) (by decide)
  have F1_kept : Fld Z h1 b1 "com/example/liaise/liaise/NodeTable" "kept" "I" (.int 0) := D1 (Or.inl (own_at hw 13 rfl)) (ty := .int) (by decide)
  have F1_held : Fld Z h1 b1 "com/example/liaise/liaise/NodeTable" "held" "[I" .null := D1 (Or.inl (own_at hw 15 rfl)) (ty := (.array .int)) (by decide)
  have F1_slots : Fld Z h1 b1 "com/example/liaise/liaise/NodeTable" "slots" "[I" .null := D1 (Or.inl (own_at hw 17 rfl)) (ty := (.array .int)) (by decide)
  have F1_variables : Fld Z h1 b1 "com/example/liaise/liaise/NodeTable" "variables" "I" (.int 0) := D1 (Or.inr (own_at hw 19 rfl)) (ty := .int) (by decide)
  have F1_cache : Fld Z h1 b1 "com/example/liaise/liaise/NodeTable" "cache" "[I" .null := D1 (Or.inl (own_at hw 29 rfl)) (ty := (.array .int)) (by decide)
  have F1_size : Fld Z h1 b1 "com/example/liaise/liaise/NodeTable" "size" "I" (.int 0) := D1 (Or.inl (own_at hw 50 rfl)) (ty := .int) (by decide)
  have F1_holding : Fld Z h1 b1 "com/example/liaise/liaise/NodeTable" "holding" "I" (.int 0) := D1 (Or.inl (own_at hw 62 rfl)) (ty := .int) (by decide)
  refine own_go (B := T1.setTop (mkF m 8 #[.val (.int p1), .val (.int p2), .val (.int p3), .val (.int p4), .val (.int p5), .val (.int p6), .unset, .unset, .unset, .unset, .unset, .unset, .unset, .unset] [(.int (p1 &&& 7)), (.ref b1), (.ref b1)])) (fun t k => ?_) ?_
  · show Steps p.tables e below (T1.setTop (mkF m 3 #[.val (.int p1), .val (.int p2), .val (.int p3), .val (.int p4), .val (.int p5), .val (.int p6), .unset, .unset, .unset, .unset, .unset, .unset, .unset, .unset] [(.ref b1)])) t
    refine XS.dup X1.here hx rfl (hb hby at_3) rfl rfl ?_
    refine XS.iloadN X1.here hx rfl (hb hby at_4) rfl ?_
    refine XS.bipush X1.here hx rfl (hb hby at_5) ?_
    refine XS.iand X1.here hx rfl (hb hby at_7) rfl ?_
    exact k
  have M2 := rm1 l Z a0 hw [] b1 (p1 &&& (7 : Int32)) h1 n0 (Nat.le_trans Z0 E1.1) A1 F1_variables F1_nodes F1_size F1_kept F1_held F1_holding F1_slots F1_cache g_b1 (own_and7 _)
  obtain ⟨_, _, ⟨T2, L2, k2, n2⟩, -, X2, ⟨Lc2, hQ2, l2, y2, z2⟩, st2⟩ := X1.specialBack hx (y := (⟨"com/example/liaise/liaise/NodeTable", "<init>", "(I)V"⟩ : MethodName)) rfl hown (mvT hZ (own_at hw 3 rfl)) (mvT hZ (own_at hw 4 rfl)) (mvT hZ (own_at hw 5 rfl)) (by decide) (backOf (W := 1) (M2) hZ (own_at hw 5 rfl) (own_at hw 2 rfl) (by decide) (by decide)) (g := (mkF m 8 #[.val (.int p1), .val (.int p2), .val (.int p3), .val (.int p4), .val (.int p5), .val (.int p6), .unset, .unset, .unset, .unset, .unset, .unset, .unset, .unset] [(.int (p1 &&& 7)), (.ref b1), (.ref b1)])) rfl (by rw [hml]; rfl) (Steps.refl _) (a := b1) (argsL := [(.int (p1 &&& 7))]) (rest := [(.ref b1)]) (lenOf pd_rm0_0 rfl) rfl (by show 2 * 0 + _ ≤ _; exact Nat.le_of_eq rfl) (hb hby at_8) (fun _ _ => ⟨rfl, e1, (by decide : 1 + 4 ≤ _), (by decide : 8 + 7170 ≤ _)⟩)
  dsimp only [Pt.U, Pt.locs, Pt.cells, Pt.slots] at X2 l2 y2 z2 st2 hQ2
  subst l2 y2 z2
  obtain ⟨Nx2, Hx2, Sx2, Cx2, sz2, gN2, gH2, gS2, gC2, rfl, N2q, K2, rfl, F2_variables, F2_nodes, F2_size, F2_kept, F2_held, F2_holding, F2_slots, F2_cache, AN2, AH2, AS2, AC2, I2, ⟨g2_N, g2_H, g2_S, g2_C⟩, dd2_0, dd2_1, dd2_2, dd2_3, dd2_4, dd2_5, dd2_6, dd2_7, dd2_8, dd2_9⟩ := hQ2
  have N2 := Fr.app N0 N2q
  obtain ⟨LL2, X2, N2⟩ := own_abs X2 N2
  refine own_go (fun t k => st2.trans k) ?_
  have f2_0 := own_staKeep f1_0 K2 (nsS A1.nostat ns0)
  have f2_1 := A1.keep K2
  refine own_go (B := T2.setTop (mkF m 14 #[.val (.int p1), .val (.int p2), .val (.int p3), .val (.int p4), .val (.int p5), .val (.int p6), .val (.ref b1), .unset, .unset, .unset, .unset, .unset, .unset, .unset] [(.int 1)])) (fun t k => ?_) ?_
  · show Steps p.tables e below (T2.setTop (mkF m 11 #[.val (.int p1), .val (.int p2), .val (.int p3), .val (.int p4), .val (.int p5), .val (.int p6), .unset, .unset, .unset, .unset, .unset, .unset, .unset, .unset] [(.ref b1)])) t
    refine XS.astore X2.here hx rfl (hb hby at_11) rfl rfl (l' := #[.val (.int p1), .val (.int p2), .val (.int p3), .val (.int p4), .val (.int p5), .val (.int p6), .val (.ref b1), .unset, .unset, .unset, .unset, .unset, .unset, .unset]) rfl ?_
    refine XS.iconst X2.here hx rfl (hb hby at_13) ?_
    exact k
  obtain ⟨T3, h3, k3, X3, e3, E3, A3, st3⟩ := newP X2 hx hZ (own_at hw 9 rfl) rfl (g := (mkF m 14 #[.val (.int p1), .val (.int p2), .val (.int p3), .val (.int p4), .val (.int p5), .val (.int p6), .val (.ref b1), .unset, .unset, .unset, .unset, .unset, .unset, .unset] [(.int 1)])) rfl (hb hby at_14) rfl (by decide) (cap := 1) (by decide) (by decide) (by decide) (by decide)
  obtain ⟨b3, g3⟩ : ∃ z, z = T2.heap.size := ⟨_, rfl⟩
  rw [← g3] at A3 st3
  refine own_go (fun t k => st3 t k) ?_
  have g_b3 : n0 ≤ b3 := Nat.le_trans (Nat.le_trans (Nat.le_trans Z0 E1.1) K2.1) (Nat.le_of_eq g3.symm)
  have ne3_b1 : b1 ≠ b3 := Nat.ne_of_lt (Nat.lt_of_lt_of_le f2_1.lt (Nat.le_of_eq g3.symm))
  have ne3_Nx2 : Nx2 ≠ b3 := Nat.ne_of_lt (Nat.lt_of_lt_of_le AN2.lt (Nat.le_of_eq g3.symm))
  have ne3_Hx2 : Hx2 ≠ b3 := Nat.ne_of_lt (Nat.lt_of_lt_of_le AH2.lt (Nat.le_of_eq g3.symm))
  have ne3_Sx2 : Sx2 ≠ b3 := Nat.ne_of_lt (Nat.lt_of_lt_of_le AS2.lt (Nat.le_of_eq g3.symm))
  have ne3_Cx2 : Cx2 ≠ b3 := Nat.ne_of_lt (Nat.lt_of_lt_of_le AC2.lt (Nat.le_of_eq g3.symm))
  have f3_0 := f2_0.ext E3
  have f3_1 := f2_1.ext E3
  have f3_2 := F2_variables.ext E3
  have f3_3 := F2_nodes.ext E3
  have f3_4 := F2_size.ext E3
  have f3_5 := F2_kept.ext E3
  have f3_6 := F2_held.ext E3
  have f3_7 := F2_holding.ext E3
  have f3_8 := F2_slots.ext E3
  have f3_9 := F2_cache.ext E3
  have f3_10 := AN2.ext E3
  have f3_11 := AH2.ext E3
  have f3_12 := AS2.ext E3
  have f3_13 := AC2.ext E3
  have V3 : own_Ag Value.int Z h3 b3 .int (1 : Int32) (fun _ => (0 : Int32)) := own_Ag.new (Arv.new A3 (by decide))
  refine own_go (B := T3.setTop (mkF m 30 #[.val (.int p1), .val (.int p2), .val (.int p3), .val (.int p4), .val (.int p5), .val (.int p6), .val (.ref b1), .val (.ref b3), .val (.int 0), .val (.int 2), .unset, .unset, .unset, .unset] [(.int (p2 &&& 7)), (.ref b1)])) (fun t k => ?_) ?_
  · show Steps p.tables e below (T3.setTop (mkF m 16 #[.val (.int p1), .val (.int p2), .val (.int p3), .val (.int p4), .val (.int p5), .val (.int p6), .val (.ref b1), .unset, .unset, .unset, .unset, .unset, .unset, .unset] [(.ref b3)])) t
    refine XS.astore X3.here hx rfl (hb hby at_16) rfl rfl (l' := #[.val (.int p1), .val (.int p2), .val (.int p3), .val (.int p4), .val (.int p5), .val (.int p6), .val (.ref b1), .val (.ref b3), .unset, .unset, .unset, .unset, .unset, .unset]) rfl ?_
    refine XS.iconst X3.here hx rfl (hb hby at_18) ?_
    refine XS.istore X3.here hx rfl (hb hby at_19) rfl (l' := #[.val (.int p1), .val (.int p2), .val (.int p3), .val (.int p4), .val (.int p5), .val (.int p6), .val (.ref b1), .val (.ref b3), .val (.int 0), .unset, .unset, .unset, .unset, .unset]) rfl ?_
    refine XS.iconst X3.here hx rfl (hb hby at_21) ?_
    refine XS.istore X3.here hx rfl (hb hby at_22) rfl (l' := #[.val (.int p1), .val (.int p2), .val (.int p3), .val (.int p4), .val (.int p5), .val (.int p6), .val (.ref b1), .val (.ref b3), .val (.int 0), .val (.int 2), .unset, .unset, .unset, .unset]) rfl ?_
    show Steps p.tables e below (T3.setTop (mkF m 24 #[.val (.int p1), .val (.int p2), .val (.int p3), .val (.int p4), .val (.int p5), .val (.int p6), .val (.ref b1), .val (.ref b3), .val (.int 0), .val (.int 2), .unset, .unset, .unset, .unset] [])) t
    refine XS.aload X3.here hx rfl (hb hby at_24) rfl rfl ?_
    refine XS.iloadN X3.here hx rfl (hb hby at_26) rfl ?_
    refine XS.bipush X3.here hx rfl (hb hby at_27) ?_
    refine XS.iand X3.here hx rfl (hb hby at_29) rfl ?_
    exact k
  have M4 := rm6 l Z a0 hw [] b1 (p2 &&& (7 : Int32)) Nx2 Sx2 (2 : Int32) gN2 gS2 (p1 &&& (7 : Int32)) _ _ _ _ h3 n0 (Nat.le_trans (Nat.le_trans (Nat.le_trans Z0 E1.1) K2.1) E3.1) f3_1 f3_3 f3_8 f3_4 f3_10 f3_12 g_b1 g2_N g2_S dd2_0 dd2_2 dd2_5 I2 (by decide) f3_2 (own_and7 _) f3_5 f3_6 f3_7 f3_9
  obtain ⟨cq4, kq4, q4a, q4b, q4c⟩ := isOf hZ e3 f3_1
  obtain ⟨_, _, ⟨T4, L4, k4, n4⟩, -, X4, ⟨Lc4, hQ4, l4, y4, z4⟩, st4⟩ := X3.virtualBack hx (y := (⟨"com/example/liaise/liaise/NodeTable", "terminal", "(I)I"⟩ : MethodName)) (z := (⟨"com/example/liaise/liaise/NodeTable", "terminal", "(I)I"⟩ : MethodName)) hown (mvT hZ (own_at hw 55 rfl)) (mvT hZ (own_at hw 35 rfl)) (notFace_of_selects (args := #[]) (mvT hZ (own_at hw 37 rfl))) (mvT hZ (own_at hw 37 rfl)) (mvT hZ (own_at hw 36 rfl)) (by decide) (backOf (W := 0) (M4) hZ (own_at hw 38 rfl) (own_at hw 2 rfl) (by decide) (by decide)) q4a q4c (g := (mkF m 30 #[.val (.int p1), .val (.int p2), .val (.int p3), .val (.int p4), .val (.int p5), .val (.int p6), .val (.ref b1), .val (.ref b3), .val (.int 0), .val (.int 2), .unset, .unset, .unset, .unset] [(.int (p2 &&& 7)), (.ref b1)])) rfl (by rw [hml]; rfl) (Steps.refl _) (argsL := [(.int (p2 &&& 7))]) (rest := []) (lenOf pd_rm0_1 rfl) rfl (by show 2 * 0 + _ ≤ _; exact Nat.le_of_eq rfl) (hb hby at_30) (fun _ _ => ⟨rfl, e3, (by decide : 6 + 0 ≤ _), (by decide : 7179 + 0 ≤ _)⟩)
  dsimp only [Pt.U, Pt.locs, Pt.cells, Pt.slots] at X4 l4 y4 z4 st4 hQ4
  subst l4 y4 z4
  obtain ⟨r4, z4, gN4, gS4, rfl, N4q, K4, Fz4, An4, As4, I4, R4, G4_variables, G4_nodes, G4_kept, G4_held, G4_holding, G4_slots, G4_cache⟩ := hQ4
  have N4 := Fr.app N2 N4q
  obtain ⟨LL4, X4, N4⟩ := own_abs X4 N4
  refine own_go (fun t k => st4.trans k) ?_
  have f4_0 := own_staKeep f3_0 K4 (nsS f3_1.nostat (nsS f3_10.nestat (nsS f3_12.nestat ns0)))
  have f4_1 := f3_1.keep K4
  have ni5 : Hx2 ∉ [b1, Nx2, Sx2] := (ninS (Ne.symm dd2_1) (ninS (Ne.symm dd2_4) (ninS dd2_7 nin0)))
  have f4_11 := f3_11.keep K4 ni5
  have ni6 : Cx2 ∉ [b1, Nx2, Sx2] := (ninS (Ne.symm dd2_3) (ninS (Ne.symm dd2_6) (ninS (Ne.symm dd2_9) nin0)))
  have f4_13 := f3_13.keep K4 ni6
  have ni7 : b3 ∉ [b1, Nx2, Sx2] := (ninS (Ne.symm ne3_b1) (ninS (Ne.symm ne3_Nx2) (ninS (Ne.symm ne3_Sx2) nin0)))
  have f4_14 := V3.keep K4 ni7
  refine own_go (B := T4.setTop (mkF m 35 #[.val (.int p1), .val (.int p2), .val (.int p3), .val (.int p4), .val (.int p5), .val (.int p6), .val (.ref b1), .val (.ref b3), .val (.int 0), .val (.int 2), .val (.int r4), .unset, .unset, .unset] [])) (fun t k => ?_) ?_
  · show Steps p.tables e below (T4.setTop (mkF m 33 #[.val (.int p1), .val (.int p2), .val (.int p3), .val (.int p4), .val (.int p5), .val (.int p6), .val (.ref b1), .val (.ref b3), .val (.int 0), .val (.int 2), .unset, .unset, .unset, .unset] [(.int r4)])) t
    refine XS.istore X4.here hx rfl (hb hby at_33) rfl (l' := #[.val (.int p1), .val (.int p2), .val (.int p3), .val (.int p4), .val (.int p5), .val (.int p6), .val (.ref b1), .val (.ref b3), .val (.int 0), .val (.int 2), .val (.int r4), .unset, .unset, .unset]) rfl ?_
    exact k
  have tb : ∀ (hd : Int32) (gH : Nat → Int32) (T : State) (locs : List Loc) (hp : Heap), (hd = (0 : Int32) ∨ hd = (1 : Int32)) → (hd = (1 : Int32) → gH 0 = r4) → Stand p l e room_1 s m #[(.int p1), (.int p2), (.int p3), (.int p4), (.int p5), (.int p6)] below meth c T locs 6 7179 → T.heap = hp → Fr n0 locs → n0 ≤ hp.size → Sta Z hp "java/util/BitSet" "$assertionsDisabled" "Z" (.int 1) → Exa Z hp b1 "com/example/liaise/liaise/NodeTable" → own_Ag Value.int Z hp Hx2 .int (2 : Int32) gH → own_Ag Value.int Z hp Cx2 .int (2048 : Int32) gC2 → own_Ag Value.int Z hp b3 .int (1 : Int32) (fun _ => (0 : Int32)) → Fld Z hp b1 "com/example/liaise/liaise/NodeTable" "variables" "I" (.int (p1 &&& 7)) → Fld Z hp b1 "com/example/liaise/liaise/NodeTable" "nodes" "[I" (.ref Nx2) → Fld Z hp b1 "com/example/liaise/liaise/NodeTable" "kept" "I" (.int 2) → Fld Z hp b1 "com/example/liaise/liaise/NodeTable" "held" "[I" (.ref Hx2) → Fld Z hp b1 "com/example/liaise/liaise/NodeTable" "holding" "I" (.int hd) → Fld Z hp b1 "com/example/liaise/liaise/NodeTable" "slots" "[I" (.ref Sx2) → Fld Z hp b1 "com/example/liaise/liaise/NodeTable" "cache" "[I" (.ref Cx2) → Fld Z hp b1 "com/example/liaise/liaise/NodeTable" "size" "I" (.int z4) → own_Ag Value.int Z hp Nx2 .int (3072 : Int32) gN4 → own_Ag Value.int Z hp Sx2 .int (2048 : Int32) gS4 → own_Fin p e below (fun o U' => ∃ v L, o = .returned v ∧ Q0 Z p1 p2 p3 p4 p5 p6 h0 n0 v U'.heap L ∧ FrameEnd s o U' L room_1.cells room_1.slots) (T.setTop (mkF m 56 #[.val (.int p1), .val (.int p2), .val (.int p3), .val (.int p4), .val (.int p5), .val (.int p6), .val (.ref b1), .val (.ref b3), .val (.int hd), .val (.int 2), .val (.int r4), .unset, .unset, .unset] [])) := by
    intro hd gH T locs hp hd01 hH X eT Nf Zs tb_0 tb_1 tb_2 tb_3 tb_4 tb_5 tb_6 tb_7 tb_8 tb_9 tb_10 tb_11 tb_12 tb_13 tb_14
    have tc : ∀ (sz8 kp8 : Int32) (gN8 gH8 gS8 : Nat → Int32) (T : State) (locs : List Loc) (hp : Heap), own_I (p1 &&& (7 : Int32)) sz8 gN8 gS8 → sz8.toInt ≤ 3 → Stand p l e room_1 s m #[(.int p1), (.int p2), (.int p3), (.int p4), (.int p5), (.int p6)] below meth c T locs 6 7179 → T.heap = hp → Fr n0 locs → n0 ≤ hp.size → Exa Z hp b1 "com/example/liaise/liaise/NodeTable" → own_Ag Value.int Z hp Hx2 .int (2 : Int32) gH8 → Fld Z hp b1 "com/example/liaise/liaise/NodeTable" "variables" "I" (.int (p1 &&& 7)) → Fld Z hp b1 "com/example/liaise/liaise/NodeTable" "nodes" "[I" (.ref Nx2) → Fld Z hp b1 "com/example/liaise/liaise/NodeTable" "kept" "I" (.int kp8) → Fld Z hp b1 "com/example/liaise/liaise/NodeTable" "held" "[I" (.ref Hx2) → Fld Z hp b1 "com/example/liaise/liaise/NodeTable" "holding" "I" (.int hd) → Fld Z hp b1 "com/example/liaise/liaise/NodeTable" "slots" "[I" (.ref Sx2) → Fld Z hp b1 "com/example/liaise/liaise/NodeTable" "cache" "[I" (.ref Cx2) → Fld Z hp b1 "com/example/liaise/liaise/NodeTable" "size" "I" (.int sz8) → own_Ag Value.int Z hp Nx2 .int (3072 : Int32) gN8 → own_Ag Value.int Z hp Sx2 .int (2048 : Int32) gS8 → own_Fin p e below (fun o U' => ∃ v L, o = .returned v ∧ Q0 Z p1 p2 p3 p4 p5 p6 h0 n0 v U'.heap L ∧ FrameEnd s o U' L room_1.cells room_1.slots) (T.setTop (mkF m 84 #[.val (.int p1), .val (.int p2), .val (.int p3), .val (.int p4), .val (.int p5), .val (.int p6), .val (.ref b1), .val (.ref b3), .val (.int hd), .val (.int kp8), .val (.int r4), .unset, .unset, .unset] [])) := by
      intro sz8 kp8 gN8 gH8 gS8 T locs hp Ix8 hs3 X eT Nf Zs tc_0 tc_1 tc_2 tc_3 tc_4 tc_5 tc_6 tc_7 tc_8 tc_9 tc_10 tc_11
      refine own_go (B := T.setTop (mkF m 90 #[.val (.int p1), .val (.int p2), .val (.int p3), .val (.int p4), .val (.int p5), .val (.int p6), .val (.ref b1), .val (.ref b3), .val (.int hd), .val (.int kp8), .val (.int r4), .unset, .unset, .unset] [(.int (p3 &&& 7)), (.ref b1)])) (fun t k => ?_) ?_
      · show Steps p.tables e below (T.setTop (mkF m 84 #[.val (.int p1), .val (.int p2), .val (.int p3), .val (.int p4), .val (.int p5), .val (.int p6), .val (.ref b1), .val (.ref b3), .val (.int hd), .val (.int kp8), .val (.int r4), .unset, .unset, .unset] [])) t
        refine XS.aload X.here hx rfl (hb hby at_84) rfl rfl ?_
        refine XS.iloadN X.here hx rfl (hb hby at_86) rfl ?_
        refine XS.bipush X.here hx rfl (hb hby at_87) ?_
        refine XS.iand X.here hx rfl (hb hby at_89) rfl ?_
        exact k
      have M8 := rm6 l Z a0 hw [] b1 (p3 &&& (7 : Int32)) Nx2 Sx2 sz8 gN8 gS8 (p1 &&& (7 : Int32)) _ _ _ _ hp n0 Zs tc_0 tc_3 tc_7 tc_9 tc_10 tc_11 g_b1 g2_N g2_S dd2_0 dd2_2 dd2_5 Ix8 (Int.le_trans hs3 (by decide)) tc_2 (own_and7 _) tc_4 tc_5 tc_6 tc_8
      obtain ⟨cq8, kq8, q8a, q8b, q8c⟩ := isOf hZ eT tc_0
      obtain ⟨_, _, ⟨T8, L8, k8, n8⟩, -, X8, ⟨Lc8, hQ8, l8, y8, z8⟩, st8⟩ := X.virtualBack hx (y := (⟨"com/example/liaise/liaise/NodeTable", "terminal", "(I)I"⟩ : MethodName)) (z := (⟨"com/example/liaise/liaise/NodeTable", "terminal", "(I)I"⟩ : MethodName)) hown (mvT hZ (own_at hw 55 rfl)) (mvT hZ (own_at hw 35 rfl)) (notFace_of_selects (args := #[]) (mvT hZ (own_at hw 37 rfl))) (mvT hZ (own_at hw 37 rfl)) (mvT hZ (own_at hw 36 rfl)) (by decide) (backOf (W := 0) (M8) hZ (own_at hw 38 rfl) (own_at hw 2 rfl) (by decide) (by decide)) q8a q8c (g := (mkF m 90 #[.val (.int p1), .val (.int p2), .val (.int p3), .val (.int p4), .val (.int p5), .val (.int p6), .val (.ref b1), .val (.ref b3), .val (.int hd), .val (.int kp8), .val (.int r4), .unset, .unset, .unset] [(.int (p3 &&& 7)), (.ref b1)])) rfl (by rw [hml]; rfl) (Steps.refl _) (argsL := [(.int (p3 &&& 7))]) (rest := []) (lenOf pd_rm0_1 rfl) rfl (by show 2 * 0 + _ ≤ _; exact Nat.le_of_eq rfl) (hb hby at_90) (fun _ _ => ⟨rfl, eT, (by decide : 6 + 0 ≤ _), (by decide : 7179 + 0 ≤ _)⟩)
      dsimp only [Pt.U, Pt.locs, Pt.cells, Pt.slots] at X8 l8 y8 z8 st8 hQ8
      subst l8 y8 z8
      obtain ⟨r8, z8, gN8, gS8, rfl, N8q, K8, Fz8, An8, As8, I8, R8, G8_variables, G8_nodes, G8_kept, G8_held, G8_holding, G8_slots, G8_cache⟩ := hQ8
      have N8 := Fr.app Nf N8q
      obtain ⟨LL8, X8, N8⟩ := own_abs X8 N8
      refine own_go (fun t k => st8.trans k) ?_
      have f8_0 := tc_0.keep K8
      have f8_1 := tc_1.keep K8 ni5
      have hq8 : z8.toInt ≤ (3 : Int) + 1 := own_Rle R8 Ix8.1 hs3 (by decide)
      have hr8 : z8.toInt ≤ 4 := hq8
      refine own_go (B := T8.setTop (mkF m 101 #[.val (.int p1), .val (.int p2), .val (.int p3), .val (.int p4), .val (.int p5), .val (.int p6), .val (.ref b1), .val (.ref b3), .val (.int hd), .val (.int kp8), .val (.int r4), .val (.int r8), .unset, .unset] [(.int (p4 &&& 7)), (.ref b1)])) (fun t k => ?_) ?_
      · show Steps p.tables e below (T8.setTop (mkF m 93 #[.val (.int p1), .val (.int p2), .val (.int p3), .val (.int p4), .val (.int p5), .val (.int p6), .val (.ref b1), .val (.ref b3), .val (.int hd), .val (.int kp8), .val (.int r4), .unset, .unset, .unset] [(.int r8)])) t
        refine XS.istore X8.here hx rfl (hb hby at_93) rfl (l' := #[.val (.int p1), .val (.int p2), .val (.int p3), .val (.int p4), .val (.int p5), .val (.int p6), .val (.ref b1), .val (.ref b3), .val (.int hd), .val (.int kp8), .val (.int r4), .val (.int r8), .unset, .unset]) rfl ?_
        refine XS.aload X8.here hx rfl (hb hby at_95) rfl rfl ?_
        refine XS.iloadN X8.here hx rfl (hb hby at_97) rfl ?_
        refine XS.bipush X8.here hx rfl (hb hby at_98) ?_
        refine XS.iand X8.here hx rfl (hb hby at_100) rfl ?_
        exact k
      have M9 := rm6 l Z a0 hw [] b1 (p4 &&& (7 : Int32)) Nx2 Sx2 z8 gN8 gS8 (p1 &&& (7 : Int32)) _ _ _ _ T8.heap n0 (Nat.le_trans Zs K8.1) f8_0 G8_nodes G8_slots Fz8 An8 As8 g_b1 g2_N g2_S dd2_0 dd2_2 dd2_5 I8 (Int.le_trans hr8 (by decide)) G8_variables (own_and7 _) G8_kept G8_held G8_holding G8_cache
      obtain ⟨cq9, kq9, q9a, q9b, q9c⟩ := isOf hZ rfl f8_0
      obtain ⟨_, _, ⟨T9, L9, k9, n9⟩, -, X9, ⟨Lc9, hQ9, l9, y9, z9⟩, st9⟩ := X8.virtualBack hx (y := (⟨"com/example/liaise/liaise/NodeTable", "terminal", "(I)I"⟩ : MethodName)) (z := (⟨"com/example/liaise/liaise/NodeTable", "terminal", "(I)I"⟩ : MethodName)) hown (mvT hZ (own_at hw 55 rfl)) (mvT hZ (own_at hw 35 rfl)) (notFace_of_selects (args := #[]) (mvT hZ (own_at hw 37 rfl))) (mvT hZ (own_at hw 37 rfl)) (mvT hZ (own_at hw 36 rfl)) (by decide) (backOf (W := 0) (M9) hZ (own_at hw 38 rfl) (own_at hw 2 rfl) (by decide) (by decide)) q9a q9c (g := (mkF m 101 #[.val (.int p1), .val (.int p2), .val (.int p3), .val (.int p4), .val (.int p5), .val (.int p6), .val (.ref b1), .val (.ref b3), .val (.int hd), .val (.int kp8), .val (.int r4), .val (.int r8), .unset, .unset] [(.int (p4 &&& 7)), (.ref b1)])) rfl (by rw [hml]; rfl) (Steps.refl _) (argsL := [(.int (p4 &&& 7))]) (rest := []) (lenOf pd_rm0_1 rfl) rfl (by show 2 * 0 + _ ≤ _; exact Nat.le_of_eq rfl) (hb hby at_101) (fun _ _ => ⟨rfl, rfl, (by decide : 6 + 0 ≤ _), (by decide : 7179 + 0 ≤ _)⟩)
      dsimp only [Pt.U, Pt.locs, Pt.cells, Pt.slots] at X9 l9 y9 z9 st9 hQ9
      subst l9 y9 z9
      obtain ⟨r9, z9, gN9, gS9, rfl, N9q, K9, Fz9, An9, As9, I9, R9, G9_variables, G9_nodes, G9_kept, G9_held, G9_holding, G9_slots, G9_cache⟩ := hQ9
      have N9 := Fr.app N8 N9q
      obtain ⟨LL9, X9, N9⟩ := own_abs X9 N9
      refine own_go (fun t k => st9.trans k) ?_
      have f9_0 := f8_0.keep K9
      have f9_1 := f8_1.keep K9 ni5
      have hq9 : z9.toInt ≤ (4 : Int) + 1 := own_Rle R9 I8.1 hr8 (by decide)
      have hr9 : z9.toInt ≤ 5 := hq9
      refine own_go (B := T9.setTop (mkF m 112 #[.val (.int p1), .val (.int p2), .val (.int p3), .val (.int p4), .val (.int p5), .val (.int p6), .val (.ref b1), .val (.ref b3), .val (.int hd), .val (.int kp8), .val (.int r4), .val (.int r8), .unset, .unset] [(.int (p5 &&& 7)), (.ref b1)])) (fun t k => ?_) ?_
      · show Steps p.tables e below (T9.setTop (mkF m 104 #[.val (.int p1), .val (.int p2), .val (.int p3), .val (.int p4), .val (.int p5), .val (.int p6), .val (.ref b1), .val (.ref b3), .val (.int hd), .val (.int kp8), .val (.int r4), .val (.int r8), .unset, .unset] [(.int r9)])) t
        refine XS.pop X9.here hx rfl (hb hby at_104) rfl rfl ?_
        refine XS.aload X9.here hx rfl (hb hby at_105) rfl rfl ?_
        refine XS.iload X9.here hx rfl (hb hby at_107) rfl ?_
        refine XS.bipush X9.here hx rfl (hb hby at_109) ?_
        refine XS.iand X9.here hx rfl (hb hby at_111) rfl ?_
        exact k
      have M10 := rm6 l Z a0 hw [] b1 (p5 &&& (7 : Int32)) Nx2 Sx2 z9 gN9 gS9 (p1 &&& (7 : Int32)) _ _ _ _ T9.heap n0 (Nat.le_trans (Nat.le_trans Zs K8.1) K9.1) f9_0 G9_nodes G9_slots Fz9 An9 As9 g_b1 g2_N g2_S dd2_0 dd2_2 dd2_5 I9 (Int.le_trans hr9 (by decide)) G9_variables (own_and7 _) G9_kept G9_held G9_holding G9_cache
      obtain ⟨cq10, kq10, q10a, q10b, q10c⟩ := isOf hZ rfl f9_0
      obtain ⟨_, _, ⟨T10, L10, k10, n10⟩, -, X10, ⟨Lc10, hQ10, l10, y10, z10⟩, st10⟩ := X9.virtualBack hx (y := (⟨"com/example/liaise/liaise/NodeTable", "terminal", "(I)I"⟩ : MethodName)) (z := (⟨"com/example/liaise/liaise/NodeTable", "terminal", "(I)I"⟩ : MethodName)) hown (mvT hZ (own_at hw 55 rfl)) (mvT hZ (own_at hw 35 rfl)) (notFace_of_selects (args := #[]) (mvT hZ (own_at hw 37 rfl))) (mvT hZ (own_at hw 37 rfl)) (mvT hZ (own_at hw 36 rfl)) (by decide) (backOf (W := 0) (M10) hZ (own_at hw 38 rfl) (own_at hw 2 rfl) (by decide) (by decide)) q10a q10c (g := (mkF m 112 #[.val (.int p1), .val (.int p2), .val (.int p3), .val (.int p4), .val (.int p5), .val (.int p6), .val (.ref b1), .val (.ref b3), .val (.int hd), .val (.int kp8), .val (.int r4), .val (.int r8), .unset, .unset] [(.int (p5 &&& 7)), (.ref b1)])) rfl (by rw [hml]; rfl) (Steps.refl _) (argsL := [(.int (p5 &&& 7))]) (rest := []) (lenOf pd_rm0_1 rfl) rfl (by show 2 * 0 + _ ≤ _; exact Nat.le_of_eq rfl) (hb hby at_112) (fun _ _ => ⟨rfl, rfl, (by decide : 6 + 0 ≤ _), (by decide : 7179 + 0 ≤ _)⟩)
      dsimp only [Pt.U, Pt.locs, Pt.cells, Pt.slots] at X10 l10 y10 z10 st10 hQ10
      subst l10 y10 z10
      obtain ⟨r10, z10, gN10, gS10, rfl, N10q, K10, Fz10, An10, As10, I10, R10, G10_variables, G10_nodes, G10_kept, G10_held, G10_holding, G10_slots, G10_cache⟩ := hQ10
      have N10 := Fr.app N9 N10q
      obtain ⟨LL10, X10, N10⟩ := own_abs X10 N10
      refine own_go (fun t k => st10.trans k) ?_
      have f10_0 := f9_0.keep K10
      have f10_1 := f9_1.keep K10 ni5
      have hq10 : z10.toInt ≤ (5 : Int) + 1 := own_Rle R10 I9.1 hr9 (by decide)
      have hr10 : z10.toInt ≤ 6 := hq10
      refine own_go (B := T10.setTop (mkF m 120 #[.val (.int p1), .val (.int p2), .val (.int p3), .val (.int p4), .val (.int p5), .val (.int p6), .val (.ref b1), .val (.ref b3), .val (.int hd), .val (.int kp8), .val (.int r4), .val (.int r8), .unset, .unset] [(.int (p6 &&& 4))])) (fun t k => ?_) ?_
      · show Steps p.tables e below (T10.setTop (mkF m 115 #[.val (.int p1), .val (.int p2), .val (.int p3), .val (.int p4), .val (.int p5), .val (.int p6), .val (.ref b1), .val (.ref b3), .val (.int hd), .val (.int kp8), .val (.int r4), .val (.int r8), .unset, .unset] [(.int r10)])) t
        refine XS.pop X10.here hx rfl (hb hby at_115) rfl rfl ?_
        refine XS.iload X10.here hx rfl (hb hby at_116) rfl ?_
        refine XS.iconst X10.here hx rfl (hb hby at_118) ?_
        refine XS.iand X10.here hx rfl (hb hby at_119) rfl ?_
        exact k
      by_cases hc120_11 : (p6 &&& (4 : Int32)) = (0 : Int32)
      · refine own_go (B := T10.setTop (mkF m 137 #[.val (.int p1), .val (.int p2), .val (.int p3), .val (.int p4), .val (.int p5), .val (.int p6), .val (.ref b1), .val (.ref b3), .val (.int hd), .val (.int kp8), .val (.int r4), .val (.int r8), .unset, .unset] [])) (fun t k => ?_) ?_
        · refine XS.ifYes X10.here hx rfl (pc0 := 120) (pc' := 137) rfl (hb hby at_120) rfl ((if0 _ _).trans (teq hc120_11).1) (by decide) (by decide) ?_
          exact k
        refine own_go (B := T10.setTop (mkF m 139 #[.val (.int p1), .val (.int p2), .val (.int p3), .val (.int p4), .val (.int p5), .val (.int p6), .val (.ref b1), .val (.ref b3), .val (.int hd), .val (.int kp8), .val (.int r4), .val (.int r8), .unset, .unset] [(.ref b1)])) (fun t k => ?_) ?_
        · refine XS.aload X10.here hx rfl (hb hby at_137) rfl rfl ?_
          exact k
        have M12 := rm30 l Z a0 hw [] b1 z10 kp8 hd T10.heap n0 (Nat.le_trans (Nat.le_trans (Nat.le_trans Zs K8.1) K9.1) K10.1) Fz10 G10_kept G10_holding
        obtain ⟨cq12, kq12, q12a, q12b, q12c⟩ := isOf hZ rfl f10_0
        obtain ⟨_, _, ⟨T12, L12, k12, n12⟩, -, X12, ⟨Lc12, hQ12, l12, y12, z12⟩, st12⟩ := X10.virtualBack hx (y := (⟨"com/example/liaise/liaise/NodeTable", "crowded", "()Z"⟩ : MethodName)) (z := (⟨"com/example/liaise/liaise/NodeTable", "crowded", "()Z"⟩ : MethodName)) hown (mvT hZ (own_at hw 163 rfl)) (mvT hZ (own_at hw 164 rfl)) (notFace_of_selects (args := #[]) (mvT hZ (own_at hw 166 rfl))) (mvT hZ (own_at hw 166 rfl)) (mvT hZ (own_at hw 165 rfl)) (by decide) (backOf (W := 0) (M12) hZ (own_at hw 167 rfl) (own_at hw 2 rfl) (by decide) (by decide)) q12a q12c (g := (mkF m 139 #[.val (.int p1), .val (.int p2), .val (.int p3), .val (.int p4), .val (.int p5), .val (.int p6), .val (.ref b1), .val (.ref b3), .val (.int hd), .val (.int kp8), .val (.int r4), .val (.int r8), .unset, .unset] [(.ref b1)])) rfl (by rw [hml]; rfl) (Steps.refl _) (argsL := []) (rest := []) (lenOf pd_rm0_2 rfl) rfl (by show 2 * 0 + _ ≤ _; exact Nat.le_of_eq rfl) (hb hby at_139) (fun _ _ => ⟨rfl, rfl, (by decide : 6 + 0 ≤ _), (by decide : 7179 + 0 ≤ _)⟩)
        dsimp only [Pt.U, Pt.locs, Pt.cells, Pt.slots] at X12 l12 y12 z12 st12 hQ12
        subst l12 y12 z12
        obtain ⟨rfl, N12q, hh12⟩ := hQ12
        have N12 := Fr.app N10 N12q
        obtain ⟨LL12, X12, N12⟩ := own_abs X12 N12
        refine own_go (fun t k => st12.trans k) ?_
        refine own_go (B := T12.setTop (mkF m 146 #[.val (.int p1), .val (.int p2), .val (.int p3), .val (.int p4), .val (.int p5), .val (.int p6), .val (.ref b1), .val (.ref b3), .val (.int hd), .val (.int kp8), .val (.int r4), .val (.int r8), .val (.int (if z10 < (((2 : Int32) * kp8) + hd) then (0 : Int32) else (1 : Int32))), .unset] [(.ref b1)])) (fun t k => ?_) ?_
        · show Steps p.tables e below (T12.setTop (mkF m 142 #[.val (.int p1), .val (.int p2), .val (.int p3), .val (.int p4), .val (.int p5), .val (.int p6), .val (.ref b1), .val (.ref b3), .val (.int hd), .val (.int kp8), .val (.int r4), .val (.int r8), .unset, .unset] [(.int (if z10 < (((2 : Int32) * kp8) + hd) then (0 : Int32) else (1 : Int32)))])) t
          refine XS.istore X12.here hx rfl (hb hby at_142) rfl (l' := #[.val (.int p1), .val (.int p2), .val (.int p3), .val (.int p4), .val (.int p5), .val (.int p6), .val (.ref b1), .val (.ref b3), .val (.int hd), .val (.int kp8), .val (.int r4), .val (.int r8), .val (.int (if z10 < (((2 : Int32) * kp8) + hd) then (0 : Int32) else (1 : Int32))), .unset]) rfl ?_
          refine XS.aload X12.here hx rfl (hb hby at_144) rfl rfl ?_
          exact k
        have M13 := rm29 l Z a0 hw [] b1 z10 T10.heap n0 (Nat.le_trans (Nat.le_trans (Nat.le_trans Zs K8.1) K9.1) K10.1) Fz10
        obtain ⟨cq13, kq13, q13a, q13b, q13c⟩ := isOf hZ hh12 f10_0
        obtain ⟨_, _, ⟨T13, L13, k13, n13⟩, -, X13, ⟨Lc13, hQ13, l13, y13, z13⟩, st13⟩ := X12.virtualBack hx (y := (⟨"com/example/liaise/liaise/NodeTable", "size", "()I"⟩ : MethodName)) (z := (⟨"com/example/liaise/liaise/NodeTable", "size", "()I"⟩ : MethodName)) hown (mvT hZ (own_at hw 158 rfl)) (mvT hZ (own_at hw 159 rfl)) (notFace_of_selects (args := #[]) (mvT hZ (own_at hw 161 rfl))) (mvT hZ (own_at hw 161 rfl)) (mvT hZ (own_at hw 160 rfl)) (by decide) (backOf (W := 0) (M13) hZ (own_at hw 162 rfl) (own_at hw 2 rfl) (by decide) (by decide)) q13a q13c (g := (mkF m 146 #[.val (.int p1), .val (.int p2), .val (.int p3), .val (.int p4), .val (.int p5), .val (.int p6), .val (.ref b1), .val (.ref b3), .val (.int hd), .val (.int kp8), .val (.int r4), .val (.int r8), .val (.int (if z10 < (((2 : Int32) * kp8) + hd) then (0 : Int32) else (1 : Int32))), .unset] [(.ref b1)])) rfl (by rw [hml]; rfl) (Steps.refl _) (argsL := []) (rest := []) (lenOf pd_rm0_3 rfl) rfl (by show 2 * 0 + _ ≤ _; exact Nat.le_of_eq rfl) (hb hby at_146) (fun _ _ => ⟨rfl, hh12, (by decide : 6 + 0 ≤ _), (by decide : 7179 + 0 ≤ _)⟩)
        dsimp only [Pt.U, Pt.locs, Pt.cells, Pt.slots] at X13 l13 y13 z13 st13 hQ13
        subst l13 y13 z13
        obtain ⟨rfl, N13q, hh13⟩ := hQ13
        have N13 := Fr.app N12 N13q
        obtain ⟨LL13, X13, N13⟩ := own_abs X13 N13
        refine own_go (fun t k => st13.trans k) ?_
        refine own_go (B := T13.setTop (mkF m 156 #[.val (.int p1), .val (.int p2), .val (.int p3), .val (.int p4), .val (.int p5), .val (.int p6), .val (.ref b1), .val (.ref b3), .val (.int hd), .val (.int kp8), .val (.int r4), .val (.int r8), .val (.int (if z10 < (((2 : Int32) * kp8) + hd) then (0 : Int32) else (1 : Int32))), .unset] [(.int (((2 : Int32) * kp8) + hd)), (.int z10)])) (fun t k => ?_) ?_
        · show Steps p.tables e below (T13.setTop (mkF m 149 #[.val (.int p1), .val (.int p2), .val (.int p3), .val (.int p4), .val (.int p5), .val (.int p6), .val (.ref b1), .val (.ref b3), .val (.int hd), .val (.int kp8), .val (.int r4), .val (.int r8), .val (.int (if z10 < (((2 : Int32) * kp8) + hd) then (0 : Int32) else (1 : Int32))), .unset] [(.int z10)])) t
          refine XS.iconst X13.here hx rfl (hb hby at_149) ?_
          refine XS.iload X13.here hx rfl (hb hby at_150) rfl ?_
          refine XS.imul X13.here hx rfl (hb hby at_152) rfl ?_
          refine XS.iload X13.here hx rfl (hb hby at_153) rfl ?_
          refine XS.iadd X13.here hx rfl (hb hby at_155) rfl ?_
          exact k
        by_cases hc156_14 : z10 < (((2 : Int32) * kp8) + hd)
        · refine own_go (B := T13.setTop (mkF m 163 #[.val (.int p1), .val (.int p2), .val (.int p3), .val (.int p4), .val (.int p5), .val (.int p6), .val (.ref b1), .val (.ref b3), .val (.int hd), .val (.int kp8), .val (.int r4), .val (.int r8), .val (.int (if z10 < (((2 : Int32) * kp8) + hd) then (0 : Int32) else (1 : Int32))), .unset] [])) (fun t k => ?_) ?_
          · refine XS.icmpYes X13.here hx rfl (pc0 := 156) (pc' := 163) rfl (hb hby at_156) rfl (tlt hc156_14).1 (by decide) (by decide) ?_
            exact k
          refine own_go (B := T13.setTop (mkF m 178 #[.val (.int p1), .val (.int p2), .val (.int p3), .val (.int p4), .val (.int p5), .val (.int p6), .val (.ref b1), .val (.ref b3), .val (.int hd), .val (.int kp8), .val (.int r4), .val (.int r8), .val (.int (if z10 < (((2 : Int32) * kp8) + hd) then (0 : Int32) else (1 : Int32))), .val (.int 0)] [(.int 1)])) (fun t k => ?_) ?_
          · refine XS.iconst X13.here hx rfl (hb hby at_163) ?_
            refine XS.istore X13.here hx rfl (hb hby at_164) rfl (l' := #[.val (.int p1), .val (.int p2), .val (.int p3), .val (.int p4), .val (.int p5), .val (.int p6), .val (.ref b1), .val (.ref b3), .val (.int hd), .val (.int kp8), .val (.int r4), .val (.int r8), .val (.int (if z10 < (((2 : Int32) * kp8) + hd) then (0 : Int32) else (1 : Int32))), .val (.int 0)]) rfl ?_
            refine XS.iload X13.here hx rfl (hb hby at_166) rfl ?_
            refine XS.iload X13.here hx rfl (hb hby at_168) rfl ?_
            show Steps p.tables e below (T13.setTop (mkF m 170 #[.val (.int p1), .val (.int p2), .val (.int p3), .val (.int p4), .val (.int p5), .val (.int p6), .val (.ref b1), .val (.ref b3), .val (.int hd), .val (.int kp8), .val (.int r4), .val (.int r8), .val (.int (if z10 < (((2 : Int32) * kp8) + hd) then (0 : Int32) else (1 : Int32))), .val (.int 0)] [(.int 0), (.int (if z10 < (((2 : Int32) * kp8) + hd) then (0 : Int32) else (1 : Int32)))])) t
            refine XS.icmpNo X13.here hx rfl (hb hby at_170) rfl (teq (if_pos hc156_14 : (if z10 < (((2 : Int32) * kp8) + hd) then (0 : Int32) else (1 : Int32)) = (0 : Int32))).2 ?_
            refine XS.iconst X13.here hx rfl (hb hby at_173) ?_
            show Steps p.tables e below (T13.setTop (mkF m 174 #[.val (.int p1), .val (.int p2), .val (.int p3), .val (.int p4), .val (.int p5), .val (.int p6), .val (.ref b1), .val (.ref b3), .val (.int hd), .val (.int kp8), .val (.int r4), .val (.int r8), .val (.int (if z10 < (((2 : Int32) * kp8) + hd) then (0 : Int32) else (1 : Int32))), .val (.int 0)] [(.int 1)])) t
            refine XS.goto X13.here hx rfl (pc0 := 174) (pc' := 178) rfl (hb hby at_174) (by decide) (by decide) ?_
            exact k
          obtain ⟨fs, hr, hrun, hended, hW, hsame⟩ := X13.leave (v := some (.int 1)) (fun h => by rw [Bd.returns] at h; cases h)
          refine ⟨_, _, ?_, hrun, hended, _, _, rfl, ?_, ⟨_, rfl⟩, hW, hsame.mono (by decide) (by decide)⟩
          · show Steps p.tables e below (T13.setTop (mkF m 178 #[.val (.int p1), .val (.int p2), .val (.int p3), .val (.int p4), .val (.int p5), .val (.int p6), .val (.ref b1), .val (.ref b3), .val (.int hd), .val (.int kp8), .val (.int r4), .val (.int r8), .val (.int (if z10 < (((2 : Int32) * kp8) + hd) then (0 : Int32) else (1 : Int32))), .val (.int 0)] [(.int 1)])) _
            exact retN X13 hx (t := .boolean) Bd.returns (by simp) (hb hby at_178) hr
          · show Q0 Z p1 p2 p3 p4 p5 p6 h0 n0 _ T13.heap _
            rw [hh13]
            exact ⟨rfl, N13⟩
        · refine own_go (B := T13.setTop (mkF m 159 #[.val (.int p1), .val (.int p2), .val (.int p3), .val (.int p4), .val (.int p5), .val (.int p6), .val (.ref b1), .val (.ref b3), .val (.int hd), .val (.int kp8), .val (.int r4), .val (.int r8), .val (.int (if z10 < (((2 : Int32) * kp8) + hd) then (0 : Int32) else (1 : Int32))), .unset] [])) (fun t k => ?_) ?_
          · refine XS.icmpNo X13.here hx rfl (hb hby at_156) rfl (flt hc156_14).1 ?_
            exact k
          refine own_go (B := T13.setTop (mkF m 178 #[.val (.int p1), .val (.int p2), .val (.int p3), .val (.int p4), .val (.int p5), .val (.int p6), .val (.ref b1), .val (.ref b3), .val (.int hd), .val (.int kp8), .val (.int r4), .val (.int r8), .val (.int (if z10 < (((2 : Int32) * kp8) + hd) then (0 : Int32) else (1 : Int32))), .val (.int 1)] [(.int 1)])) (fun t k => ?_) ?_
          · refine XS.iconst X13.here hx rfl (hb hby at_159) ?_
            refine XS.goto X13.here hx rfl (pc0 := 160) (pc' := 164) rfl (hb hby at_160) (by decide) (by decide) ?_
            refine XS.istore X13.here hx rfl (hb hby at_164) rfl (l' := #[.val (.int p1), .val (.int p2), .val (.int p3), .val (.int p4), .val (.int p5), .val (.int p6), .val (.ref b1), .val (.ref b3), .val (.int hd), .val (.int kp8), .val (.int r4), .val (.int r8), .val (.int (if z10 < (((2 : Int32) * kp8) + hd) then (0 : Int32) else (1 : Int32))), .val (.int 1)]) rfl ?_
            refine XS.iload X13.here hx rfl (hb hby at_166) rfl ?_
            refine XS.iload X13.here hx rfl (hb hby at_168) rfl ?_
            show Steps p.tables e below (T13.setTop (mkF m 170 #[.val (.int p1), .val (.int p2), .val (.int p3), .val (.int p4), .val (.int p5), .val (.int p6), .val (.ref b1), .val (.ref b3), .val (.int hd), .val (.int kp8), .val (.int r4), .val (.int r8), .val (.int (if z10 < (((2 : Int32) * kp8) + hd) then (0 : Int32) else (1 : Int32))), .val (.int 1)] [(.int 1), (.int (if z10 < (((2 : Int32) * kp8) + hd) then (0 : Int32) else (1 : Int32)))])) t
            refine XS.icmpNo X13.here hx rfl (hb hby at_170) rfl (teq (if_neg hc156_14 : (if z10 < (((2 : Int32) * kp8) + hd) then (0 : Int32) else (1 : Int32)) = (1 : Int32))).2 ?_
            show Steps p.tables e below (T13.setTop (mkF m 173 #[.val (.int p1), .val (.int p2), .val (.int p3), .val (.int p4), .val (.int p5), .val (.int p6), .val (.ref b1), .val (.ref b3), .val (.int hd), .val (.int kp8), .val (.int r4), .val (.int r8), .val (.int (if z10 < (((2 : Int32) * kp8) + hd) then (0 : Int32) else (1 : Int32))), .val (.int 1)] [])) t
            refine XS.iconst X13.here hx rfl (hb hby at_173) ?_
            refine XS.goto X13.here hx rfl (pc0 := 174) (pc' := 178) rfl (hb hby at_174) (by decide) (by decide) ?_
            exact k
          obtain ⟨fs, hr, hrun, hended, hW, hsame⟩ := X13.leave (v := some (.int 1)) (fun h => by rw [Bd.returns] at h; cases h)
          refine ⟨_, _, ?_, hrun, hended, _, _, rfl, ?_, ⟨_, rfl⟩, hW, hsame.mono (by decide) (by decide)⟩
          · show Steps p.tables e below (T13.setTop (mkF m 178 #[.val (.int p1), .val (.int p2), .val (.int p3), .val (.int p4), .val (.int p5), .val (.int p6), .val (.ref b1), .val (.ref b3), .val (.int hd), .val (.int kp8), .val (.int r4), .val (.int r8), .val (.int (if z10 < (((2 : Int32) * kp8) + hd) then (0 : Int32) else (1 : Int32))), .val (.int 1)] [(.int 1)])) _
            exact retN X13 hx (t := .boolean) Bd.returns (by simp) (hb hby at_178) hr
          · show Q0 Z p1 p2 p3 p4 p5 p6 h0 n0 _ T13.heap _
            rw [hh13]
            exact ⟨rfl, N13⟩
      · refine own_go (B := T10.setTop (mkF m 123 #[.val (.int p1), .val (.int p2), .val (.int p3), .val (.int p4), .val (.int p5), .val (.int p6), .val (.ref b1), .val (.ref b3), .val (.int hd), .val (.int kp8), .val (.int r4), .val (.int r8), .unset, .unset] [])) (fun t k => ?_) ?_
        · refine XS.ifNo X10.here hx rfl (hb hby at_120) rfl ((if0 _ _).trans (feq hc120_11).1) ?_
          exact k
        refine own_go (B := T10.setTop (mkF m 127 #[.val (.int p1), .val (.int p2), .val (.int p3), .val (.int p4), .val (.int p5), .val (.int p6), .val (.ref b1), .val (.ref b3), .val (.int hd), .val (.int kp8), .val (.int r4), .val (.int r8), .unset, .unset] [(.int r8), (.ref b1)])) (fun t k => ?_) ?_
        · refine XS.aload X10.here hx rfl (hb hby at_123) rfl rfl ?_
          refine XS.iload X10.here hx rfl (hb hby at_125) rfl ?_
          exact k
        have M15 := rm10 l Z a0 hw [] b1 r8 Hx2 hd gH8 _ _ _ _ _ _ T10.heap n0 (Nat.le_trans (Nat.le_trans (Nat.le_trans Zs K8.1) K9.1) K10.1) f10_0 G10_held G10_holding f10_1 g_b1 g2_H dd2_1 hd01 G10_variables G10_nodes Fz10 G10_kept G10_slots G10_cache
        obtain ⟨cq15, kq15, q15a, q15b, q15c⟩ := isOf hZ rfl f10_0
        obtain ⟨_, _, ⟨T15, L15, k15, n15⟩, -, X15, ⟨Lc15, hQ15, l15, y15, z15⟩, st15⟩ := X10.virtualBack hx (y := (⟨"com/example/liaise/liaise/NodeTable", "hold", "(I)I"⟩ : MethodName)) (z := (⟨"com/example/liaise/liaise/NodeTable", "hold", "(I)I"⟩ : MethodName)) hown (mvT hZ (own_at hw 56 rfl)) (mvT hZ (own_at hw 57 rfl)) (notFace_of_selects (args := #[]) (mvT hZ (own_at hw 59 rfl))) (mvT hZ (own_at hw 59 rfl)) (mvT hZ (own_at hw 58 rfl)) (by decide) (backOf (W := 0) (M15) hZ (own_at hw 60 rfl) (own_at hw 2 rfl) (by decide) (by decide)) q15a q15c (g := (mkF m 127 #[.val (.int p1), .val (.int p2), .val (.int p3), .val (.int p4), .val (.int p5), .val (.int p6), .val (.ref b1), .val (.ref b3), .val (.int hd), .val (.int kp8), .val (.int r4), .val (.int r8), .unset, .unset] [(.int r8), (.ref b1)])) rfl (by rw [hml]; rfl) (Steps.refl _) (argsL := [(.int r8)]) (rest := []) (lenOf pd_rm0_1 rfl) rfl (by show 2 * 0 + _ ≤ _; exact Nat.le_of_eq rfl) (hb hby at_127) (fun _ _ => ⟨rfl, rfl, (by decide : 6 + 0 ≤ _), (by decide : 7179 + 0 ≤ _)⟩)
        dsimp only [Pt.U, Pt.locs, Pt.cells, Pt.slots] at X15 l15 y15 z15 st15 hQ15
        subst l15 y15 z15
        obtain ⟨r15, rfl, N15q, K15, Fo15, Ah15, G15_variables, G15_nodes, G15_size, G15_kept, G15_held, G15_slots, G15_cache⟩ := hQ15
        have N15 := Fr.app N10 N15q
        obtain ⟨LL15, X15, N15⟩ := own_abs X15 N15
        refine own_go (fun t k => st15.trans k) ?_
        have f15_0 := f10_0.keep K15
        have ni16 : Nx2 ∉ [b1, Hx2] := (ninS (Ne.symm dd2_0) (ninS dd2_4 nin0))
        have f15_10 := An10.keep K15 ni16
        have ni17 : Sx2 ∉ [b1, Hx2] := (ninS (Ne.symm dd2_2) (ninS (Ne.symm dd2_7) nin0))
        have f15_11 := As10.keep K15 ni17
        refine own_go (B := T15.setTop (mkF m 139 #[.val (.int p1), .val (.int p2), .val (.int p3), .val (.int p4), .val (.int p5), .val (.int p6), .val (.ref b1), .val (.ref b3), .val (.int (hd + 1)), .val (.int kp8), .val (.int r4), .val (.int r8), .unset, .unset] [(.ref b1)])) (fun t k => ?_) ?_
        · show Steps p.tables e below (T15.setTop (mkF m 130 #[.val (.int p1), .val (.int p2), .val (.int p3), .val (.int p4), .val (.int p5), .val (.int p6), .val (.ref b1), .val (.ref b3), .val (.int hd), .val (.int kp8), .val (.int r4), .val (.int r8), .unset, .unset] [(.int r15)])) t
          refine XS.pop X15.here hx rfl (hb hby at_130) rfl rfl ?_
          refine XS.iload X15.here hx rfl (hb hby at_131) rfl ?_
          refine XS.iconst X15.here hx rfl (hb hby at_133) ?_
          refine XS.iadd X15.here hx rfl (hb hby at_134) rfl ?_
          refine XS.istore X15.here hx rfl (hb hby at_135) rfl (l' := #[.val (.int p1), .val (.int p2), .val (.int p3), .val (.int p4), .val (.int p5), .val (.int p6), .val (.ref b1), .val (.ref b3), .val (.int (hd + 1)), .val (.int kp8), .val (.int r4), .val (.int r8), .unset, .unset]) rfl ?_
          show Steps p.tables e below (T15.setTop (mkF m 137 #[.val (.int p1), .val (.int p2), .val (.int p3), .val (.int p4), .val (.int p5), .val (.int p6), .val (.ref b1), .val (.ref b3), .val (.int (hd + 1)), .val (.int kp8), .val (.int r4), .val (.int r8), .unset, .unset] [])) t
          refine XS.aload X15.here hx rfl (hb hby at_137) rfl rfl ?_
          exact k
        have M18 := rm30 l Z a0 hw [] b1 z10 kp8 (hd + (1 : Int32)) T15.heap n0 (Nat.le_trans (Nat.le_trans (Nat.le_trans (Nat.le_trans Zs K8.1) K9.1) K10.1) K15.1) G15_size G15_kept Fo15
        obtain ⟨cq18, kq18, q18a, q18b, q18c⟩ := isOf hZ rfl f15_0
        obtain ⟨_, _, ⟨T18, L18, k18, n18⟩, -, X18, ⟨Lc18, hQ18, l18, y18, z18⟩, st18⟩ := X15.virtualBack hx (y := (⟨"com/example/liaise/liaise/NodeTable", "crowded", "()Z"⟩ : MethodName)) (z := (⟨"com/example/liaise/liaise/NodeTable", "crowded", "()Z"⟩ : MethodName)) hown (mvT hZ (own_at hw 163 rfl)) (mvT hZ (own_at hw 164 rfl)) (notFace_of_selects (args := #[]) (mvT hZ (own_at hw 166 rfl))) (mvT hZ (own_at hw 166 rfl)) (mvT hZ (own_at hw 165 rfl)) (by decide) (backOf (W := 0) (M18) hZ (own_at hw 167 rfl) (own_at hw 2 rfl) (by decide) (by decide)) q18a q18c (g := (mkF m 139 #[.val (.int p1), .val (.int p2), .val (.int p3), .val (.int p4), .val (.int p5), .val (.int p6), .val (.ref b1), .val (.ref b3), .val (.int (hd + 1)), .val (.int kp8), .val (.int r4), .val (.int r8), .unset, .unset] [(.ref b1)])) rfl (by rw [hml]; rfl) (Steps.refl _) (argsL := []) (rest := []) (lenOf pd_rm0_2 rfl) rfl (by show 2 * 0 + _ ≤ _; exact Nat.le_of_eq rfl) (hb hby at_139) (fun _ _ => ⟨rfl, rfl, (by decide : 6 + 0 ≤ _), (by decide : 7179 + 0 ≤ _)⟩)
        dsimp only [Pt.U, Pt.locs, Pt.cells, Pt.slots] at X18 l18 y18 z18 st18 hQ18
        subst l18 y18 z18
        obtain ⟨rfl, N18q, hh18⟩ := hQ18
        have N18 := Fr.app N15 N18q
        obtain ⟨LL18, X18, N18⟩ := own_abs X18 N18
        refine own_go (fun t k => st18.trans k) ?_
        refine own_go (B := T18.setTop (mkF m 146 #[.val (.int p1), .val (.int p2), .val (.int p3), .val (.int p4), .val (.int p5), .val (.int p6), .val (.ref b1), .val (.ref b3), .val (.int (hd + 1)), .val (.int kp8), .val (.int r4), .val (.int r8), .val (.int (if z10 < (((2 : Int32) * kp8) + (hd + (1 : Int32))) then (0 : Int32) else (1 : Int32))), .unset] [(.ref b1)])) (fun t k => ?_) ?_
        · show Steps p.tables e below (T18.setTop (mkF m 142 #[.val (.int p1), .val (.int p2), .val (.int p3), .val (.int p4), .val (.int p5), .val (.int p6), .val (.ref b1), .val (.ref b3), .val (.int (hd + 1)), .val (.int kp8), .val (.int r4), .val (.int r8), .unset, .unset] [(.int (if z10 < (((2 : Int32) * kp8) + (hd + (1 : Int32))) then (0 : Int32) else (1 : Int32)))])) t
          refine XS.istore X18.here hx rfl (hb hby at_142) rfl (l' := #[.val (.int p1), .val (.int p2), .val (.int p3), .val (.int p4), .val (.int p5), .val (.int p6), .val (.ref b1), .val (.ref b3), .val (.int (hd + 1)), .val (.int kp8), .val (.int r4), .val (.int r8), .val (.int (if z10 < (((2 : Int32) * kp8) + (hd + (1 : Int32))) then (0 : Int32) else (1 : Int32))), .unset]) rfl ?_
          refine XS.aload X18.here hx rfl (hb hby at_144) rfl rfl ?_
          exact k
        have M19 := rm29 l Z a0 hw [] b1 z10 T15.heap n0 (Nat.le_trans (Nat.le_trans (Nat.le_trans (Nat.le_trans Zs K8.1) K9.1) K10.1) K15.1) G15_size
        obtain ⟨cq19, kq19, q19a, q19b, q19c⟩ := isOf hZ hh18 f15_0
        obtain ⟨_, _, ⟨T19, L19, k19, n19⟩, -, X19, ⟨Lc19, hQ19, l19, y19, z19⟩, st19⟩ := X18.virtualBack hx (y := (⟨"com/example/liaise/liaise/NodeTable", "size", "()I"⟩ : MethodName)) (z := (⟨"com/example/liaise/liaise/NodeTable", "size", "()I"⟩ : MethodName)) hown (mvT hZ (own_at hw 158 rfl)) (mvT hZ (own_at hw 159 rfl)) (notFace_of_selects (args := #[]) (mvT hZ (own_at hw 161 rfl))) (mvT hZ (own_at hw 161 rfl)) (mvT hZ (own_at hw 160 rfl)) (by decide) (backOf (W := 0) (M19) hZ (own_at hw 162 rfl) (own_at hw 2 rfl) (by decide) (by decide)) q19a q19c (g := (mkF m 146 #[.val (.int p1), .val (.int p2), .val (.int p3), .val (.int p4), .val (.int p5), .val (.int p6), .val (.ref b1), .val (.ref b3), .val (.int (hd + 1)), .val (.int kp8), .val (.int r4), .val (.int r8), .val (.int (if z10 < (((2 : Int32) * kp8) + (hd + (1 : Int32))) then (0 : Int32) else (1 : Int32))), .unset] [(.ref b1)])) rfl (by rw [hml]; rfl) (Steps.refl _) (argsL := []) (rest := []) (lenOf pd_rm0_3 rfl) rfl (by show 2 * 0 + _ ≤ _; exact Nat.le_of_eq rfl) (hb hby at_146) (fun _ _ => ⟨rfl, hh18, (by decide : 6 + 0 ≤ _), (by decide : 7179 + 0 ≤ _)⟩)
        dsimp only [Pt.U, Pt.locs, Pt.cells, Pt.slots] at X19 l19 y19 z19 st19 hQ19
        subst l19 y19 z19
        obtain ⟨rfl, N19q, hh19⟩ := hQ19
        have N19 := Fr.app N18 N19q
        obtain ⟨LL19, X19, N19⟩ := own_abs X19 N19
        refine own_go (fun t k => st19.trans k) ?_
        refine own_go (B := T19.setTop (mkF m 156 #[.val (.int p1), .val (.int p2), .val (.int p3), .val (.int p4), .val (.int p5), .val (.int p6), .val (.ref b1), .val (.ref b3), .val (.int (hd + 1)), .val (.int kp8), .val (.int r4), .val (.int r8), .val (.int (if z10 < (((2 : Int32) * kp8) + (hd + (1 : Int32))) then (0 : Int32) else (1 : Int32))), .unset] [(.int (((2 : Int32) * kp8) + (hd + (1 : Int32)))), (.int z10)])) (fun t k => ?_) ?_
        · show Steps p.tables e below (T19.setTop (mkF m 149 #[.val (.int p1), .val (.int p2), .val (.int p3), .val (.int p4), .val (.int p5), .val (.int p6), .val (.ref b1), .val (.ref b3), .val (.int (hd + 1)), .val (.int kp8), .val (.int r4), .val (.int r8), .val (.int (if z10 < (((2 : Int32) * kp8) + (hd + (1 : Int32))) then (0 : Int32) else (1 : Int32))), .unset] [(.int z10)])) t
          refine XS.iconst X19.here hx rfl (hb hby at_149) ?_
          refine XS.iload X19.here hx rfl (hb hby at_150) rfl ?_
          refine XS.imul X19.here hx rfl (hb hby at_152) rfl ?_
          refine XS.iload X19.here hx rfl (hb hby at_153) rfl ?_
          refine XS.iadd X19.here hx rfl (hb hby at_155) rfl ?_
          exact k
        by_cases hc156_20 : z10 < (((2 : Int32) * kp8) + (hd + (1 : Int32)))
        · refine own_go (B := T19.setTop (mkF m 163 #[.val (.int p1), .val (.int p2), .val (.int p3), .val (.int p4), .val (.int p5), .val (.int p6), .val (.ref b1), .val (.ref b3), .val (.int (hd + 1)), .val (.int kp8), .val (.int r4), .val (.int r8), .val (.int (if z10 < (((2 : Int32) * kp8) + (hd + (1 : Int32))) then (0 : Int32) else (1 : Int32))), .unset] [])) (fun t k => ?_) ?_
          · refine XS.icmpYes X19.here hx rfl (pc0 := 156) (pc' := 163) rfl (hb hby at_156) rfl (tlt hc156_20).1 (by decide) (by decide) ?_
            exact k
          refine own_go (B := T19.setTop (mkF m 178 #[.val (.int p1), .val (.int p2), .val (.int p3), .val (.int p4), .val (.int p5), .val (.int p6), .val (.ref b1), .val (.ref b3), .val (.int (hd + 1)), .val (.int kp8), .val (.int r4), .val (.int r8), .val (.int (if z10 < (((2 : Int32) * kp8) + (hd + (1 : Int32))) then (0 : Int32) else (1 : Int32))), .val (.int 0)] [(.int 1)])) (fun t k => ?_) ?_
          · refine XS.iconst X19.here hx rfl (hb hby at_163) ?_
            refine XS.istore X19.here hx rfl (hb hby at_164) rfl (l' := #[.val (.int p1), .val (.int p2), .val (.int p3), .val (.int p4), .val (.int p5), .val (.int p6), .val (.ref b1), .val (.ref b3), .val (.int (hd + 1)), .val (.int kp8), .val (.int r4), .val (.int r8), .val (.int (if z10 < (((2 : Int32) * kp8) + (hd + (1 : Int32))) then (0 : Int32) else (1 : Int32))), .val (.int 0)]) rfl ?_
            refine XS.iload X19.here hx rfl (hb hby at_166) rfl ?_
            refine XS.iload X19.here hx rfl (hb hby at_168) rfl ?_
            show Steps p.tables e below (T19.setTop (mkF m 170 #[.val (.int p1), .val (.int p2), .val (.int p3), .val (.int p4), .val (.int p5), .val (.int p6), .val (.ref b1), .val (.ref b3), .val (.int (hd + 1)), .val (.int kp8), .val (.int r4), .val (.int r8), .val (.int (if z10 < (((2 : Int32) * kp8) + (hd + (1 : Int32))) then (0 : Int32) else (1 : Int32))), .val (.int 0)] [(.int 0), (.int (if z10 < (((2 : Int32) * kp8) + (hd + (1 : Int32))) then (0 : Int32) else (1 : Int32)))])) t
            refine XS.icmpNo X19.here hx rfl (hb hby at_170) rfl (teq (if_pos hc156_20 : (if z10 < (((2 : Int32) * kp8) + (hd + (1 : Int32))) then (0 : Int32) else (1 : Int32)) = (0 : Int32))).2 ?_
            refine XS.iconst X19.here hx rfl (hb hby at_173) ?_
            show Steps p.tables e below (T19.setTop (mkF m 174 #[.val (.int p1), .val (.int p2), .val (.int p3), .val (.int p4), .val (.int p5), .val (.int p6), .val (.ref b1), .val (.ref b3), .val (.int (hd + 1)), .val (.int kp8), .val (.int r4), .val (.int r8), .val (.int (if z10 < (((2 : Int32) * kp8) + (hd + (1 : Int32))) then (0 : Int32) else (1 : Int32))), .val (.int 0)] [(.int 1)])) t
            refine XS.goto X19.here hx rfl (pc0 := 174) (pc' := 178) rfl (hb hby at_174) (by decide) (by decide) ?_
            exact k
          obtain ⟨fs, hr, hrun, hended, hW, hsame⟩ := X19.leave (v := some (.int 1)) (fun h => by rw [Bd.returns] at h; cases h)
          refine ⟨_, _, ?_, hrun, hended, _, _, rfl, ?_, ⟨_, rfl⟩, hW, hsame.mono (by decide) (by decide)⟩
          · show Steps p.tables e below (T19.setTop (mkF m 178 #[.val (.int p1), .val (.int p2), .val (.int p3), .val (.int p4), .val (.int p5), .val (.int p6), .val (.ref b1), .val (.ref b3), .val (.int (hd + 1)), .val (.int kp8), .val (.int r4), .val (.int r8), .val (.int (if z10 < (((2 : Int32) * kp8) + (hd + (1 : Int32))) then (0 : Int32) else (1 : Int32))), .val (.int 0)] [(.int 1)])) _
            exact retN X19 hx (t := .boolean) Bd.returns (by simp) (hb hby at_178) hr
          · show Q0 Z p1 p2 p3 p4 p5 p6 h0 n0 _ T19.heap _
            rw [hh19]
            exact ⟨rfl, N19⟩
        · refine own_go (B := T19.setTop (mkF m 159 #[.val (.int p1), .val (.int p2), .val (.int p3), .val (.int p4), .val (.int p5), .val (.int p6), .val (.ref b1), .val (.ref b3), .val (.int (hd + 1)), .val (.int kp8), .val (.int r4), .val (.int r8), .val (.int (if z10 < (((2 : Int32) * kp8) + (hd + (1 : Int32))) then (0 : Int32) else (1 : Int32))), .unset] [])) (fun t k => ?_) ?_
          · refine XS.icmpNo X19.here hx rfl (hb hby at_156) rfl (flt hc156_20).1 ?_
            exact k
          refine own_go (B := T19.setTop (mkF m 178 #[.val (.int p1), .val (.int p2), .val (.int p3), .val (.int p4), .val (.int p5), .val (.int p6), .val (.ref b1), .val (.ref b3), .val (.int (hd + 1)), .val (.int kp8), .val (.int r4), .val (.int r8), .val (.int (if z10 < (((2 : Int32) * kp8) + (hd + (1 : Int32))) then (0 : Int32) else (1 : Int32))), .val (.int 1)] [(.int 1)])) (fun t k => ?_) ?_
          · refine XS.iconst X19.here hx rfl (hb hby at_159) ?_
            refine XS.goto X19.here hx rfl (pc0 := 160) (pc' := 164) rfl (hb hby at_160) (by decide) (by decide) ?_
            refine XS.istore X19.here hx rfl (hb hby at_164) rfl (l' := #[.val (.int p1), .val (.int p2), .val (.int p3), .val (.int p4), .val (.int p5), .val (.int p6), .val (.ref b1), .val (.ref b3), .val (.int (hd + 1)), .val (.int kp8), .val (.int r4), .val (.int r8), .val (.int (if z10 < (((2 : Int32) * kp8) + (hd + (1 : Int32))) then (0 : Int32) else (1 : Int32))), .val (.int 1)]) rfl ?_
            refine XS.iload X19.here hx rfl (hb hby at_166) rfl ?_
            refine XS.iload X19.here hx rfl (hb hby at_168) rfl ?_
            show Steps p.tables e below (T19.setTop (mkF m 170 #[.val (.int p1), .val (.int p2), .val (.int p3), .val (.int p4), .val (.int p5), .val (.int p6), .val (.ref b1), .val (.ref b3), .val (.int (hd + 1)), .val (.int kp8), .val (.int r4), .val (.int r8), .val (.int (if z10 < (((2 : Int32) * kp8) + (hd + (1 : Int32))) then (0 : Int32) else (1 : Int32))), .val (.int 1)] [(.int 1), (.int (if z10 < (((2 : Int32) * kp8) + (hd + (1 : Int32))) then (0 : Int32) else (1 : Int32)))])) t
            refine XS.icmpNo X19.here hx rfl (hb hby at_170) rfl (teq (if_neg hc156_20 : (if z10 < (((2 : Int32) * kp8) + (hd + (1 : Int32))) then (0 : Int32) else (1 : Int32)) = (1 : Int32))).2 ?_
            show Steps p.tables e below (T19.setTop (mkF m 173 #[.val (.int p1), .val (.int p2), .val (.int p3), .val (.int p4), .val (.int p5), .val (.int p6), .val (.ref b1), .val (.ref b3), .val (.int (hd + 1)), .val (.int kp8), .val (.int r4), .val (.int r8), .val (.int (if z10 < (((2 : Int32) * kp8) + (hd + (1 : Int32))) then (0 : Int32) else (1 : Int32))), .val (.int 1)] [])) t
            refine XS.iconst X19.here hx rfl (hb hby at_173) ?_
            refine XS.goto X19.here hx rfl (pc0 := 174) (pc' := 178) rfl (hb hby at_174) (by decide) (by decide) ?_
            exact k
          obtain ⟨fs, hr, hrun, hended, hW, hsame⟩ := X19.leave (v := some (.int 1)) (fun h => by rw [Bd.returns] at h; cases h)
          refine ⟨_, _, ?_, hrun, hended, _, _, rfl, ?_, ⟨_, rfl⟩, hW, hsame.mono (by decide) (by decide)⟩
          · show Steps p.tables e below (T19.setTop (mkF m 178 #[.val (.int p1), .val (.int p2), .val (.int p3), .val (.int p4), .val (.int p5), .val (.int p6), .val (.ref b1), .val (.ref b3), .val (.int (hd + 1)), .val (.int kp8), .val (.int r4), .val (.int r8), .val (.int (if z10 < (((2 : Int32) * kp8) + (hd + (1 : Int32))) then (0 : Int32) else (1 : Int32))), .val (.int 1)] [(.int 1)])) _
            exact retN X19 hx (t := .boolean) Bd.returns (by simp) (hb hby at_178) hr
          · show Q0 Z p1 p2 p3 p4 p5 p6 h0 n0 _ T19.heap _
            rw [hh19]
            exact ⟨rfl, N19⟩
    have td : ∀ (sz8 kp8 : Int32) (gN8 gH8 gS8 : Nat → Int32) (T : State) (locs : List Loc) (hp : Heap), own_I (p1 &&& (7 : Int32)) sz8 gN8 gS8 → sz8.toInt ≤ 3 → Stand p l e room_1 s m #[(.int p1), (.int p2), (.int p3), (.int p4), (.int p5), (.int p6)] below meth c T locs 8 7183 → T.heap = hp → Fr n0 locs → n0 ≤ hp.size → Exa Z hp b1 "com/example/liaise/liaise/NodeTable" → own_Ag Value.int Z hp Hx2 .int (2 : Int32) gH8 → Fld Z hp b1 "com/example/liaise/liaise/NodeTable" "variables" "I" (.int (p1 &&& 7)) → Fld Z hp b1 "com/example/liaise/liaise/NodeTable" "nodes" "[I" (.ref Nx2) → Fld Z hp b1 "com/example/liaise/liaise/NodeTable" "kept" "I" (.int kp8) → Fld Z hp b1 "com/example/liaise/liaise/NodeTable" "held" "[I" (.ref Hx2) → Fld Z hp b1 "com/example/liaise/liaise/NodeTable" "holding" "I" (.int hd) → Fld Z hp b1 "com/example/liaise/liaise/NodeTable" "slots" "[I" (.ref Sx2) → Fld Z hp b1 "com/example/liaise/liaise/NodeTable" "cache" "[I" (.ref Cx2) → Fld Z hp b1 "com/example/liaise/liaise/NodeTable" "size" "I" (.int sz8) → own_Ag Value.int Z hp Nx2 .int (3072 : Int32) gN8 → own_Ag Value.int Z hp Sx2 .int (2048 : Int32) gS8 → own_Fin p e below (fun o U' => ∃ v L, o = .returned v ∧ Q0 Z p1 p2 p3 p4 p5 p6 h0 n0 v U'.heap L ∧ FrameEnd s o U' L room_1.cells room_1.slots) (T.setTop (mkF m 84 #[.val (.int p1), .val (.int p2), .val (.int p3), .val (.int p4), .val (.int p5), .val (.int p6), .val (.ref b1), .val (.ref b3), .val (.int hd), .val (.int kp8), .val (.int r4), .unset, .unset, .unset] [])) := by
      intro sz8 kp8 gN8 gH8 gS8 T locs hp Ix8 hs3 X eT Nf Zs td_0 td_1 td_2 td_3 td_4 td_5 td_6 td_7 td_8 td_9 td_10 td_11
      refine own_go (B := T.setTop (mkF m 90 #[.val (.int p1), .val (.int p2), .val (.int p3), .val (.int p4), .val (.int p5), .val (.int p6), .val (.ref b1), .val (.ref b3), .val (.int hd), .val (.int kp8), .val (.int r4), .unset, .unset, .unset] [(.int (p3 &&& 7)), (.ref b1)])) (fun t k => ?_) ?_
      · show Steps p.tables e below (T.setTop (mkF m 84 #[.val (.int p1), .val (.int p2), .val (.int p3), .val (.int p4), .val (.int p5), .val (.int p6), .val (.ref b1), .val (.ref b3), .val (.int hd), .val (.int kp8), .val (.int r4), .unset, .unset, .unset] [])) t
        refine XS.aload X.here hx rfl (hb hby at_84) rfl rfl ?_
        refine XS.iloadN X.here hx rfl (hb hby at_86) rfl ?_
        refine XS.bipush X.here hx rfl (hb hby at_87) ?_
        refine XS.iand X.here hx rfl (hb hby at_89) rfl ?_
        exact k
      have M21 := rm6 l Z a0 hw [] b1 (p3 &&& (7 : Int32)) Nx2 Sx2 sz8 gN8 gS8 (p1 &&& (7 : Int32)) _ _ _ _ hp n0 Zs td_0 td_3 td_7 td_9 td_10 td_11 g_b1 g2_N g2_S dd2_0 dd2_2 dd2_5 Ix8 (Int.le_trans hs3 (by decide)) td_2 (own_and7 _) td_4 td_5 td_6 td_8
      obtain ⟨cq21, kq21, q21a, q21b, q21c⟩ := isOf hZ eT td_0
      obtain ⟨_, _, ⟨T21, L21, k21, n21⟩, -, X21, ⟨Lc21, hQ21, l21, y21, z21⟩, st21⟩ := X.virtualBack hx (y := (⟨"com/example/liaise/liaise/NodeTable", "terminal", "(I)I"⟩ : MethodName)) (z := (⟨"com/example/liaise/liaise/NodeTable", "terminal", "(I)I"⟩ : MethodName)) hown (mvT hZ (own_at hw 55 rfl)) (mvT hZ (own_at hw 35 rfl)) (notFace_of_selects (args := #[]) (mvT hZ (own_at hw 37 rfl))) (mvT hZ (own_at hw 37 rfl)) (mvT hZ (own_at hw 36 rfl)) (by decide) (backOf (W := 0) (M21) hZ (own_at hw 38 rfl) (own_at hw 2 rfl) (by decide) (by decide)) q21a q21c (g := (mkF m 90 #[.val (.int p1), .val (.int p2), .val (.int p3), .val (.int p4), .val (.int p5), .val (.int p6), .val (.ref b1), .val (.ref b3), .val (.int hd), .val (.int kp8), .val (.int r4), .unset, .unset, .unset] [(.int (p3 &&& 7)), (.ref b1)])) rfl (by rw [hml]; rfl) (Steps.refl _) (argsL := [(.int (p3 &&& 7))]) (rest := []) (lenOf pd_rm0_1 rfl) rfl (by show 2 * 0 + _ ≤ _; exact Nat.le_of_eq rfl) (hb hby at_90) (fun _ _ => ⟨rfl, eT, (by decide : 8 + 0 ≤ _), (by decide : 7183 + 0 ≤ _)⟩)
      dsimp only [Pt.U, Pt.locs, Pt.cells, Pt.slots] at X21 l21 y21 z21 st21 hQ21
      subst l21 y21 z21
      obtain ⟨r21, z21, gN21, gS21, rfl, N21q, K21, Fz21, An21, As21, I21, R21, G21_variables, G21_nodes, G21_kept, G21_held, G21_holding, G21_slots, G21_cache⟩ := hQ21
      have N21 := Fr.app Nf N21q
      obtain ⟨LL21, X21, N21⟩ := own_abs X21 N21
      refine own_go (fun t k => st21.trans k) ?_
      have f21_0 := td_0.keep K21
      have f21_1 := td_1.keep K21 ni5
      have hq21 : z21.toInt ≤ (3 : Int) + 1 := own_Rle R21 Ix8.1 hs3 (by decide)
      have hr21 : z21.toInt ≤ 4 := hq21
      refine own_go (B := T21.setTop (mkF m 101 #[.val (.int p1), .val (.int p2), .val (.int p3), .val (.int p4), .val (.int p5), .val (.int p6), .val (.ref b1), .val (.ref b3), .val (.int hd), .val (.int kp8), .val (.int r4), .val (.int r21), .unset, .unset] [(.int (p4 &&& 7)), (.ref b1)])) (fun t k => ?_) ?_
      · show Steps p.tables e below (T21.setTop (mkF m 93 #[.val (.int p1), .val (.int p2), .val (.int p3), .val (.int p4), .val (.int p5), .val (.int p6), .val (.ref b1), .val (.ref b3), .val (.int hd), .val (.int kp8), .val (.int r4), .unset, .unset, .unset] [(.int r21)])) t
        refine XS.istore X21.here hx rfl (hb hby at_93) rfl (l' := #[.val (.int p1), .val (.int p2), .val (.int p3), .val (.int p4), .val (.int p5), .val (.int p6), .val (.ref b1), .val (.ref b3), .val (.int hd), .val (.int kp8), .val (.int r4), .val (.int r21), .unset, .unset]) rfl ?_
        refine XS.aload X21.here hx rfl (hb hby at_95) rfl rfl ?_
        refine XS.iloadN X21.here hx rfl (hb hby at_97) rfl ?_
        refine XS.bipush X21.here hx rfl (hb hby at_98) ?_
        refine XS.iand X21.here hx rfl (hb hby at_100) rfl ?_
        exact k
      have M22 := rm6 l Z a0 hw [] b1 (p4 &&& (7 : Int32)) Nx2 Sx2 z21 gN21 gS21 (p1 &&& (7 : Int32)) _ _ _ _ T21.heap n0 (Nat.le_trans Zs K21.1) f21_0 G21_nodes G21_slots Fz21 An21 As21 g_b1 g2_N g2_S dd2_0 dd2_2 dd2_5 I21 (Int.le_trans hr21 (by decide)) G21_variables (own_and7 _) G21_kept G21_held G21_holding G21_cache
      obtain ⟨cq22, kq22, q22a, q22b, q22c⟩ := isOf hZ rfl f21_0
      obtain ⟨_, _, ⟨T22, L22, k22, n22⟩, -, X22, ⟨Lc22, hQ22, l22, y22, z22⟩, st22⟩ := X21.virtualBack hx (y := (⟨"com/example/liaise/liaise/NodeTable", "terminal", "(I)I"⟩ : MethodName)) (z := (⟨"com/example/liaise/liaise/NodeTable", "terminal", "(I)I"⟩ : MethodName)) hown (mvT hZ (own_at hw 55 rfl)) (mvT hZ (own_at hw 35 rfl)) (notFace_of_selects (args := #[]) (mvT hZ (own_at hw 37 rfl))) (mvT hZ (own_at hw 37 rfl)) (mvT hZ (own_at hw 36 rfl)) (by decide) (backOf (W := 0) (M22) hZ (own_at hw 38 rfl) (own_at hw 2 rfl) (by decide) (by decide)) q22a q22c (g := (mkF m 101 #[.val (.int p1), .val (.int p2), .val (.int p3), .val (.int p4), .val (.int p5), .val (.int p6), .val (.ref b1), .val (.ref b3), .val (.int hd), .val (.int kp8), .val (.int r4), .val (.int r21), .unset, .unset] [(.int (p4 &&& 7)), (.ref b1)])) rfl (by rw [hml]; rfl) (Steps.refl _) (argsL := [(.int (p4 &&& 7))]) (rest := []) (lenOf pd_rm0_1 rfl) rfl (by show 2 * 0 + _ ≤ _; exact Nat.le_of_eq rfl) (hb hby at_101) (fun _ _ => ⟨rfl, rfl, (by decide : 8 + 0 ≤ _), (by decide : 7183 + 0 ≤ _)⟩)
      dsimp only [Pt.U, Pt.locs, Pt.cells, Pt.slots] at X22 l22 y22 z22 st22 hQ22
      subst l22 y22 z22
      obtain ⟨r22, z22, gN22, gS22, rfl, N22q, K22, Fz22, An22, As22, I22, R22, G22_variables, G22_nodes, G22_kept, G22_held, G22_holding, G22_slots, G22_cache⟩ := hQ22
      have N22 := Fr.app N21 N22q
      obtain ⟨LL22, X22, N22⟩ := own_abs X22 N22
      refine own_go (fun t k => st22.trans k) ?_
      have f22_0 := f21_0.keep K22
      have f22_1 := f21_1.keep K22 ni5
      have hq22 : z22.toInt ≤ (4 : Int) + 1 := own_Rle R22 I21.1 hr21 (by decide)
      have hr22 : z22.toInt ≤ 5 := hq22
      refine own_go (B := T22.setTop (mkF m 112 #[.val (.int p1), .val (.int p2), .val (.int p3), .val (.int p4), .val (.int p5), .val (.int p6), .val (.ref b1), .val (.ref b3), .val (.int hd), .val (.int kp8), .val (.int r4), .val (.int r21), .unset, .unset] [(.int (p5 &&& 7)), (.ref b1)])) (fun t k => ?_) ?_
      · show Steps p.tables e below (T22.setTop (mkF m 104 #[.val (.int p1), .val (.int p2), .val (.int p3), .val (.int p4), .val (.int p5), .val (.int p6), .val (.ref b1), .val (.ref b3), .val (.int hd), .val (.int kp8), .val (.int r4), .val (.int r21), .unset, .unset] [(.int r22)])) t
        refine XS.pop X22.here hx rfl (hb hby at_104) rfl rfl ?_
        refine XS.aload X22.here hx rfl (hb hby at_105) rfl rfl ?_
        refine XS.iload X22.here hx rfl (hb hby at_107) rfl ?_
        refine XS.bipush X22.here hx rfl (hb hby at_109) ?_
        refine XS.iand X22.here hx rfl (hb hby at_111) rfl ?_
        exact k
      have M23 := rm6 l Z a0 hw [] b1 (p5 &&& (7 : Int32)) Nx2 Sx2 z22 gN22 gS22 (p1 &&& (7 : Int32)) _ _ _ _ T22.heap n0 (Nat.le_trans (Nat.le_trans Zs K21.1) K22.1) f22_0 G22_nodes G22_slots Fz22 An22 As22 g_b1 g2_N g2_S dd2_0 dd2_2 dd2_5 I22 (Int.le_trans hr22 (by decide)) G22_variables (own_and7 _) G22_kept G22_held G22_holding G22_cache
      obtain ⟨cq23, kq23, q23a, q23b, q23c⟩ := isOf hZ rfl f22_0
      obtain ⟨_, _, ⟨T23, L23, k23, n23⟩, -, X23, ⟨Lc23, hQ23, l23, y23, z23⟩, st23⟩ := X22.virtualBack hx (y := (⟨"com/example/liaise/liaise/NodeTable", "terminal", "(I)I"⟩ : MethodName)) (z := (⟨"com/example/liaise/liaise/NodeTable", "terminal", "(I)I"⟩ : MethodName)) hown (mvT hZ (own_at hw 55 rfl)) (mvT hZ (own_at hw 35 rfl)) (notFace_of_selects (args := #[]) (mvT hZ (own_at hw 37 rfl))) (mvT hZ (own_at hw 37 rfl)) (mvT hZ (own_at hw 36 rfl)) (by decide) (backOf (W := 0) (M23) hZ (own_at hw 38 rfl) (own_at hw 2 rfl) (by decide) (by decide)) q23a q23c (g := (mkF m 112 #[.val (.int p1), .val (.int p2), .val (.int p3), .val (.int p4), .val (.int p5), .val (.int p6), .val (.ref b1), .val (.ref b3), .val (.int hd), .val (.int kp8), .val (.int r4), .val (.int r21), .unset, .unset] [(.int (p5 &&& 7)), (.ref b1)])) rfl (by rw [hml]; rfl) (Steps.refl _) (argsL := [(.int (p5 &&& 7))]) (rest := []) (lenOf pd_rm0_1 rfl) rfl (by show 2 * 0 + _ ≤ _; exact Nat.le_of_eq rfl) (hb hby at_112) (fun _ _ => ⟨rfl, rfl, (by decide : 8 + 0 ≤ _), (by decide : 7183 + 0 ≤ _)⟩)
      dsimp only [Pt.U, Pt.locs, Pt.cells, Pt.slots] at X23 l23 y23 z23 st23 hQ23
      subst l23 y23 z23
      obtain ⟨r23, z23, gN23, gS23, rfl, N23q, K23, Fz23, An23, As23, I23, R23, G23_variables, G23_nodes, G23_kept, G23_held, G23_holding, G23_slots, G23_cache⟩ := hQ23
      have N23 := Fr.app N22 N23q
      obtain ⟨LL23, X23, N23⟩ := own_abs X23 N23
      refine own_go (fun t k => st23.trans k) ?_
      have f23_0 := f22_0.keep K23
      have f23_1 := f22_1.keep K23 ni5
      have hq23 : z23.toInt ≤ (5 : Int) + 1 := own_Rle R23 I22.1 hr22 (by decide)
      have hr23 : z23.toInt ≤ 6 := hq23
      refine own_go (B := T23.setTop (mkF m 120 #[.val (.int p1), .val (.int p2), .val (.int p3), .val (.int p4), .val (.int p5), .val (.int p6), .val (.ref b1), .val (.ref b3), .val (.int hd), .val (.int kp8), .val (.int r4), .val (.int r21), .unset, .unset] [(.int (p6 &&& 4))])) (fun t k => ?_) ?_
      · show Steps p.tables e below (T23.setTop (mkF m 115 #[.val (.int p1), .val (.int p2), .val (.int p3), .val (.int p4), .val (.int p5), .val (.int p6), .val (.ref b1), .val (.ref b3), .val (.int hd), .val (.int kp8), .val (.int r4), .val (.int r21), .unset, .unset] [(.int r23)])) t
        refine XS.pop X23.here hx rfl (hb hby at_115) rfl rfl ?_
        refine XS.iload X23.here hx rfl (hb hby at_116) rfl ?_
        refine XS.iconst X23.here hx rfl (hb hby at_118) ?_
        refine XS.iand X23.here hx rfl (hb hby at_119) rfl ?_
        exact k
      by_cases hc120_24 : (p6 &&& (4 : Int32)) = (0 : Int32)
      · refine own_go (B := T23.setTop (mkF m 137 #[.val (.int p1), .val (.int p2), .val (.int p3), .val (.int p4), .val (.int p5), .val (.int p6), .val (.ref b1), .val (.ref b3), .val (.int hd), .val (.int kp8), .val (.int r4), .val (.int r21), .unset, .unset] [])) (fun t k => ?_) ?_
        · refine XS.ifYes X23.here hx rfl (pc0 := 120) (pc' := 137) rfl (hb hby at_120) rfl ((if0 _ _).trans (teq hc120_24).1) (by decide) (by decide) ?_
          exact k
        refine own_go (B := T23.setTop (mkF m 139 #[.val (.int p1), .val (.int p2), .val (.int p3), .val (.int p4), .val (.int p5), .val (.int p6), .val (.ref b1), .val (.ref b3), .val (.int hd), .val (.int kp8), .val (.int r4), .val (.int r21), .unset, .unset] [(.ref b1)])) (fun t k => ?_) ?_
        · refine XS.aload X23.here hx rfl (hb hby at_137) rfl rfl ?_
          exact k
        have M25 := rm30 l Z a0 hw [] b1 z23 kp8 hd T23.heap n0 (Nat.le_trans (Nat.le_trans (Nat.le_trans Zs K21.1) K22.1) K23.1) Fz23 G23_kept G23_holding
        obtain ⟨cq25, kq25, q25a, q25b, q25c⟩ := isOf hZ rfl f23_0
        obtain ⟨_, _, ⟨T25, L25, k25, n25⟩, -, X25, ⟨Lc25, hQ25, l25, y25, z25⟩, st25⟩ := X23.virtualBack hx (y := (⟨"com/example/liaise/liaise/NodeTable", "crowded", "()Z"⟩ : MethodName)) (z := (⟨"com/example/liaise/liaise/NodeTable", "crowded", "()Z"⟩ : MethodName)) hown (mvT hZ (own_at hw 163 rfl)) (mvT hZ (own_at hw 164 rfl)) (notFace_of_selects (args := #[]) (mvT hZ (own_at hw 166 rfl))) (mvT hZ (own_at hw 166 rfl)) (mvT hZ (own_at hw 165 rfl)) (by decide) (backOf (W := 0) (M25) hZ (own_at hw 167 rfl) (own_at hw 2 rfl) (by decide) (by decide)) q25a q25c (g := (mkF m 139 #[.val (.int p1), .val (.int p2), .val (.int p3), .val (.int p4), .val (.int p5), .val (.int p6), .val (.ref b1), .val (.ref b3), .val (.int hd), .val (.int kp8), .val (.int r4), .val (.int r21), .unset, .unset] [(.ref b1)])) rfl (by rw [hml]; rfl) (Steps.refl _) (argsL := []) (rest := []) (lenOf pd_rm0_2 rfl) rfl (by show 2 * 0 + _ ≤ _; exact Nat.le_of_eq rfl) (hb hby at_139) (fun _ _ => ⟨rfl, rfl, (by decide : 8 + 0 ≤ _), (by decide : 7183 + 0 ≤ _)⟩)
        dsimp only [Pt.U, Pt.locs, Pt.cells, Pt.slots] at X25 l25 y25 z25 st25 hQ25
        subst l25 y25 z25
        obtain ⟨rfl, N25q, hh25⟩ := hQ25
        have N25 := Fr.app N23 N25q
        obtain ⟨LL25, X25, N25⟩ := own_abs X25 N25
        refine own_go (fun t k => st25.trans k) ?_
        refine own_go (B := T25.setTop (mkF m 146 #[.val (.int p1), .val (.int p2), .val (.int p3), .val (.int p4), .val (.int p5), .val (.int p6), .val (.ref b1), .val (.ref b3), .val (.int hd), .val (.int kp8), .val (.int r4), .val (.int r21), .val (.int (if z23 < (((2 : Int32) * kp8) + hd) then (0 : Int32) else (1 : Int32))), .unset] [(.ref b1)])) (fun t k => ?_) ?_
        · show Steps p.tables e below (T25.setTop (mkF m 142 #[.val (.int p1), .val (.int p2), .val (.int p3), .val (.int p4), .val (.int p5), .val (.int p6), .val (.ref b1), .val (.ref b3), .val (.int hd), .val (.int kp8), .val (.int r4), .val (.int r21), .unset, .unset] [(.int (if z23 < (((2 : Int32) * kp8) + hd) then (0 : Int32) else (1 : Int32)))])) t
          refine XS.istore X25.here hx rfl (hb hby at_142) rfl (l' := #[.val (.int p1), .val (.int p2), .val (.int p3), .val (.int p4), .val (.int p5), .val (.int p6), .val (.ref b1), .val (.ref b3), .val (.int hd), .val (.int kp8), .val (.int r4), .val (.int r21), .val (.int (if z23 < (((2 : Int32) * kp8) + hd) then (0 : Int32) else (1 : Int32))), .unset]) rfl ?_
          refine XS.aload X25.here hx rfl (hb hby at_144) rfl rfl ?_
          exact k
        have M26 := rm29 l Z a0 hw [] b1 z23 T23.heap n0 (Nat.le_trans (Nat.le_trans (Nat.le_trans Zs K21.1) K22.1) K23.1) Fz23
        obtain ⟨cq26, kq26, q26a, q26b, q26c⟩ := isOf hZ hh25 f23_0
        obtain ⟨_, _, ⟨T26, L26, k26, n26⟩, -, X26, ⟨Lc26, hQ26, l26, y26, z26⟩, st26⟩ := X25.virtualBack hx (y := (⟨"com/example/liaise/liaise/NodeTable", "size", "()I"⟩ : MethodName)) (z := (⟨"com/example/liaise/liaise/NodeTable", "size", "()I"⟩ : MethodName)) hown (mvT hZ (own_at hw 158 rfl)) (mvT hZ (own_at hw 159 rfl)) (notFace_of_selects (args := #[]) (mvT hZ (own_at hw 161 rfl))) (mvT hZ (own_at hw 161 rfl)) (mvT hZ (own_at hw 160 rfl)) (by decide) (backOf (W := 0) (M26) hZ (own_at hw 162 rfl) (own_at hw 2 rfl) (by decide) (by decide)) q26a q26c (g := (mkF m 146 #[.val (.int p1), .val (.int p2), .val (.int p3), .val (.int p4), .val (.int p5), .val (.int p6), .val (.ref b1), .val (.ref b3), .val (.int hd), .val (.int kp8), .val (.int r4), .val (.int r21), .val (.int (if z23 < (((2 : Int32) * kp8) + hd) then (0 : Int32) else (1 : Int32))), .unset] [(.ref b1)])) rfl (by rw [hml]; rfl) (Steps.refl _) (argsL := []) (rest := []) (lenOf pd_rm0_3 rfl) rfl (by show 2 * 0 + _ ≤ _; exact Nat.le_of_eq rfl) (hb hby at_146) (fun _ _ => ⟨rfl, hh25, (by decide : 8 + 0 ≤ _), (by decide : 7183 + 0 ≤ _)⟩)
        dsimp only [Pt.U, Pt.locs, Pt.cells, Pt.slots] at X26 l26 y26 z26 st26 hQ26
        subst l26 y26 z26
        obtain ⟨rfl, N26q, hh26⟩ := hQ26
        have N26 := Fr.app N25 N26q
        obtain ⟨LL26, X26, N26⟩ := own_abs X26 N26
        refine own_go (fun t k => st26.trans k) ?_
        refine own_go (B := T26.setTop (mkF m 156 #[.val (.int p1), .val (.int p2), .val (.int p3), .val (.int p4), .val (.int p5), .val (.int p6), .val (.ref b1), .val (.ref b3), .val (.int hd), .val (.int kp8), .val (.int r4), .val (.int r21), .val (.int (if z23 < (((2 : Int32) * kp8) + hd) then (0 : Int32) else (1 : Int32))), .unset] [(.int (((2 : Int32) * kp8) + hd)), (.int z23)])) (fun t k => ?_) ?_
        · show Steps p.tables e below (T26.setTop (mkF m 149 #[.val (.int p1), .val (.int p2), .val (.int p3), .val (.int p4), .val (.int p5), .val (.int p6), .val (.ref b1), .val (.ref b3), .val (.int hd), .val (.int kp8), .val (.int r4), .val (.int r21), .val (.int (if z23 < (((2 : Int32) * kp8) + hd) then (0 : Int32) else (1 : Int32))), .unset] [(.int z23)])) t
          refine XS.iconst X26.here hx rfl (hb hby at_149) ?_
          refine XS.iload X26.here hx rfl (hb hby at_150) rfl ?_
          refine XS.imul X26.here hx rfl (hb hby at_152) rfl ?_
          refine XS.iload X26.here hx rfl (hb hby at_153) rfl ?_
          refine XS.iadd X26.here hx rfl (hb hby at_155) rfl ?_
          exact k
        by_cases hc156_27 : z23 < (((2 : Int32) * kp8) + hd)
        · refine own_go (B := T26.setTop (mkF m 163 #[.val (.int p1), .val (.int p2), .val (.int p3), .val (.int p4), .val (.int p5), .val (.int p6), .val (.ref b1), .val (.ref b3), .val (.int hd), .val (.int kp8), .val (.int r4), .val (.int r21), .val (.int (if z23 < (((2 : Int32) * kp8) + hd) then (0 : Int32) else (1 : Int32))), .unset] [])) (fun t k => ?_) ?_
          · refine XS.icmpYes X26.here hx rfl (pc0 := 156) (pc' := 163) rfl (hb hby at_156) rfl (tlt hc156_27).1 (by decide) (by decide) ?_
            exact k
          refine own_go (B := T26.setTop (mkF m 178 #[.val (.int p1), .val (.int p2), .val (.int p3), .val (.int p4), .val (.int p5), .val (.int p6), .val (.ref b1), .val (.ref b3), .val (.int hd), .val (.int kp8), .val (.int r4), .val (.int r21), .val (.int (if z23 < (((2 : Int32) * kp8) + hd) then (0 : Int32) else (1 : Int32))), .val (.int 0)] [(.int 1)])) (fun t k => ?_) ?_
          · refine XS.iconst X26.here hx rfl (hb hby at_163) ?_
            refine XS.istore X26.here hx rfl (hb hby at_164) rfl (l' := #[.val (.int p1), .val (.int p2), .val (.int p3), .val (.int p4), .val (.int p5), .val (.int p6), .val (.ref b1), .val (.ref b3), .val (.int hd), .val (.int kp8), .val (.int r4), .val (.int r21), .val (.int (if z23 < (((2 : Int32) * kp8) + hd) then (0 : Int32) else (1 : Int32))), .val (.int 0)]) rfl ?_
            refine XS.iload X26.here hx rfl (hb hby at_166) rfl ?_
            refine XS.iload X26.here hx rfl (hb hby at_168) rfl ?_
            show Steps p.tables e below (T26.setTop (mkF m 170 #[.val (.int p1), .val (.int p2), .val (.int p3), .val (.int p4), .val (.int p5), .val (.int p6), .val (.ref b1), .val (.ref b3), .val (.int hd), .val (.int kp8), .val (.int r4), .val (.int r21), .val (.int (if z23 < (((2 : Int32) * kp8) + hd) then (0 : Int32) else (1 : Int32))), .val (.int 0)] [(.int 0), (.int (if z23 < (((2 : Int32) * kp8) + hd) then (0 : Int32) else (1 : Int32)))])) t
            refine XS.icmpNo X26.here hx rfl (hb hby at_170) rfl (teq (if_pos hc156_27 : (if z23 < (((2 : Int32) * kp8) + hd) then (0 : Int32) else (1 : Int32)) = (0 : Int32))).2 ?_
            refine XS.iconst X26.here hx rfl (hb hby at_173) ?_
            show Steps p.tables e below (T26.setTop (mkF m 174 #[.val (.int p1), .val (.int p2), .val (.int p3), .val (.int p4), .val (.int p5), .val (.int p6), .val (.ref b1), .val (.ref b3), .val (.int hd), .val (.int kp8), .val (.int r4), .val (.int r21), .val (.int (if z23 < (((2 : Int32) * kp8) + hd) then (0 : Int32) else (1 : Int32))), .val (.int 0)] [(.int 1)])) t
            refine XS.goto X26.here hx rfl (pc0 := 174) (pc' := 178) rfl (hb hby at_174) (by decide) (by decide) ?_
            exact k
          obtain ⟨fs, hr, hrun, hended, hW, hsame⟩ := X26.leave (v := some (.int 1)) (fun h => by rw [Bd.returns] at h; cases h)
          refine ⟨_, _, ?_, hrun, hended, _, _, rfl, ?_, ⟨_, rfl⟩, hW, hsame.mono (by decide) (by decide)⟩
          · show Steps p.tables e below (T26.setTop (mkF m 178 #[.val (.int p1), .val (.int p2), .val (.int p3), .val (.int p4), .val (.int p5), .val (.int p6), .val (.ref b1), .val (.ref b3), .val (.int hd), .val (.int kp8), .val (.int r4), .val (.int r21), .val (.int (if z23 < (((2 : Int32) * kp8) + hd) then (0 : Int32) else (1 : Int32))), .val (.int 0)] [(.int 1)])) _
            exact retN X26 hx (t := .boolean) Bd.returns (by simp) (hb hby at_178) hr
          · show Q0 Z p1 p2 p3 p4 p5 p6 h0 n0 _ T26.heap _
            rw [hh26]
            exact ⟨rfl, N26⟩
        · refine own_go (B := T26.setTop (mkF m 159 #[.val (.int p1), .val (.int p2), .val (.int p3), .val (.int p4), .val (.int p5), .val (.int p6), .val (.ref b1), .val (.ref b3), .val (.int hd), .val (.int kp8), .val (.int r4), .val (.int r21), .val (.int (if z23 < (((2 : Int32) * kp8) + hd) then (0 : Int32) else (1 : Int32))), .unset] [])) (fun t k => ?_) ?_
          · refine XS.icmpNo X26.here hx rfl (hb hby at_156) rfl (flt hc156_27).1 ?_
            exact k
          refine own_go (B := T26.setTop (mkF m 178 #[.val (.int p1), .val (.int p2), .val (.int p3), .val (.int p4), .val (.int p5), .val (.int p6), .val (.ref b1), .val (.ref b3), .val (.int hd), .val (.int kp8), .val (.int r4), .val (.int r21), .val (.int (if z23 < (((2 : Int32) * kp8) + hd) then (0 : Int32) else (1 : Int32))), .val (.int 1)] [(.int 1)])) (fun t k => ?_) ?_
          · refine XS.iconst X26.here hx rfl (hb hby at_159) ?_
            refine XS.goto X26.here hx rfl (pc0 := 160) (pc' := 164) rfl (hb hby at_160) (by decide) (by decide) ?_
            refine XS.istore X26.here hx rfl (hb hby at_164) rfl (l' := #[.val (.int p1), .val (.int p2), .val (.int p3), .val (.int p4), .val (.int p5), .val (.int p6), .val (.ref b1), .val (.ref b3), .val (.int hd), .val (.int kp8), .val (.int r4), .val (.int r21), .val (.int (if z23 < (((2 : Int32) * kp8) + hd) then (0 : Int32) else (1 : Int32))), .val (.int 1)]) rfl ?_
            refine XS.iload X26.here hx rfl (hb hby at_166) rfl ?_
            refine XS.iload X26.here hx rfl (hb hby at_168) rfl ?_
            show Steps p.tables e below (T26.setTop (mkF m 170 #[.val (.int p1), .val (.int p2), .val (.int p3), .val (.int p4), .val (.int p5), .val (.int p6), .val (.ref b1), .val (.ref b3), .val (.int hd), .val (.int kp8), .val (.int r4), .val (.int r21), .val (.int (if z23 < (((2 : Int32) * kp8) + hd) then (0 : Int32) else (1 : Int32))), .val (.int 1)] [(.int 1), (.int (if z23 < (((2 : Int32) * kp8) + hd) then (0 : Int32) else (1 : Int32)))])) t
            refine XS.icmpNo X26.here hx rfl (hb hby at_170) rfl (teq (if_neg hc156_27 : (if z23 < (((2 : Int32) * kp8) + hd) then (0 : Int32) else (1 : Int32)) = (1 : Int32))).2 ?_
            show Steps p.tables e below (T26.setTop (mkF m 173 #[.val (.int p1), .val (.int p2), .val (.int p3), .val (.int p4), .val (.int p5), .val (.int p6), .val (.ref b1), .val (.ref b3), .val (.int hd), .val (.int kp8), .val (.int r4), .val (.int r21), .val (.int (if z23 < (((2 : Int32) * kp8) + hd) then (0 : Int32) else (1 : Int32))), .val (.int 1)] [])) t
            refine XS.iconst X26.here hx rfl (hb hby at_173) ?_
            refine XS.goto X26.here hx rfl (pc0 := 174) (pc' := 178) rfl (hb hby at_174) (by decide) (by decide) ?_
            exact k
          obtain ⟨fs, hr, hrun, hended, hW, hsame⟩ := X26.leave (v := some (.int 1)) (fun h => by rw [Bd.returns] at h; cases h)
          refine ⟨_, _, ?_, hrun, hended, _, _, rfl, ?_, ⟨_, rfl⟩, hW, hsame.mono (by decide) (by decide)⟩
          · show Steps p.tables e below (T26.setTop (mkF m 178 #[.val (.int p1), .val (.int p2), .val (.int p3), .val (.int p4), .val (.int p5), .val (.int p6), .val (.ref b1), .val (.ref b3), .val (.int hd), .val (.int kp8), .val (.int r4), .val (.int r21), .val (.int (if z23 < (((2 : Int32) * kp8) + hd) then (0 : Int32) else (1 : Int32))), .val (.int 1)] [(.int 1)])) _
            exact retN X26 hx (t := .boolean) Bd.returns (by simp) (hb hby at_178) hr
          · show Q0 Z p1 p2 p3 p4 p5 p6 h0 n0 _ T26.heap _
            rw [hh26]
            exact ⟨rfl, N26⟩
      · refine own_go (B := T23.setTop (mkF m 123 #[.val (.int p1), .val (.int p2), .val (.int p3), .val (.int p4), .val (.int p5), .val (.int p6), .val (.ref b1), .val (.ref b3), .val (.int hd), .val (.int kp8), .val (.int r4), .val (.int r21), .unset, .unset] [])) (fun t k => ?_) ?_
        · refine XS.ifNo X23.here hx rfl (hb hby at_120) rfl ((if0 _ _).trans (feq hc120_24).1) ?_
          exact k
        refine own_go (B := T23.setTop (mkF m 127 #[.val (.int p1), .val (.int p2), .val (.int p3), .val (.int p4), .val (.int p5), .val (.int p6), .val (.ref b1), .val (.ref b3), .val (.int hd), .val (.int kp8), .val (.int r4), .val (.int r21), .unset, .unset] [(.int r21), (.ref b1)])) (fun t k => ?_) ?_
        · refine XS.aload X23.here hx rfl (hb hby at_123) rfl rfl ?_
          refine XS.iload X23.here hx rfl (hb hby at_125) rfl ?_
          exact k
        have M28 := rm10 l Z a0 hw [] b1 r21 Hx2 hd gH8 _ _ _ _ _ _ T23.heap n0 (Nat.le_trans (Nat.le_trans (Nat.le_trans Zs K21.1) K22.1) K23.1) f23_0 G23_held G23_holding f23_1 g_b1 g2_H dd2_1 hd01 G23_variables G23_nodes Fz23 G23_kept G23_slots G23_cache
        obtain ⟨cq28, kq28, q28a, q28b, q28c⟩ := isOf hZ rfl f23_0
        obtain ⟨_, _, ⟨T28, L28, k28, n28⟩, -, X28, ⟨Lc28, hQ28, l28, y28, z28⟩, st28⟩ := X23.virtualBack hx (y := (⟨"com/example/liaise/liaise/NodeTable", "hold", "(I)I"⟩ : MethodName)) (z := (⟨"com/example/liaise/liaise/NodeTable", "hold", "(I)I"⟩ : MethodName)) hown (mvT hZ (own_at hw 56 rfl)) (mvT hZ (own_at hw 57 rfl)) (notFace_of_selects (args := #[]) (mvT hZ (own_at hw 59 rfl))) (mvT hZ (own_at hw 59 rfl)) (mvT hZ (own_at hw 58 rfl)) (by decide) (backOf (W := 0) (M28) hZ (own_at hw 60 rfl) (own_at hw 2 rfl) (by decide) (by decide)) q28a q28c (g := (mkF m 127 #[.val (.int p1), .val (.int p2), .val (.int p3), .val (.int p4), .val (.int p5), .val (.int p6), .val (.ref b1), .val (.ref b3), .val (.int hd), .val (.int kp8), .val (.int r4), .val (.int r21), .unset, .unset] [(.int r21), (.ref b1)])) rfl (by rw [hml]; rfl) (Steps.refl _) (argsL := [(.int r21)]) (rest := []) (lenOf pd_rm0_1 rfl) rfl (by show 2 * 0 + _ ≤ _; exact Nat.le_of_eq rfl) (hb hby at_127) (fun _ _ => ⟨rfl, rfl, (by decide : 8 + 0 ≤ _), (by decide : 7183 + 0 ≤ _)⟩)
        dsimp only [Pt.U, Pt.locs, Pt.cells, Pt.slots] at X28 l28 y28 z28 st28 hQ28
        subst l28 y28 z28
        obtain ⟨r28, rfl, N28q, K28, Fo28, Ah28, G28_variables, G28_nodes, G28_size, G28_kept, G28_held, G28_slots, G28_cache⟩ := hQ28
        have N28 := Fr.app N23 N28q
        obtain ⟨LL28, X28, N28⟩ := own_abs X28 N28
        refine own_go (fun t k => st28.trans k) ?_
        have f28_0 := f23_0.keep K28
        have ni29 : Nx2 ∉ [b1, Hx2] := (ninS (Ne.symm dd2_0) (ninS dd2_4 nin0))
        have f28_10 := An23.keep K28 ni29
        have ni30 : Sx2 ∉ [b1, Hx2] := (ninS (Ne.symm dd2_2) (ninS (Ne.symm dd2_7) nin0))
        have f28_11 := As23.keep K28 ni30
        refine own_go (B := T28.setTop (mkF m 139 #[.val (.int p1), .val (.int p2), .val (.int p3), .val (.int p4), .val (.int p5), .val (.int p6), .val (.ref b1), .val (.ref b3), .val (.int (hd + 1)), .val (.int kp8), .val (.int r4), .val (.int r21), .unset, .unset] [(.ref b1)])) (fun t k => ?_) ?_
        · show Steps p.tables e below (T28.setTop (mkF m 130 #[.val (.int p1), .val (.int p2), .val (.int p3), .val (.int p4), .val (.int p5), .val (.int p6), .val (.ref b1), .val (.ref b3), .val (.int hd), .val (.int kp8), .val (.int r4), .val (.int r21), .unset, .unset] [(.int r28)])) t
          refine XS.pop X28.here hx rfl (hb hby at_130) rfl rfl ?_
          refine XS.iload X28.here hx rfl (hb hby at_131) rfl ?_
          refine XS.iconst X28.here hx rfl (hb hby at_133) ?_
          refine XS.iadd X28.here hx rfl (hb hby at_134) rfl ?_
          refine XS.istore X28.here hx rfl (hb hby at_135) rfl (l' := #[.val (.int p1), .val (.int p2), .val (.int p3), .val (.int p4), .val (.int p5), .val (.int p6), .val (.ref b1), .val (.ref b3), .val (.int (hd + 1)), .val (.int kp8), .val (.int r4), .val (.int r21), .unset, .unset]) rfl ?_
          show Steps p.tables e below (T28.setTop (mkF m 137 #[.val (.int p1), .val (.int p2), .val (.int p3), .val (.int p4), .val (.int p5), .val (.int p6), .val (.ref b1), .val (.ref b3), .val (.int (hd + 1)), .val (.int kp8), .val (.int r4), .val (.int r21), .unset, .unset] [])) t
          refine XS.aload X28.here hx rfl (hb hby at_137) rfl rfl ?_
          exact k
        have M31 := rm30 l Z a0 hw [] b1 z23 kp8 (hd + (1 : Int32)) T28.heap n0 (Nat.le_trans (Nat.le_trans (Nat.le_trans (Nat.le_trans Zs K21.1) K22.1) K23.1) K28.1) G28_size G28_kept Fo28
        obtain ⟨cq31, kq31, q31a, q31b, q31c⟩ := isOf hZ rfl f28_0
        obtain ⟨_, _, ⟨T31, L31, k31, n31⟩, -, X31, ⟨Lc31, hQ31, l31, y31, z31⟩, st31⟩ := X28.virtualBack hx (y := (⟨"com/example/liaise/liaise/NodeTable", "crowded", "()Z"⟩ : MethodName)) (z := (⟨"com/example/liaise/liaise/NodeTable", "crowded", "()Z"⟩ : MethodName)) hown (mvT hZ (own_at hw 163 rfl)) (mvT hZ (own_at hw 164 rfl)) (notFace_of_selects (args := #[]) (mvT hZ (own_at hw 166 rfl))) (mvT hZ (own_at hw 166 rfl)) (mvT hZ (own_at hw 165 rfl)) (by decide) (backOf (W := 0) (M31) hZ (own_at hw 167 rfl) (own_at hw 2 rfl) (by decide) (by decide)) q31a q31c (g := (mkF m 139 #[.val (.int p1), .val (.int p2), .val (.int p3), .val (.int p4), .val (.int p5), .val (.int p6), .val (.ref b1), .val (.ref b3), .val (.int (hd + 1)), .val (.int kp8), .val (.int r4), .val (.int r21), .unset, .unset] [(.ref b1)])) rfl (by rw [hml]; rfl) (Steps.refl _) (argsL := []) (rest := []) (lenOf pd_rm0_2 rfl) rfl (by show 2 * 0 + _ ≤ _; exact Nat.le_of_eq rfl) (hb hby at_139) (fun _ _ => ⟨rfl, rfl, (by decide : 8 + 0 ≤ _), (by decide : 7183 + 0 ≤ _)⟩)
        dsimp only [Pt.U, Pt.locs, Pt.cells, Pt.slots] at X31 l31 y31 z31 st31 hQ31
        subst l31 y31 z31
        obtain ⟨rfl, N31q, hh31⟩ := hQ31
        have N31 := Fr.app N28 N31q
        obtain ⟨LL31, X31, N31⟩ := own_abs X31 N31
        refine own_go (fun t k => st31.trans k) ?_
        refine own_go (B := T31.setTop (mkF m 146 #[.val (.int p1), .val (.int p2), .val (.int p3), .val (.int p4), .val (.int p5), .val (.int p6), .val (.ref b1), .val (.ref b3), .val (.int (hd + 1)), .val (.int kp8), .val (.int r4), .val (.int r21), .val (.int (if z23 < (((2 : Int32) * kp8) + (hd + (1 : Int32))) then (0 : Int32) else (1 : Int32))), .unset] [(.ref b1)])) (fun t k => ?_) ?_
        · show Steps p.tables e below (T31.setTop (mkF m 142 #[.val (.int p1), .val (.int p2), .val (.int p3), .val (.int p4), .val (.int p5), .val (.int p6), .val (.ref b1), .val (.ref b3), .val (.int (hd + 1)), .val (.int kp8), .val (.int r4), .val (.int r21), .unset, .unset] [(.int (if z23 < (((2 : Int32) * kp8) + (hd + (1 : Int32))) then (0 : Int32) else (1 : Int32)))])) t
          refine XS.istore X31.here hx rfl (hb hby at_142) rfl (l' := #[.val (.int p1), .val (.int p2), .val (.int p3), .val (.int p4), .val (.int p5), .val (.int p6), .val (.ref b1), .val (.ref b3), .val (.int (hd + 1)), .val (.int kp8), .val (.int r4), .val (.int r21), .val (.int (if z23 < (((2 : Int32) * kp8) + (hd + (1 : Int32))) then (0 : Int32) else (1 : Int32))), .unset]) rfl ?_
          refine XS.aload X31.here hx rfl (hb hby at_144) rfl rfl ?_
          exact k
        have M32 := rm29 l Z a0 hw [] b1 z23 T28.heap n0 (Nat.le_trans (Nat.le_trans (Nat.le_trans (Nat.le_trans Zs K21.1) K22.1) K23.1) K28.1) G28_size
        obtain ⟨cq32, kq32, q32a, q32b, q32c⟩ := isOf hZ hh31 f28_0
        obtain ⟨_, _, ⟨T32, L32, k32, n32⟩, -, X32, ⟨Lc32, hQ32, l32, y32, z32⟩, st32⟩ := X31.virtualBack hx (y := (⟨"com/example/liaise/liaise/NodeTable", "size", "()I"⟩ : MethodName)) (z := (⟨"com/example/liaise/liaise/NodeTable", "size", "()I"⟩ : MethodName)) hown (mvT hZ (own_at hw 158 rfl)) (mvT hZ (own_at hw 159 rfl)) (notFace_of_selects (args := #[]) (mvT hZ (own_at hw 161 rfl))) (mvT hZ (own_at hw 161 rfl)) (mvT hZ (own_at hw 160 rfl)) (by decide) (backOf (W := 0) (M32) hZ (own_at hw 162 rfl) (own_at hw 2 rfl) (by decide) (by decide)) q32a q32c (g := (mkF m 146 #[.val (.int p1), .val (.int p2), .val (.int p3), .val (.int p4), .val (.int p5), .val (.int p6), .val (.ref b1), .val (.ref b3), .val (.int (hd + 1)), .val (.int kp8), .val (.int r4), .val (.int r21), .val (.int (if z23 < (((2 : Int32) * kp8) + (hd + (1 : Int32))) then (0 : Int32) else (1 : Int32))), .unset] [(.ref b1)])) rfl (by rw [hml]; rfl) (Steps.refl _) (argsL := []) (rest := []) (lenOf pd_rm0_3 rfl) rfl (by show 2 * 0 + _ ≤ _; exact Nat.le_of_eq rfl) (hb hby at_146) (fun _ _ => ⟨rfl, hh31, (by decide : 8 + 0 ≤ _), (by decide : 7183 + 0 ≤ _)⟩)
        dsimp only [Pt.U, Pt.locs, Pt.cells, Pt.slots] at X32 l32 y32 z32 st32 hQ32
        subst l32 y32 z32
        obtain ⟨rfl, N32q, hh32⟩ := hQ32
        have N32 := Fr.app N31 N32q
        obtain ⟨LL32, X32, N32⟩ := own_abs X32 N32
        refine own_go (fun t k => st32.trans k) ?_
        refine own_go (B := T32.setTop (mkF m 156 #[.val (.int p1), .val (.int p2), .val (.int p3), .val (.int p4), .val (.int p5), .val (.int p6), .val (.ref b1), .val (.ref b3), .val (.int (hd + 1)), .val (.int kp8), .val (.int r4), .val (.int r21), .val (.int (if z23 < (((2 : Int32) * kp8) + (hd + (1 : Int32))) then (0 : Int32) else (1 : Int32))), .unset] [(.int (((2 : Int32) * kp8) + (hd + (1 : Int32)))), (.int z23)])) (fun t k => ?_) ?_
        · show Steps p.tables e below (T32.setTop (mkF m 149 #[.val (.int p1), .val (.int p2), .val (.int p3), .val (.int p4), .val (.int p5), .val (.int p6), .val (.ref b1), .val (.ref b3), .val (.int (hd + 1)), .val (.int kp8), .val (.int r4), .val (.int r21), .val (.int (if z23 < (((2 : Int32) * kp8) + (hd + (1 : Int32))) then (0 : Int32) else (1 : Int32))), .unset] [(.int z23)])) t
          refine XS.iconst X32.here hx rfl (hb hby at_149) ?_
          refine XS.iload X32.here hx rfl (hb hby at_150) rfl ?_
          refine XS.imul X32.here hx rfl (hb hby at_152) rfl ?_
          refine XS.iload X32.here hx rfl (hb hby at_153) rfl ?_
          refine XS.iadd X32.here hx rfl (hb hby at_155) rfl ?_
          exact k
        by_cases hc156_33 : z23 < (((2 : Int32) * kp8) + (hd + (1 : Int32)))
        · refine own_go (B := T32.setTop (mkF m 163 #[.val (.int p1), .val (.int p2), .val (.int p3), .val (.int p4), .val (.int p5), .val (.int p6), .val (.ref b1), .val (.ref b3), .val (.int (hd + 1)), .val (.int kp8), .val (.int r4), .val (.int r21), .val (.int (if z23 < (((2 : Int32) * kp8) + (hd + (1 : Int32))) then (0 : Int32) else (1 : Int32))), .unset] [])) (fun t k => ?_) ?_
          · refine XS.icmpYes X32.here hx rfl (pc0 := 156) (pc' := 163) rfl (hb hby at_156) rfl (tlt hc156_33).1 (by decide) (by decide) ?_
            exact k
          refine own_go (B := T32.setTop (mkF m 178 #[.val (.int p1), .val (.int p2), .val (.int p3), .val (.int p4), .val (.int p5), .val (.int p6), .val (.ref b1), .val (.ref b3), .val (.int (hd + 1)), .val (.int kp8), .val (.int r4), .val (.int r21), .val (.int (if z23 < (((2 : Int32) * kp8) + (hd + (1 : Int32))) then (0 : Int32) else (1 : Int32))), .val (.int 0)] [(.int 1)])) (fun t k => ?_) ?_
          · refine XS.iconst X32.here hx rfl (hb hby at_163) ?_
            refine XS.istore X32.here hx rfl (hb hby at_164) rfl (l' := #[.val (.int p1), .val (.int p2), .val (.int p3), .val (.int p4), .val (.int p5), .val (.int p6), .val (.ref b1), .val (.ref b3), .val (.int (hd + 1)), .val (.int kp8), .val (.int r4), .val (.int r21), .val (.int (if z23 < (((2 : Int32) * kp8) + (hd + (1 : Int32))) then (0 : Int32) else (1 : Int32))), .val (.int 0)]) rfl ?_
            refine XS.iload X32.here hx rfl (hb hby at_166) rfl ?_
            refine XS.iload X32.here hx rfl (hb hby at_168) rfl ?_
            show Steps p.tables e below (T32.setTop (mkF m 170 #[.val (.int p1), .val (.int p2), .val (.int p3), .val (.int p4), .val (.int p5), .val (.int p6), .val (.ref b1), .val (.ref b3), .val (.int (hd + 1)), .val (.int kp8), .val (.int r4), .val (.int r21), .val (.int (if z23 < (((2 : Int32) * kp8) + (hd + (1 : Int32))) then (0 : Int32) else (1 : Int32))), .val (.int 0)] [(.int 0), (.int (if z23 < (((2 : Int32) * kp8) + (hd + (1 : Int32))) then (0 : Int32) else (1 : Int32)))])) t
            refine XS.icmpNo X32.here hx rfl (hb hby at_170) rfl (teq (if_pos hc156_33 : (if z23 < (((2 : Int32) * kp8) + (hd + (1 : Int32))) then (0 : Int32) else (1 : Int32)) = (0 : Int32))).2 ?_
            refine XS.iconst X32.here hx rfl (hb hby at_173) ?_
            show Steps p.tables e below (T32.setTop (mkF m 174 #[.val (.int p1), .val (.int p2), .val (.int p3), .val (.int p4), .val (.int p5), .val (.int p6), .val (.ref b1), .val (.ref b3), .val (.int (hd + 1)), .val (.int kp8), .val (.int r4), .val (.int r21), .val (.int (if z23 < (((2 : Int32) * kp8) + (hd + (1 : Int32))) then (0 : Int32) else (1 : Int32))), .val (.int 0)] [(.int 1)])) t
            refine XS.goto X32.here hx rfl (pc0 := 174) (pc' := 178) rfl (hb hby at_174) (by decide) (by decide) ?_
            exact k
          obtain ⟨fs, hr, hrun, hended, hW, hsame⟩ := X32.leave (v := some (.int 1)) (fun h => by rw [Bd.returns] at h; cases h)
          refine ⟨_, _, ?_, hrun, hended, _, _, rfl, ?_, ⟨_, rfl⟩, hW, hsame.mono (by decide) (by decide)⟩
          · show Steps p.tables e below (T32.setTop (mkF m 178 #[.val (.int p1), .val (.int p2), .val (.int p3), .val (.int p4), .val (.int p5), .val (.int p6), .val (.ref b1), .val (.ref b3), .val (.int (hd + 1)), .val (.int kp8), .val (.int r4), .val (.int r21), .val (.int (if z23 < (((2 : Int32) * kp8) + (hd + (1 : Int32))) then (0 : Int32) else (1 : Int32))), .val (.int 0)] [(.int 1)])) _
            exact retN X32 hx (t := .boolean) Bd.returns (by simp) (hb hby at_178) hr
          · show Q0 Z p1 p2 p3 p4 p5 p6 h0 n0 _ T32.heap _
            rw [hh32]
            exact ⟨rfl, N32⟩
        · refine own_go (B := T32.setTop (mkF m 159 #[.val (.int p1), .val (.int p2), .val (.int p3), .val (.int p4), .val (.int p5), .val (.int p6), .val (.ref b1), .val (.ref b3), .val (.int (hd + 1)), .val (.int kp8), .val (.int r4), .val (.int r21), .val (.int (if z23 < (((2 : Int32) * kp8) + (hd + (1 : Int32))) then (0 : Int32) else (1 : Int32))), .unset] [])) (fun t k => ?_) ?_
          · refine XS.icmpNo X32.here hx rfl (hb hby at_156) rfl (flt hc156_33).1 ?_
            exact k
          refine own_go (B := T32.setTop (mkF m 178 #[.val (.int p1), .val (.int p2), .val (.int p3), .val (.int p4), .val (.int p5), .val (.int p6), .val (.ref b1), .val (.ref b3), .val (.int (hd + 1)), .val (.int kp8), .val (.int r4), .val (.int r21), .val (.int (if z23 < (((2 : Int32) * kp8) + (hd + (1 : Int32))) then (0 : Int32) else (1 : Int32))), .val (.int 1)] [(.int 1)])) (fun t k => ?_) ?_
          · refine XS.iconst X32.here hx rfl (hb hby at_159) ?_
            refine XS.goto X32.here hx rfl (pc0 := 160) (pc' := 164) rfl (hb hby at_160) (by decide) (by decide) ?_
            refine XS.istore X32.here hx rfl (hb hby at_164) rfl (l' := #[.val (.int p1), .val (.int p2), .val (.int p3), .val (.int p4), .val (.int p5), .val (.int p6), .val (.ref b1), .val (.ref b3), .val (.int (hd + 1)), .val (.int kp8), .val (.int r4), .val (.int r21), .val (.int (if z23 < (((2 : Int32) * kp8) + (hd + (1 : Int32))) then (0 : Int32) else (1 : Int32))), .val (.int 1)]) rfl ?_
            refine XS.iload X32.here hx rfl (hb hby at_166) rfl ?_
            refine XS.iload X32.here hx rfl (hb hby at_168) rfl ?_
            show Steps p.tables e below (T32.setTop (mkF m 170 #[.val (.int p1), .val (.int p2), .val (.int p3), .val (.int p4), .val (.int p5), .val (.int p6), .val (.ref b1), .val (.ref b3), .val (.int (hd + 1)), .val (.int kp8), .val (.int r4), .val (.int r21), .val (.int (if z23 < (((2 : Int32) * kp8) + (hd + (1 : Int32))) then (0 : Int32) else (1 : Int32))), .val (.int 1)] [(.int 1), (.int (if z23 < (((2 : Int32) * kp8) + (hd + (1 : Int32))) then (0 : Int32) else (1 : Int32)))])) t
            refine XS.icmpNo X32.here hx rfl (hb hby at_170) rfl (teq (if_neg hc156_33 : (if z23 < (((2 : Int32) * kp8) + (hd + (1 : Int32))) then (0 : Int32) else (1 : Int32)) = (1 : Int32))).2 ?_
            show Steps p.tables e below (T32.setTop (mkF m 173 #[.val (.int p1), .val (.int p2), .val (.int p3), .val (.int p4), .val (.int p5), .val (.int p6), .val (.ref b1), .val (.ref b3), .val (.int (hd + 1)), .val (.int kp8), .val (.int r4), .val (.int r21), .val (.int (if z23 < (((2 : Int32) * kp8) + (hd + (1 : Int32))) then (0 : Int32) else (1 : Int32))), .val (.int 1)] [])) t
            refine XS.iconst X32.here hx rfl (hb hby at_173) ?_
            refine XS.goto X32.here hx rfl (pc0 := 174) (pc' := 178) rfl (hb hby at_174) (by decide) (by decide) ?_
            exact k
          obtain ⟨fs, hr, hrun, hended, hW, hsame⟩ := X32.leave (v := some (.int 1)) (fun h => by rw [Bd.returns] at h; cases h)
          refine ⟨_, _, ?_, hrun, hended, _, _, rfl, ?_, ⟨_, rfl⟩, hW, hsame.mono (by decide) (by decide)⟩
          · show Steps p.tables e below (T32.setTop (mkF m 178 #[.val (.int p1), .val (.int p2), .val (.int p3), .val (.int p4), .val (.int p5), .val (.int p6), .val (.ref b1), .val (.ref b3), .val (.int (hd + 1)), .val (.int kp8), .val (.int r4), .val (.int r21), .val (.int (if z23 < (((2 : Int32) * kp8) + (hd + (1 : Int32))) then (0 : Int32) else (1 : Int32))), .val (.int 1)] [(.int 1)])) _
            exact retN X32 hx (t := .boolean) Bd.returns (by simp) (hb hby at_178) hr
          · show Q0 Z p1 p2 p3 p4 p5 p6 h0 n0 _ T32.heap _
            rw [hh32]
            exact ⟨rfl, N32⟩
    refine own_go (B := T.setTop (mkF m 60 #[.val (.int p1), .val (.int p2), .val (.int p3), .val (.int p4), .val (.int p5), .val (.int p6), .val (.ref b1), .val (.ref b3), .val (.int hd), .val (.int 2), .val (.int r4), .unset, .unset, .unset] [(.int (p6 &&& 2))])) (fun t k => ?_) ?_
    · show Steps p.tables e below (T.setTop (mkF m 56 #[.val (.int p1), .val (.int p2), .val (.int p3), .val (.int p4), .val (.int p5), .val (.int p6), .val (.ref b1), .val (.ref b3), .val (.int hd), .val (.int 2), .val (.int r4), .unset, .unset, .unset] [])) t
      refine XS.iload X.here hx rfl (hb hby at_56) rfl ?_
      refine XS.iconst X.here hx rfl (hb hby at_58) ?_
      refine XS.iand X.here hx rfl (hb hby at_59) rfl ?_
      exact k
    by_cases hc60_34 : (p6 &&& (2 : Int32)) = (0 : Int32)
    · refine own_go (B := T.setTop (mkF m 84 #[.val (.int p1), .val (.int p2), .val (.int p3), .val (.int p4), .val (.int p5), .val (.int p6), .val (.ref b1), .val (.ref b3), .val (.int hd), .val (.int 2), .val (.int r4), .unset, .unset, .unset] [])) (fun t k => ?_) ?_
      · refine XS.ifYes X.here hx rfl (pc0 := 60) (pc' := 84) rfl (hb hby at_60) rfl ((if0 _ _).trans (teq hc60_34).1) (by decide) (by decide) ?_
        exact k
      exact tc _ _ _ _ _ _ _ _ I4 (own_Rle R4 (by decide) (by decide) (by decide) : _ ≤ (2 : Int) + 1) X eT Nf Zs tb_1 tb_2 tb_5 tb_6 tb_7 tb_8 tb_9 tb_10 tb_11 tb_12 tb_13 tb_14
    · refine own_go (B := T.setTop (mkF m 63 #[.val (.int p1), .val (.int p2), .val (.int p3), .val (.int p4), .val (.int p5), .val (.int p6), .val (.ref b1), .val (.ref b3), .val (.int hd), .val (.int 2), .val (.int r4), .unset, .unset, .unset] [])) (fun t k => ?_) ?_
      · refine XS.ifNo X.here hx rfl (hb hby at_60) rfl ((if0 _ _).trans (feq hc60_34).1) ?_
        exact k
      refine own_go (B := T.setTop (mkF m 68 #[.val (.int p1), .val (.int p2), .val (.int p3), .val (.int p4), .val (.int p5), .val (.int p6), .val (.ref b1), .val (.ref b3), .val (.int hd), .val (.int 2), .val (.int r4), .unset, .unset, .unset] [(.int r4), (.int 0), (.ref b3)])) (fun t k => ?_) ?_
      · refine XS.aload X.here hx rfl (hb hby at_63) rfl rfl ?_
        refine XS.iconst X.here hx rfl (hb hby at_65) ?_
        refine XS.iload X.here hx rfl (hb hby at_66) rfl ?_
        exact k
      obtain ⟨cl35, Ar35, hin35, -, -, -⟩ := tb_4.get (j := (0 : Int32)) (by decide) (by decide)
      obtain ⟨T35, h35, X35, e35, W35, st35⟩ := stI X hx hZ eT Ar35 (j := (0 : Int32)) hin35 (g := (mkF m 68 #[.val (.int p1), .val (.int p2), .val (.int p3), .val (.int p4), .val (.int p5), .val (.int p6), .val (.ref b1), .val (.ref b3), .val (.int hd), .val (.int 2), .val (.int r4), .unset, .unset, .unset] [(.int r4), (.int 0), (.ref b3)])) rfl rfl (hb hby at_68)
      refine own_go (fun t k => st35 t k) ?_
      have N35 := Fr.snoc X35 Nf g_b3
      obtain ⟨LL35, X35, N35⟩ := own_abs X35 N35
      have f35_0 := tb_0.wr W35
      have f35_1 := tb_1.wr W35
      have f35_2 := tb_2.other W35 ne3_Hx2
      have f35_3 := tb_3.other W35 ne3_Cx2
      have f35_4 := tb_4.setk W35 0 (by decide)
      have f35_5 := tb_5.other W35 (Or.inl ne3_b1)
      have f35_6 := tb_6.other W35 (Or.inl ne3_b1)
      have f35_7 := tb_7.other W35 (Or.inl ne3_b1)
      have f35_8 := tb_8.other W35 (Or.inl ne3_b1)
      have f35_9 := tb_9.other W35 (Or.inl ne3_b1)
      have f35_10 := tb_10.other W35 (Or.inl ne3_b1)
      have f35_11 := tb_11.other W35 (Or.inl ne3_b1)
      have f35_12 := tb_12.other W35 (Or.inl ne3_b1)
      have f35_13 := tb_13.other W35 ne3_Nx2
      have f35_14 := tb_14.other W35 ne3_Sx2
      refine own_go (B := T35.setTop (mkF m 74 #[.val (.int p1), .val (.int p2), .val (.int p3), .val (.int p4), .val (.int p5), .val (.int p6), .val (.ref b1), .val (.ref b3), .val (.int hd), .val (.int 2), .val (.int r4), .unset, .unset, .unset] [(.int 1), (.ref b3), (.ref b1)])) (fun t k => ?_) ?_
      · show Steps p.tables e below (T35.setTop (mkF m 69 #[.val (.int p1), .val (.int p2), .val (.int p3), .val (.int p4), .val (.int p5), .val (.int p6), .val (.ref b1), .val (.ref b3), .val (.int hd), .val (.int 2), .val (.int r4), .unset, .unset, .unset] [])) t
        refine XS.aload X35.here hx rfl (hb hby at_69) rfl rfl ?_
        refine XS.aload X35.here hx rfl (hb hby at_71) rfl rfl ?_
        refine XS.iconst X35.here hx rfl (hb hby at_73) ?_
        exact k
      have hAR := own_Ag.eqv (g' := fun _ => r4) f35_4 (fun i hi => by rw [show (1 : Int32).toNatClampNeg = 1 by decide] at hi; obtain rfl : i = 0 := (by omega); rfl)
      rcases R4.1 with ⟨e5, e6, e7⟩ | ⟨e5, e6⟩
      · subst e5
        have hav := own_01 e6 e7
        have M36 := rm11_2 l Z a0 hw [] b1 b3 Nx2 Hx2 Sx2 Cx2 (p1 &&& (7 : Int32)) hd r4 gN4 gH gS4 gC2 h35 n0 (Nat.le_trans Zs (Keep.of_wr W35).1) f35_1 f35_0 f35_5 f35_6 f35_12 f35_7 f35_8 f35_9 f35_10 f35_11 f35_13 f35_2 f35_14 f35_3 hAR g_b1 g2_N g2_H g2_S g2_C g_b3 dd2_0 dd2_1 dd2_2 dd2_3 dd2_4 dd2_5 dd2_6 dd2_7 dd2_8 dd2_9 ne3_b1 ne3_Nx2 ne3_Hx2 ne3_Sx2 ne3_Cx2 (I4.2.2.2.1 0 (by decide)) (I4.2.2.2.1 1 (by decide)) hd01 hav hH
        obtain ⟨cq36, kq36, q36a, q36b, q36c⟩ := isOf hZ e35 f35_1
        obtain ⟨_, _, ⟨T36, L36, k36, n36⟩, -, X36, ⟨Lc36, hQ36, l36, y36, z36⟩, st36⟩ := X35.virtualBack hx (y := (⟨"com/example/liaise/liaise/NodeTable", "collect", "([II)V"⟩ : MethodName)) (z := (⟨"com/example/liaise/liaise/NodeTable", "collect", "([II)V"⟩ : MethodName)) hown (mvT hZ (own_at hw 63 rfl)) (mvT hZ (own_at hw 64 rfl)) (notFace_of_selects (args := #[]) (mvT hZ (own_at hw 66 rfl))) (mvT hZ (own_at hw 66 rfl)) (mvT hZ (own_at hw 65 rfl)) (by decide) (backOf (W := 0) (M36) hZ (own_at hw 67 rfl) (own_at hw 2 rfl) (by decide) (by decide)) q36a q36c (g := (mkF m 74 #[.val (.int p1), .val (.int p2), .val (.int p3), .val (.int p4), .val (.int p5), .val (.int p6), .val (.ref b1), .val (.ref b3), .val (.int hd), .val (.int 2), .val (.int r4), .unset, .unset, .unset] [(.int 1), (.ref b3), (.ref b1)])) rfl (by rw [hml]; rfl) (Steps.refl _) (argsL := [(.ref b3), (.int 1)]) (rest := []) (lenOf pd_rm0_4 rfl) rfl (by show 2 * 0 + _ ≤ _; exact Nat.le_of_eq rfl) (hb hby at_74) (fun _ _ => ⟨rfl, e35, (by decide : 6 + 2 ≤ _), (by decide : 7179 + 4 ≤ _)⟩)
        dsimp only [Pt.U, Pt.locs, Pt.cells, Pt.slots] at X36 l36 y36 z36 st36 hQ36
        subst l36 y36 z36
        obtain ⟨gN36, gH36, gS36, gC36, rfl, N36q, K36, F36_variables, F36_nodes, F36_size, F36_kept, F36_held, F36_holding, F36_slots, F36_cache, AN36, AH36, AS36, AC36, I36⟩ := hQ36
        have N36 := Fr.app N35 N36q
        obtain ⟨LL36, X36, N36⟩ := own_abs X36 N36
        refine own_go (fun t k => st36.trans k) ?_
        have f36_0 := own_staKeep f35_0 K36 (nsS f35_1.nostat (nsS f35_13.nestat (nsS f35_2.nestat (nsS f35_14.nestat (nsS f35_3.nestat (nsS f35_4.nestat ns0))))))
        have f36_1 := f35_1.keep K36
        refine own_go (B := T36.setTop (mkF m 79 #[.val (.int p1), .val (.int p2), .val (.int p3), .val (.int p4), .val (.int p5), .val (.int p6), .val (.ref b1), .val (.ref b3), .val (.int hd), .val (.int 2), .val (.int r4), .unset, .unset, .unset] [(.ref b1)])) (fun t k => ?_) ?_
        · show Steps p.tables e below (T36.setTop (mkF m 77 #[.val (.int p1), .val (.int p2), .val (.int p3), .val (.int p4), .val (.int p5), .val (.int p6), .val (.ref b1), .val (.ref b3), .val (.int hd), .val (.int 2), .val (.int r4), .unset, .unset, .unset] [])) t
          refine XS.aload X36.here hx rfl (hb hby at_77) rfl rfl ?_
          exact k
        have M37 := rm29 l Z a0 hw [] b1 (((0 : Int32) + (1 : Int32)) + (1 : Int32)) T36.heap n0 (Nat.le_trans (Nat.le_trans Zs (Keep.of_wr W35).1) K36.1) F36_size
        obtain ⟨cq37, kq37, q37a, q37b, q37c⟩ := isOf hZ rfl f36_1
        obtain ⟨_, _, ⟨T37, L37, k37, n37⟩, -, X37, ⟨Lc37, hQ37, l37, y37, z37⟩, st37⟩ := X36.virtualBack hx (y := (⟨"com/example/liaise/liaise/NodeTable", "size", "()I"⟩ : MethodName)) (z := (⟨"com/example/liaise/liaise/NodeTable", "size", "()I"⟩ : MethodName)) hown (mvT hZ (own_at hw 158 rfl)) (mvT hZ (own_at hw 159 rfl)) (notFace_of_selects (args := #[]) (mvT hZ (own_at hw 161 rfl))) (mvT hZ (own_at hw 161 rfl)) (mvT hZ (own_at hw 160 rfl)) (by decide) (backOf (W := 0) (M37) hZ (own_at hw 162 rfl) (own_at hw 2 rfl) (by decide) (by decide)) q37a q37c (g := (mkF m 79 #[.val (.int p1), .val (.int p2), .val (.int p3), .val (.int p4), .val (.int p5), .val (.int p6), .val (.ref b1), .val (.ref b3), .val (.int hd), .val (.int 2), .val (.int r4), .unset, .unset, .unset] [(.ref b1)])) rfl (by rw [hml]; rfl) (Steps.refl _) (argsL := []) (rest := []) (lenOf pd_rm0_3 rfl) rfl (by show 2 * 0 + _ ≤ _; exact Nat.le_of_eq rfl) (hb hby at_79) (fun _ _ => ⟨rfl, rfl, (by decide : 8 + 0 ≤ _), (by decide : 7183 + 0 ≤ _)⟩)
        dsimp only [Pt.U, Pt.locs, Pt.cells, Pt.slots] at X37 l37 y37 z37 st37 hQ37
        subst l37 y37 z37
        obtain ⟨rfl, N37q, hh37⟩ := hQ37
        have N37 := Fr.app N36 N37q
        obtain ⟨LL37, X37, N37⟩ := own_abs X37 N37
        refine own_go (fun t k => st37.trans k) ?_
        refine own_go (B := T37.setTop (mkF m 84 #[.val (.int p1), .val (.int p2), .val (.int p3), .val (.int p4), .val (.int p5), .val (.int p6), .val (.ref b1), .val (.ref b3), .val (.int hd), .val (.int ((0 + 1) + 1)), .val (.int r4), .unset, .unset, .unset] [])) (fun t k => ?_) ?_
        · show Steps p.tables e below (T37.setTop (mkF m 82 #[.val (.int p1), .val (.int p2), .val (.int p3), .val (.int p4), .val (.int p5), .val (.int p6), .val (.ref b1), .val (.ref b3), .val (.int hd), .val (.int 2), .val (.int r4), .unset, .unset, .unset] [(.int ((0 + 1) + 1))])) t
          refine XS.istore X37.here hx rfl (hb hby at_82) rfl (l' := #[.val (.int p1), .val (.int p2), .val (.int p3), .val (.int p4), .val (.int p5), .val (.int p6), .val (.ref b1), .val (.ref b3), .val (.int hd), .val (.int ((0 + 1) + 1)), .val (.int r4), .unset, .unset, .unset]) rfl ?_
          exact k
        exact td _ _ _ _ _ _ _ _ I36 (by decide) X37 hh37 N37 (Nat.le_trans (Nat.le_trans Zs (Keep.of_wr W35).1) K36.1) f36_1 AH36 F36_variables F36_nodes F36_kept F36_held F36_holding F36_slots F36_cache F36_size AN36 AS36
      · obtain rfl : z4 = (3 : Int32) := e5.trans (by decide)
        have hav := e6
        have M38 := rm11_3 l Z a0 hw [] b1 b3 Nx2 Hx2 Sx2 Cx2 (p1 &&& (7 : Int32)) hd r4 gN4 gH gS4 gC2 h35 n0 (Nat.le_trans Zs (Keep.of_wr W35).1) f35_1 f35_0 f35_5 f35_6 f35_12 f35_7 f35_8 f35_9 f35_10 f35_11 f35_13 f35_2 f35_14 f35_3 hAR g_b1 g2_N g2_H g2_S g2_C g_b3 dd2_0 dd2_1 dd2_2 dd2_3 dd2_4 dd2_5 dd2_6 dd2_7 dd2_8 dd2_9 ne3_b1 ne3_Nx2 ne3_Hx2 ne3_Sx2 ne3_Cx2 (I4.2.2.2.1 0 (by decide)) (I4.2.2.2.1 1 (by decide)) (I4.2.2.2.1 2 (by decide)) hd01 hav hH
        obtain ⟨cq38, kq38, q38a, q38b, q38c⟩ := isOf hZ e35 f35_1
        obtain ⟨_, _, ⟨T38, L38, k38, n38⟩, -, X38, ⟨Lc38, hQ38, l38, y38, z38⟩, st38⟩ := X35.virtualBack hx (y := (⟨"com/example/liaise/liaise/NodeTable", "collect", "([II)V"⟩ : MethodName)) (z := (⟨"com/example/liaise/liaise/NodeTable", "collect", "([II)V"⟩ : MethodName)) hown (mvT hZ (own_at hw 63 rfl)) (mvT hZ (own_at hw 64 rfl)) (notFace_of_selects (args := #[]) (mvT hZ (own_at hw 66 rfl))) (mvT hZ (own_at hw 66 rfl)) (mvT hZ (own_at hw 65 rfl)) (by decide) (backOf (W := 0) (M38) hZ (own_at hw 67 rfl) (own_at hw 2 rfl) (by decide) (by decide)) q38a q38c (g := (mkF m 74 #[.val (.int p1), .val (.int p2), .val (.int p3), .val (.int p4), .val (.int p5), .val (.int p6), .val (.ref b1), .val (.ref b3), .val (.int hd), .val (.int 2), .val (.int r4), .unset, .unset, .unset] [(.int 1), (.ref b3), (.ref b1)])) rfl (by rw [hml]; rfl) (Steps.refl _) (argsL := [(.ref b3), (.int 1)]) (rest := []) (lenOf pd_rm0_4 rfl) rfl (by show 2 * 0 + _ ≤ _; exact Nat.le_of_eq rfl) (hb hby at_74) (fun _ _ => ⟨rfl, e35, (by decide : 6 + 2 ≤ _), (by decide : 7179 + 4 ≤ _)⟩)
        dsimp only [Pt.U, Pt.locs, Pt.cells, Pt.slots] at X38 l38 y38 z38 st38 hQ38
        subst l38 y38 z38
        obtain ⟨gN38, gH38, gS38, gC38, rfl, N38q, K38, F38_variables, F38_nodes, F38_size, F38_kept, F38_held, F38_holding, F38_slots, F38_cache, AN38, AH38, AS38, AC38, I38⟩ := hQ38
        have N38 := Fr.app N35 N38q
        obtain ⟨LL38, X38, N38⟩ := own_abs X38 N38
        refine own_go (fun t k => st38.trans k) ?_
        have f38_0 := own_staKeep f35_0 K38 (nsS f35_1.nostat (nsS f35_13.nestat (nsS f35_2.nestat (nsS f35_14.nestat (nsS f35_3.nestat (nsS f35_4.nestat ns0))))))
        have f38_1 := f35_1.keep K38
        refine own_go (B := T38.setTop (mkF m 79 #[.val (.int p1), .val (.int p2), .val (.int p3), .val (.int p4), .val (.int p5), .val (.int p6), .val (.ref b1), .val (.ref b3), .val (.int hd), .val (.int 2), .val (.int r4), .unset, .unset, .unset] [(.ref b1)])) (fun t k => ?_) ?_
        · show Steps p.tables e below (T38.setTop (mkF m 77 #[.val (.int p1), .val (.int p2), .val (.int p3), .val (.int p4), .val (.int p5), .val (.int p6), .val (.ref b1), .val (.ref b3), .val (.int hd), .val (.int 2), .val (.int r4), .unset, .unset, .unset] [])) t
          refine XS.aload X38.here hx rfl (hb hby at_77) rfl rfl ?_
          exact k
        have M39 := rm29 l Z a0 hw [] b1 ((((0 : Int32) + (1 : Int32)) + (1 : Int32)) + (1 : Int32)) T38.heap n0 (Nat.le_trans (Nat.le_trans Zs (Keep.of_wr W35).1) K38.1) F38_size
        obtain ⟨cq39, kq39, q39a, q39b, q39c⟩ := isOf hZ rfl f38_1
        obtain ⟨_, _, ⟨T39, L39, k39, n39⟩, -, X39, ⟨Lc39, hQ39, l39, y39, z39⟩, st39⟩ := X38.virtualBack hx (y := (⟨"com/example/liaise/liaise/NodeTable", "size", "()I"⟩ : MethodName)) (z := (⟨"com/example/liaise/liaise/NodeTable", "size", "()I"⟩ : MethodName)) hown (mvT hZ (own_at hw 158 rfl)) (mvT hZ (own_at hw 159 rfl)) (notFace_of_selects (args := #[]) (mvT hZ (own_at hw 161 rfl))) (mvT hZ (own_at hw 161 rfl)) (mvT hZ (own_at hw 160 rfl)) (by decide) (backOf (W := 0) (M39) hZ (own_at hw 162 rfl) (own_at hw 2 rfl) (by decide) (by decide)) q39a q39c (g := (mkF m 79 #[.val (.int p1), .val (.int p2), .val (.int p3), .val (.int p4), .val (.int p5), .val (.int p6), .val (.ref b1), .val (.ref b3), .val (.int hd), .val (.int 2), .val (.int r4), .unset, .unset, .unset] [(.ref b1)])) rfl (by rw [hml]; rfl) (Steps.refl _) (argsL := []) (rest := []) (lenOf pd_rm0_3 rfl) rfl (by show 2 * 0 + _ ≤ _; exact Nat.le_of_eq rfl) (hb hby at_79) (fun _ _ => ⟨rfl, rfl, (by decide : 8 + 0 ≤ _), (by decide : 7183 + 0 ≤ _)⟩)
        dsimp only [Pt.U, Pt.locs, Pt.cells, Pt.slots] at X39 l39 y39 z39 st39 hQ39
        subst l39 y39 z39
        obtain ⟨rfl, N39q, hh39⟩ := hQ39
        have N39 := Fr.app N38 N39q
        obtain ⟨LL39, X39, N39⟩ := own_abs X39 N39
        refine own_go (fun t k => st39.trans k) ?_
        refine own_go (B := T39.setTop (mkF m 84 #[.val (.int p1), .val (.int p2), .val (.int p3), .val (.int p4), .val (.int p5), .val (.int p6), .val (.ref b1), .val (.ref b3), .val (.int hd), .val (.int (((0 + 1) + 1) + 1)), .val (.int r4), .unset, .unset, .unset] [])) (fun t k => ?_) ?_
        · show Steps p.tables e below (T39.setTop (mkF m 82 #[.val (.int p1), .val (.int p2), .val (.int p3), .val (.int p4), .val (.int p5), .val (.int p6), .val (.ref b1), .val (.ref b3), .val (.int hd), .val (.int 2), .val (.int r4), .unset, .unset, .unset] [(.int (((0 + 1) + 1) + 1))])) t
          refine XS.istore X39.here hx rfl (hb hby at_82) rfl (l' := #[.val (.int p1), .val (.int p2), .val (.int p3), .val (.int p4), .val (.int p5), .val (.int p6), .val (.ref b1), .val (.ref b3), .val (.int hd), .val (.int (((0 + 1) + 1) + 1)), .val (.int r4), .unset, .unset, .unset]) rfl ?_
          exact k
        exact td _ _ _ _ _ _ _ _ I38 (by decide) X39 hh39 N39 (Nat.le_trans (Nat.le_trans Zs (Keep.of_wr W35).1) K38.1) f38_1 AH38 F38_variables F38_nodes F38_kept F38_held F38_holding F38_slots F38_cache F38_size AN38 AS38
  refine own_go (B := T4.setTop (mkF m 39 #[.val (.int p1), .val (.int p2), .val (.int p3), .val (.int p4), .val (.int p5), .val (.int p6), .val (.ref b1), .val (.ref b3), .val (.int 0), .val (.int 2), .val (.int r4), .unset, .unset, .unset] [(.int (p6 &&& 1))])) (fun t k => ?_) ?_
  · refine XS.iload X4.here hx rfl (hb hby at_35) rfl ?_
    refine XS.iconst X4.here hx rfl (hb hby at_37) ?_
    refine XS.iand X4.here hx rfl (hb hby at_38) rfl ?_
    exact k
  by_cases hc39_40 : (p6 &&& (1 : Int32)) = (0 : Int32)
  · refine own_go (B := T4.setTop (mkF m 56 #[.val (.int p1), .val (.int p2), .val (.int p3), .val (.int p4), .val (.int p5), .val (.int p6), .val (.ref b1), .val (.ref b3), .val (.int 0), .val (.int 2), .val (.int r4), .unset, .unset, .unset] [])) (fun t k => ?_) ?_
    · refine XS.ifYes X4.here hx rfl (pc0 := 39) (pc' := 56) rfl (hb hby at_39) rfl ((if0 _ _).trans (teq hc39_40).1) (by decide) (by decide) ?_
      exact k
    exact tb _ _ _ _ _ (Or.inl rfl) (fun q => absurd q (by decide)) X4 rfl N4 (Nat.le_trans (Nat.le_trans (Nat.le_trans (Nat.le_trans Z0 E1.1) K2.1) E3.1) K4.1) f4_0 f4_1 f4_11 f4_13 f4_14 G4_variables G4_nodes G4_kept G4_held G4_holding G4_slots G4_cache Fz4 An4 As4
  · refine own_go (B := T4.setTop (mkF m 42 #[.val (.int p1), .val (.int p2), .val (.int p3), .val (.int p4), .val (.int p5), .val (.int p6), .val (.ref b1), .val (.ref b3), .val (.int 0), .val (.int 2), .val (.int r4), .unset, .unset, .unset] [])) (fun t k => ?_) ?_
    · refine XS.ifNo X4.here hx rfl (hb hby at_39) rfl ((if0 _ _).trans (feq hc39_40).1) ?_
      exact k
    refine own_go (B := T4.setTop (mkF m 46 #[.val (.int p1), .val (.int p2), .val (.int p3), .val (.int p4), .val (.int p5), .val (.int p6), .val (.ref b1), .val (.ref b3), .val (.int 0), .val (.int 2), .val (.int r4), .unset, .unset, .unset] [(.int r4), (.ref b1)])) (fun t k => ?_) ?_
    · refine XS.aload X4.here hx rfl (hb hby at_42) rfl rfl ?_
      refine XS.iload X4.here hx rfl (hb hby at_44) rfl ?_
      exact k
    have M41 := rm10 l Z a0 hw [] b1 r4 Hx2 (0 : Int32) gH2 _ _ _ _ _ _ T4.heap n0 (Nat.le_trans (Nat.le_trans (Nat.le_trans (Nat.le_trans Z0 E1.1) K2.1) E3.1) K4.1) f4_1 G4_held G4_holding f4_11 g_b1 g2_H dd2_1 (Or.inl rfl) G4_variables G4_nodes Fz4 G4_kept G4_slots G4_cache
    obtain ⟨cq41, kq41, q41a, q41b, q41c⟩ := isOf hZ rfl f4_1
    obtain ⟨_, _, ⟨T41, L41, k41, n41⟩, -, X41, ⟨Lc41, hQ41, l41, y41, z41⟩, st41⟩ := X4.virtualBack hx (y := (⟨"com/example/liaise/liaise/NodeTable", "hold", "(I)I"⟩ : MethodName)) (z := (⟨"com/example/liaise/liaise/NodeTable", "hold", "(I)I"⟩ : MethodName)) hown (mvT hZ (own_at hw 56 rfl)) (mvT hZ (own_at hw 57 rfl)) (notFace_of_selects (args := #[]) (mvT hZ (own_at hw 59 rfl))) (mvT hZ (own_at hw 59 rfl)) (mvT hZ (own_at hw 58 rfl)) (by decide) (backOf (W := 0) (M41) hZ (own_at hw 60 rfl) (own_at hw 2 rfl) (by decide) (by decide)) q41a q41c (g := (mkF m 46 #[.val (.int p1), .val (.int p2), .val (.int p3), .val (.int p4), .val (.int p5), .val (.int p6), .val (.ref b1), .val (.ref b3), .val (.int 0), .val (.int 2), .val (.int r4), .unset, .unset, .unset] [(.int r4), (.ref b1)])) rfl (by rw [hml]; rfl) (Steps.refl _) (argsL := [(.int r4)]) (rest := []) (lenOf pd_rm0_1 rfl) rfl (by show 2 * 0 + _ ≤ _; exact Nat.le_of_eq rfl) (hb hby at_46) (fun _ _ => ⟨rfl, rfl, (by decide : 6 + 0 ≤ _), (by decide : 7179 + 0 ≤ _)⟩)
    dsimp only [Pt.U, Pt.locs, Pt.cells, Pt.slots] at X41 l41 y41 z41 st41 hQ41
    subst l41 y41 z41
    obtain ⟨r41, rfl, N41q, K41, Fo41, Ah41, G41_variables, G41_nodes, G41_size, G41_kept, G41_held, G41_slots, G41_cache⟩ := hQ41
    have N41 := Fr.app N4 N41q
    obtain ⟨LL41, X41, N41⟩ := own_abs X41 N41
    refine own_go (fun t k => st41.trans k) ?_
    have f41_0 := own_staKeep f4_0 K41 (nsS f4_1.nostat (nsS f4_11.nestat ns0))
    have f41_1 := f4_1.keep K41
    have ni42 : Cx2 ∉ [b1, Hx2] := (ninS (Ne.symm dd2_3) (ninS (Ne.symm dd2_8) nin0))
    have f41_3 := f4_13.keep K41 ni42
    have ni43 : b3 ∉ [b1, Hx2] := (ninS (Ne.symm ne3_b1) (ninS (Ne.symm ne3_Hx2) nin0))
    have f41_4 := f4_14.keep K41 ni43
    have ni44 : Nx2 ∉ [b1, Hx2] := (ninS (Ne.symm dd2_0) (ninS dd2_4 nin0))
    have f41_13 := An4.keep K41 ni44
    have ni45 : Sx2 ∉ [b1, Hx2] := (ninS (Ne.symm dd2_2) (ninS (Ne.symm dd2_7) nin0))
    have f41_14 := As4.keep K41 ni45
    refine own_go (B := T41.setTop (mkF m 56 #[.val (.int p1), .val (.int p2), .val (.int p3), .val (.int p4), .val (.int p5), .val (.int p6), .val (.ref b1), .val (.ref b3), .val (.int (0 + 1)), .val (.int 2), .val (.int r4), .unset, .unset, .unset] [])) (fun t k => ?_) ?_
    · show Steps p.tables e below (T41.setTop (mkF m 49 #[.val (.int p1), .val (.int p2), .val (.int p3), .val (.int p4), .val (.int p5), .val (.int p6), .val (.ref b1), .val (.ref b3), .val (.int 0), .val (.int 2), .val (.int r4), .unset, .unset, .unset] [(.int r41)])) t
      refine XS.pop X41.here hx rfl (hb hby at_49) rfl rfl ?_
      refine XS.iload X41.here hx rfl (hb hby at_50) rfl ?_
      refine XS.iconst X41.here hx rfl (hb hby at_52) ?_
      refine XS.iadd X41.here hx rfl (hb hby at_53) rfl ?_
      refine XS.istore X41.here hx rfl (hb hby at_54) rfl (l' := #[.val (.int p1), .val (.int p2), .val (.int p3), .val (.int p4), .val (.int p5), .val (.int p6), .val (.ref b1), .val (.ref b3), .val (.int (0 + 1)), .val (.int 2), .val (.int r4), .unset, .unset, .unset]) rfl ?_
      exact k
    exact tb _ _ _ _ _ (Or.inr (by decide)) (fun _ => by show (if 0 = (0 : Int32).toNatClampNeg then _ else _) = _; rw [show (0 : Int32).toNatClampNeg = 0 by decide]; exact if_pos rfl) X41 rfl N41 (Nat.le_trans (Nat.le_trans (Nat.le_trans (Nat.le_trans (Nat.le_trans Z0 E1.1) K2.1) E3.1) K4.1) K41.1) f41_0 f41_1 Ah41 f41_3 f41_4 G41_variables G41_nodes G41_kept G41_held Fo41 G41_slots G41_cache G41_size f41_13 f41_14
set_option maxRecDepth 65536 in
set_option maxHeartbeats 40000000 in
theorem comes_1 {Post : Tables → Env → Array Value → State → Outcome → State → Prop} (hpost : ∀ tb e args s v u, (limb_1_1.after args s (.returned v) u = true ∧ limb_1_2.after args s (.returned v) u = true ∧ True) → FrameEnd s (.returned v) u (Jvm.fieldLocs frame_1_writes args s ++ Jvm.arrayLocs frame_1_arrays args s ++ Jvm.staticLocs frame_1_statics s) 24 14464 → Post tb e args s (.returned v) u) :
    ArmFor flags0 classFile x code maxLocals ret World_1 tables_1 room_1 Calls_1 rest_1 Pre_1 Post := by
  intro l hfl _ _ p e ha hc hk s m args below hf hA hF happ hP
  obtain ⟨hcalls, hrest, hpre⟩ := hP
  obtain ⟨-, -, -, hnamed, -, -, -, hat⟩ := (Spec.applies_iff hf).mp happ
  obtain ⟨hg, hn⟩ := and_e (Cond.before_iff.mp (show (Jvm.Cond.and given_1 narrow_1).before args s = true from hpre))
  obtain ⟨gc, g0⟩ := and_e hg
  obtain ⟨a0, g1⟩ := and_e g0
  obtain ⟨a1, g2⟩ := and_e g1
  obtain ⟨a2, g3⟩ := and_e g2
  obtain ⟨a3, g4⟩ := and_e g3
  obtain ⟨a4, g5⟩ := and_e g4
  have a5 := g5
  obtain ⟨w0, w1, w2, w3, w4, w5, rfl⟩ : ∃ w0 w1 w2 w3 w4 w5 : Value, args = #[w0, w1, w2, w3, w4, w5] := by
    have hs : args.size = 6 := by simpa [Cond.value, given_1] using gc
    obtain ⟨L⟩ := args
    match L, hs with
    | [w0, w1, w2, w3, w4, w5], _ => exact ⟨w0, w1, w2, w3, w4, w5, rfl⟩
  have hw := fun d (hd : d ∈ tables_1) => atoms_spec (ws := Jvm.Cond.code x code maxLocals ret :: tables_1) hat d (List.mem_cons_of_mem _ hd)
  have hfit : Fit s := fun {y c} hc i hi => by
    obtain ⟨ha, rfl⟩ := Array.getElem?_eq_some_iff.mp hc
    have q := List.all_eq_true.mp ((Array.all_eq_true_iff_forall_mem.mp hF) _ (Array.getElem_mem ha)) i (List.mem_range.mpr hi)
    simpa [Array.getElem?_eq_getElem hi] using q
  obtain ⟨i0, ei0⟩ := is_v a0
  obtain rfl : w0 = (.int i0) := Option.some.inj ei0
  obtain ⟨i1, ei1⟩ := is_v a1
  obtain rfl : w1 = (.int i1) := Option.some.inj ei1
  obtain ⟨i2, ei2⟩ := is_v a2
  obtain rfl : w2 = (.int i2) := Option.some.inj ei2
  obtain ⟨i3, ei3⟩ := is_v a3
  obtain rfl : w3 = (.int i3) := Option.some.inj ei3
  obtain ⟨i4, ei4⟩ := is_v a4
  obtain rfl : w4 = (.int i4) := Option.some.inj ei4
  obtain ⟨i5, ei5⟩ := is_v a5
  obtain rfl : w5 = (.int i5) := Option.some.inj ei5
  obtain ⟨hsets, hown0⟩ := atoms_of _ (rest_1_c_eq ▸ (show rest_1_c.before _ s = true from hrest))
  have SA := Sta.start (eqv_i (Term.int_eval 1) (Cond.before_iff.mp (hsets _ (List.mem_of_getElem? (i := 2) rfl)))) (Or.inl (hsets _ (List.mem_of_getElem? (i := 1) rfl)))
  obtain ⟨n, o, h1, h2, h3, _, L, rfl, ⟨rfl, N⟩, hq⟩ := rm0 l s _ hw tables_1 i0 i1 i2 i3 i4 i5 s.heap s.heap.size (Nat.le_refl _) SA p e ha hc hk s m _ below hf ((Spec.applies_iff_loose hf).mp happ).1 ⟨rfl, State.Warmed39.refl s, rfl⟩ trivial
  refine ⟨n, _, h1, h2, h3, hpost _ _ _ _ _ _ ⟨Cond.after_iff.mpr rfl, Cond.after_iff.mpr (eq_i res_at (Term.int_eval (1)) rfl), trivial⟩ ⟨hq.1, hq.2.1, (hq.2.2.sift fun y hy => Or.inr (N y hy)).mono (by decide) (by decide)⟩⟩
theorem main_1_1 : Claimed_1_1 := comes_1 fun _ _ _ _ _ _ h hF => ⟨h.1, hF⟩
theorem main_1_2 : Claimed_1_2 := comes_1 fun _ _ _ _ _ _ h hF => ⟨h.2.1, hF⟩
end Jvm.Pilot.@@N@@
namespace Jvm.Pilot.@@N@@
open Jvm Jvm.ClassFile Sem Op Lib Jvm.Free Jvm.Stand Jvm.Pilot.@@N@@.Jvm.D
/-! MADE BY PROGRAM (witnessworld.py) out of the Statement's table words and the real class files: 20 classes; the members and pool entries that the words name. The judged class is class 1, her method 1. -/
namespace start1
open Jvm.ClassFile
def u (s : String) : CpInfo := .utf8 (stringToUtf16 s)
/-- a pool by its gaps: so many unusable entries, then the entry; so many at the end -/
def gap : Nat → List CpInfo → List CpInfo
  | 0, r => r
  | n + 1, r => .unusable :: gap n r
def poolList (es : List (Nat × CpInfo)) (last : Nat) : List CpInfo := es.foldr (fun e r => gap e.1 (e.2 :: r)) (gap last [])
def pool (es : List (Nat × CpInfo)) (last : Nat) : Array CpInfo := ⟨poolList es last⟩
def fileOf (pool : Array CpInfo) (this : Nat) (attrs : Array Attribute := #[]) (ms : Array MethodInfo := #[]) (fl : Nat := 33) (sup : Nat := 0) (ifs : Array Nat := #[]) (fds : Array FieldInfo := #[]) : ClassFile where
  minorVersion := 0
  majorVersion := 65
  constantPool := pool
  accessFlags := fl
  thisClass := this
  superClass := sup
  interfaces := ifs
  fields := fds
  methods := ms
  attributes := attrs
def plain (name : String) (sup : Option ClassId) : Class where
  name := name
  kind := .ordinary
  loader := none
  accessFlags := 33
  super := sup
  interfaces := #[]
  cf := none
  fields := #[]
  methods := #[]
  instanceTypes := #[]
  staticTypes := #[]
  resolved := #[]
  callSites := []
  init := .initialized
  statics := none
  mirror := none

def pool0 : Array CpInfo := pool [(5, u "<init>"), (0, u "()V"), (1, .class_ 10), (1, u "java/lang/Object")] 113

def k0c0 : Code := { maxStack := 0, maxLocals := 1, code := object_method_1_code, exceptionTable := #[], attributes := #[] }
def k0m0 : Method := { name := "<init>", desc := "()V", sig := { parameters := [], returnType := none }, accessFlags := 1, code := some k0c0 }
/-- java/lang/Object -/
def k0 : Class := { plain "java/lang/Object" none with
  accessFlags := 33
  interfaces := #[]
  cf := some (fileOf pool0 8 #[] #[{ accessFlags := 1, nameIndex := 5, descriptorIndex := 6, attributes := #[] }] 33 0 #[] #[])
  fields := #[]
  methods := #[k0m0]
  instanceTypes := #[]
  staticTypes := #[]
  resolved := Array.replicate 124 none
  statics := none }

def pool1 : Array CpInfo := pool [(2, .class_ 4), (1, u "java/lang/Object"), (0, u "<init>"), (0, u "()V"), (0, .class_ 8), (0, u "com/example/liaise/liaise/NodeTable"), (0, .methodref 7 10), (0, .nameAndType 5 11), (0, u "(I)V"), (0, .methodref 7 13), (0, .nameAndType 14 15), (0, u "terminal"), (0, u "(I)I"), (0, .methodref 7 17), (0, .nameAndType 18 15), (0, u "hold"), (0, .methodref 7 20), (0, .nameAndType 21 22), (0, u "collect"), (0, u "([II)V"), (0, .methodref 7 24), (0, .nameAndType 25 26), (0, u "size"), (0, u "()I"), (0, .methodref 7 28), (0, .nameAndType 29 30), (0, u "crowded"), (0, u "()Z"), (0, .class_ 32), (0, u "com/example/liaise/liaise/NodeTableCrowdedPinLaw"), (2, u "law"), (0, u "(IIIIII)Z")] 5

def k1m0 : Method := { name := "<init>", desc := "()V", sig := { parameters := [], returnType := none }, accessFlags := 1, code := none }
def k1c1 : Code := { maxStack := 4, maxLocals := 14, code := code, exceptionTable := #[], attributes := #[] }
def k1m1 : Method := { name := "law", desc := "(IIIIII)Z", sig := { parameters := [.int, .int, .int, .int, .int, .int], returnType := some .boolean }, accessFlags := 9, code := some k1c1 }
/-- com/example/liaise/liaise/NodeTableCrowdedPinLaw -/
def k1 : Class := { plain "com/example/liaise/liaise/NodeTableCrowdedPinLaw" (some 0) with
  accessFlags := 49
  interfaces := #[]
  cf := some (fileOf pool1 31 #[] #[{ accessFlags := 1, nameIndex := 5, descriptorIndex := 6, attributes := #[] }, { accessFlags := 9, nameIndex := 35, descriptorIndex := 36, attributes := #[] }] 49 2 #[] #[])
  fields := #[]
  methods := #[k1m0, k1m1]
  instanceTypes := #[]
  staticTypes := #[]
  resolved := Array.replicate 42 none
  statics := none }

def pool2 : Array CpInfo := pool [(1, .methodref 2 3), (0, .class_ 4), (0, .nameAndType 5 6), (0, u "java/lang/Object"), (0, u "<init>"), (0, u "()V"), (0, .class_ 8), (0, u "com/example/liaise/liaise/NodeTable"), (0, .fieldref 7 10), (0, .nameAndType 11 12), (0, u "nodes"), (0, u "[I"), (0, .fieldref 7 14), (0, .nameAndType 15 16), (0, u "kept"), (0, u "I"), (0, .fieldref 7 18), (0, .nameAndType 19 12), (0, u "held"), (0, .fieldref 7 21), (0, .nameAndType 22 12), (0, u "slots"), (9, .fieldref 7 33), (0, .nameAndType 34 16), (0, u "variables"), (0, .methodref 7 36), (0, .nameAndType 37 6), (0, u "emptyCache"), (0, .methodref 7 39), (0, .nameAndType 40 41), (0, u "terminal"), (0, u "(I)I"), (1, .methodref 7 44), (0, .nameAndType 45 46), (0, u "unique"), (0, u "(III)I"), (0, .methodref 7 48), (0, .nameAndType 49 41), (0, u "variable"), (10, u "size"), (0, u "()I"), (11, .methodref 74 75), (0, .class_ 76), (0, .nameAndType 77 78), (0, u "java/lang/Math"), (0, u "min"), (0, u "(II)I"), (3, .fieldref 7 83), (0, .nameAndType 60 16), (0, .methodref 85 86), (0, .class_ 87), (0, .nameAndType 88 89), (0, u "java/util/Arrays"), (0, u "fill"), (0, u "([II)V"), (15, u "(I)Z"), (0, .methodref 7 107), (0, .nameAndType 108 41), (0, u "high"), (0, .methodref 7 110), (0, .nameAndType 111 41), (0, u "low"), (2, .class_ 115), (0, u "java/util/BitSet"), (0, .methodref 114 117), (0, .nameAndType 5 118), (0, u "(I)V"), (3, .methodref 114 123), (0, .nameAndType 124 118), (0, u "set"), (23, .methodref 114 149), (0, .nameAndType 150 105), (0, u "get"), (1, .class_ 154), (1, u "com/example/liaise/liaise/NodeTable$Visitor"), (0, .fieldref 7 156), (0, .nameAndType 157 16), (0, u "holding"), (7, u "collect"), (0, .methodref 114 167), (0, .nameAndType 168 41), (0, u "nextSetBit"), (0, .methodref 7 170), (0, .nameAndType 171 172), (0, u "place"), (0, u "(IIII)V"), (0, .integer 536870912), (0, .methodref 7 175), (0, .nameAndType 176 61), (0, u "capacity"), (0, .methodref 7 178), (0, .nameAndType 179 118), (0, u "resize"), (6, .fieldref 7 187), (0, .nameAndType 188 12), (0, u "cache"), (40, .methodref 7 230), (0, .nameAndType 231 46), (0, u "hash"), (8, .methodref 7 241), (0, .nameAndType 242 6), (0, u "rehash"), (0, .integer 2654435761), (0, .integer 2246822507), (0, .integer 3266489909), (0, u "FALSE"), (2, u "TRUE"), (1, u "INITIAL_CAPACITY"), (1, u "MAX_CAPACITY"), (0, u "AND"), (1, u "FIRST_OF"), (1, u "XOR"), (1, u "NODE_INTS"), (1, u "LOW"), (0, u "HIGH"), (1, u "ENTRY_INTS"), (1, u "SECOND"), (0, u "OPERATION"), (0, u "RESULT"), (21, u "crowded"), (0, u "()Z"), (0, u "hold")] 48

def k2c0 : Code := { maxStack := 3, maxLocals := 2, code := prog_47_method_1_code, exceptionTable := #[], attributes := #[] }
def k2m0 : Method := { name := "<init>", desc := "(I)V", sig := { parameters := [.int], returnType := none }, accessFlags := 0, code := some k2c0 }
def k2c1 : Code := { maxStack := 4, maxLocals := 2, code := prog_47_method_3_code, exceptionTable := #[], attributes := #[] }
def k2m1 : Method := { name := "terminal", desc := "(I)I", sig := { parameters := [.int], returnType := some .int }, accessFlags := 0, code := some k2c1 }
def k2c2 : Code := { maxStack := 3, maxLocals := 2, code := prog_47_method_17_code, exceptionTable := #[], attributes := #[] }
def k2m2 : Method := { name := "variable", desc := "(I)I", sig := { parameters := [.int], returnType := some .int }, accessFlags := 0, code := some k2c2 }
def k2c3 : Code := { maxStack := 3, maxLocals := 2, code := prog_47_method_18_code, exceptionTable := #[], attributes := #[] }
def k2m3 : Method := { name := "low", desc := "(I)I", sig := { parameters := [.int], returnType := some .int }, accessFlags := 0, code := some k2c3 }
def k2c4 : Code := { maxStack := 3, maxLocals := 2, code := prog_47_method_19_code, exceptionTable := #[], attributes := #[] }
def k2m4 : Method := { name := "high", desc := "(I)I", sig := { parameters := [.int], returnType := some .int }, accessFlags := 0, code := some k2c4 }
def k2c5 : Code := { maxStack := 1, maxLocals := 1, code := prog_47_method_20_code, exceptionTable := #[], attributes := #[] }
def k2m5 : Method := { name := "size", desc := "()I", sig := { parameters := [], returnType := some .int }, accessFlags := 0, code := some k2c5 }
def k2c6 : Code := { maxStack := 3, maxLocals := 1, code := prog_47_method_21_code, exceptionTable := #[], attributes := #[] }
def k2m6 : Method := { name := "crowded", desc := "()Z", sig := { parameters := [], returnType := some .boolean }, accessFlags := 0, code := some k2c6 }
def k2c7 : Code := { maxStack := 4, maxLocals := 2, code := prog_47_method_22_code, exceptionTable := #[], attributes := #[] }
def k2m7 : Method := { name := "hold", desc := "(I)I", sig := { parameters := [.int], returnType := some .int }, accessFlags := 0, code := some k2c7 }
def k2c8 : Code := { maxStack := 5, maxLocals := 11, code := prog_47_method_25_code, exceptionTable := #[], attributes := #[] }
def k2m8 : Method := { name := "collect", desc := "([II)V", sig := { parameters := [(.array .int), .int], returnType := none }, accessFlags := 0, code := some k2c8 }
def k2c9 : Code := { maxStack := 2, maxLocals := 1, code := prog_47_method_37_code, exceptionTable := #[], attributes := #[] }
def k2m9 : Method := { name := "capacity", desc := "()I", sig := { parameters := [], returnType := some .int }, accessFlags := 2, code := some k2c9 }
def k2c10 : Code := { maxStack := 5, maxLocals := 7, code := prog_47_method_39_code, exceptionTable := #[], attributes := #[] }
def k2m10 : Method := { name := "unique", desc := "(III)I", sig := { parameters := [.int, .int, .int], returnType := some .int }, accessFlags := 2, code := some k2c10 }
def k2c11 : Code := { maxStack := 3, maxLocals := 6, code := prog_47_method_40_code, exceptionTable := #[], attributes := #[] }
def k2m11 : Method := { name := "place", desc := "(IIII)V", sig := { parameters := [.int, .int, .int, .int], returnType := none }, accessFlags := 2, code := some k2c11 }
def k2c12 : Code := { maxStack := 4, maxLocals := 2, code := prog_47_method_43_code, exceptionTable := #[], attributes := #[] }
def k2m12 : Method := { name := "resize", desc := "(I)V", sig := { parameters := [.int], returnType := none }, accessFlags := 2, code := some k2c12 }
def k2c13 : Code := { maxStack := 4, maxLocals := 3, code := prog_47_method_44_code, exceptionTable := #[], attributes := #[] }
def k2m13 : Method := { name := "rehash", desc := "()V", sig := { parameters := [], returnType := none }, accessFlags := 2, code := some k2c13 }
def k2c14 : Code := { maxStack := 3, maxLocals := 2, code := prog_47_method_45_code, exceptionTable := #[], attributes := #[] }
def k2m14 : Method := { name := "emptyCache", desc := "()V", sig := { parameters := [], returnType := none }, accessFlags := 2, code := some k2c14 }
def k2c15 : Code := { maxStack := 3, maxLocals := 4, code := prog_47_method_46_code, exceptionTable := #[], attributes := #[] }
def k2m15 : Method := { name := "hash", desc := "(III)I", sig := { parameters := [.int, .int, .int], returnType := some .int }, accessFlags := 10, code := some k2c15 }
/-- com/example/liaise/liaise/NodeTable -/
def k2 : Class := { plain "com/example/liaise/liaise/NodeTable" (some 0) with
  accessFlags := 48
  interfaces := #[]
  cf := some (fileOf pool2 7 #[.nestMembers #[152]] #[{ accessFlags := 0, nameIndex := 5, descriptorIndex := 118, attributes := #[] }, { accessFlags := 0, nameIndex := 40, descriptorIndex := 41, attributes := #[] }, { accessFlags := 0, nameIndex := 49, descriptorIndex := 41, attributes := #[] }, { accessFlags := 0, nameIndex := 111, descriptorIndex := 41, attributes := #[] }, { accessFlags := 0, nameIndex := 108, descriptorIndex := 41, attributes := #[] }, { accessFlags := 0, nameIndex := 60, descriptorIndex := 61, attributes := #[] }, { accessFlags := 0, nameIndex := 291, descriptorIndex := 292, attributes := #[] }, { accessFlags := 0, nameIndex := 293, descriptorIndex := 41, attributes := #[] }, { accessFlags := 0, nameIndex := 165, descriptorIndex := 89, attributes := #[] }, { accessFlags := 2, nameIndex := 176, descriptorIndex := 61, attributes := #[] }, { accessFlags := 2, nameIndex := 45, descriptorIndex := 46, attributes := #[] }, { accessFlags := 2, nameIndex := 171, descriptorIndex := 172, attributes := #[] }, { accessFlags := 2, nameIndex := 179, descriptorIndex := 118, attributes := #[] }, { accessFlags := 2, nameIndex := 242, descriptorIndex := 6, attributes := #[] }, { accessFlags := 2, nameIndex := 37, descriptorIndex := 6, attributes := #[] }, { accessFlags := 10, nameIndex := 231, descriptorIndex := 46, attributes := #[] }] 48 2 #[] #[{ accessFlags := 24, nameIndex := 246, descriptorIndex := 16, attributes := #[] }, { accessFlags := 24, nameIndex := 249, descriptorIndex := 16, attributes := #[] }, { accessFlags := 26, nameIndex := 251, descriptorIndex := 16, attributes := #[] }, { accessFlags := 26, nameIndex := 253, descriptorIndex := 16, attributes := #[] }, { accessFlags := 26, nameIndex := 254, descriptorIndex := 16, attributes := #[] }, { accessFlags := 26, nameIndex := 256, descriptorIndex := 16, attributes := #[] }, { accessFlags := 26, nameIndex := 258, descriptorIndex := 16, attributes := #[] }, { accessFlags := 26, nameIndex := 260, descriptorIndex := 16, attributes := #[] }, { accessFlags := 26, nameIndex := 262, descriptorIndex := 16, attributes := #[] }, { accessFlags := 26, nameIndex := 263, descriptorIndex := 16, attributes := #[] }, { accessFlags := 26, nameIndex := 265, descriptorIndex := 16, attributes := #[] }, { accessFlags := 26, nameIndex := 267, descriptorIndex := 16, attributes := #[] }, { accessFlags := 26, nameIndex := 268, descriptorIndex := 16, attributes := #[] }, { accessFlags := 26, nameIndex := 269, descriptorIndex := 16, attributes := #[] }, { accessFlags := 18, nameIndex := 34, descriptorIndex := 16, attributes := #[] }, { accessFlags := 2, nameIndex := 11, descriptorIndex := 12, attributes := #[] }, { accessFlags := 2, nameIndex := 60, descriptorIndex := 16, attributes := #[] }, { accessFlags := 2, nameIndex := 15, descriptorIndex := 16, attributes := #[] }, { accessFlags := 2, nameIndex := 19, descriptorIndex := 12, attributes := #[] }, { accessFlags := 2, nameIndex := 157, descriptorIndex := 16, attributes := #[] }, { accessFlags := 2, nameIndex := 22, descriptorIndex := 12, attributes := #[] }, { accessFlags := 2, nameIndex := 188, descriptorIndex := 12, attributes := #[] }])
  fields := #[{ name := "FALSE", type := .int, accessFlags := 24, slot := 0, constantValue := 0 }, { name := "TRUE", type := .int, accessFlags := 24, slot := 1, constantValue := 0 }, { name := "INITIAL_CAPACITY", type := .int, accessFlags := 26, slot := 2, constantValue := 0 }, { name := "MAX_CAPACITY", type := .int, accessFlags := 26, slot := 3, constantValue := 0 }, { name := "AND", type := .int, accessFlags := 26, slot := 4, constantValue := 0 }, { name := "FIRST_OF", type := .int, accessFlags := 26, slot := 5, constantValue := 0 }, { name := "XOR", type := .int, accessFlags := 26, slot := 6, constantValue := 0 }, { name := "NODE_INTS", type := .int, accessFlags := 26, slot := 7, constantValue := 0 }, { name := "LOW", type := .int, accessFlags := 26, slot := 8, constantValue := 0 }, { name := "HIGH", type := .int, accessFlags := 26, slot := 9, constantValue := 0 }, { name := "ENTRY_INTS", type := .int, accessFlags := 26, slot := 10, constantValue := 0 }, { name := "SECOND", type := .int, accessFlags := 26, slot := 11, constantValue := 0 }, { name := "OPERATION", type := .int, accessFlags := 26, slot := 12, constantValue := 0 }, { name := "RESULT", type := .int, accessFlags := 26, slot := 13, constantValue := 0 }, { name := "variables", type := .int, accessFlags := 18, slot := 0, constantValue := 0 }, { name := "nodes", type := (.array .int), accessFlags := 2, slot := 1, constantValue := 0 }, { name := "size", type := .int, accessFlags := 2, slot := 2, constantValue := 0 }, { name := "kept", type := .int, accessFlags := 2, slot := 3, constantValue := 0 }, { name := "held", type := (.array .int), accessFlags := 2, slot := 4, constantValue := 0 }, { name := "holding", type := .int, accessFlags := 2, slot := 5, constantValue := 0 }, { name := "slots", type := (.array .int), accessFlags := 2, slot := 6, constantValue := 0 }, { name := "cache", type := (.array .int), accessFlags := 2, slot := 7, constantValue := 0 }]
  methods := #[k2m0, k2m1, k2m2, k2m3, k2m4, k2m5, k2m6, k2m7, k2m8, k2m9, k2m10, k2m11, k2m12, k2m13, k2m14, k2m15]
  instanceTypes := #[.int, (.array .int), .int, .int, (.array .int), .int, (.array .int), (.array .int)]
  staticTypes := #[.int, .int, .int, .int, .int, .int, .int, .int, .int, .int, .int, .int, .int, .int]
  resolved := Array.replicate 342 none
  statics := none }

def pool3 : Array CpInfo := pool [(2, .class_ 4), (1, u "java/lang/Object"), (0, u "<init>"), (0, u "()V"), (7, .class_ 16), (1, u "java/util/Arrays"), (57, .class_ 76), (1, u "java/util/Arrays$NaturalOrder"), (36, .class_ 115), (1, u "java/util/Arrays$LegacyMergeSort"), (1, u "Z"), (257, .class_ 376), (0, u "java/util/Arrays$ArrayList"), (68, u "$assertionsDisabled"), (269, u "MIN_ARRAY_SORT_GRAN"), (0, u "I"), (2, u "INSERTIONSORT_THRESHOLD"), (120, u "fill"), (4, u "([II)V"), (129, .class_ 976), (0, u "java/util/Arrays$ArrayItr")] 52

def k3m0 : Method := { name := "<init>", desc := "()V", sig := { parameters := [], returnType := none }, accessFlags := 2, code := none }
def k3c1 : Code := { maxStack := 3, maxLocals := 4, code := jdk_65_method_103_code, exceptionTable := #[], attributes := #[] }
def k3m1 : Method := { name := "fill", desc := "([II)V", sig := { parameters := [(.array .int), .int], returnType := none }, accessFlags := 9, code := some k3c1 }
/-- java/util/Arrays -/
def k3 : Class := { plain "java/util/Arrays" (some 0) with
  accessFlags := 49
  interfaces := #[]
  cf := some (fileOf pool3 14 #[.nestMembers #[975, 375, 113, 74]] #[{ accessFlags := 2, nameIndex := 5, descriptorIndex := 6, attributes := #[] }, { accessFlags := 9, nameIndex := 840, descriptorIndex := 845, attributes := #[] }] 49 2 #[] #[{ accessFlags := 26, nameIndex := 715, descriptorIndex := 716, attributes := #[] }, { accessFlags := 26, nameIndex := 719, descriptorIndex := 716, attributes := #[] }, { accessFlags := 4120, nameIndex := 445, descriptorIndex := 117, attributes := #[] }])
  fields := #[{ name := "MIN_ARRAY_SORT_GRAN", type := .int, accessFlags := 26, slot := 0, constantValue := 0 }, { name := "INSERTIONSORT_THRESHOLD", type := .int, accessFlags := 26, slot := 1, constantValue := 0 }, { name := "$assertionsDisabled", type := .boolean, accessFlags := 4120, slot := 2, constantValue := 0 }]
  methods := #[k3m0, k3m1]
  instanceTypes := #[]
  staticTypes := #[.int, .int, .boolean]
  resolved := Array.replicate 1029 none
  statics := none }

def pool4 : Array CpInfo := pool [(1, .class_ 2), (0, u "java/lang/Cloneable"), (0, .class_ 4), (0, u "java/lang/Object")] 2

/-- java/lang/Cloneable -/
def k4 : Class := { plain "java/lang/Cloneable" (some 0) with
  accessFlags := 1537
  interfaces := #[]
  cf := some (fileOf pool4 1 #[] #[] 1537 3 #[] #[])
  fields := #[]
  methods := #[]
  instanceTypes := #[]
  staticTypes := #[]
  resolved := Array.replicate 7 none
  statics := none }

def pool5 : Array CpInfo := pool [(1, .class_ 2), (0, u "java/io/Serializable"), (0, .class_ 4), (0, u "java/lang/Object")] 2

/-- java/io/Serializable -/
def k5 : Class := { plain "java/io/Serializable" (some 0) with
  accessFlags := 1537
  interfaces := #[]
  cf := some (fileOf pool5 1 #[] #[] 1537 3 #[] #[])
  fields := #[]
  methods := #[]
  instanceTypes := #[]
  staticTypes := #[]
  resolved := Array.replicate 7 none
  statics := none }

def pool6 : Array CpInfo := pool [(1, .class_ 2), (0, u "java/util/BitSet"), (0, .fieldref 1 4), (0, .nameAndType 5 6), (0, u "$assertionsDisabled"), (0, u "Z"), (0, .fieldref 1 8), (0, .nameAndType 9 10), (0, u "wordsInUse"), (0, u "I"), (0, .fieldref 1 12), (0, .nameAndType 13 14), (0, u "words"), (0, u "[J"), (3, .nameAndType 19 20), (0, u "<init>"), (0, u "()V"), (0, .methodref 22 18), (0, .class_ 23), (0, u "java/lang/Object"), (0, .fieldref 1 25), (0, .nameAndType 26 6), (0, u "sizeIsSticky"), (0, .methodref 1 28), (0, .nameAndType 29 30), (0, u "initWords"), (0, u "(I)V"), (21, .methodref 1 53), (0, .nameAndType 54 55), (0, u "wordIndex"), (0, u "(I)I"), (0, .methodref 1 57), (0, .nameAndType 58 20), (0, u "checkInvariants"), (21, u "get"), (58, .methodref 1 140), (0, .nameAndType 141 30), (0, u "ensureCapacity"), (13, .methodref 1 156), (0, .nameAndType 157 30), (0, u "expandTo"), (7, .long 18446744073709551615), (3, u "set"), (12, .methodref 183 184), (0, .class_ 185), (0, .nameAndType 186 187), (0, u "java/lang/Long"), (0, u "numberOfTrailingZeros"), (0, u "(J)I"), (75, u "nextSetBit"), (5, .class_ 270), (0, u "java/util/BitSet$1BitSetSpliterator"), (22, u "serialPersistentFields"), (0, u "[Ljava/io/ObjectStreamField;"), (0, .class_ 296), (0, u "java/lang/Cloneable"), (0, .class_ 298), (0, u "java/io/Serializable"), (0, u "ADDRESS_BITS_PER_WORD"), (2, u "BITS_PER_WORD"), (1, u "BIT_INDEX_MASK"), (1, u "WORD_MASK"), (0, u "J"), (0, u "serialVersionUID"), (42, u "(I)Z")] 65

def k6c0 : Code := { maxStack := 2, maxLocals := 1, code := jdk_92_method_1_code, exceptionTable := #[], attributes := #[] }
def k6m0 : Method := { name := "wordIndex", desc := "(I)I", sig := { parameters := [.int], returnType := some .int }, accessFlags := 10, code := some k6c0 }
def k6c1 : Code := { maxStack := 4, maxLocals := 1, code := jdk_92_method_2_code, exceptionTable := #[], attributes := #[] }
def k6m1 : Method := { name := "checkInvariants", desc := "()V", sig := { parameters := [], returnType := none }, accessFlags := 2, code := some k6c1 }
def k6m2 : Method := { name := "<init>", desc := "()V", sig := { parameters := [], returnType := none }, accessFlags := 1, code := none }
def k6c3 : Code := { maxStack := 4, maxLocals := 2, code := jdk_92_method_5_code, exceptionTable := #[], attributes := #[] }
def k6m3 : Method := { name := "<init>", desc := "(I)V", sig := { parameters := [.int], returnType := none }, accessFlags := 1, code := some k6c3 }
def k6c4 : Code := { maxStack := 3, maxLocals := 2, code := jdk_92_method_6_code, exceptionTable := #[], attributes := #[] }
def k6m4 : Method := { name := "initWords", desc := "(I)V", sig := { parameters := [.int], returnType := none }, accessFlags := 2, code := some k6c4 }
def k6c5 : Code := { maxStack := 3, maxLocals := 3, code := jdk_92_method_14_code, exceptionTable := #[], attributes := #[] }
def k6m5 : Method := { name := "ensureCapacity", desc := "(I)V", sig := { parameters := [.int], returnType := none }, accessFlags := 2, code := some k6c5 }
def k6c6 : Code := { maxStack := 2, maxLocals := 3, code := jdk_92_method_15_code, exceptionTable := #[], attributes := #[] }
def k6m6 : Method := { name := "expandTo", desc := "(I)V", sig := { parameters := [.int], returnType := none }, accessFlags := 2, code := some k6c6 }
def k6c7 : Code := { maxStack := 7, maxLocals := 3, code := jdk_92_method_19_code, exceptionTable := #[], attributes := #[] }
def k6m7 : Method := { name := "set", desc := "(I)V", sig := { parameters := [.int], returnType := none }, accessFlags := 1, code := some k6c7 }
def k6c8 : Code := { maxStack := 5, maxLocals := 3, code := jdk_92_method_26_code, exceptionTable := #[], attributes := #[] }
def k6m8 : Method := { name := "get", desc := "(I)Z", sig := { parameters := [.int], returnType := some .boolean }, accessFlags := 1, code := some k6c8 }
def k6c9 : Code := { maxStack := 5, maxLocals := 5, code := jdk_92_method_28_code, exceptionTable := #[], attributes := #[] }
def k6m9 : Method := { name := "nextSetBit", desc := "(I)I", sig := { parameters := [.int], returnType := some .int }, accessFlags := 1, code := some k6c9 }
/-- java/util/BitSet -/
def k6 : Class := { plain "java/util/BitSet" (some 0) with
  accessFlags := 33
  interfaces := #[4, 5]
  cf := some (fileOf pool6 1 #[.nestMembers #[269]] #[{ accessFlags := 10, nameIndex := 54, descriptorIndex := 55, attributes := #[] }, { accessFlags := 2, nameIndex := 58, descriptorIndex := 20, attributes := #[] }, { accessFlags := 1, nameIndex := 19, descriptorIndex := 20, attributes := #[] }, { accessFlags := 1, nameIndex := 19, descriptorIndex := 30, attributes := #[] }, { accessFlags := 2, nameIndex := 29, descriptorIndex := 30, attributes := #[] }, { accessFlags := 2, nameIndex := 141, descriptorIndex := 30, attributes := #[] }, { accessFlags := 2, nameIndex := 157, descriptorIndex := 30, attributes := #[] }, { accessFlags := 1, nameIndex := 169, descriptorIndex := 30, attributes := #[] }, { accessFlags := 1, nameIndex := 80, descriptorIndex := 351, attributes := #[] }, { accessFlags := 1, nameIndex := 263, descriptorIndex := 55, attributes := #[] }] 33 22 #[295, 297] #[{ accessFlags := 26, nameIndex := 299, descriptorIndex := 10, attributes := #[] }, { accessFlags := 26, nameIndex := 302, descriptorIndex := 10, attributes := #[] }, { accessFlags := 26, nameIndex := 304, descriptorIndex := 10, attributes := #[] }, { accessFlags := 26, nameIndex := 306, descriptorIndex := 307, attributes := #[] }, { accessFlags := 26, nameIndex := 293, descriptorIndex := 294, attributes := #[] }, { accessFlags := 2, nameIndex := 13, descriptorIndex := 14, attributes := #[] }, { accessFlags := 130, nameIndex := 9, descriptorIndex := 10, attributes := #[] }, { accessFlags := 130, nameIndex := 26, descriptorIndex := 6, attributes := #[] }, { accessFlags := 26, nameIndex := 308, descriptorIndex := 307, attributes := #[] }, { accessFlags := 4120, nameIndex := 5, descriptorIndex := 6, attributes := #[] }])
  fields := #[{ name := "ADDRESS_BITS_PER_WORD", type := .int, accessFlags := 26, slot := 0, constantValue := 0 }, { name := "BITS_PER_WORD", type := .int, accessFlags := 26, slot := 1, constantValue := 0 }, { name := "BIT_INDEX_MASK", type := .int, accessFlags := 26, slot := 2, constantValue := 0 }, { name := "WORD_MASK", type := .long, accessFlags := 26, slot := 3, constantValue := 0 }, { name := "serialPersistentFields", type := (.array (.object "java/io/ObjectStreamField")), accessFlags := 26, slot := 4, constantValue := 0 }, { name := "words", type := (.array .long), accessFlags := 2, slot := 0, constantValue := 0 }, { name := "wordsInUse", type := .int, accessFlags := 130, slot := 1, constantValue := 0 }, { name := "sizeIsSticky", type := .boolean, accessFlags := 130, slot := 2, constantValue := 0 }, { name := "serialVersionUID", type := .long, accessFlags := 26, slot := 5, constantValue := 0 }, { name := "$assertionsDisabled", type := .boolean, accessFlags := 4120, slot := 6, constantValue := 0 }]
  methods := #[k6m0, k6m1, k6m2, k6m3, k6m4, k6m5, k6m6, k6m7, k6m8, k6m9]
  instanceTypes := #[(.array .long), .int, .boolean]
  staticTypes := #[.int, .int, .int, .long, (.array (.object "java/io/ObjectStreamField")), .long, .boolean]
  resolved := Array.replicate 417 none
  statics := some 0 }

def pool7 : Array CpInfo := pool [(2, .class_ 4), (1, u "java/lang/Object"), (0, u "<init>"), (0, u "()V"), (1, .class_ 10), (1, u "java/lang/Number"), (2, .class_ 14), (0, u "java/io/Serializable"), (0, u "serialVersionUID"), (0, u "J")] 20

def k7m0 : Method := { name := "<init>", desc := "()V", sig := { parameters := [], returnType := none }, accessFlags := 1, code := none }
/-- java/lang/Number -/
def k7 : Class := { plain "java/lang/Number" (some 0) with
  accessFlags := 1057
  interfaces := #[5]
  cf := some (fileOf pool7 8 #[] #[{ accessFlags := 1, nameIndex := 5, descriptorIndex := 6, attributes := #[] }] 1057 2 #[13] #[{ accessFlags := 26, nameIndex := 15, descriptorIndex := 16, attributes := #[] }])
  fields := #[{ name := "serialVersionUID", type := .long, accessFlags := 26, slot := 0, constantValue := 0 }]
  methods := #[k7m0]
  instanceTypes := #[]
  staticTypes := #[.long]
  resolved := Array.replicate 37 none
  statics := none }

def pool8 : Array CpInfo := pool [(1, .class_ 2), (0, u "java/lang/Comparable"), (0, .class_ 4), (0, u "java/lang/Object")] 7

/-- java/lang/Comparable -/
def k8 : Class := { plain "java/lang/Comparable" (some 0) with
  accessFlags := 1537
  interfaces := #[]
  cf := some (fileOf pool8 1 #[] #[] 1537 3 #[] #[])
  fields := #[]
  methods := #[]
  instanceTypes := #[]
  staticTypes := #[]
  resolved := Array.replicate 12 none
  statics := none }

def pool9 : Array CpInfo := pool [(1, .class_ 2), (0, u "java/lang/constant/Constable"), (0, .class_ 4), (0, u "java/lang/Object")] 6

/-- java/lang/constant/Constable -/
def k9 : Class := { plain "java/lang/constant/Constable" (some 0) with
  accessFlags := 1537
  interfaces := #[]
  cf := some (fileOf pool9 1 #[] #[] 1537 3 #[] #[])
  fields := #[]
  methods := #[]
  instanceTypes := #[]
  staticTypes := #[]
  resolved := Array.replicate 11 none
  statics := none }

def pool10 : Array CpInfo := pool [(1, .class_ 2), (0, u "java/lang/constant/ConstantDesc"), (0, .class_ 4), (0, u "java/lang/Object")] 32

/-- java/lang/constant/ConstantDesc -/
def k10 : Class := { plain "java/lang/constant/ConstantDesc" (some 0) with
  accessFlags := 1537
  interfaces := #[]
  cf := some (fileOf pool10 1 #[] #[] 1537 3 #[] #[])
  fields := #[]
  methods := #[]
  instanceTypes := #[]
  staticTypes := #[]
  resolved := Array.replicate 37 none
  statics := none }

def pool11 : Array CpInfo := pool [(1, .class_ 2), (0, u "java/lang/Long"), (15, .class_ 20), (1, u "java/lang/Integer"), (80, u "(J)I"), (133, .class_ 237), (1, u "java/lang/Long$LongCache"), (33, .class_ 272), (0, u "java/lang/Number"), (2, u "value"), (0, u "J"), (33, u "(I)I"), (0, .methodref 18 312), (0, .nameAndType 313 310), (0, u "numberOfTrailingZeros"), (47, u "TYPE"), (0, u "Ljava/lang/Class;"), (0, .class_ 364), (0, u "java/lang/Comparable"), (0, .class_ 366), (0, u "java/lang/constant/Constable"), (0, .class_ 368), (0, u "java/lang/constant/ConstantDesc"), (0, u "MIN_VALUE"), (1, u "MAX_VALUE"), (4, u "SIZE"), (0, u "I"), (1, u "BYTES"), (1, u "serialVersionUID")] 142

def k11c0 : Code := { maxStack := 4, maxLocals := 3, code := jdk_35_method_49_code, exceptionTable := #[], attributes := #[] }
def k11m0 : Method := { name := "numberOfTrailingZeros", desc := "(J)I", sig := { parameters := [.long], returnType := some .int }, accessFlags := 9, code := some k11c0 }
/-- java/lang/Long -/
def k11 : Class := { plain "java/lang/Long" (some 7) with
  accessFlags := 49
  interfaces := #[8, 9, 10]
  cf := some (fileOf pool11 1 #[.nestMembers #[235]] #[{ accessFlags := 9, nameIndex := 313, descriptorIndex := 101, attributes := #[] }] 49 271 #[363, 365, 367] #[{ accessFlags := 25, nameIndex := 369, descriptorIndex := 276, attributes := #[] }, { accessFlags := 25, nameIndex := 371, descriptorIndex := 276, attributes := #[] }, { accessFlags := 25, nameIndex := 361, descriptorIndex := 362, attributes := #[] }, { accessFlags := 18, nameIndex := 275, descriptorIndex := 276, attributes := #[] }, { accessFlags := 25, nameIndex := 376, descriptorIndex := 377, attributes := #[] }, { accessFlags := 25, nameIndex := 379, descriptorIndex := 377, attributes := #[] }, { accessFlags := 26, nameIndex := 381, descriptorIndex := 276, attributes := #[] }])
  fields := #[{ name := "MIN_VALUE", type := .long, accessFlags := 25, slot := 0, constantValue := 0 }, { name := "MAX_VALUE", type := .long, accessFlags := 25, slot := 1, constantValue := 0 }, { name := "TYPE", type := (.object "java/lang/Class"), accessFlags := 25, slot := 2, constantValue := 0 }, { name := "value", type := .long, accessFlags := 18, slot := 0, constantValue := 0 }, { name := "SIZE", type := .int, accessFlags := 25, slot := 3, constantValue := 0 }, { name := "BYTES", type := .int, accessFlags := 25, slot := 4, constantValue := 0 }, { name := "serialVersionUID", type := .long, accessFlags := 26, slot := 5, constantValue := 0 }]
  methods := #[k11m0]
  instanceTypes := #[.long]
  staticTypes := #[.long, .long, (.object "java/lang/Class"), .int, .int, .long]
  resolved := Array.replicate 524 none
  statics := none }

def pool12 : Array CpInfo := pool [(1, .class_ 2), (0, u "java/lang/Integer"), (16, u "digits"), (0, u "[C"), (33, u "(I)I"), (30, u "DigitOnes"), (0, u "[B"), (2, u "DigitTens"), (99, .class_ 190), (0, u "java/lang/Integer$IntegerCache"), (3, u "I"), (8, .class_ 204), (0, u "java/lang/Number"), (2, u "value"), (56, .integer 65536), (37, u "TYPE"), (0, u "Ljava/lang/Class;"), (0, .class_ 305), (0, u "java/lang/Comparable"), (0, .class_ 307), (0, u "java/lang/constant/Constable"), (0, .class_ 309), (0, u "java/lang/constant/ConstantDesc"), (0, u "MIN_VALUE"), (1, u "MAX_VALUE"), (3, u "SIZE"), (1, u "BYTES"), (1, u "serialVersionUID"), (0, u "J"), (84, u "numberOfTrailingZeros")] 46

def k12c0 : Code := { maxStack := 3, maxLocals := 2, code := jdk_33_method_48_code, exceptionTable := #[], attributes := #[] }
def k12m0 : Method := { name := "numberOfTrailingZeros", desc := "(I)I", sig := { parameters := [.int], returnType := some .int }, accessFlags := 9, code := some k12c0 }
/-- java/lang/Integer -/
def k12 : Class := { plain "java/lang/Integer" (some 7) with
  accessFlags := 49
  interfaces := #[8, 9, 10]
  cf := some (fileOf pool12 1 #[.nestMembers #[189]] #[{ accessFlags := 9, nameIndex := 406, descriptorIndex := 54, attributes := #[] }] 49 203 #[304, 306, 308] #[{ accessFlags := 25, nameIndex := 310, descriptorIndex := 194, attributes := #[] }, { accessFlags := 25, nameIndex := 312, descriptorIndex := 194, attributes := #[] }, { accessFlags := 25, nameIndex := 302, descriptorIndex := 303, attributes := #[] }, { accessFlags := 24, nameIndex := 19, descriptorIndex := 20, attributes := #[] }, { accessFlags := 24, nameIndex := 89, descriptorIndex := 86, attributes := #[] }, { accessFlags := 24, nameIndex := 85, descriptorIndex := 86, attributes := #[] }, { accessFlags := 18, nameIndex := 207, descriptorIndex := 194, attributes := #[] }, { accessFlags := 25, nameIndex := 316, descriptorIndex := 194, attributes := #[] }, { accessFlags := 25, nameIndex := 318, descriptorIndex := 194, attributes := #[] }, { accessFlags := 26, nameIndex := 320, descriptorIndex := 321, attributes := #[] }])
  fields := #[{ name := "MIN_VALUE", type := .int, accessFlags := 25, slot := 0, constantValue := 0 }, { name := "MAX_VALUE", type := .int, accessFlags := 25, slot := 1, constantValue := 0 }, { name := "TYPE", type := (.object "java/lang/Class"), accessFlags := 25, slot := 2, constantValue := 0 }, { name := "digits", type := (.array .char), accessFlags := 24, slot := 3, constantValue := 0 }, { name := "DigitTens", type := (.array .byte), accessFlags := 24, slot := 4, constantValue := 0 }, { name := "DigitOnes", type := (.array .byte), accessFlags := 24, slot := 5, constantValue := 0 }, { name := "value", type := .int, accessFlags := 18, slot := 0, constantValue := 0 }, { name := "SIZE", type := .int, accessFlags := 25, slot := 6, constantValue := 0 }, { name := "BYTES", type := .int, accessFlags := 25, slot := 7, constantValue := 0 }, { name := "serialVersionUID", type := .long, accessFlags := 26, slot := 8, constantValue := 0 }]
  methods := #[k12m0]
  instanceTypes := #[.int]
  staticTypes := #[.int, .int, (.object "java/lang/Class"), (.array .char), (.array .byte), (.array .byte), .int, .int, .long]
  resolved := Array.replicate 453 none
  statics := none }

def pool13 : Array CpInfo := pool [(1, .class_ 2), (0, u "java/lang/Math"), (1, .class_ 6), (1, u "java/lang/Object"), (0, u "<init>"), (0, u "()V"), (89, .class_ 100), (1, u "java/lang/Math$RandomNumberGeneratorHolder"), (71, u "negativeZeroFloatBits"), (0, u "J"), (2, u "negativeZeroDoubleBits"), (24, u "min"), (43, u "$assertionsDisabled"), (0, u "Z"), (88, u "(II)I"), (2, u "twoToTheDoubleScaleDown"), (0, u "D"), (4, u "twoToTheDoubleScaleUp"), (9, u "E"), (3, u "PI"), (2, u "TAU"), (2, u "DEGREES_TO_RADIANS"), (0, u "RADIANS_TO_DEGREES")] 94

def k13m0 : Method := { name := "<init>", desc := "()V", sig := { parameters := [], returnType := none }, accessFlags := 2, code := none }
def k13c1 : Code := { maxStack := 2, maxLocals := 2, code := jdk_29_method_69_code, exceptionTable := #[], attributes := #[] }
def k13m1 : Method := { name := "min", desc := "(II)I", sig := { parameters := [.int, .int], returnType := some .int }, accessFlags := 9, code := some k13c1 }
/-- java/lang/Math -/
def k13 : Class := { plain "java/lang/Math" (some 0) with
  accessFlags := 49
  interfaces := #[]
  cf := some (fileOf pool13 1 #[.nestMembers #[98]] #[{ accessFlags := 2, nameIndex := 7, descriptorIndex := 8, attributes := #[] }, { accessFlags := 9, nameIndex := 201, descriptorIndex := 335, attributes := #[] }] 49 4 #[] #[{ accessFlags := 25, nameIndex := 354, descriptorIndex := 339, attributes := #[] }, { accessFlags := 25, nameIndex := 358, descriptorIndex := 339, attributes := #[] }, { accessFlags := 25, nameIndex := 361, descriptorIndex := 339, attributes := #[] }, { accessFlags := 26, nameIndex := 364, descriptorIndex := 339, attributes := #[] }, { accessFlags := 26, nameIndex := 365, descriptorIndex := 339, attributes := #[] }, { accessFlags := 26, nameIndex := 172, descriptorIndex := 173, attributes := #[] }, { accessFlags := 26, nameIndex := 176, descriptorIndex := 173, attributes := #[] }, { accessFlags := 8, nameIndex := 344, descriptorIndex := 339, attributes := #[] }, { accessFlags := 8, nameIndex := 338, descriptorIndex := 339, attributes := #[] }, { accessFlags := 4120, nameIndex := 245, descriptorIndex := 246, attributes := #[] }])
  fields := #[{ name := "E", type := .double, accessFlags := 25, slot := 0, constantValue := 0 }, { name := "PI", type := .double, accessFlags := 25, slot := 1, constantValue := 0 }, { name := "TAU", type := .double, accessFlags := 25, slot := 2, constantValue := 0 }, { name := "DEGREES_TO_RADIANS", type := .double, accessFlags := 26, slot := 3, constantValue := 0 }, { name := "RADIANS_TO_DEGREES", type := .double, accessFlags := 26, slot := 4, constantValue := 0 }, { name := "negativeZeroFloatBits", type := .long, accessFlags := 26, slot := 5, constantValue := 0 }, { name := "negativeZeroDoubleBits", type := .long, accessFlags := 26, slot := 6, constantValue := 0 }, { name := "twoToTheDoubleScaleUp", type := .double, accessFlags := 8, slot := 7, constantValue := 0 }, { name := "twoToTheDoubleScaleDown", type := .double, accessFlags := 8, slot := 8, constantValue := 0 }, { name := "$assertionsDisabled", type := .boolean, accessFlags := 4120, slot := 9, constantValue := 0 }]
  methods := #[k13m0, k13m1]
  instanceTypes := #[]
  staticTypes := #[.double, .double, .double, .double, .double, .long, .long, .double, .double, .boolean]
  resolved := Array.replicate 460 none
  statics := none }

/-- the primitive byte -/
def k14 : Class := { plain "byte" none with kind := .primitive 'B', accessFlags := 0x411 }
/-- [B -/
def k15 : Class := { plain "[B" (some 0) with kind := .array 14 .byte, interfaces := #[4, 5], accessFlags := 1041 }

/-- the primitive int -/
def k16 : Class := { plain "int" none with kind := .primitive 'I', accessFlags := 0x411 }
/-- [I -/
def k17 : Class := { plain "[I" (some 0) with kind := .array 16 .int, interfaces := #[4, 5], accessFlags := 1041 }

/-- the primitive long -/
def k18 : Class := { plain "long" none with kind := .primitive 'J', accessFlags := 0x411 }
/-- [J -/
def k19 : Class := { plain "[J" (some 0) with kind := .array 18 .long, interfaces := #[4, 5], accessFlags := 1041 }

def heap : Heap := #[{ cls := 6, slots := #[.int 0, .int 0, .int 0, .long 0, .null, .long 0, .int 1], vm := .statics 6 }]
def classes : Array Class := #[k0, k1, k2, k3, k4, k5, k6, k7, k8, k9, k10, k11, k12, k13, k14, k15, k16, k17, k18, k19]
def interned : List (Array UInt16 × Addr) := []
def slotsUsed : Nat := 7
def theMethod : MethodId := ⟨1, 1⟩
def args0 : Array Value := #[.int 3, .int 5, .int 1, .int 2, .int 6, .int 7]
def aboutOver (below : List Frame) : State where
  vm := { classes := classes, interned := interned.toArray }
  heap := heap
  slotsUsed := slotsUsed
  threads := #[{ frames := .invoking theMethod args0 :: below }]
def below0 : List Frame := [.native { method := ⟨0, 0⟩, args := #[] }]
def about1 : State := aboutOver below0
def p0 : Program := .bare "" "" ""
def e0 : Env := launch0.env 0 0 0
theorem w_frames : about1.frames = Frame.invoking theMethod args0 :: below0 := rfl
set_option maxRecDepth 65536 in
theorem w_args : argsFit about1.vm theMethod args0 = true := by decide +kernel
set_option maxRecDepth 65536 in
theorem w_heap : heapFits about1 = true := by decide +kernel
set_option maxRecDepth 65536 in
theorem w_runnable : about1.curStatus? = some .runnable := by decide +kernel
set_option maxRecDepth 65536 in
theorem w_alone : about1.alone = true := by decide +kernel
set_option maxRecDepth 65536 in
theorem w_named : about1.methodNamed? x = some theMethod := by decide +kernel
set_option maxRecDepth 65536 in
theorem w_hears : about1.hears theMethod below0 = true := by decide +kernel
set_option maxRecDepth 65536 in
theorem w_ripe : about1.ripe theMethod args0 below0 = true := by decide +kernel
theorem w_running : about1.status = .running := rfl
set_option maxRecDepth 65536 in
theorem w_room : about1.hasRoom e0.platform room_1 = true :=
  launch0.hasRoom_least _ room_1 (by decide +kernel) (by decide +kernel) (by decide +kernel) (by decide +kernel) (by decide +kernel) (by decide +kernel)
theorem allAtoms_all (ts : List Jvm.Cond) (a : Array Jvm.Value) (st : Jvm.State) : (allAtoms ts).before a st = ts.all (fun c => c.before a st) := by
  induction ts with
  | nil => rfl
  | cons c t ih =>
    show (Jvm.Cond.and c (allAtoms t)).before a st = _
    rw [Jvm.Cond.before_and, ih, List.all_cons]
def words1 : List Jvm.Cond := Jvm.Cond.code x code maxLocals ret :: tables_1
/-- a 'code' word, met by the world's own term for the bytes: nothing is compared byte by byte -/
theorem code_word {y : MethodName} {bytes : ByteArray} {mx : Nat} {rt : Option FieldType} {a : Array Value} {s : State} {m : MethodId} {meth : Method} {c : Code} (h1 : s.methodNamed? y = some m) (h2 : s.vm.method? m = some meth) (h3 : meth.code = some c) (h4 : c.code = bytes)
    (h5 : (c.maxLocals == mx && c.exceptionTable.isEmpty && decide (c.maxStack ≤ mostOperands) && decide (meth.sig.returnType = rt) && !meth.locks && decide (parseMethodDescriptor y.desc = some meth.sig)) = true) : (Jvm.Cond.code y bytes mx rt).before a s = true := by
  simp only [Bool.and_eq_true, beq_iff_eq, Bool.not_eq_true', decide_eq_true_eq] at h5
  obtain ⟨⟨⟨⟨⟨g1, g2⟩, g3⟩, g4⟩, g5⟩, g6⟩ := h5
  simp [Cond.before, Cond.holds, Cond.value, h1, h2, h3, h4, g1, g2, g3, g4, g5, g6]
def isCode : Jvm.Cond → Bool
  | .code _ _ _ _ => true
  | _ => false
theorem all_split {L : List Jvm.Cond} {P : Jvm.Cond → Bool} (h1 : L.all (fun c => isCode c || P c) = true) (h2 : ∀ c ∈ L.filter isCode, P c = true) : L.all P = true := by
  refine List.all_eq_true.mpr fun c hc => ?_
  have h := List.all_eq_true.mp h1 c hc
  rcases Bool.eq_false_or_eq_true (isCode c) with hi | hi
  · exact h2 c (List.mem_filter.mpr ⟨hc, hi⟩)
  · simpa [hi] using h
set_option maxRecDepth 65536 in
theorem w_c0 : (Jvm.Cond.code x code maxLocals ret).before args0 about1 = true := code_word (m := ⟨1, 1⟩) (meth := k1m1) (c := k1c1) (by decide +kernel) rfl rfl rfl (by decide +kernel)
set_option maxRecDepth 65536 in
theorem w_c1 : (Jvm.Cond.code ({ cls := "com/example/liaise/liaise/NodeTable", name := "<init>", desc := "(I)V" } : Jvm.MethodName) prog_47_method_1_code (2 : Nat) (Option.none : Option Jvm.ClassFile.FieldType)).before args0 about1 = true := code_word (m := ⟨2, 0⟩) (meth := k2m0) (c := k2c0) (by decide +kernel) rfl rfl rfl (by decide +kernel)
set_option maxRecDepth 65536 in
theorem w_c2 : (Jvm.Cond.code ({ cls := "java/lang/Object", name := "<init>", desc := "()V" } : Jvm.MethodName) object_method_1_code (1 : Nat) (Option.none : Option Jvm.ClassFile.FieldType)).before args0 about1 = true := code_word (m := ⟨0, 0⟩) (meth := k0m0) (c := k0c0) (by decide +kernel) rfl rfl rfl (by decide +kernel)
set_option maxRecDepth 65536 in
theorem w_c3 : (Jvm.Cond.code ({ cls := "com/example/liaise/liaise/NodeTable", name := "emptyCache", desc := "()V" } : Jvm.MethodName) prog_47_method_45_code (2 : Nat) (Option.none : Option Jvm.ClassFile.FieldType)).before args0 about1 = true := code_word (m := ⟨2, 14⟩) (meth := k2m14) (c := k2c14) (by decide +kernel) rfl rfl rfl (by decide +kernel)
set_option maxRecDepth 65536 in
theorem w_c4 : (Jvm.Cond.code ({ cls := "com/example/liaise/liaise/NodeTable", name := "capacity", desc := "()I" } : Jvm.MethodName) prog_47_method_37_code (1 : Nat) (Option.some Jvm.ClassFile.FieldType.int)).before args0 about1 = true := code_word (m := ⟨2, 9⟩) (meth := k2m9) (c := k2c9) (by decide +kernel) rfl rfl rfl (by decide +kernel)
set_option maxRecDepth 65536 in
theorem w_c5 : (Jvm.Cond.code ({ cls := "java/util/Arrays", name := "fill", desc := "([II)V" } : Jvm.MethodName) jdk_65_method_103_code (4 : Nat) (Option.none : Option Jvm.ClassFile.FieldType)).before args0 about1 = true := code_word (m := ⟨3, 1⟩) (meth := k3m1) (c := k3c1) (by decide +kernel) rfl rfl rfl (by decide +kernel)
set_option maxRecDepth 65536 in
theorem w_c6 : (Jvm.Cond.code ({ cls := "com/example/liaise/liaise/NodeTable", name := "terminal", desc := "(I)I" } : Jvm.MethodName) prog_47_method_3_code (2 : Nat) (Option.some Jvm.ClassFile.FieldType.int)).before args0 about1 = true := code_word (m := ⟨2, 1⟩) (meth := k2m1) (c := k2c1) (by decide +kernel) rfl rfl rfl (by decide +kernel)
set_option maxRecDepth 65536 in
theorem w_c7 : (Jvm.Cond.code ({ cls := "com/example/liaise/liaise/NodeTable", name := "unique", desc := "(III)I" } : Jvm.MethodName) prog_47_method_39_code (7 : Nat) (Option.some Jvm.ClassFile.FieldType.int)).before args0 about1 = true := code_word (m := ⟨2, 10⟩) (meth := k2m10) (c := k2c10) (by decide +kernel) rfl rfl rfl (by decide +kernel)
set_option maxRecDepth 65536 in
theorem w_c8 : (Jvm.Cond.code ({ cls := "com/example/liaise/liaise/NodeTable", name := "hash", desc := "(III)I" } : Jvm.MethodName) prog_47_method_46_code (4 : Nat) (Option.some Jvm.ClassFile.FieldType.int)).before args0 about1 = true := code_word (m := ⟨2, 15⟩) (meth := k2m15) (c := k2c15) (by decide +kernel) rfl rfl rfl (by decide +kernel)
set_option maxRecDepth 65536 in
theorem w_c9 : (Jvm.Cond.code ({ cls := "com/example/liaise/liaise/NodeTable", name := "place", desc := "(IIII)V" } : Jvm.MethodName) prog_47_method_40_code (6 : Nat) (Option.none : Option Jvm.ClassFile.FieldType)).before args0 about1 = true := code_word (m := ⟨2, 11⟩) (meth := k2m11) (c := k2c11) (by decide +kernel) rfl rfl rfl (by decide +kernel)
set_option maxRecDepth 65536 in
theorem w_c10 : (Jvm.Cond.code ({ cls := "com/example/liaise/liaise/NodeTable", name := "hold", desc := "(I)I" } : Jvm.MethodName) prog_47_method_22_code (2 : Nat) (Option.some Jvm.ClassFile.FieldType.int)).before args0 about1 = true := code_word (m := ⟨2, 7⟩) (meth := k2m7) (c := k2c7) (by decide +kernel) rfl rfl rfl (by decide +kernel)
set_option maxRecDepth 65536 in
theorem w_c11 : (Jvm.Cond.code ({ cls := "com/example/liaise/liaise/NodeTable", name := "collect", desc := "([II)V" } : Jvm.MethodName) prog_47_method_25_code (11 : Nat) (Option.none : Option Jvm.ClassFile.FieldType)).before args0 about1 = true := code_word (m := ⟨2, 8⟩) (meth := k2m8) (c := k2c8) (by decide +kernel) rfl rfl rfl (by decide +kernel)
set_option maxRecDepth 65536 in
theorem w_c12 : (Jvm.Cond.code ({ cls := "java/util/BitSet", name := "<init>", desc := "(I)V" } : Jvm.MethodName) jdk_92_method_5_code (2 : Nat) (Option.none : Option Jvm.ClassFile.FieldType)).before args0 about1 = true := code_word (m := ⟨6, 3⟩) (meth := k6m3) (c := k6c3) (by decide +kernel) rfl rfl rfl (by decide +kernel)
set_option maxRecDepth 65536 in
theorem w_c13 : (Jvm.Cond.code ({ cls := "java/util/BitSet", name := "initWords", desc := "(I)V" } : Jvm.MethodName) jdk_92_method_6_code (2 : Nat) (Option.none : Option Jvm.ClassFile.FieldType)).before args0 about1 = true := code_word (m := ⟨6, 4⟩) (meth := k6m4) (c := k6c4) (by decide +kernel) rfl rfl rfl (by decide +kernel)
set_option maxRecDepth 65536 in
theorem w_c14 : (Jvm.Cond.code ({ cls := "java/util/BitSet", name := "wordIndex", desc := "(I)I" } : Jvm.MethodName) jdk_92_method_1_code (1 : Nat) (Option.some Jvm.ClassFile.FieldType.int)).before args0 about1 = true := code_word (m := ⟨6, 0⟩) (meth := k6m0) (c := k6c0) (by decide +kernel) rfl rfl rfl (by decide +kernel)
set_option maxRecDepth 65536 in
theorem w_c15 : (Jvm.Cond.code ({ cls := "java/util/BitSet", name := "set", desc := "(I)V" } : Jvm.MethodName) jdk_92_method_19_code (3 : Nat) (Option.none : Option Jvm.ClassFile.FieldType)).before args0 about1 = true := code_word (m := ⟨6, 7⟩) (meth := k6m7) (c := k6c7) (by decide +kernel) rfl rfl rfl (by decide +kernel)
set_option maxRecDepth 65536 in
theorem w_c16 : (Jvm.Cond.code ({ cls := "java/util/BitSet", name := "expandTo", desc := "(I)V" } : Jvm.MethodName) jdk_92_method_15_code (3 : Nat) (Option.none : Option Jvm.ClassFile.FieldType)).before args0 about1 = true := code_word (m := ⟨6, 6⟩) (meth := k6m6) (c := k6c6) (by decide +kernel) rfl rfl rfl (by decide +kernel)
set_option maxRecDepth 65536 in
theorem w_c17 : (Jvm.Cond.code ({ cls := "java/util/BitSet", name := "ensureCapacity", desc := "(I)V" } : Jvm.MethodName) jdk_92_method_14_code (3 : Nat) (Option.none : Option Jvm.ClassFile.FieldType)).before args0 about1 = true := code_word (m := ⟨6, 5⟩) (meth := k6m5) (c := k6c5) (by decide +kernel) rfl rfl rfl (by decide +kernel)
set_option maxRecDepth 65536 in
theorem w_c18 : (Jvm.Cond.code ({ cls := "java/util/BitSet", name := "checkInvariants", desc := "()V" } : Jvm.MethodName) jdk_92_method_2_code (1 : Nat) (Option.none : Option Jvm.ClassFile.FieldType)).before args0 about1 = true := code_word (m := ⟨6, 1⟩) (meth := k6m1) (c := k6c1) (by decide +kernel) rfl rfl rfl (by decide +kernel)
set_option maxRecDepth 65536 in
theorem w_c19 : (Jvm.Cond.code ({ cls := "java/util/BitSet", name := "get", desc := "(I)Z" } : Jvm.MethodName) jdk_92_method_26_code (3 : Nat) (Option.some Jvm.ClassFile.FieldType.boolean)).before args0 about1 = true := code_word (m := ⟨6, 8⟩) (meth := k6m8) (c := k6c8) (by decide +kernel) rfl rfl rfl (by decide +kernel)
set_option maxRecDepth 65536 in
theorem w_c20 : (Jvm.Cond.code ({ cls := "com/example/liaise/liaise/NodeTable", name := "variable", desc := "(I)I" } : Jvm.MethodName) prog_47_method_17_code (2 : Nat) (Option.some Jvm.ClassFile.FieldType.int)).before args0 about1 = true := code_word (m := ⟨2, 2⟩) (meth := k2m2) (c := k2c2) (by decide +kernel) rfl rfl rfl (by decide +kernel)
set_option maxRecDepth 65536 in
theorem w_c21 : (Jvm.Cond.code ({ cls := "java/util/BitSet", name := "nextSetBit", desc := "(I)I" } : Jvm.MethodName) jdk_92_method_28_code (5 : Nat) (Option.some Jvm.ClassFile.FieldType.int)).before args0 about1 = true := code_word (m := ⟨6, 9⟩) (meth := k6m9) (c := k6c9) (by decide +kernel) rfl rfl rfl (by decide +kernel)
set_option maxRecDepth 65536 in
theorem w_c22 : (Jvm.Cond.code ({ cls := "java/lang/Long", name := "numberOfTrailingZeros", desc := "(J)I" } : Jvm.MethodName) jdk_35_method_49_code (3 : Nat) (Option.some Jvm.ClassFile.FieldType.int)).before args0 about1 = true := code_word (m := ⟨11, 0⟩) (meth := k11m0) (c := k11c0) (by decide +kernel) rfl rfl rfl (by decide +kernel)
set_option maxRecDepth 65536 in
theorem w_c23 : (Jvm.Cond.code ({ cls := "java/lang/Integer", name := "numberOfTrailingZeros", desc := "(I)I" } : Jvm.MethodName) jdk_33_method_48_code (2 : Nat) (Option.some Jvm.ClassFile.FieldType.int)).before args0 about1 = true := code_word (m := ⟨12, 0⟩) (meth := k12m0) (c := k12c0) (by decide +kernel) rfl rfl rfl (by decide +kernel)
set_option maxRecDepth 65536 in
theorem w_c24 : (Jvm.Cond.code ({ cls := "com/example/liaise/liaise/NodeTable", name := "low", desc := "(I)I" } : Jvm.MethodName) prog_47_method_18_code (2 : Nat) (Option.some Jvm.ClassFile.FieldType.int)).before args0 about1 = true := code_word (m := ⟨2, 3⟩) (meth := k2m3) (c := k2c3) (by decide +kernel) rfl rfl rfl (by decide +kernel)
set_option maxRecDepth 65536 in
theorem w_c25 : (Jvm.Cond.code ({ cls := "com/example/liaise/liaise/NodeTable", name := "high", desc := "(I)I" } : Jvm.MethodName) prog_47_method_19_code (2 : Nat) (Option.some Jvm.ClassFile.FieldType.int)).before args0 about1 = true := code_word (m := ⟨2, 4⟩) (meth := k2m4) (c := k2c4) (by decide +kernel) rfl rfl rfl (by decide +kernel)
set_option maxRecDepth 65536 in
theorem w_c26 : (Jvm.Cond.code ({ cls := "java/lang/Math", name := "min", desc := "(II)I" } : Jvm.MethodName) jdk_29_method_69_code (2 : Nat) (Option.some Jvm.ClassFile.FieldType.int)).before args0 about1 = true := code_word (m := ⟨13, 1⟩) (meth := k13m1) (c := k13c1) (by decide +kernel) rfl rfl rfl (by decide +kernel)
set_option maxRecDepth 65536 in
theorem w_c27 : (Jvm.Cond.code ({ cls := "com/example/liaise/liaise/NodeTable", name := "resize", desc := "(I)V" } : Jvm.MethodName) prog_47_method_43_code (2 : Nat) (Option.none : Option Jvm.ClassFile.FieldType)).before args0 about1 = true := code_word (m := ⟨2, 12⟩) (meth := k2m12) (c := k2c12) (by decide +kernel) rfl rfl rfl (by decide +kernel)
set_option maxRecDepth 65536 in
theorem w_c28 : (Jvm.Cond.code ({ cls := "com/example/liaise/liaise/NodeTable", name := "rehash", desc := "()V" } : Jvm.MethodName) prog_47_method_44_code (3 : Nat) (Option.none : Option Jvm.ClassFile.FieldType)).before args0 about1 = true := code_word (m := ⟨2, 13⟩) (meth := k2m13) (c := k2c13) (by decide +kernel) rfl rfl rfl (by decide +kernel)
set_option maxRecDepth 65536 in
theorem w_c29 : (Jvm.Cond.code ({ cls := "com/example/liaise/liaise/NodeTable", name := "size", desc := "()I" } : Jvm.MethodName) prog_47_method_20_code (1 : Nat) (Option.some Jvm.ClassFile.FieldType.int)).before args0 about1 = true := code_word (m := ⟨2, 5⟩) (meth := k2m5) (c := k2c5) (by decide +kernel) rfl rfl rfl (by decide +kernel)
set_option maxRecDepth 65536 in
theorem w_c30 : (Jvm.Cond.code ({ cls := "com/example/liaise/liaise/NodeTable", name := "crowded", desc := "()Z" } : Jvm.MethodName) prog_47_method_21_code (1 : Nat) (Option.some Jvm.ClassFile.FieldType.boolean)).before args0 about1 = true := code_word (m := ⟨2, 6⟩) (meth := k2m6) (c := k2c6) (by decide +kernel) rfl rfl rfl (by decide +kernel)
def codes1 : List Jvm.Cond := [Jvm.Cond.code x code maxLocals ret, Jvm.Cond.code ({ cls := "com/example/liaise/liaise/NodeTable", name := "<init>", desc := "(I)V" } : Jvm.MethodName) prog_47_method_1_code (2 : Nat) (Option.none : Option Jvm.ClassFile.FieldType), Jvm.Cond.code ({ cls := "java/lang/Object", name := "<init>", desc := "()V" } : Jvm.MethodName) object_method_1_code (1 : Nat) (Option.none : Option Jvm.ClassFile.FieldType), Jvm.Cond.code ({ cls := "com/example/liaise/liaise/NodeTable", name := "emptyCache", desc := "()V" } : Jvm.MethodName) prog_47_method_45_code (2 : Nat) (Option.none : Option Jvm.ClassFile.FieldType), Jvm.Cond.code ({ cls := "com/example/liaise/liaise/NodeTable", name := "capacity", desc := "()I" } : Jvm.MethodName) prog_47_method_37_code (1 : Nat) (Option.some Jvm.ClassFile.FieldType.int), Jvm.Cond.code ({ cls := "java/util/Arrays", name := "fill", desc := "([II)V" } : Jvm.MethodName) jdk_65_method_103_code (4 : Nat) (Option.none : Option Jvm.ClassFile.FieldType), Jvm.Cond.code ({ cls := "com/example/liaise/liaise/NodeTable", name := "terminal", desc := "(I)I" } : Jvm.MethodName) prog_47_method_3_code (2 : Nat) (Option.some Jvm.ClassFile.FieldType.int), Jvm.Cond.code ({ cls := "com/example/liaise/liaise/NodeTable", name := "unique", desc := "(III)I" } : Jvm.MethodName) prog_47_method_39_code (7 : Nat) (Option.some Jvm.ClassFile.FieldType.int), Jvm.Cond.code ({ cls := "com/example/liaise/liaise/NodeTable", name := "hash", desc := "(III)I" } : Jvm.MethodName) prog_47_method_46_code (4 : Nat) (Option.some Jvm.ClassFile.FieldType.int), Jvm.Cond.code ({ cls := "com/example/liaise/liaise/NodeTable", name := "place", desc := "(IIII)V" } : Jvm.MethodName) prog_47_method_40_code (6 : Nat) (Option.none : Option Jvm.ClassFile.FieldType), Jvm.Cond.code ({ cls := "com/example/liaise/liaise/NodeTable", name := "hold", desc := "(I)I" } : Jvm.MethodName) prog_47_method_22_code (2 : Nat) (Option.some Jvm.ClassFile.FieldType.int), Jvm.Cond.code ({ cls := "com/example/liaise/liaise/NodeTable", name := "collect", desc := "([II)V" } : Jvm.MethodName) prog_47_method_25_code (11 : Nat) (Option.none : Option Jvm.ClassFile.FieldType), Jvm.Cond.code ({ cls := "java/util/BitSet", name := "<init>", desc := "(I)V" } : Jvm.MethodName) jdk_92_method_5_code (2 : Nat) (Option.none : Option Jvm.ClassFile.FieldType), Jvm.Cond.code ({ cls := "java/util/BitSet", name := "initWords", desc := "(I)V" } : Jvm.MethodName) jdk_92_method_6_code (2 : Nat) (Option.none : Option Jvm.ClassFile.FieldType), Jvm.Cond.code ({ cls := "java/util/BitSet", name := "wordIndex", desc := "(I)I" } : Jvm.MethodName) jdk_92_method_1_code (1 : Nat) (Option.some Jvm.ClassFile.FieldType.int), Jvm.Cond.code ({ cls := "java/util/BitSet", name := "set", desc := "(I)V" } : Jvm.MethodName) jdk_92_method_19_code (3 : Nat) (Option.none : Option Jvm.ClassFile.FieldType), Jvm.Cond.code ({ cls := "java/util/BitSet", name := "expandTo", desc := "(I)V" } : Jvm.MethodName) jdk_92_method_15_code (3 : Nat) (Option.none : Option Jvm.ClassFile.FieldType), Jvm.Cond.code ({ cls := "java/util/BitSet", name := "ensureCapacity", desc := "(I)V" } : Jvm.MethodName) jdk_92_method_14_code (3 : Nat) (Option.none : Option Jvm.ClassFile.FieldType), Jvm.Cond.code ({ cls := "java/util/BitSet", name := "checkInvariants", desc := "()V" } : Jvm.MethodName) jdk_92_method_2_code (1 : Nat) (Option.none : Option Jvm.ClassFile.FieldType), Jvm.Cond.code ({ cls := "java/util/BitSet", name := "get", desc := "(I)Z" } : Jvm.MethodName) jdk_92_method_26_code (3 : Nat) (Option.some Jvm.ClassFile.FieldType.boolean), Jvm.Cond.code ({ cls := "com/example/liaise/liaise/NodeTable", name := "variable", desc := "(I)I" } : Jvm.MethodName) prog_47_method_17_code (2 : Nat) (Option.some Jvm.ClassFile.FieldType.int), Jvm.Cond.code ({ cls := "java/util/BitSet", name := "nextSetBit", desc := "(I)I" } : Jvm.MethodName) jdk_92_method_28_code (5 : Nat) (Option.some Jvm.ClassFile.FieldType.int), Jvm.Cond.code ({ cls := "java/lang/Long", name := "numberOfTrailingZeros", desc := "(J)I" } : Jvm.MethodName) jdk_35_method_49_code (3 : Nat) (Option.some Jvm.ClassFile.FieldType.int), Jvm.Cond.code ({ cls := "java/lang/Integer", name := "numberOfTrailingZeros", desc := "(I)I" } : Jvm.MethodName) jdk_33_method_48_code (2 : Nat) (Option.some Jvm.ClassFile.FieldType.int), Jvm.Cond.code ({ cls := "com/example/liaise/liaise/NodeTable", name := "low", desc := "(I)I" } : Jvm.MethodName) prog_47_method_18_code (2 : Nat) (Option.some Jvm.ClassFile.FieldType.int), Jvm.Cond.code ({ cls := "com/example/liaise/liaise/NodeTable", name := "high", desc := "(I)I" } : Jvm.MethodName) prog_47_method_19_code (2 : Nat) (Option.some Jvm.ClassFile.FieldType.int), Jvm.Cond.code ({ cls := "java/lang/Math", name := "min", desc := "(II)I" } : Jvm.MethodName) jdk_29_method_69_code (2 : Nat) (Option.some Jvm.ClassFile.FieldType.int), Jvm.Cond.code ({ cls := "com/example/liaise/liaise/NodeTable", name := "resize", desc := "(I)V" } : Jvm.MethodName) prog_47_method_43_code (2 : Nat) (Option.none : Option Jvm.ClassFile.FieldType), Jvm.Cond.code ({ cls := "com/example/liaise/liaise/NodeTable", name := "rehash", desc := "()V" } : Jvm.MethodName) prog_47_method_44_code (3 : Nat) (Option.none : Option Jvm.ClassFile.FieldType), Jvm.Cond.code ({ cls := "com/example/liaise/liaise/NodeTable", name := "size", desc := "()I" } : Jvm.MethodName) prog_47_method_20_code (1 : Nat) (Option.some Jvm.ClassFile.FieldType.int), Jvm.Cond.code ({ cls := "com/example/liaise/liaise/NodeTable", name := "crowded", desc := "()Z" } : Jvm.MethodName) prog_47_method_21_code (1 : Nat) (Option.some Jvm.ClassFile.FieldType.boolean)]
set_option maxRecDepth 65536 in
theorem codes_eq : words1.filter isCode = codes1 := rfl
theorem w_codes : ∀ c ∈ words1.filter isCode, c.before args0 about1 = true := by
  rw [codes_eq]
  intro c hc
  simp only [codes1, List.mem_cons, List.not_mem_nil, or_false] at hc
  rcases hc with rfl | rfl | rfl | rfl | rfl | rfl | rfl | rfl | rfl | rfl | rfl | rfl | rfl | rfl | rfl | rfl | rfl | rfl | rfl | rfl | rfl | rfl | rfl | rfl | rfl | rfl | rfl | rfl | rfl | rfl | rfl
  · exact w_c0
  · exact w_c1
  · exact w_c2
  · exact w_c3
  · exact w_c4
  · exact w_c5
  · exact w_c6
  · exact w_c7
  · exact w_c8
  · exact w_c9
  · exact w_c10
  · exact w_c11
  · exact w_c12
  · exact w_c13
  · exact w_c14
  · exact w_c15
  · exact w_c16
  · exact w_c17
  · exact w_c18
  · exact w_c19
  · exact w_c20
  · exact w_c21
  · exact w_c22
  · exact w_c23
  · exact w_c24
  · exact w_c25
  · exact w_c26
  · exact w_c27
  · exact w_c28
  · exact w_c29
  · exact w_c30
set_option maxRecDepth 65536 in
theorem w_t1 : (words1.take 24).all (fun c => isCode c || c.before args0 about1) = true := by decide +kernel
set_option maxRecDepth 65536 in
theorem w_t2 : ((words1.drop 24).take 24).all (fun c => isCode c || c.before args0 about1) = true := by decide +kernel
set_option maxRecDepth 65536 in
theorem w_t3 : (((words1.drop 24).drop 24).take 24).all (fun c => isCode c || c.before args0 about1) = true := by decide +kernel
set_option maxRecDepth 65536 in
theorem w_t4 : ((((words1.drop 24).drop 24).drop 24).take 24).all (fun c => isCode c || c.before args0 about1) = true := by decide +kernel
set_option maxRecDepth 65536 in
theorem w_t5 : (((((words1.drop 24).drop 24).drop 24).drop 24).take 24).all (fun c => isCode c || c.before args0 about1) = true := by decide +kernel
set_option maxRecDepth 65536 in
theorem w_t6 : ((((((words1.drop 24).drop 24).drop 24).drop 24).drop 24).take 24).all (fun c => isCode c || c.before args0 about1) = true := by decide +kernel
set_option maxRecDepth 65536 in
theorem w_t7 : (((((((words1.drop 24).drop 24).drop 24).drop 24).drop 24).drop 24).take 24).all (fun c => isCode c || c.before args0 about1) = true := by decide +kernel
set_option maxRecDepth 65536 in
theorem w_t8 : (((((((words1.drop 24).drop 24).drop 24).drop 24).drop 24).drop 24).drop 24).all (fun c => isCode c || c.before args0 about1) = true := by decide +kernel
theorem w_tables : (allAtoms (Jvm.Cond.code x code maxLocals ret :: tables_1)).before args0 about1 = true := by
  rw [allAtoms_all]
  show words1.all (fun c => c.before args0 about1) = true
  refine all_split ?_ w_codes
  rw [← List.take_append_drop 24 words1, List.all_append, w_t1, ← List.take_append_drop 24 (words1.drop 24), List.all_append, w_t2, ← List.take_append_drop 24 ((words1.drop 24).drop 24), List.all_append, w_t3, ← List.take_append_drop 24 (((words1.drop 24).drop 24).drop 24), List.all_append, w_t4, ← List.take_append_drop 24 ((((words1.drop 24).drop 24).drop 24).drop 24), List.all_append, w_t5, ← List.take_append_drop 24 (((((words1.drop 24).drop 24).drop 24).drop 24).drop 24), List.all_append, w_t6, ← List.take_append_drop 24 ((((((words1.drop 24).drop 24).drop 24).drop 24).drop 24).drop 24), List.all_append, w_t7, w_t8]
  rfl
set_option maxRecDepth 65536 in
theorem w_rest : rest_1_c.before args0 about1 = true := by decide +kernel
set_option maxRecDepth 65536 in
theorem w_case : (Jvm.Cond.and given_1 narrow_1).before args0 about1 = true := by decide +kernel
theorem w_applies : (headSpec (Jvm.Cond.code x code maxLocals ret :: tables_1) room_1).applies x e0.platform about1 = true :=
  (Spec.applies_iff w_frames).mpr ⟨w_running, w_runnable, w_alone, w_named, w_hears, w_ripe, w_room, w_tables⟩
theorem atStart : AtStart classFile x code maxLocals ret World_1 tables_1 room_1 Calls_1 rest_1 Pre_1 launch0 p0 e0 about1 theMethod args0 below0 :=
  ⟨lists_1, trivial, launch0.admits_env _ _ _, launch0.least_env, fairChoices_fair.cas, fairChoices_fair.clock, w_frames, w_args, w_heap, w_applies, trivial, w_rest, w_case⟩
end start1
theorem witness_1 : WitnessClaimed_1 := ⟨start1.p0, start1.e0, start1.about1, start1.theMethod, start1.args0, start1.below0, start1.atStart⟩
end Jvm.Pilot.@@N@@
