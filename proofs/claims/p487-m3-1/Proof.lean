import JvmDerived
import JvmDerived.Pilot.@@N@@Statement
import JvmDerived.Pilot.@@N@@Code
set_option linter.unusedVariables false
set_option linter.unusedSimpArgs false
namespace Jvm.RoadKit
open Sem ClassFile Op Lib Jvm.Stand Jvm.Free Jvm.LawKit
section New
variable {p : Program} {l : Launch} {e : Env} {R : Room} {s : State} {m : MethodId} {args : Array Value} {below : List Frame} {meth : Method} {c : Code} {T : State} {locs : List Loc} {cells slots : Nat}
theorem retI (X : Stand p l e R s m args below meth c T locs cells slots) (hx : p.tables.exec = Jvm.exec) {pc : Nat} {Ls : Array Slot} {z : Int32} {rest : List Value} (hret : meth.sig.returnType = some .int) (hd : decode c.code pc = .ok (.ireturn, 1)) {fs : List Frame}
    (hl : ∀ (f : JFrame) (acts : List Action), f.method = m → f.locked = none → f.entered = [] → (doReturn e (T.setTop f) acts (some (.int z))).1 = T.setFrames fs) : Steps p.tables e below (T.setTop (mkF m pc Ls (.int z :: rest))) (T.setFrames fs) := by
  have hm' : T.vm.method? m = some meth := X.method'
  have hn : narrow .int (.int z) = .int z := rfl
  show Steps p.tables e below (T.setTop { method := m, pc := pc, locals := Ls, stack := _ :: rest, locked := none }) _
  jvm_step X.here [X.here.top, hx, hd, hm', hret, hn]
  first | (intro acts; rw [hl _ acts rfl rfl rfl]) | rw [hl _ _ rfl rfl rfl]
  exact Steps.refl _
theorem own_retL (X : Stand p l e R s m args below meth c T locs cells slots) (hx : p.tables.exec = Jvm.exec) {pc : Nat} {Ls : Array Slot} {z : Int64} {rest : List Value} (hret : meth.sig.returnType = some .long) (hd : decode c.code pc = .ok (.lreturn, 1)) {fs : List Frame}
    (hl : ∀ (f : JFrame) (acts : List Action), f.method = m → f.locked = none → f.entered = [] → (doReturn e (T.setTop f) acts (some (.long z))).1 = T.setFrames fs) : Steps p.tables e below (T.setTop (mkF m pc Ls (.long z :: rest))) (T.setFrames fs) := by
  have hm' : T.vm.method? m = some meth := X.method'
  show Steps p.tables e below (T.setTop { method := m, pc := pc, locals := Ls, stack := _ :: rest, locked := none }) _
  jvm_step X.here [X.here.top, hx, hd, hm', hret, narrow]
  first | (intro acts; rw [hl _ acts rfl rfl rfl]) | rw [hl _ _ rfl rfl rfl]
  exact Steps.refl _
theorem own_retD (X : Stand p l e R s m args below meth c T locs cells slots) (hx : p.tables.exec = Jvm.exec) {pc : Nat} {Ls : Array Slot} {z : UInt64} {rest : List Value} (hret : meth.sig.returnType = some .double) (hd : decode c.code pc = .ok (.dreturn, 1)) {fs : List Frame}
    (hl : ∀ (f : JFrame) (acts : List Action), f.method = m → f.locked = none → f.entered = [] → (doReturn e (T.setTop f) acts (some (.double z))).1 = T.setFrames fs) : Steps p.tables e below (T.setTop (mkF m pc Ls (.double z :: rest))) (T.setFrames fs) := by
  have hm' : T.vm.method? m = some meth := X.method'
  show Steps p.tables e below (T.setTop { method := m, pc := pc, locals := Ls, stack := _ :: rest, locked := none }) _
  jvm_step X.here [X.here.top, hx, hd, hm', hret, narrow]
  first | (intro acts; rw [hl _ acts rfl rfl rfl]) | rw [hl _ _ rfl rfl rfl]
  exact Steps.refl _
theorem own_abs (X : Stand p l e R s m args below meth c T locs cells slots) {n0 : Nat} (N : Fr n0 locs) : ∃ LL, Stand p l e R s m args below meth c T LL cells slots ∧ Fr n0 LL := ⟨_, X, N⟩
/-- from A the run ends as K says -/
abbrev own_Fin (p : Program) (e : Env) (below : List Frame) (K : Outcome → State → Prop) (A : State) : Prop := ∃ s₂ o, Steps p.tables e below A s₂ ∧ s₂.status = .running ∧ Ended s₂ below o ∧ K o s₂
theorem own_go {K : Outcome → State → Prop} {A B : State} (h : ∀ t, Steps p.tables e below B t → Steps p.tables e below A t) (k : own_Fin p e below K B) : own_Fin p e below K A := by
  obtain ⟨s₂, o, hs, r⟩ := k
  exact ⟨s₂, o, h _ hs, r⟩
end New
end Jvm.RoadKit

namespace Jvm.RoadKit
open Sem ClassFile Op Lib Jvm.Stand Jvm.Free Jvm.LawKit
/-- an Object[] of known length whose components are what g says; k its class -/
def own_Rg (Z : State) (h : Heap) (a : Addr) (k : ClassId) (n : Int32) (g : Nat → Value) : Prop := ∃ c : Cell, Arr Z h a c (.object "java/lang/Object") ∧ c.cls = k ∧ c.slots.size = n.toNatClampNeg ∧ ¬ n < 0 ∧ ∀ i, i < c.slots.size → c.slots[i]? = some (g i)
section Rg
variable {Z : State} {h h' : Heap} {a b : Addr} {k : ClassId} {n : Int32} {g : Nat → Value} {sl : Nat} {v : Value} {ws : List Addr}
theorem own_Rg.lt (F : own_Rg Z h a k n g) : a < h.size := by obtain ⟨c, A, -⟩ := F; exact A.lt
theorem own_Rg.ext (F : own_Rg Z h a k n g) (E : Ext h h') : own_Rg Z h' a k n g := by obtain ⟨c, A, r⟩ := F; exact ⟨c, A.ext E, r⟩
theorem own_Rg.other (F : own_Rg Z h b k n g) (W : Wr h h' a sl v) (q : b ≠ a) : own_Rg Z h' b k n g := by obtain ⟨c, A, r⟩ := F; exact ⟨c, A.other W q, r⟩
theorem own_Rg.keep (F : own_Rg Z h a k n g) (K : Keep h h' ws) (q : a ∉ ws) : own_Rg Z h' a k n g := by obtain ⟨c, A, r⟩ := F; exact ⟨c, ⟨K.2.1 a c A.1 q, A.2⟩, r⟩
theorem own_Rg.setk {j : Int32} (F : own_Rg Z h a k n g) (W : Wr h h' a j.toNatClampNeg v) (i : Nat) (e : j.toNatClampNeg = i) : own_Rg Z h' a k n (fun x => if x = i then v else g x) := by
  subst e
  obtain ⟨c, A, C, S, q, H⟩ := F
  obtain ⟨cw, w1, w2, w3, w4⟩ := id W
  have hc : cw = c := Option.some.inj (w1.symm.trans A.1)
  subst hc
  have hs : (cw.setSlot j.toNatClampNeg v).slots.size = cw.slots.size := by simp [Cell.setSlot]
  refine ⟨cw.setSlot j.toNatClampNeg v, A.same W, C, hs.trans S, q, fun i hi => ?_⟩
  by_cases e : i = j.toNatClampNeg
  · subst e; simp [Cell.setSlot, w3]
  · simp only [if_neg e]
    rw [← H i (hs ▸ hi)]
    exact Array.getElem?_setIfInBounds_ne (Ne.symm e)
theorem own_Rg.get (F : own_Rg Z h a k n g) {j : Int32} (h1 : ¬ j < 0) (h2 : j < n) : ∃ cl : Cell, Arr Z h a cl (.object "java/lang/Object") ∧ cl.cls = k ∧ ¬ (j < 0 ∨ cl.slots.size ≤ j.toNatClampNeg) ∧ cl.slots[j.toNatClampNeg]? = some (g j.toNatClampNeg) := by
  obtain ⟨c, A, C, S, q, H⟩ := F
  have i := inb_of S ⟨h1, h2⟩
  exact ⟨c, A, C, i, H _ (Nat.lt_of_not_le fun y => i (Or.inr y))⟩
theorem own_Rg.len (F : own_Rg Z h a k n g) : ∃ cl : Cell, Arr Z h a cl (.object "java/lang/Object") ∧ cl.slots.size = n.toNatClampNeg ∧ ¬ n < 0 := by
  obtain ⟨c, A, C, S, q, H⟩ := F
  exact ⟨c, A, S, q⟩
theorem own_Rg.new (F : Arv Z h a k (.object "java/lang/Object") n [] .null) : own_Rg Z h a k n (fun _ => .null) := by
  obtain ⟨c, A, C, S, q, H, -⟩ := F
  exact ⟨c, A, C, S, q, fun i hi => by simpa using H i hi⟩
theorem own_staKeep {C f d : String} (F : Sta Z h C f d v) (K : Keep h h' ws) (hn : ∀ x ∈ ws, ∀ cell : Cell, h[x]? = some cell → cell.vm.isStatics = false) : Sta Z h' C f d v := by
  obtain ⟨cf, i, k, fl, st, cell, h1, h2, h3, h4, h5, h6, h7⟩ := F
  exact ⟨cf, i, k, fl, st, cell, h1, h2, h3, h4, K.2.1 st cell h5 (fun q => by rw [hn st q cell h5] at h6; cases h6), h6, h7⟩
end Rg
end Jvm.RoadKit

/- laws to paste: Road.backV (cut by pick.py; bodies as the Statement names them) -/
namespace Jvm.Pilot.@@N@@
namespace StrChars
open Jvm Sem ClassFile Op Lib Jvm.Stand Jvm.Free.XT Jvm.Free.ALB Jvm.Free.JM Jvm.Free
open Jvm.Lib.Cold (StaticIs)
/-- a char array whose places are chars -/
def Ch (a : Addr) (A : Cell) (U : State) : Prop := Arr .char a A U ∧ Typed .char A
theorem Ch.mv {a : Addr} {A : Cell} {U U' : State} (h : Ch a A U) (hal : U.vm.Alike U'.vm) (hh : U'.heap = U.heap) : Ch a A U' := ⟨h.1.mv hal hh, h.2⟩
theorem Ch.keep {a : Addr} {A : Cell} {U U' : State} (h : Ch a A U) (hal : U.vm.Alike U'.vm) (hk : U'.heap[a]? = some A) : Ch a A U' := ⟨h.1.keep hal hk, h.2⟩
/-- what place i of a char[]'s cell holds -/
def cv (A : Cell) (i : Nat) : Int32 := match A.slots[i]? with | some (.int x) => x | _ => 0
theorem Ch.get {a : Addr} {A : Cell} {U : State} (h : Ch a A U) {i : Nat} (hi : i < A.slots.size) : A.slots[i]? = some (.int (cv A i)) := by
  have e := Array.getElem?_eq_getElem hi
  have f := h.2 i _ e
  unfold cv; rw [e]
  generalize A.slots[i] = v at f
  cases v <;> simp [fits] at f ⊢
/-- the byte that i2b leaves of a char -/
def lo8 (x : Int32) : Int32 := x.toInt8.toInt32
theorem fits_lo8 (y : Int32) : fits .byte (.int (lo8 y)) = true := by
  have h1 := y.toInt8.le_toInt
  have h2 := y.toInt8.toInt_lt
  simp only [lo8, fits, Bool.and_eq_true, decide_eq_true_eq, Int32.le_iff_toInt_le, Int8.toInt_toInt32, show (-128 : Int32).toInt = -128 from by decide, show (127 : Int32).toInt = 127 from by decide]
  omega
/-- A' is A but that each place j of lo .. hi - 1 holds f j -/
def Laid (A A' : Cell) (lo hi : Nat) (f : Nat → Value) : Prop := A'.cls = A.cls ∧ A'.vm = A.vm ∧ A'.slots.size = A.slots.size ∧ ∀ i, A'.slots[i]? = if lo ≤ i ∧ i < hi then some (f i) else A.slots[i]?
theorem Laid.zero (A : Cell) (lo : Nat) (f : Nat → Value) : Laid A A lo (lo + 0) f := ⟨rfl, rfl, rfl, fun i => by rw [if_neg (by omega)]⟩
theorem Laid.step {A Ak : Cell} {lo k : Nat} {f : Nat → Value} {v : Value} (h : Laid A Ak lo k f) (hlo : lo ≤ k) (hk : k < Ak.slots.size) (hv : v = f k) : Laid A (Ak.setSlot k v) lo (k + 1) f := by
  refine ⟨h.1, h.2.1, by simpa [Cell.setSlot] using h.2.2.1, fun i => ?_⟩
  by_cases e : k = i
  · subst e; rw [Cell.slots_setSlot_self v hk, if_pos (by omega), hv]
  · rw [Cell.slots_setSlot_ne v e, h.2.2.2 i]
    by_cases q : lo ≤ i ∧ i < k
    · rw [if_pos q, if_pos (by omega)]
    · rw [if_neg q, if_neg (by omega)]
def U16 : String := "java/lang/StringUTF16"
namespace Cmp5
def yN : MethodName := ⟨"java/lang/StringUTF16", "compress", "([CI[BII)I"⟩
abbrev yB : ByteArray := jdk_52_method_21_code
theorem d0 : decode yB 0 = .ok (.iconst 0, 1) := by decide +kernel
theorem d1 : decode yB 1 = .ok (.istore 5, 2) := by decide +kernel
theorem d3 : decode yB 3 = .ok (.iload 5, 2) := by decide +kernel
theorem d5 : decode yB 5 = .ok (.iload 4, 2) := by decide +kernel
theorem d7 : decode yB 7 = .ok (.if_icmp (.ge) 37, 3) := by decide +kernel
theorem d10 : decode yB 10 = .ok (.aload_n 0, 1) := by decide +kernel
theorem d11 : decode yB 11 = .ok (.iload_n 1, 1) := by decide +kernel
theorem d12 : decode yB 12 = .ok (.caload, 1) := by decide +kernel
theorem d13 : decode yB 13 = .ok (.istore 6, 2) := by decide +kernel
theorem d15 : decode yB 15 = .ok (.iload 6, 2) := by decide +kernel
theorem d17 : decode yB 17 = .ok (.sipush 255, 3) := by decide +kernel
theorem d20 : decode yB 20 = .ok (.if_icmp (.le) 6, 3) := by decide +kernel
theorem d26 : decode yB 26 = .ok (.aload_n 2, 1) := by decide +kernel
theorem d27 : decode yB 27 = .ok (.iload_n 3, 1) := by decide +kernel
theorem d28 : decode yB 28 = .ok (.iload 6, 2) := by decide +kernel
theorem d30 : decode yB 30 = .ok (.i2b, 1) := by decide +kernel
theorem d31 : decode yB 31 = .ok (.bastore, 1) := by decide +kernel
theorem d32 : decode yB 32 = .ok (.iinc 1 1, 3) := by decide +kernel
theorem d35 : decode yB 35 = .ok (.iinc 3 1, 3) := by decide +kernel
theorem d38 : decode yB 38 = .ok (.iinc 5 1, 3) := by decide +kernel
theorem d41 : decode yB 41 = .ok (.goto (-38), 3) := by decide +kernel
theorem d44 : decode yB 44 = .ok (.iload 4, 2) := by decide +kernel
theorem d46 : decode yB 46 = .ok (.ireturn, 1) := by decide +kernel
def site : List Cond := []
def tab : Cond := tabOf yN yB 7 (some .int) site
def P (b : Addr) (A : Cell) (d : Addr) (B : Cell) (o q len : Nat) (args : Array Value) (s : State) : Prop := args = #[.ref b, .int (Int32.ofNat o), .ref d, .int (Int32.ofNat q), .int (Int32.ofNat len)] ∧ Ch b A s ∧ Arr .byte d B s ∧ b ≠ d ∧ o + len ≤ A.slots.size ∧ q + len ≤ B.slots.size ∧ ∀ i, i < len → ¬ 255 < cv A (o + i)
def E (b : Addr) (A : Cell) (d : Addr) (B : Cell) (o q len : Nat) (r : Option Value) (s u : State) : Prop := r = some (.int (Int32.ofNat len)) ∧ ∃ B', Put d B' s u ∧ Laid B B' q (q + len) (fun j => Value.int (lo8 (cv A (o + (j - q)))))
/-- no char of the range above 255: len; the places written hold each char's low byte -/
theorem law (l : Launch) (b : Addr) (A : Cell) (d : Addr) (B : Cell) (o q len : Nat) : Law l yN 5 5 0 0 yB 7 (some .int) site (P b A d B o q len) (E b A d B o q len) (copyLocs d q len) 0 0 := by
  refine Law.of_walk (plainFor_of_name (by decide +kernel)) (by decide +kernel) (by decide +kernel) (by decide) (fun _ _ h => by rw [h.1]; rfl) (fun _ U U' hal hh h => ⟨h.1, h.2.1.mv hal hh, h.2.2.1.mv hal hh, h.2.2.2⟩) (fun r U U' V V' h1 hal h2 h => ⟨h.1, h.2.elim fun B' q => ⟨B', q.1.mv h1 h2, q.2⟩⟩) ?_
  intro p e s m args below meth c s₁ X0 hexec hbytes hml hret hlk hnm hown hh0 W hP
  obtain ⟨rfl, hA, hB, hne, l1, l2, hp⟩ := hP
  have c1 : Steps p.tables e below (s₁.setTop (entryFrame m #[.ref b, .int (Int32.ofNat o), .ref d, .int (Int32.ofNat q), .int (Int32.ofNat len)] 7)) (s₁.setTop (mkF m 0 #[.val (.ref b), .val (.int (Int32.ofNat o)), .val (.ref d), .val (.int (Int32.ofNat q)), .val (.int (Int32.ofNat len)), .unset, .unset] [])) := entry rfl
  have hA0 := hA.1.mv X0.warmed.alike hh0
  have hB0 := hB.mv X0.warmed.alike hh0
  have a31 := hA.1.2.2.2
  have c2 : Steps p.tables e below (s₁.setTop (entryFrame m #[.ref b, .int (Int32.ofNat o), .ref d, .int (Int32.ofNat q), .int (Int32.ofNat len)] 7)) (s₁.setTop (mkF m 3 #[.val (.ref b), .val (.int (Int32.ofNat o)), .val (.ref d), .val (.int (Int32.ofNat q)), .val (.int (Int32.ofNat len)), .val (.int 0), .unset] [])) := c1.trans (by
    refine iconstV X0.here hexec rfl 0 (hb hbytes d0) (by decide) ?_
    refine XS.istore X0.here hexec rfl (hb hbytes d1) rfl rfl ?_
    exact Steps.refl _)
  have loop : ∀ (r i : Nat), i + r = len → ∀ (z : Slot), (z = .unset ∨ ∃ w, z = .val w ∧ w.category = 1) → ∀ (Tl : State) (Bk : Cell), Stand p l e { frames := 0, locals := 0, cells := 0, slots := 0 } s m #[.ref b, .int (Int32.ofNat o), .ref d, .int (Int32.ofNat q), .int (Int32.ofNat len)] below meth c Tl ([] ++ copyLocs d q i) 0 0 → Put d Bk s₁ Tl → Laid B Bk q (q + i) (fun j => Value.int (lo8 (cv A (o + (j - q))))) →
      Steps p.tables e below (s₁.setTop (entryFrame m #[.ref b, .int (Int32.ofNat o), .ref d, .int (Int32.ofNat q), .int (Int32.ofNat len)] 7)) (Tl.setTop (mkF m 3 #[.val (.ref b), .val (.int (Int32.ofNat (o + i))), .val (.ref d), .val (.int (Int32.ofNat (q + i))), .val (.int (Int32.ofNat len)), .val (.int (Int32.ofNat i)), z] [])) → ∃ (T' : State) (B' : Cell) (z' : Slot), Stand p l e { frames := 0, locals := 0, cells := 0, slots := 0 } s m #[.ref b, .int (Int32.ofNat o), .ref d, .int (Int32.ofNat q), .int (Int32.ofNat len)] below meth c T' ([] ++ copyLocs d q len) 0 0 ∧ Put d B' s₁ T' ∧ Laid B B' q (q + len) (fun j => Value.int (lo8 (cv A (o + (j - q))))) ∧
      Steps p.tables e below (s₁.setTop (entryFrame m #[.ref b, .int (Int32.ofNat o), .ref d, .int (Int32.ofNat q), .int (Int32.ofNat len)] 7)) (T'.setTop (mkF m 3 #[.val (.ref b), .val (.int (Int32.ofNat (o + len))), .val (.ref d), .val (.int (Int32.ofNat (q + len))), .val (.int (Int32.ofNat len)), .val (.int (Int32.ofNat len)), z'] [])) := by
    intro r
    induction r with
    | zero =>
      intro i hi z hz Tl Bk Xl pl fl cl
      have hil : i = len := by omega
      rw [hil] at Xl fl cl
      exact ⟨Tl, Bk, z, Xl, pl, fl, cl⟩
    | succ r ih =>
      intro i hi z hz Tl Bk Xl pl fl cl
      have all := X0.warmed.alike.symm.trans Xl.warmed.alike
      have hAl := hA0.keep all (pl.other hne hA0.1)
      have hBk := hB0.like all pl.1 fl.1 fl.2.1 fl.2.2.1
      have hlt : q + i < Bk.slots.size := by rw [fl.2.2.1]; omega
      have c3 : Steps p.tables e below (s₁.setTop (entryFrame m #[.ref b, .int (Int32.ofNat o), .ref d, .int (Int32.ofNat q), .int (Int32.ofNat len)] 7)) (Tl.setTop (mkF m 12 #[.val (.ref b), .val (.int (Int32.ofNat (o + i))), .val (.ref d), .val (.int (Int32.ofNat (q + i))), .val (.int (Int32.ofNat len)), .val (.int (Int32.ofNat i)), z] [.int (Int32.ofNat (o + i)), .ref b])) := cl.trans (by
        refine XS.iload Xl.here hexec rfl (hb hbytes d3) rfl ?_
        refine XS.iload Xl.here hexec rfl (hb hbytes d5) rfl ?_
        refine XS.icmpNo Xl.here hexec rfl (hb hbytes d7) rfl (ii_ge_f (lt32 (by omega) (by omega))) ?_
        refine XS.aloadN Xl.here hexec rfl (hb hbytes d10) rfl rfl ?_
        refine XS.iloadN Xl.here hexec rfl (hb hbytes d11) rfl ?_
        exact Steps.refl _)
      have c4 : Steps p.tables e below (s₁.setTop (entryFrame m #[.ref b, .int (Int32.ofNat o), .ref d, .int (Int32.ofNat q), .int (Int32.ofNat len)] 7)) (Tl.setTop (mkF m 13 #[.val (.ref b), .val (.int (Int32.ofNat (o + i))), .val (.ref d), .val (.int (Int32.ofNat (q + i))), .val (.int (Int32.ofNat len)), .val (.int (Int32.ofNat i)), z] [.int (cv A (o + i))])) := c3.trans (by
        refine Xl.aget hexec hAl rfl (hA.get (i := o + i) (by omega)) rfl rfl (hb hbytes d12) ?_
        exact Steps.refl _)
      have c5 : Steps p.tables e below (s₁.setTop (entryFrame m #[.ref b, .int (Int32.ofNat o), .ref d, .int (Int32.ofNat q), .int (Int32.ofNat len)] 7)) (Tl.setTop (mkF m 15 #[.val (.ref b), .val (.int (Int32.ofNat (o + i))), .val (.ref d), .val (.int (Int32.ofNat (q + i))), .val (.int (Int32.ofNat len)), .val (.int (Int32.ofNat i)), .val (.int (cv A (o + i)))] [])) := c4.trans (by
        refine XS.istoreS Xl.here hexec rfl (hb hbytes d13) rfl rfl hz ?_
        exact Steps.refl _)
      have c6 : Steps p.tables e below (s₁.setTop (entryFrame m #[.ref b, .int (Int32.ofNat o), .ref d, .int (Int32.ofNat q), .int (Int32.ofNat len)] 7)) (Tl.setTop (mkF m 31 #[.val (.ref b), .val (.int (Int32.ofNat (o + i))), .val (.ref d), .val (.int (Int32.ofNat (q + i))), .val (.int (Int32.ofNat len)), .val (.int (Int32.ofNat i)), .val (.int (cv A (o + i)))] [.int (lo8 (cv A (o + i))), .int (Int32.ofNat (q + i)), .ref d])) := c5.trans (by
        refine XS.iload Xl.here hexec rfl (hb hbytes d15) rfl ?_
        refine sipushV Xl.here hexec rfl 255 (hb hbytes d17) (by decide) ?_
        refine XS.icmpYes Xl.here hexec rfl (pc0 := 20) rfl (hb hbytes d20) rfl (ii_le_t (hp i (by omega))) (by decide) rfl ?_
        refine XS.aloadN Xl.here hexec rfl (hb hbytes d26) rfl rfl ?_
        refine XS.iloadN Xl.here hexec rfl (hb hbytes d27) rfl ?_
        refine XS.iload Xl.here hexec rfl (hb hbytes d28) rfl ?_
        refine i2b Xl.here hexec rfl (hb hbytes d30) rfl ?_
        exact Steps.refl _)
      obtain ⟨T7, X7, p7, st7⟩ := Xl.aput hexec hBk rfl hlt rfl (fits_lo8 (cv A (o + i))) (g := (mkF m 31 #[.val (.ref b), .val (.int (Int32.ofNat (o + i))), .val (.ref d), .val (.int (Int32.ofNat (q + i))), .val (.int (Int32.ofNat len)), .val (.int (Int32.ofNat i)), .val (.int (cv A (o + i)))] [.int (lo8 (cv A (o + i))), .int (Int32.ofNat (q + i)), .ref d])) rfl (rest := []) rfl (hb hbytes d31)
      have c8 : Steps p.tables e below (s₁.setTop (entryFrame m #[.ref b, .int (Int32.ofNat o), .ref d, .int (Int32.ofNat q), .int (Int32.ofNat len)] 7)) (T7.setTop (mkF m 32 #[.val (.ref b), .val (.int (Int32.ofNat (o + i))), .val (.ref d), .val (.int (Int32.ofNat (q + i))), .val (.int (Int32.ofNat len)), .val (.int (Int32.ofNat i)), .val (.int (cv A (o + i)))] [])) := c6.trans (st7 _ (Steps.refl _))
      have c9 : Steps p.tables e below (s₁.setTop (entryFrame m #[.ref b, .int (Int32.ofNat o), .ref d, .int (Int32.ofNat q), .int (Int32.ofNat len)] 7)) (T7.setTop (mkF m 3 #[.val (.ref b), .val (.int (Int32.ofNat (o + i) + 1)), .val (.ref d), .val (.int (Int32.ofNat (q + i) + 1)), .val (.int (Int32.ofNat len)), .val (.int (Int32.ofNat i + 1)), .val (.int (cv A (o + i)))] [])) := c8.trans (by
        refine iincV X7.here hexec rfl 1 (hb hbytes d32) (by decide) rfl rfl ?_
        refine iincV X7.here hexec rfl 1 (hb hbytes d35) (by decide) rfl rfl ?_
        refine iincV X7.here hexec rfl 1 (hb hbytes d38) (by decide) rfl rfl ?_
        refine XS.goto X7.here hexec rfl (pc0 := 41) rfl (hb hbytes d41) (by decide) rfl ?_
        exact Steps.refl _)
      have c10 : Steps p.tables e below (s₁.setTop (entryFrame m #[.ref b, .int (Int32.ofNat o), .ref d, .int (Int32.ofNat q), .int (Int32.ofNat len)] 7)) (T7.setTop (mkF m 3 #[.val (.ref b), .val (.int (Int32.ofNat (o + (i + 1)))), .val (.ref d), .val (.int (Int32.ofNat (q + (i + 1)))), .val (.int (Int32.ofNat len)), .val (.int (Int32.ofNat (i + 1))), .val (.int (cv A (o + i)))] [])) := by
        have := c9
        rw [succ32, succ32, succ32] at this
        exact this
      exact ih (i + 1) (by omega) _ (Or.inr ⟨_, rfl, rfl⟩) T7 _ (by rw [copyLocs_step, ← List.append_assoc]; exact X7) (pl.trans p7) (fl.step (by omega) hlt (by simp)) c10
  obtain ⟨T9, B9, z9, X9, p9, f9, g9⟩ := loop len 0 (by omega) .unset (Or.inl rfl) s₁ B (by simpa [copyLocs] using X0) ⟨hB0.1, fun _ _ => rfl, rfl⟩ (Laid.zero _ _ _) c2
  have c11 : Steps p.tables e below (s₁.setTop (entryFrame m #[.ref b, .int (Int32.ofNat o), .ref d, .int (Int32.ofNat q), .int (Int32.ofNat len)] 7)) (T9.setTop (mkF m 46 #[.val (.ref b), .val (.int (Int32.ofNat (o + len))), .val (.ref d), .val (.int (Int32.ofNat (q + len))), .val (.int (Int32.ofNat len)), .val (.int (Int32.ofNat len)), z9] [.int (Int32.ofNat len)])) := g9.trans (by
    refine XS.iload X9.here hexec rfl (hb hbytes d3) rfl ?_
    refine XS.iload X9.here hexec rfl (hb hbytes d5) rfl ?_
    refine XS.icmpYes X9.here hexec rfl (pc0 := 7) rfl (hb hbytes d7) rfl (ii_ge_t (nlt32 (by omega) (Nat.le_refl _))) (by decide) rfl ?_
    refine XS.iload X9.here hexec rfl (hb hbytes d44) rfl ?_
    exact Steps.refl _)
  exact ⟨T9, some (.int (Int32.ofNat len)), _, _, _, X9, by simp, rfl, rfl, (fun h => by cases h), ⟨rfl, B9, p9.from hh0, f9⟩, fun fs hl => c11.trans (X9.ireturnOut hexec hret rfl (Or.inl rfl) (hb hbytes d46) hl)⟩
end Cmp5
namespace Cmp3
def yN : MethodName := ⟨"java/lang/StringUTF16", "compress", "([CII)[B"⟩
abbrev yB : ByteArray := jdk_52_method_16_code
theorem d0 : decode yB 0 = .ok (.iload_n 2, 1) := by decide +kernel
theorem d1 : decode yB 1 = .ok (.newarray .byte, 2) := by decide +kernel
theorem d3 : decode yB 3 = .ok (.astore_n 3, 1) := by decide +kernel
theorem d4 : decode yB 4 = .ok (.aload_n 0, 1) := by decide +kernel
theorem d5 : decode yB 5 = .ok (.iload_n 1, 1) := by decide +kernel
theorem d6 : decode yB 6 = .ok (.aload_n 3, 1) := by decide +kernel
theorem d7 : decode yB 7 = .ok (.iconst 0, 1) := by decide +kernel
theorem d8 : decode yB 8 = .ok (.iload_n 2, 1) := by decide +kernel
theorem d9 : decode yB 9 = .ok (.invokestatic 115, 3) := by decide +kernel
theorem d12 : decode yB 12 = .ok (.istore 4, 2) := by decide +kernel
theorem d14 : decode yB 14 = .ok (.iload 4, 2) := by decide +kernel
theorem d16 : decode yB 16 = .ok (.iload_n 2, 1) := by decide +kernel
theorem d17 : decode yB 17 = .ok (.if_icmp (.eq) 40, 3) := by decide +kernel
theorem d57 : decode yB 57 = .ok (.aload_n 3, 1) := by decide +kernel
theorem d58 : decode yB 58 = .ok (.areturn, 1) := by decide +kernel
def site : List Cond := [.arrayClass .byte, Cmp5.tab] ++ staticW U16 115 Cmp5.yN
def tab : Cond := tabOf yN yB 6 (some (.array .byte)) site
def P (b : Addr) (A : Cell) (o len : Nat) (args : Array Value) (s : State) : Prop := args = #[.ref b, .int (Int32.ofNat o), .int (Int32.ofNat len)] ∧ Ch b A s ∧ o + len ≤ A.slots.size ∧ len ≤ 536870912 ∧ ∀ i, i < len → ¬ 255 < cv A (o + i)
def E (b : Addr) (A : Cell) (o len : Nat) (r : Option Value) (s u : State) : Prop := NewArr .byte "[B" len (fun j => .int (lo8 (cv A (o + j)))) r s u ∧ u.heap.size = s.heap.size + 1
/-- no char of the range above 255: a new byte[] of their low bytes -/
theorem law (l : Launch) (b : Addr) (A : Cell) (o len : Nat) : Law l yN 3 3 1 18 yB 6 (some (.array .byte)) site (P b A o len) (E b A o len) [] 1 len := by
  refine Law.of_walk (plainFor_of_name (by decide +kernel)) (by decide +kernel) (by decide +kernel) (by decide) (fun _ _ h => by rw [h.1]; rfl) (fun _ U U' hal hh h => ⟨h.1, h.2.1.mv hal hh, h.2.2⟩) (fun r U U' V V' h1 hal h2 h => ⟨NewArr.mv r U U' V V' h1 hal h2 h.1, by rw [h1, h2]; exact h.2⟩) ?_
  intro p e s m args below meth c s₁ X0 hexec hbytes hml hret hlk hnm hown hh0 W hP
  obtain ⟨rfl, hA, l1, l2, hp⟩ := hP
  have a31 := hA.1.2.2.2
  have c1 : Steps p.tables e below (s₁.setTop (entryFrame m #[.ref b, .int (Int32.ofNat o), .int (Int32.ofNat len)] 6)) (s₁.setTop (mkF m 0 #[.val (.ref b), .val (.int (Int32.ofNat o)), .val (.int (Int32.ofNat len)), .unset, .unset, .unset] [])) := entry rfl
  have c2 : Steps p.tables e below (s₁.setTop (entryFrame m #[.ref b, .int (Int32.ofNat o), .int (Int32.ofNat len)] 6)) (s₁.setTop (mkF m 1 #[.val (.ref b), .val (.int (Int32.ofNat o)), .val (.int (Int32.ofNat len)), .unset, .unset, .unset] [.int (Int32.ofNat len)])) := c1.trans (by
    refine XS.iloadN X0.here hexec rfl (hb hbytes d0) rfl ?_
    exact Steps.refl _)
  obtain ⟨T3, B3, X3, ba3, bs3, bv3, bh3, bf3, st3⟩ := X0.anew hexec (atype := .byte) (wk W (.arrayClass .byte)) rfl (by show len * 1 ≤ _; omega) (by omega) (g := (mkF m 1 #[.val (.ref b), .val (.int (Int32.ofNat o)), .val (.int (Int32.ofNat len)), .unset, .unset, .unset] [.int (Int32.ofNat len)])) rfl (hb hbytes d1) (rest := []) rfl (Nat.le_refl _) (by show 0 + len ≤ len; omega)
  rw [hh0] at ba3 st3
  have kp3 : XT.Kept s T3 := (XT.Kept.of_eq hh0).push bh3
  have hA3 := hA.keep X3.warmed.alike (kp3 _ _ hA.1.1)
  have hne : b ≠ s.heap.size := hA.1.ne
  have c4 : Steps p.tables e below (s₁.setTop (entryFrame m #[.ref b, .int (Int32.ofNat o), .int (Int32.ofNat len)] 6)) (T3.setTop (mkF m 3 #[.val (.ref b), .val (.int (Int32.ofNat o)), .val (.int (Int32.ofNat len)), .unset, .unset, .unset] [.ref s.heap.size])) := c2.trans (st3 _ (Steps.refl _))
  have c5 : Steps p.tables e below (s₁.setTop (entryFrame m #[.ref b, .int (Int32.ofNat o), .int (Int32.ofNat len)] 6)) (T3.setTop (mkF m 9 #[.val (.ref b), .val (.int (Int32.ofNat o)), .val (.int (Int32.ofNat len)), .val (.ref s.heap.size), .unset, .unset] [.int (Int32.ofNat len), .int 0, .ref s.heap.size, .int (Int32.ofNat o), .ref b])) := c4.trans (by
    refine XS.astoreN X3.here hexec rfl (hb hbytes d3) rfl rfl rfl ?_
    refine XS.aloadN X3.here hexec rfl (hb hbytes d4) rfl rfl ?_
    refine XS.iloadN X3.here hexec rfl (hb hbytes d5) rfl ?_
    refine XS.aloadN X3.here hexec rfl (hb hbytes d6) rfl rfl ?_
    refine iconstV X3.here hexec rfl 0 (hb hbytes d7) (by decide) ?_
    refine XS.iloadN X3.here hexec rfl (hb hbytes d8) rfl ?_
    exact Steps.refl _)
  obtain ⟨v6, T6, X6, E6, g6⟩ := X3.callS hexec (Cmp5.law l b A s.heap.size B3 o 0 len) hown (wks W (staticW U16 115 Cmp5.yN)) (wk W Cmp5.tab) (W := 0) (Nat.le_of_ble_eq_true rfl) (Nat.le_of_ble_eq_true rfl) (Nat.le_refl _) (by show 0 + len + 0 ≤ len; omega) (g := (mkF m 9 #[.val (.ref b), .val (.int (Int32.ofNat o)), .val (.int (Int32.ofNat len)), .val (.ref s.heap.size), .unset, .unset] [.int (Int32.ofNat len), .int (Int32.ofNat 0), .ref s.heap.size, .int (Int32.ofNat o), .ref b])) rfl (by rw [hml]; rfl) c5 (argsL := [.ref b, .int (Int32.ofNat o), .ref s.heap.size, .int (Int32.ofNat 0), .int (Int32.ofNat len)]) (rest := []) rfl rfl (by show 2 * 0 + 0 ≤ _; decide) (hb hbytes d9) (⟨rfl, hA3, ba3, hne, l1, by rw [bs3]; simp, hp⟩)
  obtain ⟨rfl, B6, p6, f6⟩ := E6
  have c7 : Steps p.tables e below (s₁.setTop (entryFrame m #[.ref b, .int (Int32.ofNat o), .int (Int32.ofNat len)] 6)) (T6.setTop (mkF m 12 #[.val (.ref b), .val (.int (Int32.ofNat o)), .val (.int (Int32.ofNat len)), .val (.ref s.heap.size), .unset, .unset] [.int (Int32.ofNat len)])) := g6
  have c8 : Steps p.tables e below (s₁.setTop (entryFrame m #[.ref b, .int (Int32.ofNat o), .int (Int32.ofNat len)] 6)) (T6.setTop (mkF m 58 #[.val (.ref b), .val (.int (Int32.ofNat o)), .val (.int (Int32.ofNat len)), .val (.ref s.heap.size), .val (.int (Int32.ofNat len)), .unset] [.ref s.heap.size])) := c7.trans (by
    refine XS.istore X6.here hexec rfl (hb hbytes d12) rfl rfl ?_
    refine XS.iload X6.here hexec rfl (hb hbytes d14) rfl ?_
    refine XS.iloadN X6.here hexec rfl (hb hbytes d16) rfl ?_
    refine XS.icmpYes X6.here hexec rfl (pc0 := 17) rfl (hb hbytes d17) rfl (ii_eq_t rfl) (by decide) rfl ?_
    refine XS.aloadN X6.here hexec rfl (hb hbytes d57) rfl rfl ?_
    exact Steps.refl _)
  have X8 := X6.wide (L' := []) (cells' := 1) (slots' := len) (fun x hx hlt => by
    simp only [List.nil_append, copyLocs, List.mem_map, List.mem_range] at hx
    obtain ⟨i, -, rfl⟩ := hx
    exact absurd hlt (Nat.lt_irrefl _)) (Nat.le_refl _) (by omega)
  exact ⟨T6, some (.ref s.heap.size), _, _, _, X8, rfl, rfl, rfl, (fun h => by cases h), ⟨⟨rfl, B6, ba3.like (X3.warmed.alike.symm.trans X6.warmed.alike) p6.1 f6.1 f6.2.1 f6.2.2.1, f6.2.1.trans bv3, by rw [X6.warmed.alike.findClass, f6.1]; exact bf3, by rw [f6.2.2.1, bs3]; simp, fun j hj => by rw [f6.2.2.2 j, if_pos (by omega)]; rfl, kp3.put p6 (Nat.le_refl _)⟩, by rw [p6.2.2, bh3, hh0]; simp⟩, fun fs hl => c8.trans (X8.areturnOut hexec rfl hret rfl (hb hbytes d58) hl)⟩
end Cmp3
namespace CodL
def yN : MethodName := ⟨"java/lang/StringUTF16", "coderFromArrayLen", "([BI)B"⟩
abbrev yB : ByteArray := jdk_52_method_15_code
theorem d0 : decode yB 0 = .ok (.iload_n 1, 1) := by decide +kernel
theorem d1 : decode yB 1 = .ok (.aload_n 0, 1) := by decide +kernel
theorem d2 : decode yB 2 = .ok (.arraylength, 1) := by decide +kernel
theorem d3 : decode yB 3 = .ok (.isub, 1) := by decide +kernel
theorem d4 : decode yB 4 = .ok (.bipush 31, 2) := by decide +kernel
theorem d6 : decode yB 6 = .ok (.iushr, 1) := by decide +kernel
theorem d7 : decode yB 7 = .ok (.i2b, 1) := by decide +kernel
theorem d8 : decode yB 8 = .ok (.ireturn, 1) := by decide +kernel
def site : List Cond := []
def tab : Cond := tabOf yN yB 2 (some .byte) site
def P (d : Addr) (B : Cell) (args : Array Value) (s : State) : Prop := args = #[.ref d, .int (Int32.ofNat B.slots.size)] ∧ Arr .byte d B s
def E (r : Option Value) (s u : State) : Prop := XT.PureE (some (.int 0)) r s u
/-- an array as long as the number of chars: LATIN1 -/
theorem law (l : Launch) (d : Addr) (B : Cell) : Law l yN 2 2 0 0 yB 2 (some .byte) site (P d B) E [] 0 0 := by
  refine Law.of_walk (plainFor_of_name (by decide +kernel)) (by decide +kernel) (by decide +kernel) (by decide) (fun _ _ h => by rw [h.1]; rfl) (fun _ U U' hal hh h => ⟨h.1, h.2.mv hal hh⟩) (fun r U U' V V' h1 hal h2 h => XT.PureE.mv r U U' V V' h1 hal h2 h) ?_
  intro p e s m args below meth c s₁ X0 hexec hbytes hml hret hlk hnm hown hh0 W hP
  obtain ⟨rfl, hB⟩ := hP
  have hB0 := hB.mv X0.warmed.alike hh0
  have c1 : Steps p.tables e below (s₁.setTop (entryFrame m #[.ref d, .int (Int32.ofNat B.slots.size)] 2)) (s₁.setTop (mkF m 0 #[.val (.ref d), .val (.int (Int32.ofNat B.slots.size))] [])) := entry rfl
  have c2 : Steps p.tables e below (s₁.setTop (entryFrame m #[.ref d, .int (Int32.ofNat B.slots.size)] 2)) (s₁.setTop (mkF m 2 #[.val (.ref d), .val (.int (Int32.ofNat B.slots.size))] [.ref d, .int (Int32.ofNat B.slots.size)])) := c1.trans (by
    refine XS.iloadN X0.here hexec rfl (hb hbytes d0) rfl ?_
    refine XS.aloadN X0.here hexec rfl (hb hbytes d1) rfl rfl ?_
    exact Steps.refl _)
  have c3 : Steps p.tables e below (s₁.setTop (entryFrame m #[.ref d, .int (Int32.ofNat B.slots.size)] 2)) (s₁.setTop (mkF m 8 #[.val (.ref d), .val (.int (Int32.ofNat B.slots.size))] [.int (lo8 (ushr (Int32.ofNat B.slots.size - Int32.ofNat B.slots.size) 31))])) := c2.trans (by
    refine X0.alen hexec hB0 rfl rfl (hb hbytes d2) ?_
    refine XS.isub X0.here hexec rfl (hb hbytes d3) rfl ?_
    refine bipushV X0.here hexec rfl 31 (hb hbytes d4) (by decide) ?_
    refine iushr X0.here hexec rfl (hb hbytes d6) rfl ?_
    refine i2b X0.here hexec rfl (hb hbytes d7) rfl ?_
    exact Steps.refl _)
  have e0 : lo8 (ushr (Int32.ofNat B.slots.size - Int32.ofNat B.slots.size) 31) = 0 := by rw [Int32.sub_self]; decide
  rw [e0] at c3
  exact ⟨s₁, some (.int 0), _, _, _, X0, rfl, rfl, rfl, (fun h => by cases h), ⟨rfl, hh0⟩, fun fs hl => c3.trans (X0.ireturnOut hexec hret rfl (Or.inr (Or.inr (Or.inl rfl))) (hb hbytes d8) hl)⟩
end CodL
/-- the String at a is Latin-1 over a new byte[] (the heap's one new cell): the low bytes of the len chars of A from o on; every cell but a is kept -/
def Got (a : Addr) (D : Cell) (fV fC : Field) (A : Cell) (o len : Nat) (r : Option Value) (s u : State) : Prop := r = none ∧ ∃ D' V : Cell, Blank "java/lang/String" a D' u ∧ Same D D' [fV.slot, fC.slot] ∧ D'.slots[fV.slot]? = some (.ref s.heap.size) ∧ D'.slots[fC.slot]? = some (.int 0) ∧ Arr .byte s.heap.size V u ∧ V.vm = .none ∧ u.vm.findClass "[B" = some V.cls ∧ V.slots.size = len ∧ (∀ j, j < len → V.slots[j]? = some (.int (lo8 (cv A (o + j))))) ∧ (∀ (y : Addr) (c : Cell), y ≠ a → s.heap[y]? = some c → u.heap[y]? = some c) ∧ u.heap.size = s.heap.size + 1
theorem Got.mv {a : Addr} {D A : Cell} {fV fC : Field} {o len : Nat} : ∀ r (U U' V V' : State), U'.heap = U.heap → V.vm.Alike V'.vm → V'.heap = V.heap → Got a D fV fC A o len r U V → Got a D fV fC A o len r U' V' :=
  fun r U U' V V' h1 hal h2 ⟨e0, D', X, a1, a2, a3, a4, a5, a6, a7, a8, a9, a10, a11⟩ => ⟨e0, D', X, a1.mv hal h2, a2, by rw [h1]; exact a3, a4, by rw [h1]; exact a5.mv hal h2, a6, by rw [hal.findClass]; exact a7, a8, a9, by rw [h1, h2]; exact a10, by rw [h1, h2]; exact a11⟩
namespace New4
def yN : MethodName := ⟨"java/lang/String", "<init>", "([CIILjava/lang/Void;)V"⟩
abbrev yB : ByteArray := jdk_42_method_149_code
theorem d0 : decode yB 0 = .ok (.aload_n 0, 1) := by decide +kernel
theorem d1 : decode yB 1 = .ok (.invokespecial 1, 3) := by decide +kernel
theorem d4 : decode yB 4 = .ok (.iload_n 3, 1) := by decide +kernel
theorem d5 : decode yB 5 = .ok (.ifCond (.ne) 22, 3) := by decide +kernel
theorem d27 : decode yB 27 = .ok (.getstatic 38, 3) := by decide +kernel
theorem d30 : decode yB 30 = .ok (.ifCond (.eq) 28, 3) := by decide +kernel
theorem d33 : decode yB 33 = .ok (.aload_n 1, 1) := by decide +kernel
theorem d34 : decode yB 34 = .ok (.iload_n 2, 1) := by decide +kernel
theorem d35 : decode yB 35 = .ok (.iload_n 3, 1) := by decide +kernel
theorem d36 : decode yB 36 = .ok (.invokestatic 177, 3) := by decide +kernel
theorem d39 : decode yB 39 = .ok (.astore 5, 2) := by decide +kernel
theorem d41 : decode yB 41 = .ok (.aload_n 0, 1) := by decide +kernel
theorem d42 : decode yB 42 = .ok (.aload 5, 2) := by decide +kernel
theorem d44 : decode yB 44 = .ok (.iload_n 3, 1) := by decide +kernel
theorem d45 : decode yB 45 = .ok (.invokestatic 47, 3) := by decide +kernel
theorem d48 : decode yB 48 = .ok (.putfield 15, 3) := by decide +kernel
theorem d51 : decode yB 51 = .ok (.aload_n 0, 1) := by decide +kernel
theorem d52 : decode yB 52 = .ok (.aload 5, 2) := by decide +kernel
theorem d54 : decode yB 54 = .ok (.putfield 9, 3) := by decide +kernel
theorem d57 : decode yB 57 = .ok (.return_, 1) := by decide +kernel
def site : List Cond := [.fieldLink "java/lang/String" 38 "java/lang/String" "COMPACT_STRINGS" "Z", Cmp3.tab, CodL.tab, .laysFinal "java/lang/String" "java/lang/String" "value" "[B", .fieldLink "java/lang/String" 9 "java/lang/String" "value" "[B", .laysFinal "java/lang/String" "java/lang/String" "coder" "B", .fieldLink "java/lang/String" 15 "java/lang/String" "coder" "B"] ++ objW "java/lang/String" 1 ++ staticW "java/lang/String" 177 Cmp3.yN ++ staticW "java/lang/String" 47 CodL.yN
def tab : Cond := tabOf yN yB 6 none site
def P (a : Addr) (D : Cell) (fV fC : Field) (b : Addr) (A : Cell) (z : Int32) (o len : Nat) (args : Array Value) (s : State) : Prop := args = #[.ref a, .ref b, .int (Int32.ofNat o), .int (Int32.ofNat len), .null] ∧ Blank "java/lang/String" a D s ∧ Found "java/lang/String" "value" "[B" fV s ∧ Found "java/lang/String" "coder" "B" fC s ∧ Ch b A s ∧ StaticIs s "java/lang/String" "COMPACT_STRINGS" "Z" (.int z) ∧ ¬ z = 0 ∧ 0 < len ∧ o + len ≤ A.slots.size ∧ len ≤ 536870912 ∧ ∀ i, i < len → ¬ 255 < cv A (o + i)
def E (a : Addr) (D : Cell) (fV fC : Field) (A : Cell) (o len : Nat) (r : Option Value) (s u : State) : Prop := Got a D fV fC A o len r s u
/-- len > 0, no char of the range above 255: a Latin-1 String of their low bytes -/
theorem law (l : Launch) (a : Addr) (D : Cell) (fV fC : Field) (b : Addr) (A : Cell) (z : Int32) (o len : Nat) : Law l yN 5 4 2 35 yB 6 none site (P a D fV fC b A z o len) (E a D fV fC A o len) [⟨a, fC.slot⟩, ⟨a, fV.slot⟩] 1 len := by
  refine Law.of_walk (plainFor_of_name (by decide +kernel)) (by decide +kernel) (by decide +kernel) (by decide) (fun _ _ h => by rw [h.1]; rfl) (fun _ U U' hal hh h => ⟨h.1, h.2.1.mv hal hh, h.2.2.1.al hal, h.2.2.2.1.al hal, h.2.2.2.2.1.mv hal hh, h.2.2.2.2.2.1.there hal hh, h.2.2.2.2.2.2⟩) (fun r U U' V V' h1 hal h2 h => Got.mv r U U' V V' h1 hal h2 h) ?_
  intro p e s m args below meth c s₁ X0 hexec hbytes hml hret hlk hnm hown hh0 W hP
  obtain ⟨rfl, hB, f1, f2, hA, s1, hz, l0, l1, l2, hp⟩ := hP
  have a31 := hA.1.2.2.2
  have c1 : Steps p.tables e below (s₁.setTop (entryFrame m #[.ref a, .ref b, .int (Int32.ofNat o), .int (Int32.ofNat len), .null] 6)) (s₁.setTop (mkF m 0 #[.val (.ref a), .val (.ref b), .val (.int (Int32.ofNat o)), .val (.int (Int32.ofNat len)), .val .null, .unset] [])) := entry rfl
  have c2 : Steps p.tables e below (s₁.setTop (entryFrame m #[.ref a, .ref b, .int (Int32.ofNat o), .int (Int32.ofNat len), .null] 6)) (s₁.setTop (mkF m 1 #[.val (.ref a), .val (.ref b), .val (.int (Int32.ofNat o)), .val (.int (Int32.ofNat len)), .val .null, .unset] [.ref a])) := c1.trans (by
    refine XS.aloadN X0.here hexec rfl (hb hbytes d0) rfl rfl ?_
    exact Steps.refl _)
  obtain ⟨T3, X3, q3, st3⟩ := X0.oinit hexec hown (wks W (objW "java/lang/String" 1)) (g := (mkF m 1 #[.val (.ref a), .val (.ref b), .val (.int (Int32.ofNat o)), .val (.int (Int32.ofNat len)), .val .null, .unset] [.ref a])) rfl (by rw [hml]; rfl) (rest := []) rfl (hb hbytes d1) (W := 0) (by show 2 * 0 + 0 ≤ _; decide) (Nat.le_of_ble_eq_true rfl) (Nat.le_of_ble_eq_true rfl)
  have hh3 := q3.trans hh0
  have c4 : Steps p.tables e below (s₁.setTop (entryFrame m #[.ref a, .ref b, .int (Int32.ofNat o), .int (Int32.ofNat len), .null] 6)) (T3.setTop (mkF m 27 #[.val (.ref a), .val (.ref b), .val (.int (Int32.ofNat o)), .val (.int (Int32.ofNat len)), .val .null, .unset] [])) := (c2.trans (st3 _ (Steps.refl _))).trans (by
    refine XS.iloadN X3.here hexec rfl (hb hbytes d4) rfl ?_
    refine XS.ifYes X3.here hexec rfl (pc0 := 5) rfl (hb hbytes d5) rfl (i0_ne_t (nz32 (by omega) l0)) (by decide) rfl ?_
    exact Steps.refl _)
  obtain ⟨T5, X5, q5, st5⟩ := X3.sget hexec hown (wk W (.fieldLink "java/lang/String" 38 "java/lang/String" "COMPACT_STRINGS" "Z")) s1 (fun _ _ h => by rw [hh3]; exact h) (g := (mkF m 27 #[.val (.ref a), .val (.ref b), .val (.int (Int32.ofNat o)), .val (.int (Int32.ofNat len)), .val .null, .unset] [])) rfl (hb hbytes d27)
  have hh5 := q5.trans hh3
  have c6 : Steps p.tables e below (s₁.setTop (entryFrame m #[.ref a, .ref b, .int (Int32.ofNat o), .int (Int32.ofNat len), .null] 6)) (T5.setTop (mkF m 30 #[.val (.ref a), .val (.ref b), .val (.int (Int32.ofNat o)), .val (.int (Int32.ofNat len)), .val .null, .unset] [.int z])) := c4.trans (st5 _ (Steps.refl _))
  have c7 : Steps p.tables e below (s₁.setTop (entryFrame m #[.ref a, .ref b, .int (Int32.ofNat o), .int (Int32.ofNat len), .null] 6)) (T5.setTop (mkF m 36 #[.val (.ref a), .val (.ref b), .val (.int (Int32.ofNat o)), .val (.int (Int32.ofNat len)), .val .null, .unset] [.int (Int32.ofNat len), .int (Int32.ofNat o), .ref b])) := c6.trans (by
    refine XS.ifNo X5.here hexec rfl (hb hbytes d30) rfl (i0_eq_f hz) ?_
    refine XS.aloadN X5.here hexec rfl (hb hbytes d33) rfl rfl ?_
    refine XS.iloadN X5.here hexec rfl (hb hbytes d34) rfl ?_
    refine XS.iloadN X5.here hexec rfl (hb hbytes d35) rfl ?_
    exact Steps.refl _)
  obtain ⟨v8, T8, X8, E8, g8⟩ := X5.callS hexec (Cmp3.law l b A o len) hown (wks W (staticW "java/lang/String" 177 Cmp3.yN)) (wk W Cmp3.tab) (W := 0) (Nat.le_of_ble_eq_true rfl) (Nat.le_of_ble_eq_true rfl) (Nat.le_refl _) (by show 0 + len ≤ len; omega) (g := (mkF m 36 #[.val (.ref a), .val (.ref b), .val (.int (Int32.ofNat o)), .val (.int (Int32.ofNat len)), .val .null, .unset] [.int (Int32.ofNat len), .int (Int32.ofNat o), .ref b])) rfl (by rw [hml]; rfl) c7 (argsL := [.ref b, .int (Int32.ofNat o), .int (Int32.ofNat len)]) (rest := []) rfl rfl (by show 2 * 0 + 0 ≤ _; decide) (hb hbytes d36) (⟨rfl, hA.mv X5.warmed.alike hh5, l1, l2, hp⟩)
  obtain ⟨e8, z8⟩ := E8
  obtain ⟨rfl, N, n1, n2, n3, n4, n5, n6⟩ := NewArr.mv _ T5 s _ _ hh5.symm (Vm.Alike.refl _) rfl e8
  rw [hh5] at z8
  have hB1 := hB.keep X8.warmed.alike (n6 _ _ hB.1)
  have hne : s.heap.size ≠ a := (Nat.ne_of_lt (Array.getElem?_eq_some_iff.mp hB.1).1).symm
  have c9 : Steps p.tables e below (s₁.setTop (entryFrame m #[.ref a, .ref b, .int (Int32.ofNat o), .int (Int32.ofNat len), .null] 6)) (T8.setTop (mkF m 39 #[.val (.ref a), .val (.ref b), .val (.int (Int32.ofNat o)), .val (.int (Int32.ofNat len)), .val .null, .unset] [.ref s.heap.size])) := g8
  have c10 : Steps p.tables e below (s₁.setTop (entryFrame m #[.ref a, .ref b, .int (Int32.ofNat o), .int (Int32.ofNat len), .null] 6)) (T8.setTop (mkF m 45 #[.val (.ref a), .val (.ref b), .val (.int (Int32.ofNat o)), .val (.int (Int32.ofNat len)), .val .null, .val (.ref s.heap.size)] [.int (Int32.ofNat N.slots.size), .ref s.heap.size, .ref a])) := by
    have hc : Steps p.tables e below (s₁.setTop (entryFrame m #[.ref a, .ref b, .int (Int32.ofNat o), .int (Int32.ofNat len), .null] 6)) (T8.setTop (mkF m 45 #[.val (.ref a), .val (.ref b), .val (.int (Int32.ofNat o)), .val (.int (Int32.ofNat len)), .val .null, .val (.ref s.heap.size)] [.int (Int32.ofNat len), .ref s.heap.size, .ref a])) := c9.trans (by
      refine XS.astore X8.here hexec rfl (hb hbytes d39) rfl rfl rfl ?_
      refine XS.aloadN X8.here hexec rfl (hb hbytes d41) rfl rfl ?_
      refine XS.aload X8.here hexec rfl (hb hbytes d42) rfl rfl ?_
      refine XS.iloadN X8.here hexec rfl (hb hbytes d44) rfl ?_
      exact Steps.refl _)
    rw [n4]; exact hc
  obtain ⟨v11, T11, X11, E11, g11⟩ := X8.callS hexec (CodL.law l s.heap.size N) hown (wks W (staticW "java/lang/String" 47 CodL.yN)) (wk W CodL.tab) (W := 1) (Nat.le_of_ble_eq_true rfl) (Nat.le_of_ble_eq_true rfl) (Nat.le_refl _) (by show 0 + len + 0 ≤ len; omega) (g := (mkF m 45 #[.val (.ref a), .val (.ref b), .val (.int (Int32.ofNat o)), .val (.int (Int32.ofNat len)), .val .null, .val (.ref s.heap.size)] [.int (Int32.ofNat N.slots.size), .ref s.heap.size, .ref a])) rfl (by rw [hml]; rfl) c10 (argsL := [.ref s.heap.size, .int (Int32.ofNat N.slots.size)]) (rest := [.ref a]) rfl rfl (by show 2 * 0 + (1 + 0) ≤ _; decide) (hb hbytes d45) (⟨rfl, n1⟩)
  obtain ⟨rfl, q11⟩ := E11
  have hB11 := hB1.mv (X8.warmed.alike.symm.trans X11.warmed.alike) q11
  have c12 : Steps p.tables e below (s₁.setTop (entryFrame m #[.ref a, .ref b, .int (Int32.ofNat o), .int (Int32.ofNat len), .null] 6)) (T11.setTop (mkF m 48 #[.val (.ref a), .val (.ref b), .val (.int (Int32.ofNat o)), .val (.int (Int32.ofNat len)), .val .null, .val (.ref s.heap.size)] [.int 0, .ref a])) := g11
  obtain ⟨T13, X13, p13, bl13, sl13, st13⟩ := X11.finit hexec hown (wk W (.fieldLink "java/lang/String" 15 "java/lang/String" "coder" "B")) (Or.inr ⟨_, (wk W (.laysFinal "java/lang/String" "java/lang/String" "coder" "B"))⟩) (Or.inl ⟨rfl, hnm⟩) f2 (Or.inl rfl) hB11 (t := .byte) (by decide +kernel) rfl (g := (mkF m 48 #[.val (.ref a), .val (.ref b), .val (.int (Int32.ofNat o)), .val (.int (Int32.ofNat len)), .val .null, .val (.ref s.heap.size)] [.int 0, .ref a])) rfl (rest := []) rfl (hb hbytes d48)
  have c14 : Steps p.tables e below (s₁.setTop (entryFrame m #[.ref a, .ref b, .int (Int32.ofNat o), .int (Int32.ofNat len), .null] 6)) (T13.setTop (mkF m 54 #[.val (.ref a), .val (.ref b), .val (.int (Int32.ofNat o)), .val (.int (Int32.ofNat len)), .val .null, .val (.ref s.heap.size)] [.ref s.heap.size, .ref a])) := (c12.trans (st13 _ (Steps.refl _))).trans (by
    refine XS.aloadN X13.here hexec rfl (hb hbytes d51) rfl rfl ?_
    refine XS.aload X13.here hexec rfl (hb hbytes d52) rfl rfl ?_
    exact Steps.refl _)
  obtain ⟨T15, X15, p15, bl15, sl15, st15⟩ := X13.finit hexec hown (wk W (.fieldLink "java/lang/String" 9 "java/lang/String" "value" "[B")) (Or.inr ⟨_, (wk W (.laysFinal "java/lang/String" "java/lang/String" "value" "[B"))⟩) (Or.inl ⟨rfl, hnm⟩) f1 (Or.inl rfl) bl13 (t := (.array .byte)) (by decide +kernel) rfl (g := (mkF m 54 #[.val (.ref a), .val (.ref b), .val (.int (Int32.ofNat o)), .val (.int (Int32.ofNat len)), .val .null, .val (.ref s.heap.size)] [.ref s.heap.size, .ref a])) rfl (rest := []) rfl (hb hbytes d54)
  have c16 : Steps p.tables e below (s₁.setTop (entryFrame m #[.ref a, .ref b, .int (Int32.ofNat o), .int (Int32.ofNat len), .null] 6)) (T15.setTop (mkF m 57 #[.val (.ref a), .val (.ref b), .val (.int (Int32.ofNat o)), .val (.int (Int32.ofNat len)), .val .null, .val (.ref s.heap.size)] [])) := c14.trans (st15 _ (Steps.refl _))
  have ap := apart (Or.inr ⟨_, (wk W (.laysFinal "java/lang/String" "java/lang/String" "value" "[B"))⟩) (Or.inr ⟨_, (wk W (.laysFinal "java/lang/String" "java/lang/String" "coder" "B"))⟩) f1 f2 (t₁ := .array .byte) (t₂ := .byte) (by decide +kernel) (by decide +kernel) (by decide)
  have al := X8.warmed.alike.symm.trans X15.warmed.alike
  have n7 : T11.heap[s.heap.size]? = some N := by rw [q11]; exact n1.1
  exact ⟨T15, none, _, _, _, X15, by simp, rfl, by omega, (fun _ => rfl), ⟨rfl, _, N, bl15, ((Same.refl D _).set _ (by simp)).set _ (by simp), sl15, (Cell.slots_setSlot_ne _ ap).trans sl13, n1.keep al (p15.other hne (p13.other hne n7)), n2, by rw [al.findClass]; exact n3, n4, n5, fun y c h1 h2 => p15.other h1 (p13.other h1 (by rw [q11]; exact n6 y c h2)), by rw [p15.2.2, p13.2.2, q11]; exact z8⟩, fun fs hl => c16.trans (X15.returnOut hexec hret (hb hbytes d57) hl)⟩
end New4
namespace New1
def yN : MethodName := ⟨"java/lang/String", "<init>", "([C)V"⟩
abbrev yB : ByteArray := jdk_42_method_3_code
theorem d0 : decode yB 0 = .ok (.aload_n 0, 1) := by decide +kernel
theorem d1 : decode yB 1 = .ok (.aload_n 1, 1) := by decide +kernel
theorem d2 : decode yB 2 = .ok (.iconst 0, 1) := by decide +kernel
theorem d3 : decode yB 3 = .ok (.aload_n 1, 1) := by decide +kernel
theorem d4 : decode yB 4 = .ok (.arraylength, 1) := by decide +kernel
theorem d5 : decode yB 5 = .ok (.aconst_null, 1) := by decide +kernel
theorem d6 : decode yB 6 = .ok (.invokespecial 27, 3) := by decide +kernel
theorem d9 : decode yB 9 = .ok (.return_, 1) := by decide +kernel
def site : List Cond := [New4.tab] ++ initW "java/lang/String" 27 New4.yN
def tab : Cond := tabOf yN yB 2 none site
def P (a : Addr) (D : Cell) (fV fC : Field) (b : Addr) (A : Cell) (z : Int32) (args : Array Value) (s : State) : Prop := args = #[.ref a, .ref b] ∧ Blank "java/lang/String" a D s ∧ Found "java/lang/String" "value" "[B" fV s ∧ Found "java/lang/String" "coder" "B" fC s ∧ Ch b A s ∧ StaticIs s "java/lang/String" "COMPACT_STRINGS" "Z" (.int z) ∧ ¬ z = 0 ∧ 0 < A.slots.size ∧ A.slots.size ≤ 536870912 ∧ ∀ i, i < A.slots.size → ¬ 255 < cv A i
def E (a : Addr) (D : Cell) (fV fC : Field) (A : Cell) (r : Option Value) (s u : State) : Prop := Got a D fV fC A 0 A.slots.size r s u
/-- new String(chars), not empty, no char above 255: a Latin-1 String of their low bytes -/
theorem law (l : Launch) (a : Addr) (D : Cell) (fV fC : Field) (b : Addr) (A : Cell) (z : Int32) : Law l yN 2 1 3 52 yB 2 none site (P a D fV fC b A z) (E a D fV fC A) [⟨a, fC.slot⟩, ⟨a, fV.slot⟩] 1 A.slots.size := by
  refine Law.of_walk (plainFor_of_name (by decide +kernel)) (by decide +kernel) (by decide +kernel) (by decide) (fun _ _ h => by rw [h.1]; rfl) (fun _ U U' hal hh h => ⟨h.1, h.2.1.mv hal hh, h.2.2.1.al hal, h.2.2.2.1.al hal, h.2.2.2.2.1.mv hal hh, h.2.2.2.2.2.1.there hal hh, h.2.2.2.2.2.2⟩) (fun r U U' V V' h1 hal h2 h => Got.mv r U U' V V' h1 hal h2 h) ?_
  intro p e s m args below meth c s₁ X0 hexec hbytes hml hret hlk hnm hown hh0 W hP
  obtain ⟨rfl, hB, f1, f2, hA, s1, hz, l0, l2, hp⟩ := hP
  have c1 : Steps p.tables e below (s₁.setTop (entryFrame m #[.ref a, .ref b] 2)) (s₁.setTop (mkF m 0 #[.val (.ref a), .val (.ref b)] [])) := entry rfl
  have c2 : Steps p.tables e below (s₁.setTop (entryFrame m #[.ref a, .ref b] 2)) (s₁.setTop (mkF m 6 #[.val (.ref a), .val (.ref b)] [.null, .int (Int32.ofNat A.slots.size), .int 0, .ref b, .ref a])) := c1.trans (by
    refine XS.aloadN X0.here hexec rfl (hb hbytes d0) rfl rfl ?_
    refine XS.aloadN X0.here hexec rfl (hb hbytes d1) rfl rfl ?_
    refine iconstV X0.here hexec rfl 0 (hb hbytes d2) (by decide) ?_
    refine XS.aloadN X0.here hexec rfl (hb hbytes d3) rfl rfl ?_
    refine X0.alen hexec (hA.1.mv X0.warmed.alike hh0) rfl rfl (hb hbytes d4) ?_
    refine XS.aconstNull X0.here hexec rfl (hb hbytes d5) ?_
    exact Steps.refl _)
  obtain ⟨v3, T3, X3, E3, g3⟩ := X0.callN hexec (New4.law l a D fV fC b A z 0 A.slots.size) rfl hown (wks W (initW "java/lang/String" 27 New4.yN)) (W New4.tab (by simp only [site, List.mem_cons, List.mem_append, true_or, or_true])) (W := 0) (Nat.le_of_ble_eq_true rfl) (Nat.le_of_ble_eq_true rfl) (Nat.le_refl _) (by show 0 + A.slots.size ≤ A.slots.size; omega) (g := (mkF m 6 #[.val (.ref a), .val (.ref b)] [.null, .int (Int32.ofNat A.slots.size), .int (Int32.ofNat 0), .ref b, .ref a])) rfl (by rw [hml]; rfl) c2 (argsL := [.ref b, .int (Int32.ofNat 0), .int (Int32.ofNat A.slots.size), .null]) (rest := []) rfl rfl (by show 2 * 0 + 0 ≤ _; decide) (hb hbytes d6) (⟨rfl, hB.mv X0.warmed.alike hh0, f1.al X0.warmed.alike, f2.al X0.warmed.alike, hA.mv X0.warmed.alike hh0, s1.there X0.warmed.alike hh0, hz, l0, by omega, l2, fun i hi => by rw [Nat.zero_add]; exact hp i hi⟩)
  have e0 := Got.mv _ s₁ s _ _ hh0.symm (Vm.Alike.refl _) rfl E3
  obtain rfl := e0.1
  have c4 : Steps p.tables e below (s₁.setTop (entryFrame m #[.ref a, .ref b] 2)) (T3.setTop (mkF m 9 #[.val (.ref a), .val (.ref b)] [])) := g3
  exact ⟨T3, none, _, _, _, X3, by simp, rfl, by omega, (fun _ => rfl), e0, fun fs hl => c4.trans (X3.returnOut hexec hret (hb hbytes d9) hl)⟩
theorem pays {l : Launch} {R : Room} {p : Program} {e : Env} {below : List Frame} {s : State} {sargs : Array Value} {len W : Nat} (a : Addr) (D : Cell) (fV fC : Field) (b : Addr) (A : Cell) (z : Int32) (htab : tab.before sargs s = true) (hfr : 4 ≤ R.frames) (hlo : W + 65 ≤ R.locals) :
    Back l R p e below s sargs yN len W (fun A₁ a₁ => A₁.cells + 1 ≤ R.cells ∧ A₁.slots + A.slots.size ≤ R.slots ∧ P a D fV fC b A z a₁ A₁.U) (fun A₁ _ v₁ B₁ => E a D fV fC A v₁ A₁.U B₁.U ∧ B₁.locs = A₁.locs ++ [⟨a, fC.slot⟩, ⟨a, fV.slot⟩] ∧ B₁.cells = A₁.cells + 1 ∧ B₁.slots = A₁.slots + A.slots.size) :=
  (law l a D fV fC b A z).pays htab hfr (by omega)
end New1
end StrChars
namespace StrChars.Road
open Jvm Sem ClassFile Op Lib Jvm.Stand Jvm.Free Jvm.Free.XT
open Jvm.Lib.Cold (StaticIs)
abbrev ST : String := "java/lang/String"
/-- every table word that New1's law asks, flat -/
abbrev words : List Jvm.Cond := [.code New1.yN New1.yB 2 none, .initialized ST, .methodLink ST 27 New4.yN, .instanceMethod New4.yN,
  .code New4.yN New4.yB 6 none, .fieldLink ST 38 ST "COMPACT_STRINGS" "Z", .laysFinal ST ST "value" "[B", .fieldLink ST 9 ST "value" "[B", .laysFinal ST ST "coder" "B", .fieldLink ST 15 ST "coder" "B",
  .methodLink ST 1 Lib.objectInit, .instanceMethod Lib.objectInit, .code Lib.objectInit ⟨#[0xb1]⟩ 1 none, .methodLink ST 177 Cmp3.yN, .static Cmp3.yN, .methodLink ST 47 CodL.yN, .static CodL.yN,
  .code Cmp3.yN Cmp3.yB 6 (some (.array .byte)), .initialized U16, .arrayClass .byte, .methodLink U16 115 Cmp5.yN, .static Cmp5.yN, .code Cmp5.yN Cmp5.yB 7 (some .int), .code CodL.yN CodL.yB 2 (some .byte)]
theorem tab_of {a : Array Value} {s : State} (h : ∀ w ∈ words, w.before a s = true) : New1.tab.before a s = true := by
  have h5 : Cmp5.tab.before a s = true := unparts (wk h (.code Cmp5.yN Cmp5.yB 7 (some .int))) (wks h (.initialized Cmp5.yN.cls :: Cmp5.site))
  have hc : CodL.tab.before a s = true := unparts (wk h (.code CodL.yN CodL.yB 2 (some .byte))) (wks h (.initialized CodL.yN.cls :: CodL.site))
  have q5 : ∀ w ∈ Cmp5.tab :: words, w.before a s = true := fun w hw => (List.mem_cons.mp hw).elim (fun e => e ▸ h5) (h w)
  have h3 : Cmp3.tab.before a s = true := unparts (wk q5 (.code Cmp3.yN Cmp3.yB 6 (some (.array .byte)))) (wks q5 (.initialized Cmp3.yN.cls :: Cmp3.site))
  have q3 : ∀ w ∈ Cmp3.tab :: CodL.tab :: words, w.before a s = true := fun w hw => (List.mem_cons.mp hw).elim (fun e => e ▸ h3) fun hw => (List.mem_cons.mp hw).elim (fun e => e ▸ hc) (h w)
  have h4 : New4.tab.before a s = true := unparts (wk q3 (.code New4.yN New4.yB 6 none)) (wks q3 (.initialized New4.yN.cls :: New4.site))
  have q4 : ∀ w ∈ New4.tab :: words, w.before a s = true := fun w hw => (List.mem_cons.mp hw).elim (fun e => e ▸ h4) (h w)
  exact unparts (wk q4 (.code New1.yN New1.yB 2 none)) (wks q4 (.initialized New1.yN.cls :: New1.site))
/-- the words ride from the start Z to the walk's own state -/
theorem moved {Z s : State} {a0 args : Array Value} (hZ : Z.Warmed39 s.vm) (hw : ∀ d ∈ words, d.before a0 Z = true) : ∀ d ∈ words, d.before args s = true := fun d hd => by
  have q := hw d hd
  have t : ∀ d ∈ words, d = .arrayClass .byte ∨ (d.onTables && d.keepsFace) = true := by decide +kernel
  rcases t d hd with rfl | t
  · exact RoadKit.mvA hZ q
  · exact RoadKit.mv hZ q t
/-- WHAT COMES BACK, over the tables of the start Z: h the heap at the call, h' behind it -/
def Q (Z : State) (x : Addr) (A : Cell) (h : Heap) (v : Option Value) (h' : Heap) (L : List Loc) : Prop := v = none ∧ (∀ y ∈ L, y.base = x) ∧ RoadKit.Keep h h' [x] ∧ h'.size = h.size + 1 ∧ RoadKit.Exa Z h' x ST ∧ RoadKit.Fld Z h' x ST "value" "[B" (.ref h.size) ∧ RoadKit.Fld Z h' x ST "coder" "B" (.int 0) ∧
  (∃ V : Cell, RoadKit.Arr Z h' h.size V .byte ∧ V.vm = .none ∧ Z.vm.findClass "[B" = some V.cls ∧ V.slots.size = A.slots.size ∧ ∀ j, j < A.slots.size → V.slots[j]? = some (.int (lo8 (cv A j)))) ∧
  ∀ (O n d : String) (w : Value), RoadKit.Fld Z h x O n d w → RoadKit.slotOf Z O n d ≠ RoadKit.slotOf Z ST "value" "[B" → RoadKit.slotOf Z O n d ≠ RoadKit.slotOf Z ST "coder" "B" → RoadKit.Fld Z h' x O n d w
/-- **new String(chars) AT A CALL, IN THE ROAD'S FORM**: for specialBack behind newO: x the fresh String, b the char[] with the cell A -/
theorem back {p : Program} {l : Launch} {e : Env} {R : Room} {s : State} {args : Array Value} {below : List Frame} {len W : Nat} {Z : State} {a0 : Array Value} {h : Heap} (hZ : Z.Warmed39 s.vm) (hw : ∀ d ∈ words, d.before a0 Z = true) {kI : Nat} (wi : (Jvm.Cond.instantiable ST kI).before a0 Z = true)
    {x b : Addr} {A : Cell} {z : Int32} {v0 c0 : Value} (E : RoadKit.Exa Z h x ST) (V : RoadKit.Fld Z h x ST "value" "[B" v0) (C : RoadKit.Fld Z h x ST "coder" "B" c0) (K : RoadKit.Arr Z h b A .char) (hty : Typed .char A) (S : RoadKit.Sta Z h ST "COMPACT_STRINGS" "Z" (.int z)) (hz : ¬ z = 0)
    (l0 : 0 < A.slots.size) (l2 : A.slots.size ≤ 536870912) (hp : ∀ i, i < A.slots.size → ¬ 255 < cv A i) (hfr : 4 ≤ R.frames) (hlo : W + 65 ≤ R.locals) :
    Back l R p e below s args New1.yN len W (fun P a => a = #[.ref x, .ref b] ∧ P.U.heap = h ∧ P.cells + 1 ≤ R.cells ∧ P.slots + A.slots.size ≤ R.slots)
      (fun P _ v B => ∃ L, Q Z x A h v B.U.heap L ∧ B.locs = P.locs ++ L ∧ B.cells = P.cells + 1 ∧ B.slots = P.slots + A.slots.size) := by
  intro m meth c P g ig mk a X hg hsize hdg hW hn hp'
  obtain ⟨rfl, rfl, r1, r2⟩ := hp'
  have al : Z.vm.Alike P.U.vm := hZ.alike.trans X.warmed.alike
  obtain ⟨D, cfV, kV, iV, fV, hD, gV, stV, knV, obV, asV, slV⟩ := id V
  obtain ⟨D', cfC, kC, iC, fC, hD', gC, stC, -, -, asC, slC⟩ := id C
  cases hD.symm.trans hD'
  obtain ⟨D2, kD, e1, e2, e3, e4, e5⟩ := id E
  cases hD.symm.trans e1
  obtain ⟨c2, k2, i1, i2, i3, -⟩ := Cond.instantiable_spec wi
  cases e2.symm.trans i1
  cases e3.symm.trans i2
  obtain ⟨kU, u1, u2⟩ := al.2.2 _ _ e3
  have hB : Blank ST x D P.U := ⟨hD, ⟨knV, fun q hq => by rw [hq] at obV; cases obV⟩, by rw [al.findClass]; exact e2, kU, u1, by rw [u2]; exact i3, by rw [u2]; exact e5 i3⟩
  have F1 : Found ST "value" "[B" fV P.U := ⟨SBG.found_only al ⟨cfV, kV, iV, gV⟩, stV⟩
  have F2 : Found ST "coder" "B" fC P.U := ⟨SBG.found_only al ⟨cfC, kC, iC, gC⟩, stC⟩
  have hA : Ch b A P.U := ⟨⟨K.1, State.isArrayOf_alike al K.2.1, K.2.2, by omega⟩, hty⟩
  have hS : StaticIs P.U ST "COMPACT_STRINGS" "Z" (.int z) := by
    obtain ⟨cfS, iS, kS, fS, st, cS, t1, t2, t3, t4, t5, t6, t7⟩ := S
    exact StaticIs.there (s := { Z with heap := P.U.heap }) ⟨cfS, iS, kS, fS, st, cS, t1, t2, t3, t4, t5, (fun q => by rw [q] at t6; cases t6), t7⟩ al rfl
  obtain ⟨v, B, X', ⟨⟨hv, E', V', q1, q2, q3, q4, q5, q6, q7, q8, q9, q10, q11⟩, hl, hc, hs⟩, st⟩ := New1.pays x D fV fC b A z (tab_of (moved hZ hw)) hfr hlo m meth c P g ig mk _ X hg hsize hdg hW hn ⟨r1, r2, rfl, hB, F1, F2, hA, hS, hz, l0, l2, hp⟩
  have al' : Z.vm.Alike B.U.vm := hZ.alike.trans X'.warmed.alike
  have hsz : E'.slots.size = D.slots.size := by
    obtain ⟨-, -, -, kB, w1, w2, w3⟩ := q1
    obtain ⟨kB', y1, y2⟩ := al'.2.2 _ _ e3
    rw [q2.2.1] at w1
    cases w1.symm.trans y1
    rw [w3, e5 i3, y2]
  refine ⟨v, B, X', ⟨_, ⟨hv, ?_, ⟨by omega, fun y cy hy hn' => q10 y cy (by simpa using hn') hy, fun y cy hy => ?_⟩, q11, ⟨E', _, q1.1, by rw [q2.2.1]; exact e2, by rw [q2.2.1]; exact e3, by rw [q2.1]; exact obV, fun _ => by rw [hsz]; exact e5 i3⟩,
    ⟨E', cfV, kV, iV, fV, q1.1, gV, stV, by rw [q2.1]; exact knV, by rw [q2.1]; exact obV, by rw [q2.2.1]; exact asV, q3⟩, ⟨E', cfC, kC, iC, fC, q1.1, gC, stC, by rw [q2.1]; exact knV, by rw [q2.1]; exact obV, by rw [q2.2.1]; exact asC, q4⟩,
    ⟨V', ⟨q5.1, State.isArrayOf_alike al'.symm q5.2.1, q5.2.2.1⟩, q6, by rw [← al'.findClass]; exact q7, q8, fun j hj => by have := q9 j hj; rwa [Nat.zero_add] at this⟩, fun O n d w F n1 n2 => ?_⟩, hl, hc, hs⟩, st⟩
  · intro y hy
    simp only [List.mem_cons, List.not_mem_nil, or_false] at hy
    rcases hy with rfl | rfl <;> rfl
  · by_cases q : y = x
    · subst q
      cases hD.symm.trans hy
      exact ⟨E', q1.1, q2.2.1, q2.1, hsz⟩
    · exact ⟨cy, q10 y cy q hy, rfl, rfl, rfl⟩
  · obtain ⟨D3, cf, k, i, f, g1, g2, g3, g4, g5, g6, g7⟩ := F
    cases hD.symm.trans g1
    simp only [RoadKit.slotOf, g2, gV, gC, Option.map_some, Option.getD_some] at n1 n2
    exact ⟨E', cf, k, i, f, q1.1, g2, g3, by rw [q2.1]; exact g4, by rw [q2.1]; exact g5, by rw [q2.2.1]; exact g6, by rw [q2.2.2 f.slot (by simp [n1, n2])]; exact g7⟩
end StrChars.Road
namespace StrChars.Road
open Jvm Sem ClassFile Op Lib Jvm.Stand Jvm.Free Jvm.Free.XT
/-- WHAT COMES BACK, the byte[] as a list of values -/
def QA (Z : State) (x : Addr) (zn : Int32) (cs : List Int32) (h : Heap) (v : Option Value) (h' : Heap) (L : List Loc) : Prop := v = none ∧ (∀ y ∈ L, y.base = x) ∧ RoadKit.Keep h h' [x] ∧ h'.size = h.size + 1 ∧ RoadKit.Exa Z h' x ST ∧ RoadKit.Fld Z h' x ST "value" "[B" (.ref h.size) ∧ RoadKit.Fld Z h' x ST "coder" "B" (.int 0) ∧
  (∃ kb, Z.vm.findClass "[B" = some kb ∧ RoadKit.Arv Z h' h.size kb .byte zn (cs.map fun c => .int (lo8 c)) (.int 0)) ∧
  ∀ (O n d : String) (w : Value), RoadKit.Fld Z h x O n d w → RoadKit.slotOf Z O n d ≠ RoadKit.slotOf Z ST "value" "[B" → RoadKit.slotOf Z O n d ≠ RoadKit.slotOf Z ST "coder" "B" → RoadKit.Fld Z h' x O n d w
/-- **new String(chars) AT A CALL, THE ARRAYS AS LISTS**: the char[] at b holds cs, not empty, no char above 255 -/
theorem backArv {p : Program} {l : Launch} {e : Env} {R : Room} {s : State} {args : Array Value} {below : List Frame} {len W : Nat} {Z : State} {a0 : Array Value} {h : Heap} (hZ : Z.Warmed39 s.vm) (hw : ∀ d ∈ words, d.before a0 Z = true) {kI : Nat} (wi : (Jvm.Cond.instantiable ST kI).before a0 Z = true)
    {x b : Addr} {k : ClassId} {zn z : Int32} {cs : List Int32} {dv v0 c0 : Value} (E : RoadKit.Exa Z h x ST) (V : RoadKit.Fld Z h x ST "value" "[B" v0) (C : RoadKit.Fld Z h x ST "coder" "B" c0) (K : RoadKit.Arv Z h b k .char zn (cs.map Value.int) dv) (S : RoadKit.Sta Z h ST "COMPACT_STRINGS" "Z" (.int z)) (hz : ¬ z = 0)
    (hlen : zn.toNatClampNeg = cs.length) (h0 : 0 < cs.length) (hbig : cs.length ≤ 536870912) (hall : ∀ c ∈ cs, ¬ 255 < c) (hfr : 4 ≤ R.frames) (hlo : W + 65 ≤ R.locals) :
    Back l R p e below s args New1.yN len W (fun P a => a = #[.ref x, .ref b] ∧ P.U.heap = h ∧ P.cells + 1 ≤ R.cells ∧ P.slots + cs.length ≤ R.slots)
      (fun P _ v B => ∃ L, QA Z x zn cs h v B.U.heap L ∧ B.locs = P.locs ++ L ∧ B.cells = P.cells + 1 ∧ B.slots = P.slots + cs.length) := by
  obtain ⟨A, K1, K2, K3, K4, K5, K6⟩ := K
  have e : A.slots.size = cs.length := K3.trans hlen
  have hat : ∀ (i : Nat) (hi : i < cs.length), A.slots[i]? = some (.int cs[i]) := fun i hi => by rw [K5 i (by omega)]; simp [List.getD_eq_getElem?_getD, hi]
  have hcv : ∀ (i : Nat) (hi : i < cs.length), cv A i = cs[i] := fun i hi => by unfold cv; rw [hat i hi]
  have hty : Typed .char A := fun i v hv => by
    have hi : i < A.slots.size := (Array.getElem?_eq_some_iff.mp hv).1
    have q := K5 i hi
    rw [hv] at q
    rw [Option.some.inj q]
    exact K6 i hi
  refine Back.mono (back hZ hw wi E V C K1 hty S hz (by omega) (by omega) (fun i hi => by rw [hcv i (by omega)]; exact hall _ (List.getElem_mem _)) hfr hlo) (fun P a hp => ⟨hp.1, hp.2.1, hp.2.2.1, by rw [e]; exact hp.2.2.2⟩) (fun P a v B hp hq => ?_)
  obtain ⟨L, ⟨q1, q2, q3, q4, q5, q6, q7, ⟨V', v1, v2, v3, v4, v5⟩, q9⟩, hl, hc, hs⟩ := hq
  refine ⟨L, ⟨q1, q2, q3, q4, q5, q6, q7, ⟨V'.cls, v3, V', v1, rfl, by rw [v4, e, hlen], K4, fun i hi => ?_, fun i hi => ?_⟩, q9⟩, hl, hc, by rw [hs, e]⟩
  · have hi' : i < cs.length := by omega
    rw [v5 i (by omega), hcv i hi']; simp [List.getD_eq_getElem?_getD, hi']
  · have hi' : i < cs.length := by omega
    simp only [List.getD_eq_getElem?_getD, List.getElem?_map, List.getElem?_eq_getElem hi', Option.map_some, Option.getD_some]
    exact fits_lo8 _
end StrChars.Road
namespace StrChars.Road
open Jvm Sem ClassFile Op Lib Jvm.Stand Jvm.Free Jvm.Free.XT
/-- WHAT COMES BACK, in the writer's own shape -/
def QV (Z : State) (x : Addr) (N : Int32) (bs : List Int32) (h : Heap) (n0 : Nat) (v : Option Value) (h' : Heap) (L : List Loc) : Prop := v = none ∧ RoadKit.Fr n0 L ∧ RoadKit.Keep h h' [x] ∧ RoadKit.Exa Z h' x ST ∧ RoadKit.Fld Z h' x ST "coder" "B" (.int 0) ∧
  ∃ (t : Addr) (kb : ClassId), n0 ≤ t ∧ h.size ≤ t ∧ ¬ t = x ∧ RoadKit.Fld Z h' x ST "value" "[B" (.ref t) ∧ RoadKit.Arv Z h' t kb .byte N (bs.map Value.int) (.int 0)
/-- **new String(chars) AT A CALL, FOR THE WRITER**: a char[] of n known ints, each 0 to 255 -/
theorem backV {p : Program} {l : Launch} {e : Env} {R : Room} {s : State} {args : Array Value} {below : List Frame} {len W : Nat} {Z : State} {a0 : Array Value} {h : Heap} (hZ : Z.Warmed39 s.vm) (hw : ∀ d ∈ words, d.before a0 Z = true) {kI : Nat} (wi : (Jvm.Cond.instantiable ST kI).before a0 Z = true)
    {x b : Addr} {kC : ClassId} {cs bs : List Int32} {d v0 c0 : Value} {z N : Int32} {n n0 : Nat} (hx0 : n0 ≤ x) (hh0 : n0 ≤ h.size) (E : RoadKit.Exa Z h x ST) (V : RoadKit.Fld Z h x ST "value" "[B" v0) (C : RoadKit.Fld Z h x ST "coder" "B" c0) (K : RoadKit.Arv Z h b kC .char N (cs.map Value.int) d) (S : RoadKit.Sta Z h ST "COMPACT_STRINGS" "Z" (.int z)) (hz : ¬ z = 0)
    (hn : cs.length = n) (hN : N = Int32.ofNat n) (l0 : 0 < n) (l2 : n ≤ 4000) (hp : ∀ c ∈ cs, ¬ c < 0 ∧ ¬ (255 : Int32) < c) (hb : bs = cs.map (fun c => c.toInt8.toInt32)) (hfr : 4 ≤ R.frames) (hlo : W + 65 ≤ R.locals) :
    Back l R p e below s args (⟨"java/lang/String", "<init>", "([C)V"⟩ : MethodName) len W (fun P a => a = #[.ref x, .ref b] ∧ P.U.heap = h ∧ P.cells + 1 ≤ R.cells ∧ P.slots + n ≤ R.slots)
      (fun P _ v B => ∃ L, QV Z x N bs h n0 v B.U.heap L ∧ B.locs = P.locs ++ L ∧ B.cells = P.cells + 1 ∧ B.slots = P.slots + n) := by
  subst hn hN hb
  refine Back.mono (backArv hZ hw wi E V C K S hz (n32 (by omega)) l0 (by omega) (fun c hc => (hp c hc).2) hfr hlo) (fun P a hp => hp) (fun P a v B hp hq => ?_)
  obtain ⟨L, ⟨q1, q2, q3, q4, q5, q6, q7, ⟨kb, v1, v2⟩, q9⟩, hl, hc, hs⟩ := hq
  exact ⟨L, ⟨q1, fun y hy => by rw [q2 y hy]; exact hx0, q3, q5, q7, h.size, kb, hh0, Nat.le_refl _, Nat.ne_of_gt E.lt, q6, by rw [List.map_map]; exact v2⟩, hl, hc, hs⟩
end StrChars.Road
end Jvm.Pilot.@@N@@

namespace Jvm.Pilot.@@N@@
open Jvm Jvm.ClassFile Sem Op Lib Jvm.Free Jvm.Stand Jvm.LawKit Jvm.RoadKit Bundle Jvm.Pilot.@@N@@.Jvm.D
theorem own_ch (x : Int32) : ¬ nar .char ((x &&& (255 : Int32)).toUInt32.toUInt16.toUInt32.toInt32) < 0 ∧ ¬ (255 : Int32) < nar .char ((x &&& (255 : Int32)).toUInt32.toUInt16.toUInt32.toInt32) := by
  have h := c_mask x 255 8 (by decide) (by decide)
  have a := c_i2c (x &&& 255)
  have b := c_i2c ((x &&& (255 : Int32)).toUInt32.toUInt16.toUInt32.toInt32)
  have k : (255 : Int32).toInt = 255 := by decide
  have k0 : (0 : Int32).toInt = 0 := by decide
  simp only [Int32.lt_iff_toInt_lt]
  show ¬ (((x &&& (255 : Int32)).toUInt32.toUInt16.toUInt32.toInt32).toUInt32.toUInt16.toUInt32.toInt32).toInt < _ ∧ ¬ _ < (((x &&& (255 : Int32)).toUInt32.toUInt16.toUInt32.toInt32).toUInt32.toUInt16.toUInt32.toInt32).toInt
  omega
theorem own_k (x : Int32) {k : Int32} (h : k = (1 : Int32) + (x &&& (3 : Int32))) : k = (1 : Int32) ∨ k = (2 : Int32) ∨ k = (3 : Int32) ∨ k = (4 : Int32) := by
  subst h
  have a := c_mask x 3 2 (by decide) (by decide)
  have b := c_iadd 1 (x &&& 3)
  have c := rng32 ((1 : Int32) + (x &&& 3))
  have k1 : (1 : Int32).toInt = 1 := by decide
  have e : (1 + (x &&& 3)).toInt = 1 ∨ (1 + (x &&& 3)).toInt = 2 ∨ (1 + (x &&& 3)).toInt = 3 ∨ (1 + (x &&& 3)).toInt = 4 := by omega
  rcases e with e | e | e | e
  · exact Or.inl (Int32.toInt_inj.mp (e.trans (by decide)))
  · exact Or.inr (Or.inl (Int32.toInt_inj.mp (e.trans (by decide))))
  · exact Or.inr (Or.inr (Or.inl (Int32.toInt_inj.mp (e.trans (by decide)))))
  · exact Or.inr (Or.inr (Or.inr (Int32.toInt_inj.mp (e.trans (by decide)))))
theorem d1_0 : decode method_2_code 0 = .ok (.iconst 2, 1) := by decide +kernel
theorem d1_1 : decode method_2_code 1 = .ok (.newarray .char, 2) := by decide +kernel
theorem d1_3 : decode method_2_code 3 = .ok (.astore_n 1, 1) := by decide +kernel
theorem d1_4 : decode method_2_code 4 = .ok (.aload_n 1, 1) := by decide +kernel
theorem d1_5 : decode method_2_code 5 = .ok (.iconst 0, 1) := by decide +kernel
theorem d1_6 : decode method_2_code 6 = .ok (.iload_n 0, 1) := by decide +kernel
theorem d1_7 : decode method_2_code 7 = .ok (.sipush 255, 3) := by decide +kernel
theorem d1_10 : decode method_2_code 10 = .ok (.iand, 1) := by decide +kernel
theorem d1_11 : decode method_2_code 11 = .ok (.i2c, 1) := by decide +kernel
theorem d1_12 : decode method_2_code 12 = .ok (.castore, 1) := by decide +kernel
theorem d1_13 : decode method_2_code 13 = .ok (.aload_n 1, 1) := by decide +kernel
theorem d1_14 : decode method_2_code 14 = .ok (.iconst 1, 1) := by decide +kernel
theorem d1_15 : decode method_2_code 15 = .ok (.iload_n 0, 1) := by decide +kernel
theorem d1_16 : decode method_2_code 16 = .ok (.bipush 8, 2) := by decide +kernel
theorem d1_18 : decode method_2_code 18 = .ok (.iushr, 1) := by decide +kernel
theorem d1_19 : decode method_2_code 19 = .ok (.sipush 255, 3) := by decide +kernel
theorem d1_22 : decode method_2_code 22 = .ok (.iand, 1) := by decide +kernel
theorem d1_23 : decode method_2_code 23 = .ok (.i2c, 1) := by decide +kernel
theorem d1_24 : decode method_2_code 24 = .ok (.castore, 1) := by decide +kernel
theorem d1_25 : decode method_2_code 25 = .ok (.new 7, 3) := by decide +kernel
theorem d1_28 : decode method_2_code 28 = .ok (.dup, 1) := by decide +kernel
theorem d1_29 : decode method_2_code 29 = .ok (.aload_n 1, 1) := by decide +kernel
theorem d1_30 : decode method_2_code 30 = .ok (.invokespecial 9, 3) := by decide +kernel
theorem d1_33 : decode method_2_code 33 = .ok (.areturn, 1) := by decide +kernel
theorem pn_rm1 : plainName "com/example/freshet/freshet/ArgumentsTraceFilesPinLaw" = true := by first | (simp [plainName, overriddenIn]; done) | decide +kernel
theorem pd_rm1_0 : parseMethodDescriptor "([C)V" = some ⟨[(.array .char)], none⟩ := by decide +kernel
theorem ef_rm1 (m : MethodId) (x0 : Int32) : entryFrame m #[(.int x0)] 2 = mkF m 0 #[.val (.int x0), .unset] [] := by first | (simp [entryFrame, mkF, argsToLocals, Value.category]; done) | rfl
def Q1 (Z : State) (p1 : Int32) (cz : Int32) (h0 : Heap) (n0 : Nat) (v : Option Value) (h : Heap) (L : List Loc) : Prop := ∃ r : Addr, v = some (.ref r) ∧ Fr n0 L ∧ Keep h0 h [] ∧ Exa Z h r "java/lang/String"
set_option maxRecDepth 65536 in
set_option maxHeartbeats 40000000 in
theorem rm1 (l : Launch) (Z : State) (a0 : Array Value) (hw : ∀ d ∈ tables_1, d.before a0 Z = true) (ws : List Jvm.Cond) (p1 : Int32) (cz : Int32) (h0 : Heap) (n0 : Nat) (Z0 : n0 ≤ h0.size) (SC : Sta Z h0 "java/lang/String" "COMPACT_STRINGS" "Z" (.int cz)) (hz : ¬ cz = 0) :
    MetFree l (⟨"com/example/freshet/freshet/ArgumentsTraceFilesPinLaw", "name", "(I)Ljava/lang/String;"⟩ : MethodName) (head1 (Jvm.Cond.code (⟨"com/example/freshet/freshet/ArgumentsTraceFilesPinLaw", "name", "(I)Ljava/lang/String;"⟩ : MethodName) method_2_code 2 (some (.object "java/lang/String")) :: ws) ({ frames := 4, cells := 3, slots := 8, locals := 66 } : Room)) (fun a U => a = #[(.int p1)] ∧ Z.Warmed39 U.vm ∧ U.heap = h0) (fun _ _ _ _ _ => True) (fun _ U o U' => ∃ v L, o = .returned v ∧ Q1 Z p1 cz h0 n0 v U'.heap L ∧ FrameEnd U o U' L ({ frames := 4, cells := 3, slots := 8, locals := 66 } : Room).cells ({ frames := 4, cells := 3, slots := 8, locals := 66 } : Room).slots) := by
  refine MetFree.of_bodySF (plainFor_of_name pn_rm1) hisR ?_
  intro p e s m args below meth c s₁ Bd hml0 hP hK
  obtain ⟨rfl, hZ, hh⟩ := hP
  have hx := Bd.exec
  have hby := Bd.bytes
  have hml : c.maxLocals = 2 := hml0
  have hown : s.vm.findClass "com/example/freshet/freshet/ArgumentsTraceFilesPinLaw" = some m.cls := findClass_of_methodNamed Bd.named
  have hnm := (name_of_methodNamed Bd.named Bd.method).1
  have X0 : Stand p l e ({ frames := 4, cells := 3, slots := 8, locals := 66 } : Room) s m #[(.int p1)] below meth c s₁ [] 0 0 := Stand.of_body Bd
  have e0 : s₁.heap = h0 := by rw [← hh, Bd.state]; rfl
  have N0 := Fr.nil n0
  have pre0 : ∀ t, Steps p.tables e below (s₁.setTop (mkF m 0 #[.val (.int p1), .unset] [])) t → Steps p.tables e below (s₁.setTop (entryFrame m #[(.int p1)] 2)) t := fun t k => castTop (ef_rm1 m p1) k
  show own_Fin p e below _ _
  refine own_go pre0 ?_
  have hws : ∀ d ∈ StrChars.Road.words, d.before a0 Z = true := fun d hd => hw d ((by decide +kernel : ∀ d ∈ StrChars.Road.words, d ∈ tables_1) d hd)
  refine own_go (B := s₁.setTop (mkF m 1 #[.val (.int p1), .unset] [(.int (2 : Int32))])) (fun t k => ?_) ?_
  · show Steps p.tables e below (s₁.setTop (mkF m 0 #[.val (.int p1), .unset] [])) t
    refine XS.iconst X0.here hx rfl (hb hby d1_0) ?_
    exact k
  obtain ⟨T1, h1, k1, X1, e1, E1, A1, st1⟩ := newP X0 hx hZ (hw _ (List.mem_of_getElem? (i := 4) rfl)) e0 (g := (mkF m 1 #[.val (.int p1), .unset] [(.int (2 : Int32))])) rfl (hb hby d1_1) rfl (by decide) (cap := 2) (by decide) (by decide) (by decide) (by decide)
  obtain ⟨b1, g1⟩ : ∃ z, z = h0.size := ⟨_, rfl⟩
  rw [← g1] at A1 st1
  refine own_go (fun t k => st1 t k) ?_
  have g_b1 : n0 ≤ b1 := Nat.le_trans Z0 (Nat.le_of_eq g1.symm)
  have sz_b1 : h0.size ≤ b1 := Nat.le_trans (Keep.refl h0 []).1 (Nat.le_of_eq g1.symm)
  have K1 : Keep h0 h1 [] := (Keep.refl h0 []).ext E1
  have f1_0 := SC.ext E1
  have V1 : Arv Z h1 b1 k1 .char (2 : Int32) [(.int (0 : Int32)), (.int (0 : Int32))] (.int (0 : Int32)) := (Arv.new A1 (by decide)).pad (pad_rep [] (.int (0 : Int32)) 2)
  refine own_go (B := T1.setTop (mkF m 12 #[.val (.int p1), .val (.ref b1)] [(.int ((p1 &&& (255 : Int32)).toUInt32.toUInt16.toUInt32.toInt32)), (.int (0 : Int32)), (.ref b1)])) (fun t k => ?_) ?_
  · show Steps p.tables e below (T1.setTop (mkF m 3 #[.val (.int p1), .unset] [(.ref b1)])) t
    refine XS.astoreN X1.here hx rfl (hb hby d1_3) rfl rfl (l' := #[.val (.int p1), .val (.ref b1)]) rfl ?_
    show Steps p.tables e below (T1.setTop (mkF m 4 #[.val (.int p1), .val (.ref b1)] [])) t
    refine XS.aloadN X1.here hx rfl (hb hby d1_4) rfl rfl ?_
    show Steps p.tables e below (T1.setTop (mkF m 5 #[.val (.int p1), .val (.ref b1)] [(.ref b1)])) t
    refine XS.iconst X1.here hx rfl (hb hby d1_5) ?_
    show Steps p.tables e below (T1.setTop (mkF m 6 #[.val (.int p1), .val (.ref b1)] [(.int (0 : Int32)), (.ref b1)])) t
    refine XS.iloadN X1.here hx rfl (hb hby d1_6) rfl ?_
    show Steps p.tables e below (T1.setTop (mkF m 7 #[.val (.int p1), .val (.ref b1)] [(.int p1), (.int (0 : Int32)), (.ref b1)])) t
    refine XS.sipush X1.here hx rfl (hb hby d1_7) ?_
    show Steps p.tables e below (T1.setTop (mkF m 10 #[.val (.int p1), .val (.ref b1)] [(.int (255 : Int32)), (.int p1), (.int (0 : Int32)), (.ref b1)])) t
    refine XS.iand X1.here hx rfl (hb hby d1_10) rfl ?_
    show Steps p.tables e below (T1.setTop (mkF m 11 #[.val (.int p1), .val (.ref b1)] [(.int (p1 &&& (255 : Int32))), (.int (0 : Int32)), (.ref b1)])) t
    refine XS.i2c X1.here hx rfl (hb hby d1_11) rfl ?_
    exact k
  obtain ⟨cl2, Ar2, q2, S2, N2', H2, G2⟩ := V1
  have hin2 : ¬ ((0 : Int32) < 0 ∨ cl2.slots.size ≤ ((0 : Int32)).toNatClampNeg) := inb_of S2 ⟨by decide, by decide⟩
  obtain ⟨T2, h2, X2, e2, W2, st2⟩ := stC X1 hx hZ e1 Ar2 (j := (0 : Int32)) hin2 (g := (mkF m 12 #[.val (.int p1), .val (.ref b1)] [(.int ((p1 &&& (255 : Int32)).toUInt32.toUInt16.toUInt32.toInt32)), (.int (0 : Int32)), (.ref b1)])) rfl rfl (hb hby d1_12)
  refine own_go (fun t k => st2 t k) ?_
  have N2 := Fr.snoc X2 N0 g_b1
  obtain ⟨LL2, X2, N2⟩ := own_abs X2 N2
  have K2 : Keep h0 h2 [] := K1.wr W2 (Or.inr sz_b1)
  have f2_0 := f1_0.wr W2
  have V2 := Arv.set Ar2 q2 S2 N2' H2 G2 (fits_nar_char _) W2 0 rfl (Nat.le_of_ble_eq_true rfl)
  refine own_go (B := T2.setTop (mkF m 24 #[.val (.int p1), .val (.ref b1)] [(.int ((((p1.toUInt32 >>> ((8 : Int32) &&& 31).toUInt32).toInt32) &&& (255 : Int32)).toUInt32.toUInt16.toUInt32.toInt32)), (.int (1 : Int32)), (.ref b1)])) (fun t k => ?_) ?_
  · show Steps p.tables e below (T2.setTop (mkF m 13 #[.val (.int p1), .val (.ref b1)] [])) t
    refine XS.aloadN X2.here hx rfl (hb hby d1_13) rfl rfl ?_
    show Steps p.tables e below (T2.setTop (mkF m 14 #[.val (.int p1), .val (.ref b1)] [(.ref b1)])) t
    refine XS.iconst X2.here hx rfl (hb hby d1_14) ?_
    show Steps p.tables e below (T2.setTop (mkF m 15 #[.val (.int p1), .val (.ref b1)] [(.int (1 : Int32)), (.ref b1)])) t
    refine XS.iloadN X2.here hx rfl (hb hby d1_15) rfl ?_
    show Steps p.tables e below (T2.setTop (mkF m 16 #[.val (.int p1), .val (.ref b1)] [(.int p1), (.int (1 : Int32)), (.ref b1)])) t
    refine XS.bipush X2.here hx rfl (hb hby d1_16) ?_
    show Steps p.tables e below (T2.setTop (mkF m 18 #[.val (.int p1), .val (.ref b1)] [(.int (8 : Int32)), (.int p1), (.int (1 : Int32)), (.ref b1)])) t
    refine XS.iushr X2.here hx rfl (hb hby d1_18) rfl ?_
    show Steps p.tables e below (T2.setTop (mkF m 19 #[.val (.int p1), .val (.ref b1)] [(.int ((p1.toUInt32 >>> ((8 : Int32) &&& 31).toUInt32).toInt32)), (.int (1 : Int32)), (.ref b1)])) t
    refine XS.sipush X2.here hx rfl (hb hby d1_19) ?_
    show Steps p.tables e below (T2.setTop (mkF m 22 #[.val (.int p1), .val (.ref b1)] [(.int (255 : Int32)), (.int ((p1.toUInt32 >>> ((8 : Int32) &&& 31).toUInt32).toInt32)), (.int (1 : Int32)), (.ref b1)])) t
    refine XS.iand X2.here hx rfl (hb hby d1_22) rfl ?_
    show Steps p.tables e below (T2.setTop (mkF m 23 #[.val (.int p1), .val (.ref b1)] [(.int (((p1.toUInt32 >>> ((8 : Int32) &&& 31).toUInt32).toInt32) &&& (255 : Int32))), (.int (1 : Int32)), (.ref b1)])) t
    refine XS.i2c X2.here hx rfl (hb hby d1_23) rfl ?_
    exact k
  obtain ⟨cl3, Ar3, q3, S3, N3', H3, G3⟩ := V2
  have hin3 : ¬ ((1 : Int32) < 0 ∨ cl3.slots.size ≤ ((1 : Int32)).toNatClampNeg) := inb_of S3 ⟨by decide, by decide⟩
  obtain ⟨T3, h3, X3, e3, W3, st3⟩ := stC X2 hx hZ e2 Ar3 (j := (1 : Int32)) hin3 (g := (mkF m 24 #[.val (.int p1), .val (.ref b1)] [(.int ((((p1.toUInt32 >>> ((8 : Int32) &&& 31).toUInt32).toInt32) &&& (255 : Int32)).toUInt32.toUInt16.toUInt32.toInt32)), (.int (1 : Int32)), (.ref b1)])) rfl rfl (hb hby d1_24)
  refine own_go (fun t k => st3 t k) ?_
  have N3 := Fr.snoc X3 N2 g_b1
  obtain ⟨LL3, X3, N3⟩ := own_abs X3 N3
  have K3 : Keep h0 h3 [] := K2.wr W3 (Or.inr sz_b1)
  have f3_0 := f2_0.wr W3
  have V3 := Arv.set Ar3 q3 S3 N3' H3 G3 (fits_nar_char _) W3 1 rfl (Nat.le_of_ble_eq_true rfl)
  obtain ⟨T4, h4, X4, e4, E4, A4, D4, -, st4⟩ := newO X3 hx hZ hown (hw _ (List.mem_of_getElem? (i := 5) rfl)) (hw _ (List.mem_of_getElem? (i := 6) rfl)) (hw _ (List.mem_of_getElem? (i := 7) rfl)) e3 (g := (mkF m 25 #[.val (.int p1), .val (.ref b1)] [])) rfl (hb hby d1_25) (by decide) (by decide)
  obtain ⟨b4, g4⟩ : ∃ z, z = h3.size := ⟨_, rfl⟩
  rw [← g4] at A4 D4 st4
  refine own_go (fun t k => st4 t k) ?_
  have g_b4 : n0 ≤ b4 := Nat.le_trans (Nat.le_trans (Nat.le_trans (Nat.le_trans Z0 E1.1) (Keep.of_wr W2).1) (Keep.of_wr W3).1) (Nat.le_of_eq g4.symm)
  have sz_b4 : h0.size ≤ b4 := Nat.le_trans K3.1 (Nat.le_of_eq g4.symm)
  have ne4_b1 : b1 ≠ b4 := Nat.ne_of_lt (Nat.lt_of_lt_of_le V3.lt (Nat.le_of_eq g4.symm))
  have K4 : Keep h0 h4 [] := K3.ext E4
  have f4_0 := f3_0.ext E4
  have f4_1 := V3.ext E4
  have F4_coder : Fld Z h4 b4 "java/lang/String" "coder" "B" (.int (0 : Int32)) := D4 (Or.inr (hw _ (List.mem_of_getElem? (i := 31) rfl))) (ty := .byte) (by decide)
  have F4_value : Fld Z h4 b4 "java/lang/String" "value" "[B" .null := D4 (Or.inr (hw _ (List.mem_of_getElem? (i := 33) rfl))) (ty := (.array .byte)) (by decide)
  refine own_go (B := T4.setTop (mkF m 30 #[.val (.int p1), .val (.ref b1)] [(.ref b1), (.ref b4), (.ref b4)])) (fun t k => ?_) ?_
  · show Steps p.tables e below (T4.setTop (mkF m 28 #[.val (.int p1), .val (.ref b1)] [(.ref b4)])) t
    refine XS.dup X4.here hx rfl (hb hby d1_28) rfl rfl ?_
    show Steps p.tables e below (T4.setTop (mkF m 29 #[.val (.int p1), .val (.ref b1)] [(.ref b4), (.ref b4)])) t
    refine XS.aloadN X4.here hx rfl (hb hby d1_29) rfl rfl ?_
    exact k
  have hp5 : ∀ c ∈ ([(nar .char ((p1 &&& (255 : Int32)).toUInt32.toUInt16.toUInt32.toInt32)), (nar .char ((((p1.toUInt32 >>> ((8 : Int32) &&& 31).toUInt32).toInt32) &&& (255 : Int32)).toUInt32.toUInt16.toUInt32.toInt32))] : List Int32), ¬ c < 0 ∧ ¬ (255 : Int32) < c := by
    intro c hc
    simp only [List.mem_cons, List.not_mem_nil, or_false] at hc
    rcases hc with rfl | rfl <;> exact own_ch _
  obtain ⟨_, _, ⟨T5, L5, k5, n5⟩, -, X5, ⟨Lc5, hQ5, l5, y5, z5⟩, st5⟩ := X4.specialBack hx (y := (⟨"java/lang/String", "<init>", "([C)V"⟩ : MethodName)) rfl hown (mvT hZ (hw _ (List.mem_of_getElem? (i := 8) rfl))) (mvT hZ (hw _ (List.mem_of_getElem? (i := 9) rfl))) (mvT hZ (hw _ (List.mem_of_getElem? (i := 10) rfl))) (by decide) (StrChars.Road.backV (W := 1) hZ hws (kI := 4) (hw _ (List.mem_of_getElem? (i := 6) rfl)) (cs := ([(nar .char ((p1 &&& (255 : Int32)).toUInt32.toUInt16.toUInt32.toInt32)), (nar .char ((((p1.toUInt32 >>> ((8 : Int32) &&& 31).toUInt32).toInt32) &&& (255 : Int32)).toUInt32.toUInt16.toUInt32.toInt32))] : List Int32)) (bs := ([(nar .char ((p1 &&& (255 : Int32)).toUInt32.toUInt16.toUInt32.toInt32)), (nar .char ((((p1.toUInt32 >>> ((8 : Int32) &&& 31).toUInt32).toInt32) &&& (255 : Int32)).toUInt32.toUInt16.toUInt32.toInt32))] : List Int32).map (fun c => c.toInt8.toInt32)) (n := 2) g_b4 (Nat.le_trans (Nat.le_trans (Nat.le_trans (Nat.le_trans Z0 E1.1) (Keep.of_wr W2).1) (Keep.of_wr W3).1) E4.1) A4 F4_value F4_coder f4_1 f4_0 hz rfl rfl (by decide) (by decide) hp5 rfl (by decide) (by decide)) (g := (mkF m 30 #[.val (.int p1), .val (.ref b1)] [(.ref b1), (.ref b4), (.ref b4)])) rfl (by rw [hml]; rfl) (Steps.refl _) (a := b4) (argsL := [(.ref b1)]) (rest := [(.ref b4)]) (lenOf pd_rm1_0 rfl) rfl (by show 2 * 0 + _ ≤ _; exact Nat.le_of_eq rfl) (hb hby d1_30) (fun _ _ => ⟨rfl, e4, (by decide : 2 + 1 ≤ _), (by decide : 6 + 2 ≤ _)⟩)
  dsimp only [Pt.U, Pt.locs, Pt.cells, Pt.slots] at X5 l5 y5 z5 st5 hQ5
  subst l5 y5 z5
  obtain ⟨rfl, N5q, K5, -, -, -⟩ := hQ5
  have N5 := Fr.app N3 N5q
  obtain ⟨LL5, X5, N5⟩ := own_abs X5 N5
  refine own_go (fun t k => st5.trans k) ?_
  have KK5 : Keep h0 T5.heap [] := K4.trans K5 (allS (Or.inr sz_b4) all0)
  have f5_0 := own_staKeep f4_0 K5 (nsS A4.nostat ns0)
  have f5_1 := f4_1.keep K5 (ninS ne4_b1 nin0)
  have f5_2 := A4.keep K5
  obtain ⟨fs, hr, hrun, hended, hW, hsame⟩ := X5.leave (v := some (.ref b4)) (fun h => by rw [Bd.returns] at h; cases h)
  refine ⟨_, _, ?_, hrun, hended, _, _, rfl, ?_, ⟨_, rfl⟩, hW, hsame.mono (by decide) (by decide)⟩
  · show Steps p.tables e below (T5.setTop (mkF m 33 #[.val (.int p1), .val (.ref b1)] [(.ref b4)])) _
    jvm_step X5.here [X5.here.top, hx, (hb hby d1_33), X5.method', Bd.returns, Value.isRef, FieldType.isReference]
    first | (intro acts; rw [hr _ acts rfl rfl rfl]) | rw [hr _ _ rfl rfl rfl]
    exact Steps.refl _
  · show Q1 Z p1 cz h0 n0 _ T5.heap _
    exact ⟨_, rfl, N5, KK5, f5_2⟩
theorem d10_0 : decode jdk_22_method_1_code 0 = .ok (.aload_n 0, 1) := by decide +kernel
theorem d10_1 : decode jdk_22_method_1_code 1 = .ok (.invokespecial 1, 3) := by decide +kernel
theorem d10_4 : decode jdk_22_method_1_code 4 = .ok (.return_, 1) := by decide +kernel
theorem pn_rm10 : plainName "java/util/AbstractCollection" = true := by first | (simp [plainName, overriddenIn]; done) | decide +kernel
theorem ef_rm10 (m : MethodId) (x0 : Addr) : entryFrame m #[(.ref x0)] 1 = mkF m 0 #[.val (.ref x0)] [] := by first | (simp [entryFrame, mkF, argsToLocals, Value.category]; done) | rfl
def Q10 (Z : State) (a1 : Addr) (h0 : Heap) (n0 : Nat) (v : Option Value) (h : Heap) (L : List Loc) : Prop := v = none ∧ Fr n0 L ∧ h = h0
set_option maxRecDepth 65536 in
set_option maxHeartbeats 40000000 in
theorem rm10 (l : Launch) (Z : State) (a0 : Array Value) (hw : ∀ d ∈ tables_1, d.before a0 Z = true) (ws : List Jvm.Cond) (a1 : Addr) (h0 : Heap) (n0 : Nat) (Z0 : n0 ≤ h0.size) :
    MetFree l (⟨"java/util/AbstractCollection", "<init>", "()V"⟩ : MethodName) (head1 (Jvm.Cond.code (⟨"java/util/AbstractCollection", "<init>", "()V"⟩ : MethodName) jdk_22_method_1_code 1 none :: ws) ({ frames := 1, cells := 0, slots := 0, locals := 12 } : Room)) (fun a U => a = #[(.ref a1)] ∧ Z.Warmed39 U.vm ∧ U.heap = h0) (fun _ _ _ _ _ => True) (fun _ U o U' => ∃ v L, o = .returned v ∧ Q10 Z a1 h0 n0 v U'.heap L ∧ FrameEnd U o U' L ({ frames := 1, cells := 0, slots := 0, locals := 12 } : Room).cells ({ frames := 1, cells := 0, slots := 0, locals := 12 } : Room).slots) := by
  refine MetFree.of_bodySF (plainFor_of_name pn_rm10) hisR ?_
  intro p e s m args below meth c s₁ Bd hml0 hP hK
  obtain ⟨rfl, hZ, hh⟩ := hP
  have hx := Bd.exec
  have hby := Bd.bytes
  have hml : c.maxLocals = 1 := hml0
  have hown : s.vm.findClass "java/util/AbstractCollection" = some m.cls := findClass_of_methodNamed Bd.named
  have hnm := (name_of_methodNamed Bd.named Bd.method).1
  have X0 : Stand p l e ({ frames := 1, cells := 0, slots := 0, locals := 12 } : Room) s m #[(.ref a1)] below meth c s₁ [] 0 0 := Stand.of_body Bd
  have e0 : s₁.heap = h0 := by rw [← hh, Bd.state]; rfl
  have N0 := Fr.nil n0
  have pre0 : ∀ t, Steps p.tables e below (s₁.setTop (mkF m 0 #[.val (.ref a1)] [])) t → Steps p.tables e below (s₁.setTop (entryFrame m #[(.ref a1)] 1)) t := fun t k => castTop (ef_rm10 m a1) k
  show own_Fin p e below _ _
  refine own_go pre0 ?_
  refine own_go (B := s₁.setTop (mkF m 1 #[.val (.ref a1)] [(.ref a1)])) (fun t k => ?_) ?_
  · show Steps p.tables e below (s₁.setTop (mkF m 0 #[.val (.ref a1)] [])) t
    refine XS.aloadN X0.here hx rfl (hb hby d10_0) rfl rfl ?_
    exact k
  obtain ⟨T1, X1, e1, st1⟩ := initO X0 hx hZ hown (hw _ (List.mem_of_getElem? (i := 52) rfl)) (hw _ (List.mem_of_getElem? (i := 16) rfl)) (hw _ (List.mem_of_getElem? (i := 17) rfl)) e0 (g := (mkF m 1 #[.val (.ref a1)] [(.ref a1)])) rfl (by rw [hml]; rfl) rfl (hb hby d10_1) (by decide) (W := 0) (by show 2 * 0 + _ ≤ _; exact Nat.le_of_eq rfl) (by decide)
  refine own_go (fun t k => st1 t k) ?_
  obtain ⟨fs, hr, hrun, hended, hW, hsame⟩ := X1.leave (v := none) (fun _ => rfl)
  refine ⟨_, _, ?_, hrun, hended, _, _, rfl, ?_, ⟨_, rfl⟩, hW, hsame.mono (by decide) (by decide)⟩
  · show Steps p.tables e below (T1.setTop (mkF m 4 #[.val (.ref a1)] [])) _
    exact X1.returnOut hx Bd.returns (hb hby d10_4) hr
  · show Q10 Z a1 h0 n0 _ T1.heap _
    rw [e1]
    exact ⟨rfl, N0, rfl⟩
theorem d9_0 : decode jdk_39_method_1_code 0 = .ok (.aload_n 0, 1) := by decide +kernel
theorem d9_1 : decode jdk_39_method_1_code 1 = .ok (.invokespecial 1, 3) := by decide +kernel
theorem d9_4 : decode jdk_39_method_1_code 4 = .ok (.aload_n 0, 1) := by decide +kernel
theorem d9_5 : decode jdk_39_method_1_code 5 = .ok (.iconst 0, 1) := by decide +kernel
theorem d9_6 : decode jdk_39_method_1_code 6 = .ok (.putfield 7, 3) := by decide +kernel
theorem d9_9 : decode jdk_39_method_1_code 9 = .ok (.return_, 1) := by decide +kernel
theorem pn_rm9 : plainName "java/util/AbstractList" = true := by first | (simp [plainName, overriddenIn]; done) | decide +kernel
theorem pd_rm9_0 : parseMethodDescriptor "()V" = some ⟨[], none⟩ := by decide +kernel
theorem ef_rm9 (m : MethodId) (x0 : Addr) : entryFrame m #[(.ref x0)] 1 = mkF m 0 #[.val (.ref x0)] [] := by first | (simp [entryFrame, mkF, argsToLocals, Value.category]; done) | rfl
def Q9 (Z : State) (a1 : Addr) (u1 : Value) (u2 : Value) (u3 : Value) (h0 : Heap) (n0 : Nat) (v : Option Value) (h : Heap) (L : List Loc) : Prop := v = none ∧ Fr n0 L ∧ Keep h0 h [a1] ∧ Exa Z h a1 "java/util/ArrayList" ∧ Fld Z h a1 "java/util/AbstractList" "modCount" "I" (.int (0 : Int32)) ∧ Fld Z h a1 "java/util/ArrayList" "elementData" "[Ljava/lang/Object;" u2 ∧ Fld Z h a1 "java/util/ArrayList" "size" "I" u3
set_option maxRecDepth 65536 in
set_option maxHeartbeats 40000000 in
theorem rm9 (l : Launch) (Z : State) (a0 : Array Value) (hw : ∀ d ∈ tables_1, d.before a0 Z = true) (ws : List Jvm.Cond) (a1 : Addr) (u1 : Value) (u2 : Value) (u3 : Value) (h0 : Heap) (n0 : Nat) (Z0 : n0 ≤ h0.size) (E : Exa Z h0 a1 "java/util/ArrayList") (F0 : Fld Z h0 a1 "java/util/AbstractList" "modCount" "I" u1) (F1 : Fld Z h0 a1 "java/util/ArrayList" "elementData" "[Ljava/lang/Object;" u2) (F2 : Fld Z h0 a1 "java/util/ArrayList" "size" "I" u3) (g_a1 : n0 ≤ a1) :
    MetFree l (⟨"java/util/AbstractList", "<init>", "()V"⟩ : MethodName) (head1 (Jvm.Cond.code (⟨"java/util/AbstractList", "<init>", "()V"⟩ : MethodName) jdk_39_method_1_code 1 none :: ws) ({ frames := 2, cells := 0, slots := 0, locals := 24 } : Room)) (fun a U => a = #[(.ref a1)] ∧ Z.Warmed39 U.vm ∧ U.heap = h0) (fun _ _ _ _ _ => True) (fun _ U o U' => ∃ v L, o = .returned v ∧ Q9 Z a1 u1 u2 u3 h0 n0 v U'.heap L ∧ FrameEnd U o U' L ({ frames := 2, cells := 0, slots := 0, locals := 24 } : Room).cells ({ frames := 2, cells := 0, slots := 0, locals := 24 } : Room).slots) := by
  refine MetFree.of_bodySF (plainFor_of_name pn_rm9) hisR ?_
  intro p e s m args below meth c s₁ Bd hml0 hP hK
  obtain ⟨rfl, hZ, hh⟩ := hP
  have hx := Bd.exec
  have hby := Bd.bytes
  have hml : c.maxLocals = 1 := hml0
  have hown : s.vm.findClass "java/util/AbstractList" = some m.cls := findClass_of_methodNamed Bd.named
  have hnm := (name_of_methodNamed Bd.named Bd.method).1
  have X0 : Stand p l e ({ frames := 2, cells := 0, slots := 0, locals := 24 } : Room) s m #[(.ref a1)] below meth c s₁ [] 0 0 := Stand.of_body Bd
  have e0 : s₁.heap = h0 := by rw [← hh, Bd.state]; rfl
  have N0 := Fr.nil n0
  have pre0 : ∀ t, Steps p.tables e below (s₁.setTop (mkF m 0 #[.val (.ref a1)] [])) t → Steps p.tables e below (s₁.setTop (entryFrame m #[(.ref a1)] 1)) t := fun t k => castTop (ef_rm9 m a1) k
  show own_Fin p e below _ _
  refine own_go pre0 ?_
  refine own_go (B := s₁.setTop (mkF m 1 #[.val (.ref a1)] [(.ref a1)])) (fun t k => ?_) ?_
  · show Steps p.tables e below (s₁.setTop (mkF m 0 #[.val (.ref a1)] [])) t
    refine XS.aloadN X0.here hx rfl (hb hby d9_0) rfl rfl ?_
    exact k
  obtain ⟨_, _, ⟨T1, L1, k1, n1⟩, -, X1, ⟨Lc1, hQ1, l1, y1, z1⟩, st1⟩ := X0.specialBack hx (y := (⟨"java/util/AbstractCollection", "<init>", "()V"⟩ : MethodName)) rfl hown (mvT hZ (hw _ (List.mem_of_getElem? (i := 46) rfl))) (mvT hZ (hw _ (List.mem_of_getElem? (i := 47) rfl))) (mvT hZ (hw _ (List.mem_of_getElem? (i := 51) rfl))) (by decide) (backOf (W := 0) (rm10 l Z a0 hw [] a1 h0 n0 Z0) hZ (hw _ (List.mem_of_getElem? (i := 51) rfl)) (hw _ (List.mem_of_getElem? (i := 50) rfl)) (by decide) (by decide)) (g := (mkF m 1 #[.val (.ref a1)] [(.ref a1)])) rfl (by rw [hml]; rfl) (Steps.refl _) (a := a1) (argsL := []) (rest := []) (lenOf pd_rm9_0 rfl) rfl (by show 2 * 0 + _ ≤ _; exact Nat.le_of_eq rfl) (hb hby d9_1) (fun _ _ => ⟨rfl, e0, (by decide : 0 + 0 ≤ _), (by decide : 0 + 0 ≤ _)⟩)
  dsimp only [Pt.U, Pt.locs, Pt.cells, Pt.slots] at X1 l1 y1 z1 st1 hQ1
  subst l1 y1 z1
  obtain ⟨rfl, N1q, hh1⟩ := hQ1
  have N1 := Fr.app N0 N1q
  obtain ⟨LL1, X1, N1⟩ := own_abs X1 N1
  refine own_go (fun t k => st1.trans k) ?_
  refine own_go (B := T1.setTop (mkF m 6 #[.val (.ref a1)] [(.int (0 : Int32)), (.ref a1)])) (fun t k => ?_) ?_
  · show Steps p.tables e below (T1.setTop (mkF m 4 #[.val (.ref a1)] [])) t
    refine XS.aloadN X1.here hx rfl (hb hby d9_4) rfl rfl ?_
    show Steps p.tables e below (T1.setTop (mkF m 5 #[.val (.ref a1)] [(.ref a1)])) t
    refine XS.iconst X1.here hx rfl (hb hby d9_5) ?_
    exact k
  obtain ⟨T2, h2, X2, e2, W2, st2⟩ := putF X1 hx hZ hown (host := "") (Or.inl (hw _ (List.mem_of_getElem? (i := 53) rfl))) Via.refl hh1 F0 E (Or.inl (hw _ (List.mem_of_getElem? (i := 54) rfl))) (hw _ (List.mem_of_getElem? (i := 35) rfl)) (ty := .int) (by decide) rfl rfl (g := (mkF m 6 #[.val (.ref a1)] [(.int (0 : Int32)), (.ref a1)])) rfl rfl (hb hby d9_6)
  refine own_go (fun t k => st2 t k) ?_
  have N2 := Fr.snoc X2 N1 g_a1
  obtain ⟨LL2, X2, N2⟩ := own_abs X2 N2
  have K2 : Keep h0 h2 [a1] := (Keep.refl h0 [a1]).wr W2 (Or.inl (List.mem_of_getElem? (i := 0) rfl))
  have f2_0 := E.wr W2
  have f2_1 := F0.same W2
  have f2_2 := F1.other W2 (Or.inr (slot_ne (Or.inl (hw _ (List.mem_of_getElem? (i := 57) rfl))) (Or.inl (hw _ (List.mem_of_getElem? (i := 54) rfl))) (by decide) (t := (.array (.object "java/lang/Object"))) (t' := .int) (by decide) (by decide)))
  have f2_3 := F2.other W2 (Or.inr (slot_ne (Or.inl (hw _ (List.mem_of_getElem? (i := 66) rfl))) (Or.inl (hw _ (List.mem_of_getElem? (i := 54) rfl))) (by decide) (t := .int) (t' := .int) (by decide) (by decide)))
  obtain ⟨fs, hr, hrun, hended, hW, hsame⟩ := X2.leave (v := none) (fun _ => rfl)
  refine ⟨_, _, ?_, hrun, hended, _, _, rfl, ?_, ⟨_, rfl⟩, hW, hsame.mono (by decide) (by decide)⟩
  · show Steps p.tables e below (T2.setTop (mkF m 9 #[.val (.ref a1)] [])) _
    exact X2.returnOut hx Bd.returns (hb hby d9_9) hr
  · show Q9 Z a1 u1 u2 u3 h0 n0 _ T2.heap _
    rw [e2]
    exact ⟨rfl, N2, K2, f2_0, f2_1, f2_2, f2_3⟩
theorem d8_0 : decode jdk_38_method_2_code 0 = .ok (.aload_n 0, 1) := by decide +kernel
theorem d8_1 : decode jdk_38_method_2_code 1 = .ok (.invokespecial 1, 3) := by decide +kernel
theorem d8_4 : decode jdk_38_method_2_code 4 = .ok (.aload_n 0, 1) := by decide +kernel
theorem d8_5 : decode jdk_38_method_2_code 5 = .ok (.getstatic 39, 3) := by decide +kernel
theorem d8_8 : decode jdk_38_method_2_code 8 = .ok (.putfield 9, 3) := by decide +kernel
theorem d8_11 : decode jdk_38_method_2_code 11 = .ok (.return_, 1) := by decide +kernel
theorem pn_rm8 : plainName "java/util/ArrayList" = true := by first | (simp [plainName, overriddenIn]; done) | decide +kernel
theorem pd_rm8_0 : parseMethodDescriptor "()V" = some ⟨[], none⟩ := by decide +kernel
theorem ef_rm8 (m : MethodId) (x0 : Addr) : entryFrame m #[(.ref x0)] 1 = mkF m 0 #[.val (.ref x0)] [] := by first | (simp [entryFrame, mkF, argsToLocals, Value.category]; done) | rfl
def Q8 (Z : State) (a1 : Addr) (u1 : Value) (u2 : Value) (u3 : Value) (eD : Addr) (h0 : Heap) (n0 : Nat) (v : Option Value) (h : Heap) (L : List Loc) : Prop := v = none ∧ Fr n0 L ∧ Keep h0 h [a1] ∧ Exa Z h a1 "java/util/ArrayList" ∧ Fld Z h a1 "java/util/AbstractList" "modCount" "I" (.int (0 : Int32)) ∧ Fld Z h a1 "java/util/ArrayList" "elementData" "[Ljava/lang/Object;" (.ref eD) ∧ Fld Z h a1 "java/util/ArrayList" "size" "I" u3
set_option maxRecDepth 65536 in
set_option maxHeartbeats 40000000 in
theorem rm8 (l : Launch) (Z : State) (a0 : Array Value) (hw : ∀ d ∈ tables_1, d.before a0 Z = true) (ws : List Jvm.Cond) (a1 : Addr) (u1 : Value) (u2 : Value) (u3 : Value) (eD : Addr) (h0 : Heap) (n0 : Nat) (Z0 : n0 ≤ h0.size) (E : Exa Z h0 a1 "java/util/ArrayList") (F0 : Fld Z h0 a1 "java/util/AbstractList" "modCount" "I" u1) (F1 : Fld Z h0 a1 "java/util/ArrayList" "elementData" "[Ljava/lang/Object;" u2) (F2 : Fld Z h0 a1 "java/util/ArrayList" "size" "I" u3) (g_a1 : n0 ≤ a1) (SD : Sta Z h0 "java/util/ArrayList" "DEFAULTCAPACITY_EMPTY_ELEMENTDATA" "[Ljava/lang/Object;" (.ref eD)) :
    MetFree l (⟨"java/util/ArrayList", "<init>", "()V"⟩ : MethodName) (head1 (Jvm.Cond.code (⟨"java/util/ArrayList", "<init>", "()V"⟩ : MethodName) jdk_38_method_2_code 1 none :: ws) ({ frames := 3, cells := 0, slots := 0, locals := 36 } : Room)) (fun a U => a = #[(.ref a1)] ∧ Z.Warmed39 U.vm ∧ U.heap = h0) (fun _ _ _ _ _ => True) (fun _ U o U' => ∃ v L, o = .returned v ∧ Q8 Z a1 u1 u2 u3 eD h0 n0 v U'.heap L ∧ FrameEnd U o U' L ({ frames := 3, cells := 0, slots := 0, locals := 36 } : Room).cells ({ frames := 3, cells := 0, slots := 0, locals := 36 } : Room).slots) := by
  refine MetFree.of_bodySF (plainFor_of_name pn_rm8) hisR ?_
  intro p e s m args below meth c s₁ Bd hml0 hP hK
  obtain ⟨rfl, hZ, hh⟩ := hP
  have hx := Bd.exec
  have hby := Bd.bytes
  have hml : c.maxLocals = 1 := hml0
  have hown : s.vm.findClass "java/util/ArrayList" = some m.cls := findClass_of_methodNamed Bd.named
  have hnm := (name_of_methodNamed Bd.named Bd.method).1
  have X0 : Stand p l e ({ frames := 3, cells := 0, slots := 0, locals := 36 } : Room) s m #[(.ref a1)] below meth c s₁ [] 0 0 := Stand.of_body Bd
  have e0 : s₁.heap = h0 := by rw [← hh, Bd.state]; rfl
  have N0 := Fr.nil n0
  have pre0 : ∀ t, Steps p.tables e below (s₁.setTop (mkF m 0 #[.val (.ref a1)] [])) t → Steps p.tables e below (s₁.setTop (entryFrame m #[(.ref a1)] 1)) t := fun t k => castTop (ef_rm8 m a1) k
  show own_Fin p e below _ _
  refine own_go pre0 ?_
  refine own_go (B := s₁.setTop (mkF m 1 #[.val (.ref a1)] [(.ref a1)])) (fun t k => ?_) ?_
  · show Steps p.tables e below (s₁.setTop (mkF m 0 #[.val (.ref a1)] [])) t
    refine XS.aloadN X0.here hx rfl (hb hby d8_0) rfl rfl ?_
    exact k
  obtain ⟨_, _, ⟨T1, L1, k1, n1⟩, -, X1, ⟨Lc1, hQ1, l1, y1, z1⟩, st1⟩ := X0.specialBack hx (y := (⟨"java/util/AbstractList", "<init>", "()V"⟩ : MethodName)) rfl hown (mvT hZ (hw _ (List.mem_of_getElem? (i := 40) rfl))) (mvT hZ (hw _ (List.mem_of_getElem? (i := 41) rfl))) (mvT hZ (hw _ (List.mem_of_getElem? (i := 45) rfl))) (by decide) (backOf (W := 0) (rm9 l Z a0 hw [] a1 _ _ _ h0 n0 Z0 E F0 F1 F2 g_a1) hZ (hw _ (List.mem_of_getElem? (i := 45) rfl)) (hw _ (List.mem_of_getElem? (i := 44) rfl)) (by decide) (by decide)) (g := (mkF m 1 #[.val (.ref a1)] [(.ref a1)])) rfl (by rw [hml]; rfl) (Steps.refl _) (a := a1) (argsL := []) (rest := []) (lenOf pd_rm8_0 rfl) rfl (by show 2 * 0 + _ ≤ _; exact Nat.le_of_eq rfl) (hb hby d8_1) (fun _ _ => ⟨rfl, e0, (by decide : 0 + 0 ≤ _), (by decide : 0 + 0 ≤ _)⟩)
  dsimp only [Pt.U, Pt.locs, Pt.cells, Pt.slots] at X1 l1 y1 z1 st1 hQ1
  subst l1 y1 z1
  obtain ⟨rfl, N1q, K1, -, G0_1, G1_1, G2_1⟩ := hQ1
  have N1 := Fr.app N0 N1q
  obtain ⟨LL1, X1, N1⟩ := own_abs X1 N1
  refine own_go (fun t k => st1.trans k) ?_
  have KK1 : Keep h0 T1.heap [a1] := (Keep.refl h0 [a1]).trans K1 (allS (Or.inl (List.mem_of_getElem? (i := 0) rfl)) all0)
  have f1_0 := E.keep K1
  have f1_4 := own_staKeep SD K1 (nsS E.nostat ns0)
  refine own_go (B := T1.setTop (mkF m 5 #[.val (.ref a1)] [(.ref a1)])) (fun t k => ?_) ?_
  · show Steps p.tables e below (T1.setTop (mkF m 4 #[.val (.ref a1)] [])) t
    refine XS.aloadN X1.here hx rfl (hb hby d8_4) rfl rfl ?_
    exact k
  obtain ⟨T2, X2, e2, st2⟩ := getS2 X1 hx hZ hown (host := "") (Or.inl (hw _ (List.mem_of_getElem? (i := 55) rfl))) Via.refl rfl f1_4 (g := (mkF m 5 #[.val (.ref a1)] [(.ref a1)])) rfl (hb hby d8_5)
  refine own_go (fun t k => st2 t k) ?_
  obtain ⟨T3, h3, X3, e3, W3, st3⟩ := putF X2 hx hZ hown (host := "") (Or.inl (hw _ (List.mem_of_getElem? (i := 56) rfl))) Via.refl e2 G1_1 f1_0 (Or.inl (hw _ (List.mem_of_getElem? (i := 57) rfl))) (hw _ (List.mem_of_getElem? (i := 35) rfl)) (ty := (.array (.object "java/lang/Object"))) (by decide) rfl rfl (g := (mkF m 8 #[.val (.ref a1)] [(.ref eD), (.ref a1)])) rfl rfl (hb hby d8_8)
  refine own_go (fun t k => st3 t k) ?_
  have N3 := Fr.snoc X3 N1 g_a1
  obtain ⟨LL3, X3, N3⟩ := own_abs X3 N3
  have K3 : Keep h0 h3 [a1] := KK1.wr W3 (Or.inl (List.mem_of_getElem? (i := 0) rfl))
  have f3_0 := f1_0.wr W3
  have f3_1 := f1_4.wr W3
  have f3_2 := G0_1.other W3 (Or.inr (slot_ne (Or.inl (hw _ (List.mem_of_getElem? (i := 54) rfl))) (Or.inl (hw _ (List.mem_of_getElem? (i := 57) rfl))) (by decide) (t := .int) (t' := (.array (.object "java/lang/Object"))) (by decide) (by decide)))
  have f3_3 := G1_1.same W3
  have f3_4 := G2_1.other W3 (Or.inr (slot_ne (Or.inl (hw _ (List.mem_of_getElem? (i := 66) rfl))) (Or.inl (hw _ (List.mem_of_getElem? (i := 57) rfl))) (by decide) (t := .int) (t' := (.array (.object "java/lang/Object"))) (by decide) (by decide)))
  obtain ⟨fs, hr, hrun, hended, hW, hsame⟩ := X3.leave (v := none) (fun _ => rfl)
  refine ⟨_, _, ?_, hrun, hended, _, _, rfl, ?_, ⟨_, rfl⟩, hW, hsame.mono (by decide) (by decide)⟩
  · show Steps p.tables e below (T3.setTop (mkF m 11 #[.val (.ref a1)] [])) _
    exact X3.returnOut hx Bd.returns (hb hby d8_11) hr
  · show Q8 Z a1 u1 u2 u3 eD h0 n0 _ T3.heap _
    rw [e3]
    exact ⟨rfl, N3, K3, f3_0, f3_2, f3_3, f3_4⟩
theorem d15_0 : decode jdk_29_method_65_code 0 = .ok (.iload_n 0, 1) := by decide +kernel
theorem d15_1 : decode jdk_29_method_65_code 1 = .ok (.iload_n 1, 1) := by decide +kernel
theorem d15_2 : decode jdk_29_method_65_code 2 = .ok (.if_icmp .lt 7, 3) := by decide +kernel
theorem d15_5 : decode jdk_29_method_65_code 5 = .ok (.iload_n 0, 1) := by decide +kernel
theorem d15_6 : decode jdk_29_method_65_code 6 = .ok (.goto 4, 3) := by decide +kernel
theorem d15_9 : decode jdk_29_method_65_code 9 = .ok (.iload_n 1, 1) := by decide +kernel
theorem d15_10 : decode jdk_29_method_65_code 10 = .ok (.ireturn, 1) := by decide +kernel
theorem ef_rm15 (m : MethodId) (x0 : Int32) (x1 : Int32) : entryFrame m #[(.int x0), (.int x1)] 2 = mkF m 0 #[.val (.int x0), .val (.int x1)] [] := by first | (simp [entryFrame, mkF, argsToLocals, Value.category]; done) | rfl
def Q15 (Z : State) (p1 : Int32) (p2 : Int32) (h0 : Heap) (n0 : Nat) (v : Option Value) (h : Heap) (L : List Loc) : Prop := ∃ r : Int32, v = some (.int r) ∧ Fr n0 L ∧ h = h0 ∧ r = (if p1 < p2 then p2 else p1)
set_option maxRecDepth 65536 in
set_option maxHeartbeats 40000000 in
theorem rm15 (l : Launch) (Z : State) (a0 : Array Value) (hw : ∀ d ∈ tables_1, d.before a0 Z = true) (ws : List Jvm.Cond) (p1 : Int32) (p2 : Int32) (h0 : Heap) (n0 : Nat) (Z0 : n0 ≤ h0.size) :
    MetFree l (⟨"java/lang/Math", "max", "(II)I"⟩ : MethodName) (head1 (Jvm.Cond.code (⟨"java/lang/Math", "max", "(II)I"⟩ : MethodName) jdk_29_method_65_code 2 (some .int) :: ws) ({ frames := 0, cells := 0, slots := 0, locals := 0 } : Room)) (fun a U => a = #[(.int p1), (.int p2)] ∧ Z.Warmed39 U.vm ∧ U.heap = h0) (fun _ _ _ _ _ => True) (fun _ U o U' => ∃ v L, o = .returned v ∧ Q15 Z p1 p2 h0 n0 v U'.heap L ∧ FrameEnd U o U' L ({ frames := 0, cells := 0, slots := 0, locals := 0 } : Room).cells ({ frames := 0, cells := 0, slots := 0, locals := 0 } : Room).slots) := by
  refine MetFree.of_bodySF (Jvm.Free.JP.mathPlain rfl (by decide +kernel)) hisR ?_
  intro p e s m args below meth c s₁ Bd hml0 hP hK
  obtain ⟨rfl, hZ, hh⟩ := hP
  have hx := Bd.exec
  have hby := Bd.bytes
  have hml : c.maxLocals = 2 := hml0
  have hown : s.vm.findClass "java/lang/Math" = some m.cls := findClass_of_methodNamed Bd.named
  have hnm := (name_of_methodNamed Bd.named Bd.method).1
  have X0 : Stand p l e ({ frames := 0, cells := 0, slots := 0, locals := 0 } : Room) s m #[(.int p1), (.int p2)] below meth c s₁ [] 0 0 := Stand.of_body Bd
  have e0 : s₁.heap = h0 := by rw [← hh, Bd.state]; rfl
  have N0 := Fr.nil n0
  have pre0 : ∀ t, Steps p.tables e below (s₁.setTop (mkF m 0 #[.val (.int p1), .val (.int p2)] [])) t → Steps p.tables e below (s₁.setTop (entryFrame m #[(.int p1), (.int p2)] 2)) t := fun t k => castTop (ef_rm15 m p1 p2) k
  show own_Fin p e below _ _
  refine own_go pre0 ?_
  refine own_go (B := s₁.setTop (mkF m 2 #[.val (.int p1), .val (.int p2)] [(.int p2), (.int p1)])) (fun t k => ?_) ?_
  · show Steps p.tables e below (s₁.setTop (mkF m 0 #[.val (.int p1), .val (.int p2)] [])) t
    refine XS.iloadN X0.here hx rfl (hb hby d15_0) rfl ?_
    show Steps p.tables e below (s₁.setTop (mkF m 1 #[.val (.int p1), .val (.int p2)] [(.int p1)])) t
    refine XS.iloadN X0.here hx rfl (hb hby d15_1) rfl ?_
    exact k
  by_cases hc2_1 : p1 < p2
  · refine own_go (B := s₁.setTop (mkF m 9 #[.val (.int p1), .val (.int p2)] [])) (fun t k => ?_) ?_
    · show Steps p.tables e below (s₁.setTop (mkF m 2 #[.val (.int p1), .val (.int p2)] [(.int p2), (.int p1)])) t
      refine XS.icmpYes X0.here hx rfl (pc0 := 2) (pc' := 9) rfl (hb hby d15_2) rfl (tlt hc2_1).1 (by decide) (by decide) ?_
      exact k
    refine own_go (B := s₁.setTop (mkF m 10 #[.val (.int p1), .val (.int p2)] [(.int p2)])) (fun t k => ?_) ?_
    · show Steps p.tables e below (s₁.setTop (mkF m 9 #[.val (.int p1), .val (.int p2)] [])) t
      refine XS.iloadN X0.here hx rfl (hb hby d15_9) rfl ?_
      exact k
    obtain ⟨fs, hr, hrun, hended, hW, hsame⟩ := X0.leave (v := some (.int p2)) (fun h => by rw [Bd.returns] at h; cases h)
    refine ⟨_, _, ?_, hrun, hended, _, _, rfl, ?_, ⟨_, rfl⟩, hW, hsame.mono (by decide) (by decide)⟩
    · show Steps p.tables e below (s₁.setTop (mkF m 10 #[.val (.int p1), .val (.int p2)] [(.int p2)])) _
      exact retI X0 hx Bd.returns (hb hby d15_10) hr
    · show Q15 Z p1 p2 h0 n0 _ s₁.heap _
      rw [e0]
      exact ⟨_, rfl, N0, rfl, by rw [if_pos hc2_1]⟩
  · refine own_go (B := s₁.setTop (mkF m 5 #[.val (.int p1), .val (.int p2)] [])) (fun t k => ?_) ?_
    · show Steps p.tables e below (s₁.setTop (mkF m 2 #[.val (.int p1), .val (.int p2)] [(.int p2), (.int p1)])) t
      refine XS.icmpNo X0.here hx rfl (hb hby d15_2) rfl (flt hc2_1).1 ?_
      exact k
    refine own_go (B := s₁.setTop (mkF m 10 #[.val (.int p1), .val (.int p2)] [(.int p1)])) (fun t k => ?_) ?_
    · show Steps p.tables e below (s₁.setTop (mkF m 5 #[.val (.int p1), .val (.int p2)] [])) t
      refine XS.iloadN X0.here hx rfl (hb hby d15_5) rfl ?_
      show Steps p.tables e below (s₁.setTop (mkF m 6 #[.val (.int p1), .val (.int p2)] [(.int p1)])) t
      refine XS.goto X0.here hx rfl (pc0 := 6) (pc' := 10) rfl (hb hby d15_6) (by decide) (by decide) ?_
      exact k
    obtain ⟨fs, hr, hrun, hended, hW, hsame⟩ := X0.leave (v := some (.int p1)) (fun h => by rw [Bd.returns] at h; cases h)
    refine ⟨_, _, ?_, hrun, hended, _, _, rfl, ?_, ⟨_, rfl⟩, hW, hsame.mono (by decide) (by decide)⟩
    · show Steps p.tables e below (s₁.setTop (mkF m 10 #[.val (.int p1), .val (.int p2)] [(.int p1)])) _
      exact retI X0 hx Bd.returns (hb hby d15_10) hr
    · show Q15 Z p1 p2 h0 n0 _ s₁.heap _
      rw [e0]
      exact ⟨_, rfl, N0, rfl, by rw [if_neg hc2_1]⟩
theorem d14_0 : decode jdk_38_method_6_code 0 = .ok (.aload_n 0, 1) := by decide +kernel
theorem d14_1 : decode jdk_38_method_6_code 1 = .ok (.getfield 9, 3) := by decide +kernel
theorem d14_4 : decode jdk_38_method_6_code 4 = .ok (.arraylength, 1) := by decide +kernel
theorem d14_5 : decode jdk_38_method_6_code 5 = .ok (.istore_n 2, 1) := by decide +kernel
theorem d14_6 : decode jdk_38_method_6_code 6 = .ok (.iload_n 2, 1) := by decide +kernel
theorem d14_7 : decode jdk_38_method_6_code 7 = .ok (.ifCond .gt 13, 3) := by decide +kernel
theorem d14_10 : decode jdk_38_method_6_code 10 = .ok (.aload_n 0, 1) := by decide +kernel
theorem d14_11 : decode jdk_38_method_6_code 11 = .ok (.getfield 9, 3) := by decide +kernel
theorem d14_14 : decode jdk_38_method_6_code 14 = .ok (.getstatic 39, 3) := by decide +kernel
theorem d14_17 : decode jdk_38_method_6_code 17 = .ok (.if_acmp .eq 28, 3) := by decide +kernel
theorem d14_45 : decode jdk_38_method_6_code 45 = .ok (.aload_n 0, 1) := by decide +kernel
theorem d14_46 : decode jdk_38_method_6_code 46 = .ok (.bipush 10, 2) := by decide +kernel
theorem d14_48 : decode jdk_38_method_6_code 48 = .ok (.iload_n 1, 1) := by decide +kernel
theorem d14_49 : decode jdk_38_method_6_code 49 = .ok (.invokestatic 79, 3) := by decide +kernel
theorem d14_52 : decode jdk_38_method_6_code 52 = .ok (.anewarray 7, 3) := by decide +kernel
theorem d14_55 : decode jdk_38_method_6_code 55 = .ok (.dup_x1, 1) := by decide +kernel
theorem d14_56 : decode jdk_38_method_6_code 56 = .ok (.putfield 9, 3) := by decide +kernel
theorem d14_59 : decode jdk_38_method_6_code 59 = .ok (.areturn, 1) := by decide +kernel
theorem pn_rm14 : plainName "java/util/ArrayList" = true := by first | (simp [plainName, overriddenIn]; done) | decide +kernel
theorem pd_rm14_0 : parseMethodDescriptor "(II)I" = some ⟨[.int, .int], some .int⟩ := by decide +kernel
theorem ef_rm14 (m : MethodId) (x0 : Addr) (x1 : Int32) : entryFrame m #[(.ref x0), (.int x1)] 4 = mkF m 0 #[.val (.ref x0), .val (.int x1), .unset, .unset] [] := by first | (simp [entryFrame, mkF, argsToLocals, Value.category]; done) | rfl
def Q14 (Z : State) (a1 : Addr) (p2 : Int32) (md : Int32) (sz : Int32) (eD : Addr) (kD : ClassId) (gD : Nat → Value) (h0 : Heap) (n0 : Nat) (v : Option Value) (h : Heap) (L : List Loc) : Prop := ∃ (r : Addr) (kA : ClassId), v = some (.ref r) ∧ Fr n0 L ∧ Keep h0 h [a1] ∧ Exa Z h a1 "java/util/ArrayList" ∧ (∃ m : Int32, Fld Z h a1 "java/util/AbstractList" "modCount" "I" (.int m)) ∧ Fld Z h a1 "java/util/ArrayList" "elementData" "[Ljava/lang/Object;" (.ref r) ∧ Fld Z h a1 "java/util/ArrayList" "size" "I" (.int sz) ∧ own_Rg Z h r kA (10 : Int32) (fun _ => .null) ∧ Ovr Z kA "java/lang/Object" ∧ a1 ≠ r ∧ n0 ≤ r ∧ h0.size ≤ r
set_option maxRecDepth 65536 in
set_option maxHeartbeats 40000000 in
theorem rm14 (l : Launch) (Z : State) (a0 : Array Value) (hw : ∀ d ∈ tables_1, d.before a0 Z = true) (ws : List Jvm.Cond) (a1 : Addr) (p2 : Int32) (md : Int32) (sz : Int32) (eD : Addr) (kD : ClassId) (gD : Nat → Value) (h0 : Heap) (n0 : Nat) (Z0 : n0 ≤ h0.size) (E : Exa Z h0 a1 "java/util/ArrayList") (F0 : Fld Z h0 a1 "java/util/AbstractList" "modCount" "I" (.int md)) (F1 : Fld Z h0 a1 "java/util/ArrayList" "elementData" "[Ljava/lang/Object;" (.ref eD)) (F2 : Fld Z h0 a1 "java/util/ArrayList" "size" "I" (.int sz)) (g_a1 : n0 ≤ a1) (SD : Sta Z h0 "java/util/ArrayList" "DEFAULTCAPACITY_EMPTY_ELEMENTDATA" "[Ljava/lang/Object;" (.ref eD)) (RD : own_Rg Z h0 eD kD (0 : Int32) gD) (neD : a1 ≠ eD) (c10 : ¬ (10 : Int32) < p2) :
    MetFree l (⟨"java/util/ArrayList", "grow", "(I)[Ljava/lang/Object;"⟩ : MethodName) (head1 (Jvm.Cond.code (⟨"java/util/ArrayList", "grow", "(I)[Ljava/lang/Object;"⟩ : MethodName) jdk_38_method_6_code 4 (some (.array (.object "java/lang/Object"))) :: ws) ({ frames := 1, cells := 1, slots := 10, locals := 14 } : Room)) (fun a U => a = #[(.ref a1), (.int p2)] ∧ Z.Warmed39 U.vm ∧ U.heap = h0) (fun _ _ _ _ _ => True) (fun _ U o U' => ∃ v L, o = .returned v ∧ Q14 Z a1 p2 md sz eD kD gD h0 n0 v U'.heap L ∧ FrameEnd U o U' L ({ frames := 1, cells := 1, slots := 10, locals := 14 } : Room).cells ({ frames := 1, cells := 1, slots := 10, locals := 14 } : Room).slots) := by
  refine MetFree.of_bodySF (plainFor_of_name pn_rm14) hisR ?_
  intro p e s m args below meth c s₁ Bd hml0 hP hK
  obtain ⟨rfl, hZ, hh⟩ := hP
  have hx := Bd.exec
  have hby := Bd.bytes
  have hml : c.maxLocals = 4 := hml0
  have hown : s.vm.findClass "java/util/ArrayList" = some m.cls := findClass_of_methodNamed Bd.named
  have hnm := (name_of_methodNamed Bd.named Bd.method).1
  have X0 : Stand p l e ({ frames := 1, cells := 1, slots := 10, locals := 14 } : Room) s m #[(.ref a1), (.int p2)] below meth c s₁ [] 0 0 := Stand.of_body Bd
  have e0 : s₁.heap = h0 := by rw [← hh, Bd.state]; rfl
  have N0 := Fr.nil n0
  have pre0 : ∀ t, Steps p.tables e below (s₁.setTop (mkF m 0 #[.val (.ref a1), .val (.int p2), .unset, .unset] [])) t → Steps p.tables e below (s₁.setTop (entryFrame m #[(.ref a1), (.int p2)] 4)) t := fun t k => castTop (ef_rm14 m a1 p2) k
  show own_Fin p e below _ _
  refine own_go pre0 ?_
  refine own_go (B := s₁.setTop (mkF m 1 #[.val (.ref a1), .val (.int p2), .unset, .unset] [(.ref a1)])) (fun t k => ?_) ?_
  · show Steps p.tables e below (s₁.setTop (mkF m 0 #[.val (.ref a1), .val (.int p2), .unset, .unset] [])) t
    refine XS.aloadN X0.here hx rfl (hb hby d14_0) rfl rfl ?_
    exact k
  obtain ⟨T1, X1, e1, st1⟩ := getF X0 hx hZ hown (host := "") (Or.inl (hw _ (List.mem_of_getElem? (i := 56) rfl))) Via.refl e0 F1 (g := (mkF m 1 #[.val (.ref a1), .val (.int p2), .unset, .unset] [(.ref a1)])) rfl rfl (hb hby d14_1)
  refine own_go (fun t k => st1 t k) ?_
  obtain ⟨cl2, Ar2, S2, q2⟩ := RD.len
  refine own_go (X1.arraylength hx (by rw [e1]; exact Ar2.1) (State.isArrayOf_alike hZ.alike Ar2.2.1) (g := (mkF m 4 #[.val (.ref a1), .val (.int p2), .unset, .unset] [(.ref eD)])) rfl rfl (hb hby d14_4)) ?_
  rw [len_of S2 q2]
  refine own_go (B := T1.setTop (mkF m 11 #[.val (.ref a1), .val (.int p2), .val (.int (0 : Int32)), .unset] [(.ref a1)])) (fun t k => ?_) ?_
  · show Steps p.tables e below (T1.setTop (mkF m 5 #[.val (.ref a1), .val (.int p2), .unset, .unset] [(.int (0 : Int32))])) t
    refine XS.istoreN X1.here hx rfl (hb hby d14_5) rfl (l' := #[.val (.ref a1), .val (.int p2), .val (.int (0 : Int32)), .unset]) rfl ?_
    show Steps p.tables e below (T1.setTop (mkF m 6 #[.val (.ref a1), .val (.int p2), .val (.int (0 : Int32)), .unset] [])) t
    refine XS.iloadN X1.here hx rfl (hb hby d14_6) rfl ?_
    show Steps p.tables e below (T1.setTop (mkF m 7 #[.val (.ref a1), .val (.int p2), .val (.int (0 : Int32)), .unset] [(.int (0 : Int32))])) t
    refine XS.ifNo X1.here hx rfl (hb hby d14_7) rfl ((if0 _ _).trans (flt (by decide : ¬ ((0 : Int32) < (0 : Int32)))).2.2.1) ?_
    show Steps p.tables e below (T1.setTop (mkF m 10 #[.val (.ref a1), .val (.int p2), .val (.int (0 : Int32)), .unset] [])) t
    refine XS.aloadN X1.here hx rfl (hb hby d14_10) rfl rfl ?_
    exact k
  obtain ⟨T3, X3, e3, st3⟩ := getF X1 hx hZ hown (host := "") (Or.inl (hw _ (List.mem_of_getElem? (i := 56) rfl))) Via.refl e1 F1 (g := (mkF m 11 #[.val (.ref a1), .val (.int p2), .val (.int (0 : Int32)), .unset] [(.ref a1)])) rfl rfl (hb hby d14_11)
  refine own_go (fun t k => st3 t k) ?_
  obtain ⟨T4, X4, e4, st4⟩ := getS2 X3 hx hZ hown (host := "") (Or.inl (hw _ (List.mem_of_getElem? (i := 55) rfl))) Via.refl e3 SD (g := (mkF m 14 #[.val (.ref a1), .val (.int p2), .val (.int (0 : Int32)), .unset] [(.ref eD)])) rfl (hb hby d14_14)
  refine own_go (fun t k => st4 t k) ?_
  refine own_go (B := T4.setTop (mkF m 49 #[.val (.ref a1), .val (.int p2), .val (.int (0 : Int32)), .unset] [(.int p2), (.int (10 : Int32)), (.ref a1)])) (fun t k => ?_) ?_
  · show Steps p.tables e below (T4.setTop (mkF m 17 #[.val (.ref a1), .val (.int p2), .val (.int (0 : Int32)), .unset] [(.ref eD), (.ref eD)])) t
    refine Jvm.RoadKit.acmp (g := (mkF m 17 #[.val (.ref a1), .val (.int p2), .val (.int (0 : Int32)), .unset] [(.ref eD), (.ref eD)])) X4 hx rfl rfl rfl (pc0 := 17) (pc' := 45) (same := true) rfl (hb hby d14_17) rfl (decide_eq_true rfl) (by decide) (by decide) ?_
    show Steps p.tables e below (T4.setTop (mkF m 45 #[.val (.ref a1), .val (.int p2), .val (.int (0 : Int32)), .unset] [])) t
    refine XS.aloadN X4.here hx rfl (hb hby d14_45) rfl rfl ?_
    show Steps p.tables e below (T4.setTop (mkF m 46 #[.val (.ref a1), .val (.int p2), .val (.int (0 : Int32)), .unset] [(.ref a1)])) t
    refine XS.bipush X4.here hx rfl (hb hby d14_46) ?_
    show Steps p.tables e below (T4.setTop (mkF m 48 #[.val (.ref a1), .val (.int p2), .val (.int (0 : Int32)), .unset] [(.int (10 : Int32)), (.ref a1)])) t
    refine XS.iloadN X4.here hx rfl (hb hby d14_48) rfl ?_
    exact k
  obtain ⟨_, _, ⟨T5, L5, k5, n5⟩, -, X5, ⟨Lc5, hQ5, l5, y5, z5⟩, st5⟩ := Jvm.LawKit.callS X4 hx (y := (⟨"java/lang/Math", "max", "(II)I"⟩ : MethodName)) hown (mvT hZ (hw _ (List.mem_of_getElem? (i := 82) rfl))) (mvT hZ (hw _ (List.mem_of_getElem? (i := 83) rfl))) (mvT hZ (hw _ (List.mem_of_getElem? (i := 84) rfl))) (mvT hZ (hw _ (List.mem_of_getElem? (i := 85) rfl))) (by decide) (backOf (W := 1) (rm15 l Z a0 hw [] (10 : Int32) p2 h0 n0 Z0) hZ (hw _ (List.mem_of_getElem? (i := 85) rfl)) (hw _ (List.mem_of_getElem? (i := 84) rfl)) (by decide) (by decide)) (g := (mkF m 49 #[.val (.ref a1), .val (.int p2), .val (.int (0 : Int32)), .unset] [(.int p2), (.int (10 : Int32)), (.ref a1)])) rfl (by rw [hml]; rfl) (argsL := [(.int (10 : Int32)), (.int p2)]) (rest := [(.ref a1)]) (lenOf pd_rm14_0 rfl) rfl (by show 2 * 0 + _ ≤ _; exact Nat.le_of_eq rfl) (hb hby d14_49) (fun _ _ => ⟨rfl, e4, (by decide : 0 + 0 ≤ _), (by decide : 0 + 0 ≤ _)⟩)
  dsimp only [Pt.U, Pt.locs, Pt.cells, Pt.slots] at X5 l5 y5 z5 st5 hQ5
  subst l5 y5 z5
  obtain ⟨r5, rfl, N5q, hh5, hr5⟩ := hQ5
  have N5 := Fr.app N0 N5q
  obtain ⟨LL5, X5, N5⟩ := own_abs X5 N5
  refine own_go (fun t k => st5 t k) ?_
  obtain rfl : r5 = (10 : Int32) := hr5.trans (if_neg c10)
  obtain ⟨T6, h6, k6, X6, e6, E6, A6, O6, st6⟩ := newR X5 hx hZ hown (hw _ (List.mem_of_getElem? (i := 86) rfl)) (hw _ (List.mem_of_getElem? (i := 87) rfl)) hh5 (g := (mkF m 52 #[.val (.ref a1), .val (.int p2), .val (.int (0 : Int32)), .unset] [(.int (10 : Int32)), (.ref a1)])) rfl (hb hby d14_52) rfl (by decide) (cap := 10) (by decide) (by decide) (by decide) (by decide)
  obtain ⟨b6, g6⟩ : ∃ z, z = h0.size := ⟨_, rfl⟩
  rw [← g6] at A6 st6
  refine own_go (fun t k => st6 t k) ?_
  have g_b6 : n0 ≤ b6 := Nat.le_trans Z0 (Nat.le_of_eq g6.symm)
  have sz_b6 : h0.size ≤ b6 := Nat.le_trans (Keep.refl h0 [a1]).1 (Nat.le_of_eq g6.symm)
  have ne6_a1 : a1 ≠ b6 := Nat.ne_of_lt (Nat.lt_of_lt_of_le E.lt (Nat.le_of_eq g6.symm))
  have ne6_eD : eD ≠ b6 := Nat.ne_of_lt (Nat.lt_of_lt_of_le RD.lt (Nat.le_of_eq g6.symm))
  have K6 : Keep h0 h6 [a1] := (Keep.refl h0 [a1]).ext E6
  have f6_0 := E.ext E6
  have f6_1 := F0.ext E6
  have f6_2 := F1.ext E6
  have f6_3 := F2.ext E6
  have f6_4 := SD.ext E6
  have f6_5 := RD.ext E6
  have V6 : own_Rg Z h6 b6 k6 (10 : Int32) (fun _ => .null) := own_Rg.new (Arv.new A6 (by decide))
  refine own_go (B := T6.setTop (mkF m 56 #[.val (.ref a1), .val (.int p2), .val (.int (0 : Int32)), .unset] [(.ref b6), (.ref a1), (.ref b6)])) (fun t k => ?_) ?_
  · show Steps p.tables e below (T6.setTop (mkF m 55 #[.val (.ref a1), .val (.int p2), .val (.int (0 : Int32)), .unset] [(.ref b6), (.ref a1)])) t
    refine XS.dupX1 X6.here hx rfl (hb hby d14_55) rfl rfl rfl ?_
    exact k
  obtain ⟨T7, h7, X7, e7, W7, st7⟩ := putF X6 hx hZ hown (host := "") (Or.inl (hw _ (List.mem_of_getElem? (i := 56) rfl))) Via.refl e6 f6_2 f6_0 (Or.inl (hw _ (List.mem_of_getElem? (i := 57) rfl))) (hw _ (List.mem_of_getElem? (i := 35) rfl)) (ty := (.array (.object "java/lang/Object"))) (by decide) rfl rfl (g := (mkF m 56 #[.val (.ref a1), .val (.int p2), .val (.int (0 : Int32)), .unset] [(.ref b6), (.ref a1), (.ref b6)])) rfl rfl (hb hby d14_56)
  refine own_go (fun t k => st7 t k) ?_
  have N7 := Fr.snoc X7 N5 g_a1
  obtain ⟨LL7, X7, N7⟩ := own_abs X7 N7
  have K7 : Keep h0 h7 [a1] := K6.wr W7 (Or.inl (List.mem_of_getElem? (i := 0) rfl))
  have f7_0 := f6_0.wr W7
  have f7_1 := f6_1.other W7 (Or.inr (slot_ne (Or.inl (hw _ (List.mem_of_getElem? (i := 54) rfl))) (Or.inl (hw _ (List.mem_of_getElem? (i := 57) rfl))) (by decide) (t := .int) (t' := (.array (.object "java/lang/Object"))) (by decide) (by decide)))
  have f7_2 := f6_2.same W7
  have f7_3 := f6_3.other W7 (Or.inr (slot_ne (Or.inl (hw _ (List.mem_of_getElem? (i := 66) rfl))) (Or.inl (hw _ (List.mem_of_getElem? (i := 57) rfl))) (by decide) (t := .int) (t' := (.array (.object "java/lang/Object"))) (by decide) (by decide)))
  have f7_4 := f6_4.wr W7
  have f7_5 := f6_5.other W7 (Ne.symm neD)
  have f7_6 := V6.other W7 (Ne.symm ne6_a1)
  obtain ⟨fs, hr, hrun, hended, hW, hsame⟩ := X7.leave (v := some (.ref b6)) (fun h => by rw [Bd.returns] at h; cases h)
  refine ⟨_, _, ?_, hrun, hended, _, _, rfl, ?_, ⟨_, rfl⟩, hW, hsame.mono (by decide) (by decide)⟩
  · show Steps p.tables e below (T7.setTop (mkF m 59 #[.val (.ref a1), .val (.int p2), .val (.int (0 : Int32)), .unset] [(.ref b6)])) _
    jvm_step X7.here [X7.here.top, hx, (hb hby d14_59), X7.method', Bd.returns, Value.isRef, FieldType.isReference]
    first | (intro acts; rw [hr _ acts rfl rfl rfl]) | rw [hr _ _ rfl rfl rfl]
    exact Steps.refl _
  · show Q14 Z a1 p2 md sz eD kD gD h0 n0 _ T7.heap _
    rw [e7]
    exact ⟨b6, _, rfl, N7, K7, f7_0, ⟨_, f7_1⟩, f7_2, f7_3, f7_6, O6, ne6_a1, g_b6, sz_b6⟩
theorem d13_0 : decode jdk_38_method_7_code 0 = .ok (.aload_n 0, 1) := by decide +kernel
theorem d13_1 : decode jdk_38_method_7_code 1 = .ok (.aload_n 0, 1) := by decide +kernel
theorem d13_2 : decode jdk_38_method_7_code 2 = .ok (.getfield 48, 3) := by decide +kernel
theorem d13_5 : decode jdk_38_method_7_code 5 = .ok (.iconst 1, 1) := by decide +kernel
theorem d13_6 : decode jdk_38_method_7_code 6 = .ok (.iadd, 1) := by decide +kernel
theorem d13_7 : decode jdk_38_method_7_code 7 = .ok (.invokevirtual 69, 3) := by decide +kernel
theorem d13_10 : decode jdk_38_method_7_code 10 = .ok (.areturn, 1) := by decide +kernel
theorem pn_rm13 : plainName "java/util/ArrayList" = true := by first | (simp [plainName, overriddenIn]; done) | decide +kernel
theorem pd_rm13_0 : parseMethodDescriptor "(I)[Ljava/lang/Object;" = some ⟨[.int], some (.array (.object "java/lang/Object"))⟩ := by decide +kernel
theorem ef_rm13 (m : MethodId) (x0 : Addr) : entryFrame m #[(.ref x0)] 1 = mkF m 0 #[.val (.ref x0)] [] := by first | (simp [entryFrame, mkF, argsToLocals, Value.category]; done) | rfl
def Q13 (Z : State) (a1 : Addr) (md : Int32) (sz : Int32) (eD : Addr) (kD : ClassId) (gD : Nat → Value) (h0 : Heap) (n0 : Nat) (v : Option Value) (h : Heap) (L : List Loc) : Prop := ∃ (r : Addr) (kA : ClassId), v = some (.ref r) ∧ Fr n0 L ∧ Keep h0 h [a1] ∧ Exa Z h a1 "java/util/ArrayList" ∧ (∃ m : Int32, Fld Z h a1 "java/util/AbstractList" "modCount" "I" (.int m)) ∧ Fld Z h a1 "java/util/ArrayList" "elementData" "[Ljava/lang/Object;" (.ref r) ∧ Fld Z h a1 "java/util/ArrayList" "size" "I" (.int sz) ∧ own_Rg Z h r kA (10 : Int32) (fun _ => .null) ∧ Ovr Z kA "java/lang/Object" ∧ a1 ≠ r ∧ n0 ≤ r ∧ h0.size ≤ r
set_option maxRecDepth 65536 in
set_option maxHeartbeats 40000000 in
theorem rm13 (l : Launch) (Z : State) (a0 : Array Value) (hw : ∀ d ∈ tables_1, d.before a0 Z = true) (ws : List Jvm.Cond) (a1 : Addr) (md : Int32) (sz : Int32) (eD : Addr) (kD : ClassId) (gD : Nat → Value) (h0 : Heap) (n0 : Nat) (Z0 : n0 ≤ h0.size) (E : Exa Z h0 a1 "java/util/ArrayList") (F0 : Fld Z h0 a1 "java/util/AbstractList" "modCount" "I" (.int md)) (F1 : Fld Z h0 a1 "java/util/ArrayList" "elementData" "[Ljava/lang/Object;" (.ref eD)) (F2 : Fld Z h0 a1 "java/util/ArrayList" "size" "I" (.int sz)) (g_a1 : n0 ≤ a1) (SD : Sta Z h0 "java/util/ArrayList" "DEFAULTCAPACITY_EMPTY_ELEMENTDATA" "[Ljava/lang/Object;" (.ref eD)) (RD : own_Rg Z h0 eD kD (0 : Int32) gD) (neD : a1 ≠ eD) (c9 : ¬ (10 : Int32) < (sz + (1 : Int32))) :
    MetFree l (⟨"java/util/ArrayList", "grow", "()[Ljava/lang/Object;"⟩ : MethodName) (head1 (Jvm.Cond.code (⟨"java/util/ArrayList", "grow", "()[Ljava/lang/Object;"⟩ : MethodName) jdk_38_method_7_code 1 (some (.array (.object "java/lang/Object"))) :: ws) ({ frames := 2, cells := 1, slots := 10, locals := 29 } : Room)) (fun a U => a = #[(.ref a1)] ∧ Z.Warmed39 U.vm ∧ U.heap = h0) (fun _ _ _ _ _ => True) (fun _ U o U' => ∃ v L, o = .returned v ∧ Q13 Z a1 md sz eD kD gD h0 n0 v U'.heap L ∧ FrameEnd U o U' L ({ frames := 2, cells := 1, slots := 10, locals := 29 } : Room).cells ({ frames := 2, cells := 1, slots := 10, locals := 29 } : Room).slots) := by
  refine MetFree.of_bodySF (plainFor_of_name pn_rm13) hisR ?_
  intro p e s m args below meth c s₁ Bd hml0 hP hK
  obtain ⟨rfl, hZ, hh⟩ := hP
  have hx := Bd.exec
  have hby := Bd.bytes
  have hml : c.maxLocals = 1 := hml0
  have hown : s.vm.findClass "java/util/ArrayList" = some m.cls := findClass_of_methodNamed Bd.named
  have hnm := (name_of_methodNamed Bd.named Bd.method).1
  have X0 : Stand p l e ({ frames := 2, cells := 1, slots := 10, locals := 29 } : Room) s m #[(.ref a1)] below meth c s₁ [] 0 0 := Stand.of_body Bd
  have e0 : s₁.heap = h0 := by rw [← hh, Bd.state]; rfl
  have N0 := Fr.nil n0
  have pre0 : ∀ t, Steps p.tables e below (s₁.setTop (mkF m 0 #[.val (.ref a1)] [])) t → Steps p.tables e below (s₁.setTop (entryFrame m #[(.ref a1)] 1)) t := fun t k => castTop (ef_rm13 m a1) k
  show own_Fin p e below _ _
  refine own_go pre0 ?_
  refine own_go (B := s₁.setTop (mkF m 2 #[.val (.ref a1)] [(.ref a1), (.ref a1)])) (fun t k => ?_) ?_
  · show Steps p.tables e below (s₁.setTop (mkF m 0 #[.val (.ref a1)] [])) t
    refine XS.aloadN X0.here hx rfl (hb hby d13_0) rfl rfl ?_
    show Steps p.tables e below (s₁.setTop (mkF m 1 #[.val (.ref a1)] [(.ref a1)])) t
    refine XS.aloadN X0.here hx rfl (hb hby d13_1) rfl rfl ?_
    exact k
  obtain ⟨T1, X1, e1, st1⟩ := getF X0 hx hZ hown (host := "") (Or.inl (hw _ (List.mem_of_getElem? (i := 65) rfl))) Via.refl e0 F2 (g := (mkF m 2 #[.val (.ref a1)] [(.ref a1), (.ref a1)])) rfl rfl (hb hby d13_2)
  refine own_go (fun t k => st1 t k) ?_
  refine own_go (B := T1.setTop (mkF m 7 #[.val (.ref a1)] [(.int (sz + (1 : Int32))), (.ref a1)])) (fun t k => ?_) ?_
  · show Steps p.tables e below (T1.setTop (mkF m 5 #[.val (.ref a1)] [(.int sz), (.ref a1)])) t
    refine XS.iconst X1.here hx rfl (hb hby d13_5) ?_
    show Steps p.tables e below (T1.setTop (mkF m 6 #[.val (.ref a1)] [(.int (1 : Int32)), (.int sz), (.ref a1)])) t
    refine XS.iadd X1.here hx rfl (hb hby d13_6) rfl ?_
    exact k
  obtain ⟨cq2, q2, q2'⟩ := E.cell
  obtain ⟨_, _, ⟨T2, L2, k2, n2⟩, -, X2, ⟨Lc2, hQ2, l2, y2, z2⟩, st2⟩ := X1.privateBack hx (y := (⟨"java/util/ArrayList", "grow", "(I)[Ljava/lang/Object;"⟩ : MethodName)) hown (mvT hZ (hw _ (List.mem_of_getElem? (i := 77) rfl))) (mvT hZ (hw _ (List.mem_of_getElem? (i := 78) rfl))) (mvT hZ (hw _ (List.mem_of_getElem? (i := 80) rfl))) (Cond.privateMethod_at (mvP hZ (hw _ (List.mem_of_getElem? (i := 79) rfl)) (args := #[]))) (mvT hZ (hw _ (List.mem_of_getElem? (i := 81) rfl))) (by decide) (backOf (W := 0) (rm14 l Z a0 hw [] a1 (sz + (1 : Int32)) md sz eD kD gD h0 n0 Z0 E F0 F1 F2 g_a1 SD RD neD c9) hZ (hw _ (List.mem_of_getElem? (i := 81) rfl)) (hw _ (List.mem_of_getElem? (i := 36) rfl)) (by decide) (by decide)) (g := (mkF m 7 #[.val (.ref a1)] [(.int (sz + (1 : Int32))), (.ref a1)])) rfl (by rw [hml]; rfl) (Steps.refl _) (a := a1) (by rw [e1]; exact q2) q2' (argsL := [(.int (sz + (1 : Int32)))]) (rest := []) (lenOf pd_rm13_0 rfl) rfl (by show 2 * 0 + _ ≤ _; exact Nat.le_of_eq rfl) (hb hby d13_7) (fun _ _ => ⟨rfl, e1, (by decide : 0 + 1 ≤ _), (by decide : 0 + 10 ≤ _)⟩)
  dsimp only [Pt.U, Pt.locs, Pt.cells, Pt.slots] at X2 l2 y2 z2 st2 hQ2
  subst l2 y2 z2
  obtain ⟨r2, kA2, rfl, N2q, K2, -, ⟨m2, G0_2⟩, G1_2, G2_2, R2, O2, nr2, lr2, hs2⟩ := hQ2
  have N2 := Fr.app N0 N2q
  obtain ⟨LL2, X2, N2⟩ := own_abs X2 N2
  refine own_go (fun t k => st2.trans k) ?_
  have KK2 : Keep h0 T2.heap [a1] := (Keep.refl h0 [a1]).trans K2 (allS (Or.inl (List.mem_of_getElem? (i := 0) rfl)) all0)
  have f2_0 := E.keep K2
  have f2_4 := own_staKeep SD K2 (nsS E.nostat ns0)
  have f2_5 := RD.keep K2 (ninS (Ne.symm neD) nin0)
  have old2 : h0.size ≤ r2 := Nat.le_trans (Keep.refl h0 [a1]).1 hs2
  obtain ⟨fs, hr, hrun, hended, hW, hsame⟩ := X2.leave (v := some (.ref r2)) (fun h => by rw [Bd.returns] at h; cases h)
  refine ⟨_, _, ?_, hrun, hended, _, _, rfl, ?_, ⟨_, rfl⟩, hW, hsame.mono (by decide) (by decide)⟩
  · show Steps p.tables e below (T2.setTop (mkF m 10 #[.val (.ref a1)] [(.ref r2)])) _
    jvm_step X2.here [X2.here.top, hx, (hb hby d13_10), X2.method', Bd.returns, Value.isRef, FieldType.isReference]
    first | (intro acts; rw [hr _ acts rfl rfl rfl]) | rw [hr _ _ rfl rfl rfl]
    exact Steps.refl _
  · show Q13 Z a1 md sz eD kD gD h0 n0 _ T2.heap _
    exact ⟨r2, _, rfl, N2, KK2, f2_0, ⟨_, G0_2⟩, G1_2, G2_2, R2, O2, nr2, lr2, old2⟩
theorem d12a_0 : decode jdk_38_method_24_code 0 = .ok (.iload_n 3, 1) := by decide +kernel
theorem d12a_1 : decode jdk_38_method_24_code 1 = .ok (.aload_n 2, 1) := by decide +kernel
theorem d12a_2 : decode jdk_38_method_24_code 2 = .ok (.arraylength, 1) := by decide +kernel
theorem d12a_3 : decode jdk_38_method_24_code 3 = .ok (.if_icmp .ne 8, 3) := by decide +kernel
theorem d12a_6 : decode jdk_38_method_24_code 6 = .ok (.aload_n 0, 1) := by decide +kernel
theorem d12a_7 : decode jdk_38_method_24_code 7 = .ok (.invokevirtual 129, 3) := by decide +kernel
theorem d12a_10 : decode jdk_38_method_24_code 10 = .ok (.astore_n 2, 1) := by decide +kernel
theorem d12a_11 : decode jdk_38_method_24_code 11 = .ok (.aload_n 2, 1) := by decide +kernel
theorem d12a_12 : decode jdk_38_method_24_code 12 = .ok (.iload_n 3, 1) := by decide +kernel
theorem d12a_13 : decode jdk_38_method_24_code 13 = .ok (.aload_n 1, 1) := by decide +kernel
theorem d12a_14 : decode jdk_38_method_24_code 14 = .ok (.aastore, 1) := by decide +kernel
theorem d12a_15 : decode jdk_38_method_24_code 15 = .ok (.aload_n 0, 1) := by decide +kernel
theorem d12a_16 : decode jdk_38_method_24_code 16 = .ok (.iload_n 3, 1) := by decide +kernel
theorem d12a_17 : decode jdk_38_method_24_code 17 = .ok (.iconst 1, 1) := by decide +kernel
theorem d12a_18 : decode jdk_38_method_24_code 18 = .ok (.iadd, 1) := by decide +kernel
theorem d12a_19 : decode jdk_38_method_24_code 19 = .ok (.putfield 48, 3) := by decide +kernel
theorem d12a_22 : decode jdk_38_method_24_code 22 = .ok (.return_, 1) := by decide +kernel
theorem pn_rm12a : plainName "java/util/ArrayList" = true := by first | (simp [plainName, overriddenIn]; done) | decide +kernel
theorem pd_rm12a_0 : parseMethodDescriptor "()[Ljava/lang/Object;" = some ⟨[], some (.array (.object "java/lang/Object"))⟩ := by decide +kernel
theorem ef_rm12a (m : MethodId) (x0 : Addr) (x1 : Addr) (x2 : Addr) (x3 : Int32) : entryFrame m #[(.ref x0), (.ref x1), (.ref x2), (.int x3)] 4 = mkF m 0 #[.val (.ref x0), .val (.ref x1), .val (.ref x2), .val (.int x3)] [] := by first | (simp [entryFrame, mkF, argsToLocals, Value.category]; done) | rfl
def Q12a (Z : State) (a1 : Addr) (a2 : Addr) (md : Int32) (eD : Addr) (kD : ClassId) (gD : Nat → Value) (h0 : Heap) (n0 : Nat) (v : Option Value) (h : Heap) (L : List Loc) : Prop := ∃ (r : Addr) (kA : ClassId), v = none ∧ Fr n0 L ∧ Keep h0 h [a1] ∧ Exa Z h a1 "java/util/ArrayList" ∧ (∃ m : Int32, Fld Z h a1 "java/util/AbstractList" "modCount" "I" (.int m)) ∧ Fld Z h a1 "java/util/ArrayList" "elementData" "[Ljava/lang/Object;" (.ref r) ∧ Fld Z h a1 "java/util/ArrayList" "size" "I" (.int ((0 : Int32) + (1 : Int32))) ∧ own_Rg Z h r kA (10 : Int32) (fun x => if x = 0 then (.ref a2) else (fun _ => .null) x) ∧ Ovr Z kA "java/lang/Object" ∧ a1 ≠ r ∧ n0 ≤ r ∧ h0.size ≤ r
set_option maxRecDepth 65536 in
set_option maxHeartbeats 40000000 in
theorem rm12a (l : Launch) (Z : State) (a0 : Array Value) (hw : ∀ d ∈ tables_1, d.before a0 Z = true) (ws : List Jvm.Cond) (a1 : Addr) (a2 : Addr) (md : Int32) (eD : Addr) (kD : ClassId) (gD : Nat → Value) (h0 : Heap) (n0 : Nat) (Z0 : n0 ≤ h0.size) (E : Exa Z h0 a1 "java/util/ArrayList") (F0 : Fld Z h0 a1 "java/util/AbstractList" "modCount" "I" (.int md)) (F1 : Fld Z h0 a1 "java/util/ArrayList" "elementData" "[Ljava/lang/Object;" (.ref eD)) (F2 : Fld Z h0 a1 "java/util/ArrayList" "size" "I" (.int (0 : Int32))) (g_a1 : n0 ≤ a1) (SD : Sta Z h0 "java/util/ArrayList" "DEFAULTCAPACITY_EMPTY_ELEMENTDATA" "[Ljava/lang/Object;" (.ref eD)) (RD : own_Rg Z h0 eD kD (0 : Int32) gD) (neD : a1 ≠ eD) (E2 : Exa Z h0 a2 "java/lang/String") :
    MetFree l (⟨"java/util/ArrayList", "add", "(Ljava/lang/Object;[Ljava/lang/Object;I)V"⟩ : MethodName) (head1 (Jvm.Cond.code (⟨"java/util/ArrayList", "add", "(Ljava/lang/Object;[Ljava/lang/Object;I)V"⟩ : MethodName) jdk_38_method_24_code 4 none :: ws) ({ frames := 3, cells := 1, slots := 10, locals := 41 } : Room)) (fun a U => a = #[(.ref a1), (.ref a2), (.ref eD), (.int (0 : Int32))] ∧ Z.Warmed39 U.vm ∧ U.heap = h0) (fun _ _ _ _ _ => True) (fun _ U o U' => ∃ v L, o = .returned v ∧ Q12a Z a1 a2 md eD kD gD h0 n0 v U'.heap L ∧ FrameEnd U o U' L ({ frames := 3, cells := 1, slots := 10, locals := 41 } : Room).cells ({ frames := 3, cells := 1, slots := 10, locals := 41 } : Room).slots) := by
  refine MetFree.of_bodySF (plainFor_of_name pn_rm12a) hisR ?_
  intro p e s m args below meth c s₁ Bd hml0 hP hK
  obtain ⟨rfl, hZ, hh⟩ := hP
  have hx := Bd.exec
  have hby := Bd.bytes
  have hml : c.maxLocals = 4 := hml0
  have hown : s.vm.findClass "java/util/ArrayList" = some m.cls := findClass_of_methodNamed Bd.named
  have hnm := (name_of_methodNamed Bd.named Bd.method).1
  have X0 : Stand p l e ({ frames := 3, cells := 1, slots := 10, locals := 41 } : Room) s m #[(.ref a1), (.ref a2), (.ref eD), (.int (0 : Int32))] below meth c s₁ [] 0 0 := Stand.of_body Bd
  have e0 : s₁.heap = h0 := by rw [← hh, Bd.state]; rfl
  have N0 := Fr.nil n0
  have pre0 : ∀ t, Steps p.tables e below (s₁.setTop (mkF m 0 #[.val (.ref a1), .val (.ref a2), .val (.ref eD), .val (.int (0 : Int32))] [])) t → Steps p.tables e below (s₁.setTop (entryFrame m #[(.ref a1), (.ref a2), (.ref eD), (.int (0 : Int32))] 4)) t := fun t k => castTop (ef_rm12a m a1 a2 eD (0 : Int32)) k
  show own_Fin p e below _ _
  refine own_go pre0 ?_
  refine own_go (B := s₁.setTop (mkF m 2 #[.val (.ref a1), .val (.ref a2), .val (.ref eD), .val (.int (0 : Int32))] [(.ref eD), (.int (0 : Int32))])) (fun t k => ?_) ?_
  · show Steps p.tables e below (s₁.setTop (mkF m 0 #[.val (.ref a1), .val (.ref a2), .val (.ref eD), .val (.int (0 : Int32))] [])) t
    refine XS.iloadN X0.here hx rfl (hb hby d12a_0) rfl ?_
    show Steps p.tables e below (s₁.setTop (mkF m 1 #[.val (.ref a1), .val (.ref a2), .val (.ref eD), .val (.int (0 : Int32))] [(.int (0 : Int32))])) t
    refine XS.aloadN X0.here hx rfl (hb hby d12a_1) rfl rfl ?_
    exact k
  obtain ⟨cl1, Ar1, S1, q1⟩ := RD.len
  refine own_go (X0.arraylength hx (by rw [e0]; exact Ar1.1) (State.isArrayOf_alike hZ.alike Ar1.2.1) (g := (mkF m 2 #[.val (.ref a1), .val (.ref a2), .val (.ref eD), .val (.int (0 : Int32))] [(.ref eD), (.int (0 : Int32))])) rfl rfl (hb hby d12a_2)) ?_
  rw [len_of S1 q1]
  refine own_go (B := s₁.setTop (mkF m 7 #[.val (.ref a1), .val (.ref a2), .val (.ref eD), .val (.int (0 : Int32))] [(.ref a1)])) (fun t k => ?_) ?_
  · show Steps p.tables e below (s₁.setTop (mkF m 3 #[.val (.ref a1), .val (.ref a2), .val (.ref eD), .val (.int (0 : Int32))] [(.int (0 : Int32)), (.int (0 : Int32))])) t
    refine XS.icmpNo X0.here hx rfl (hb hby d12a_3) rfl (teq (by decide : (0 : Int32) = (0 : Int32))).2 ?_
    show Steps p.tables e below (s₁.setTop (mkF m 6 #[.val (.ref a1), .val (.ref a2), .val (.ref eD), .val (.int (0 : Int32))] [])) t
    refine XS.aloadN X0.here hx rfl (hb hby d12a_6) rfl rfl ?_
    exact k
  obtain ⟨cq2, q2, q2'⟩ := E.cell
  obtain ⟨_, _, ⟨T2, L2, k2, n2⟩, -, X2, ⟨Lc2, hQ2, l2, y2, z2⟩, st2⟩ := X0.privateBack hx (y := (⟨"java/util/ArrayList", "grow", "()[Ljava/lang/Object;"⟩ : MethodName)) hown (mvT hZ (hw _ (List.mem_of_getElem? (i := 72) rfl))) (mvT hZ (hw _ (List.mem_of_getElem? (i := 73) rfl))) (mvT hZ (hw _ (List.mem_of_getElem? (i := 75) rfl))) (Cond.privateMethod_at (mvP hZ (hw _ (List.mem_of_getElem? (i := 74) rfl)) (args := #[]))) (mvT hZ (hw _ (List.mem_of_getElem? (i := 76) rfl))) (by decide) (backOf (W := 0) (rm13 l Z a0 hw [] a1  md (0 : Int32) eD kD gD h0 n0 Z0 E F0 F1 F2 g_a1 SD RD neD (by decide)) hZ (hw _ (List.mem_of_getElem? (i := 76) rfl)) (hw _ (List.mem_of_getElem? (i := 36) rfl)) (by decide) (by decide)) (g := (mkF m 7 #[.val (.ref a1), .val (.ref a2), .val (.ref eD), .val (.int (0 : Int32))] [(.ref a1)])) rfl (by rw [hml]; rfl) (Steps.refl _) (a := a1) (by rw [e0]; exact q2) q2' (argsL := []) (rest := []) (lenOf pd_rm12a_0 rfl) rfl (by show 2 * 0 + _ ≤ _; exact Nat.le_of_eq rfl) (hb hby d12a_7) (fun _ _ => ⟨rfl, e0, (by decide : 0 + 1 ≤ _), (by decide : 0 + 10 ≤ _)⟩)
  dsimp only [Pt.U, Pt.locs, Pt.cells, Pt.slots] at X2 l2 y2 z2 st2 hQ2
  subst l2 y2 z2
  obtain ⟨r2, kA2, rfl, N2q, K2, -, ⟨m2, G0_2⟩, G1_2, G2_2, R2, O2, nr2, lr2, hs2⟩ := hQ2
  have N2 := Fr.app N0 N2q
  obtain ⟨LL2, X2, N2⟩ := own_abs X2 N2
  refine own_go (fun t k => st2.trans k) ?_
  have KK2 : Keep h0 T2.heap [a1] := (Keep.refl h0 [a1]).trans K2 (allS (Or.inl (List.mem_of_getElem? (i := 0) rfl)) all0)
  have f2_0 := E.keep K2
  have f2_4 := own_staKeep SD K2 (nsS E.nostat ns0)
  have f2_5 := RD.keep K2 (ninS (Ne.symm neD) nin0)
  have f2_6 := E2.keep K2
  have old2 : h0.size ≤ r2 := Nat.le_trans (Keep.refl h0 [a1]).1 hs2
  refine own_go (B := T2.setTop (mkF m 14 #[.val (.ref a1), .val (.ref a2), .val (.ref r2), .val (.int (0 : Int32))] [(.ref a2), (.int (0 : Int32)), (.ref r2)])) (fun t k => ?_) ?_
  · show Steps p.tables e below (T2.setTop (mkF m 10 #[.val (.ref a1), .val (.ref a2), .val (.ref eD), .val (.int (0 : Int32))] [(.ref r2)])) t
    refine XS.astoreN X2.here hx rfl (hb hby d12a_10) rfl rfl (l' := #[.val (.ref a1), .val (.ref a2), .val (.ref r2), .val (.int (0 : Int32))]) rfl ?_
    show Steps p.tables e below (T2.setTop (mkF m 11 #[.val (.ref a1), .val (.ref a2), .val (.ref r2), .val (.int (0 : Int32))] [])) t
    refine XS.aloadN X2.here hx rfl (hb hby d12a_11) rfl rfl ?_
    show Steps p.tables e below (T2.setTop (mkF m 12 #[.val (.ref a1), .val (.ref a2), .val (.ref r2), .val (.int (0 : Int32))] [(.ref r2)])) t
    refine XS.iloadN X2.here hx rfl (hb hby d12a_12) rfl ?_
    show Steps p.tables e below (T2.setTop (mkF m 13 #[.val (.ref a1), .val (.ref a2), .val (.ref r2), .val (.int (0 : Int32))] [(.int (0 : Int32)), (.ref r2)])) t
    refine XS.aloadN X2.here hx rfl (hb hby d12a_13) rfl rfl ?_
    exact k
  obtain ⟨cl3, Ar3, cc3, hin3, -⟩ := R2.get (j := (0 : Int32)) (by decide) (by decide)
  obtain ⟨T3, h3, X3, e3, W3, st3⟩ := stR X2 hx hZ rfl Ar3 (j := (0 : Int32)) hin3 rfl (Sto.ofV Ar3 cc3 O2 (Ins.of_exa f2_6 (hw _ (List.mem_of_getElem? (i := 88) rfl)))) (g := (mkF m 14 #[.val (.ref a1), .val (.ref a2), .val (.ref r2), .val (.int (0 : Int32))] [(.ref a2), (.int (0 : Int32)), (.ref r2)])) rfl rfl (hb hby d12a_14)
  refine own_go (fun t k => st3 t k) ?_
  have N3 := Fr.snoc X3 N2 lr2
  obtain ⟨LL3, X3, N3⟩ := own_abs X3 N3
  have K3 : Keep h0 h3 [a1] := KK2.wr W3 (Or.inr old2)
  have f3_0 := f2_0.wr W3
  have f3_1 := f2_6.wr W3
  have f3_2 := G0_2.other W3 (Or.inl nr2)
  have f3_3 := G1_2.other W3 (Or.inl nr2)
  have f3_4 := G2_2.other W3 (Or.inl nr2)
  have V3 := R2.setk W3 0 (by decide)
  refine own_go (B := T3.setTop (mkF m 19 #[.val (.ref a1), .val (.ref a2), .val (.ref r2), .val (.int (0 : Int32))] [(.int ((0 : Int32) + (1 : Int32))), (.ref a1)])) (fun t k => ?_) ?_
  · show Steps p.tables e below (T3.setTop (mkF m 15 #[.val (.ref a1), .val (.ref a2), .val (.ref r2), .val (.int (0 : Int32))] [])) t
    refine XS.aloadN X3.here hx rfl (hb hby d12a_15) rfl rfl ?_
    show Steps p.tables e below (T3.setTop (mkF m 16 #[.val (.ref a1), .val (.ref a2), .val (.ref r2), .val (.int (0 : Int32))] [(.ref a1)])) t
    refine XS.iloadN X3.here hx rfl (hb hby d12a_16) rfl ?_
    show Steps p.tables e below (T3.setTop (mkF m 17 #[.val (.ref a1), .val (.ref a2), .val (.ref r2), .val (.int (0 : Int32))] [(.int (0 : Int32)), (.ref a1)])) t
    refine XS.iconst X3.here hx rfl (hb hby d12a_17) ?_
    show Steps p.tables e below (T3.setTop (mkF m 18 #[.val (.ref a1), .val (.ref a2), .val (.ref r2), .val (.int (0 : Int32))] [(.int (1 : Int32)), (.int (0 : Int32)), (.ref a1)])) t
    refine XS.iadd X3.here hx rfl (hb hby d12a_18) rfl ?_
    exact k
  obtain ⟨T4, h4, X4, e4, W4, st4⟩ := putF X3 hx hZ hown (host := "") (Or.inl (hw _ (List.mem_of_getElem? (i := 65) rfl))) Via.refl e3 f3_4 f3_0 (Or.inl (hw _ (List.mem_of_getElem? (i := 66) rfl))) (hw _ (List.mem_of_getElem? (i := 35) rfl)) (ty := .int) (by decide) rfl rfl (g := (mkF m 19 #[.val (.ref a1), .val (.ref a2), .val (.ref r2), .val (.int (0 : Int32))] [(.int ((0 : Int32) + (1 : Int32))), (.ref a1)])) rfl rfl (hb hby d12a_19)
  refine own_go (fun t k => st4 t k) ?_
  have N4 := Fr.snoc X4 N3 g_a1
  obtain ⟨LL4, X4, N4⟩ := own_abs X4 N4
  have K4 : Keep h0 h4 [a1] := K3.wr W4 (Or.inl (List.mem_of_getElem? (i := 0) rfl))
  have f4_0 := f3_0.wr W4
  have f4_1 := f3_1.wr W4
  have f4_2 := f3_2.other W4 (Or.inr (slot_ne (Or.inl (hw _ (List.mem_of_getElem? (i := 54) rfl))) (Or.inl (hw _ (List.mem_of_getElem? (i := 66) rfl))) (by decide) (t := .int) (t' := .int) (by decide) (by decide)))
  have f4_3 := f3_3.other W4 (Or.inr (slot_ne (Or.inl (hw _ (List.mem_of_getElem? (i := 57) rfl))) (Or.inl (hw _ (List.mem_of_getElem? (i := 66) rfl))) (by decide) (t := (.array (.object "java/lang/Object"))) (t' := .int) (by decide) (by decide)))
  have f4_4 := f3_4.same W4
  have f4_5 := V3.other W4 (Ne.symm nr2)
  obtain ⟨fs, hr, hrun, hended, hW, hsame⟩ := X4.leave (v := none) (fun _ => rfl)
  refine ⟨_, _, ?_, hrun, hended, _, _, rfl, ?_, ⟨_, rfl⟩, hW, hsame.mono (by decide) (by decide)⟩
  · show Steps p.tables e below (T4.setTop (mkF m 22 #[.val (.ref a1), .val (.ref a2), .val (.ref r2), .val (.int (0 : Int32))] [])) _
    exact X4.returnOut hx Bd.returns (hb hby d12a_22) hr
  · show Q12a Z a1 a2 md eD kD gD h0 n0 _ T4.heap _
    rw [e4]
    exact ⟨r2, _, rfl, N4, K4, f4_0, ⟨_, f4_2⟩, f4_3, f4_4, f4_5, O2, nr2, lr2, old2⟩
theorem d12b_0 : decode jdk_38_method_24_code 0 = .ok (.iload_n 3, 1) := by decide +kernel
theorem d12b_1 : decode jdk_38_method_24_code 1 = .ok (.aload_n 2, 1) := by decide +kernel
theorem d12b_2 : decode jdk_38_method_24_code 2 = .ok (.arraylength, 1) := by decide +kernel
theorem d12b_3 : decode jdk_38_method_24_code 3 = .ok (.if_icmp .ne 8, 3) := by decide +kernel
theorem d12b_11 : decode jdk_38_method_24_code 11 = .ok (.aload_n 2, 1) := by decide +kernel
theorem d12b_12 : decode jdk_38_method_24_code 12 = .ok (.iload_n 3, 1) := by decide +kernel
theorem d12b_13 : decode jdk_38_method_24_code 13 = .ok (.aload_n 1, 1) := by decide +kernel
theorem d12b_14 : decode jdk_38_method_24_code 14 = .ok (.aastore, 1) := by decide +kernel
theorem d12b_15 : decode jdk_38_method_24_code 15 = .ok (.aload_n 0, 1) := by decide +kernel
theorem d12b_16 : decode jdk_38_method_24_code 16 = .ok (.iload_n 3, 1) := by decide +kernel
theorem d12b_17 : decode jdk_38_method_24_code 17 = .ok (.iconst 1, 1) := by decide +kernel
theorem d12b_18 : decode jdk_38_method_24_code 18 = .ok (.iadd, 1) := by decide +kernel
theorem d12b_19 : decode jdk_38_method_24_code 19 = .ok (.putfield 48, 3) := by decide +kernel
theorem d12b_22 : decode jdk_38_method_24_code 22 = .ok (.return_, 1) := by decide +kernel
theorem pn_rm12b : plainName "java/util/ArrayList" = true := by first | (simp [plainName, overriddenIn]; done) | decide +kernel
theorem ef_rm12b (m : MethodId) (x0 : Addr) (x1 : Addr) (x2 : Addr) (x3 : Int32) : entryFrame m #[(.ref x0), (.ref x1), (.ref x2), (.int x3)] 4 = mkF m 0 #[.val (.ref x0), .val (.ref x1), .val (.ref x2), .val (.int x3)] [] := by first | (simp [entryFrame, mkF, argsToLocals, Value.category]; done) | rfl
def Q12b (Z : State) (a1 : Addr) (a2 : Addr) (md : Int32) (sz : Int32) (r : Addr) (kA : ClassId) (gA : Nat → Value) (kk : Nat) (h0 : Heap) (n0 : Nat) (v : Option Value) (h : Heap) (L : List Loc) : Prop := v = none ∧ Fr n0 L ∧ Keep h0 h [a1, r] ∧ Exa Z h a1 "java/util/ArrayList" ∧ (∃ m : Int32, Fld Z h a1 "java/util/AbstractList" "modCount" "I" (.int m)) ∧ Fld Z h a1 "java/util/ArrayList" "elementData" "[Ljava/lang/Object;" (.ref r) ∧ Fld Z h a1 "java/util/ArrayList" "size" "I" (.int (sz + (1 : Int32))) ∧ own_Rg Z h r kA (10 : Int32) (fun x => if x = kk then (.ref a2) else gA x)
set_option maxRecDepth 65536 in
set_option maxHeartbeats 40000000 in
theorem rm12b (l : Launch) (Z : State) (a0 : Array Value) (hw : ∀ d ∈ tables_1, d.before a0 Z = true) (ws : List Jvm.Cond) (a1 : Addr) (a2 : Addr) (md : Int32) (sz : Int32) (r : Addr) (kA : ClassId) (gA : Nat → Value) (kk : Nat) (h0 : Heap) (n0 : Nat) (Z0 : n0 ≤ h0.size) (E : Exa Z h0 a1 "java/util/ArrayList") (F0 : Fld Z h0 a1 "java/util/AbstractList" "modCount" "I" (.int md)) (F1 : Fld Z h0 a1 "java/util/ArrayList" "elementData" "[Ljava/lang/Object;" (.ref r)) (F2 : Fld Z h0 a1 "java/util/ArrayList" "size" "I" (.int sz)) (g_a1 : n0 ≤ a1) (RR : own_Rg Z h0 r kA (10 : Int32) gA) (OO : Ovr Z kA "java/lang/Object") (nr : a1 ≠ r) (g_r : n0 ≤ r) (E2 : Exa Z h0 a2 "java/lang/String") (hs0 : ¬ sz < 0) (hs1 : sz < (10 : Int32)) (hk : sz.toNatClampNeg = kk) :
    MetFree l (⟨"java/util/ArrayList", "add", "(Ljava/lang/Object;[Ljava/lang/Object;I)V"⟩ : MethodName) (head1 (Jvm.Cond.code (⟨"java/util/ArrayList", "add", "(Ljava/lang/Object;[Ljava/lang/Object;I)V"⟩ : MethodName) jdk_38_method_24_code 4 none :: ws) ({ frames := 0, cells := 0, slots := 0, locals := 0 } : Room)) (fun a U => a = #[(.ref a1), (.ref a2), (.ref r), (.int sz)] ∧ Z.Warmed39 U.vm ∧ U.heap = h0) (fun _ _ _ _ _ => True) (fun _ U o U' => ∃ v L, o = .returned v ∧ Q12b Z a1 a2 md sz r kA gA kk h0 n0 v U'.heap L ∧ FrameEnd U o U' L ({ frames := 0, cells := 0, slots := 0, locals := 0 } : Room).cells ({ frames := 0, cells := 0, slots := 0, locals := 0 } : Room).slots) := by
  refine MetFree.of_bodySF (plainFor_of_name pn_rm12b) hisR ?_
  intro p e s m args below meth c s₁ Bd hml0 hP hK
  obtain ⟨rfl, hZ, hh⟩ := hP
  have hx := Bd.exec
  have hby := Bd.bytes
  have hml : c.maxLocals = 4 := hml0
  have hown : s.vm.findClass "java/util/ArrayList" = some m.cls := findClass_of_methodNamed Bd.named
  have hnm := (name_of_methodNamed Bd.named Bd.method).1
  have X0 : Stand p l e ({ frames := 0, cells := 0, slots := 0, locals := 0 } : Room) s m #[(.ref a1), (.ref a2), (.ref r), (.int sz)] below meth c s₁ [] 0 0 := Stand.of_body Bd
  have e0 : s₁.heap = h0 := by rw [← hh, Bd.state]; rfl
  have N0 := Fr.nil n0
  have pre0 : ∀ t, Steps p.tables e below (s₁.setTop (mkF m 0 #[.val (.ref a1), .val (.ref a2), .val (.ref r), .val (.int sz)] [])) t → Steps p.tables e below (s₁.setTop (entryFrame m #[(.ref a1), (.ref a2), (.ref r), (.int sz)] 4)) t := fun t k => castTop (ef_rm12b m a1 a2 r sz) k
  show own_Fin p e below _ _
  refine own_go pre0 ?_
  refine own_go (B := s₁.setTop (mkF m 2 #[.val (.ref a1), .val (.ref a2), .val (.ref r), .val (.int sz)] [(.ref r), (.int sz)])) (fun t k => ?_) ?_
  · show Steps p.tables e below (s₁.setTop (mkF m 0 #[.val (.ref a1), .val (.ref a2), .val (.ref r), .val (.int sz)] [])) t
    refine XS.iloadN X0.here hx rfl (hb hby d12b_0) rfl ?_
    show Steps p.tables e below (s₁.setTop (mkF m 1 #[.val (.ref a1), .val (.ref a2), .val (.ref r), .val (.int sz)] [(.int sz)])) t
    refine XS.aloadN X0.here hx rfl (hb hby d12b_1) rfl rfl ?_
    exact k
  obtain ⟨cl1, Ar1, S1, q1⟩ := RR.len
  refine own_go (X0.arraylength hx (by rw [e0]; exact Ar1.1) (State.isArrayOf_alike hZ.alike Ar1.2.1) (g := (mkF m 2 #[.val (.ref a1), .val (.ref a2), .val (.ref r), .val (.int sz)] [(.ref r), (.int sz)])) rfl rfl (hb hby d12b_2)) ?_
  rw [len_of S1 q1]
  refine own_go (B := s₁.setTop (mkF m 14 #[.val (.ref a1), .val (.ref a2), .val (.ref r), .val (.int sz)] [(.ref a2), (.int sz), (.ref r)])) (fun t k => ?_) ?_
  · show Steps p.tables e below (s₁.setTop (mkF m 3 #[.val (.ref a1), .val (.ref a2), .val (.ref r), .val (.int sz)] [(.int (10 : Int32)), (.int sz)])) t
    refine XS.icmpYes X0.here hx rfl (pc0 := 3) (pc' := 11) rfl (hb hby d12b_3) rfl (feq (fun q => by subst q; exact absurd hs1 (by decide) : ¬ (sz = (10 : Int32)))).2 (by decide) (by decide) ?_
    show Steps p.tables e below (s₁.setTop (mkF m 11 #[.val (.ref a1), .val (.ref a2), .val (.ref r), .val (.int sz)] [])) t
    refine XS.aloadN X0.here hx rfl (hb hby d12b_11) rfl rfl ?_
    show Steps p.tables e below (s₁.setTop (mkF m 12 #[.val (.ref a1), .val (.ref a2), .val (.ref r), .val (.int sz)] [(.ref r)])) t
    refine XS.iloadN X0.here hx rfl (hb hby d12b_12) rfl ?_
    show Steps p.tables e below (s₁.setTop (mkF m 13 #[.val (.ref a1), .val (.ref a2), .val (.ref r), .val (.int sz)] [(.int sz), (.ref r)])) t
    refine XS.aloadN X0.here hx rfl (hb hby d12b_13) rfl rfl ?_
    exact k
  obtain ⟨cl2, Ar2, cc2, hin2, -⟩ := RR.get (j := sz) hs0 hs1
  obtain ⟨T2, h2, X2, e2, W2, st2⟩ := stR X0 hx hZ e0 Ar2 (j := sz) hin2 rfl (Sto.ofV Ar2 cc2 OO (Ins.of_exa E2 (hw _ (List.mem_of_getElem? (i := 88) rfl)))) (g := (mkF m 14 #[.val (.ref a1), .val (.ref a2), .val (.ref r), .val (.int sz)] [(.ref a2), (.int sz), (.ref r)])) rfl rfl (hb hby d12b_14)
  refine own_go (fun t k => st2 t k) ?_
  have N2 := Fr.snoc X2 N0 g_r
  obtain ⟨LL2, X2, N2⟩ := own_abs X2 N2
  have K2 : Keep h0 h2 [a1, r] := (Keep.refl h0 [a1, r]).wr W2 (Or.inl (List.mem_of_getElem? (i := 1) rfl))
  have f2_0 := E.wr W2
  have f2_1 := F0.other W2 (Or.inl nr)
  have f2_2 := F1.other W2 (Or.inl nr)
  have f2_3 := F2.other W2 (Or.inl nr)
  have f2_5 := E2.wr W2
  have V2 := RR.setk W2 kk hk
  refine own_go (B := T2.setTop (mkF m 19 #[.val (.ref a1), .val (.ref a2), .val (.ref r), .val (.int sz)] [(.int (sz + (1 : Int32))), (.ref a1)])) (fun t k => ?_) ?_
  · show Steps p.tables e below (T2.setTop (mkF m 15 #[.val (.ref a1), .val (.ref a2), .val (.ref r), .val (.int sz)] [])) t
    refine XS.aloadN X2.here hx rfl (hb hby d12b_15) rfl rfl ?_
    show Steps p.tables e below (T2.setTop (mkF m 16 #[.val (.ref a1), .val (.ref a2), .val (.ref r), .val (.int sz)] [(.ref a1)])) t
    refine XS.iloadN X2.here hx rfl (hb hby d12b_16) rfl ?_
    show Steps p.tables e below (T2.setTop (mkF m 17 #[.val (.ref a1), .val (.ref a2), .val (.ref r), .val (.int sz)] [(.int sz), (.ref a1)])) t
    refine XS.iconst X2.here hx rfl (hb hby d12b_17) ?_
    show Steps p.tables e below (T2.setTop (mkF m 18 #[.val (.ref a1), .val (.ref a2), .val (.ref r), .val (.int sz)] [(.int (1 : Int32)), (.int sz), (.ref a1)])) t
    refine XS.iadd X2.here hx rfl (hb hby d12b_18) rfl ?_
    exact k
  obtain ⟨T3, h3, X3, e3, W3, st3⟩ := putF X2 hx hZ hown (host := "") (Or.inl (hw _ (List.mem_of_getElem? (i := 65) rfl))) Via.refl e2 f2_3 f2_0 (Or.inl (hw _ (List.mem_of_getElem? (i := 66) rfl))) (hw _ (List.mem_of_getElem? (i := 35) rfl)) (ty := .int) (by decide) rfl rfl (g := (mkF m 19 #[.val (.ref a1), .val (.ref a2), .val (.ref r), .val (.int sz)] [(.int (sz + (1 : Int32))), (.ref a1)])) rfl rfl (hb hby d12b_19)
  refine own_go (fun t k => st3 t k) ?_
  have N3 := Fr.snoc X3 N2 g_a1
  obtain ⟨LL3, X3, N3⟩ := own_abs X3 N3
  have K3 : Keep h0 h3 [a1, r] := K2.wr W3 (Or.inl (List.mem_of_getElem? (i := 0) rfl))
  have f3_0 := f2_0.wr W3
  have f3_1 := f2_1.other W3 (Or.inr (slot_ne (Or.inl (hw _ (List.mem_of_getElem? (i := 54) rfl))) (Or.inl (hw _ (List.mem_of_getElem? (i := 66) rfl))) (by decide) (t := .int) (t' := .int) (by decide) (by decide)))
  have f3_2 := f2_2.other W3 (Or.inr (slot_ne (Or.inl (hw _ (List.mem_of_getElem? (i := 57) rfl))) (Or.inl (hw _ (List.mem_of_getElem? (i := 66) rfl))) (by decide) (t := (.array (.object "java/lang/Object"))) (t' := .int) (by decide) (by decide)))
  have f3_3 := f2_3.same W3
  have f3_4 := f2_5.wr W3
  have f3_5 := V2.other W3 (Ne.symm nr)
  obtain ⟨fs, hr, hrun, hended, hW, hsame⟩ := X3.leave (v := none) (fun _ => rfl)
  refine ⟨_, _, ?_, hrun, hended, _, _, rfl, ?_, ⟨_, rfl⟩, hW, hsame.mono (by decide) (by decide)⟩
  · show Steps p.tables e below (T3.setTop (mkF m 22 #[.val (.ref a1), .val (.ref a2), .val (.ref r), .val (.int sz)] [])) _
    exact X3.returnOut hx Bd.returns (hb hby d12b_22) hr
  · show Q12b Z a1 a2 md sz r kA gA kk h0 n0 _ T3.heap _
    rw [e3]
    exact ⟨rfl, N3, K3, f3_0, ⟨_, f3_1⟩, f3_2, f3_3, f3_5⟩
theorem d11a_0 : decode jdk_38_method_25_code 0 = .ok (.aload_n 0, 1) := by decide +kernel
theorem d11a_1 : decode jdk_38_method_25_code 1 = .ok (.dup, 1) := by decide +kernel
theorem d11a_2 : decode jdk_38_method_25_code 2 = .ok (.getfield 63, 3) := by decide +kernel
theorem d11a_5 : decode jdk_38_method_25_code 5 = .ok (.iconst 1, 1) := by decide +kernel
theorem d11a_6 : decode jdk_38_method_25_code 6 = .ok (.iadd, 1) := by decide +kernel
theorem d11a_7 : decode jdk_38_method_25_code 7 = .ok (.putfield 63, 3) := by decide +kernel
theorem d11a_10 : decode jdk_38_method_25_code 10 = .ok (.aload_n 0, 1) := by decide +kernel
theorem d11a_11 : decode jdk_38_method_25_code 11 = .ok (.aload_n 1, 1) := by decide +kernel
theorem d11a_12 : decode jdk_38_method_25_code 12 = .ok (.aload_n 0, 1) := by decide +kernel
theorem d11a_13 : decode jdk_38_method_25_code 13 = .ok (.getfield 9, 3) := by decide +kernel
theorem d11a_16 : decode jdk_38_method_25_code 16 = .ok (.aload_n 0, 1) := by decide +kernel
theorem d11a_17 : decode jdk_38_method_25_code 17 = .ok (.getfield 48, 3) := by decide +kernel
theorem d11a_20 : decode jdk_38_method_25_code 20 = .ok (.invokevirtual 131, 3) := by decide +kernel
theorem d11a_23 : decode jdk_38_method_25_code 23 = .ok (.iconst 1, 1) := by decide +kernel
theorem d11a_24 : decode jdk_38_method_25_code 24 = .ok (.ireturn, 1) := by decide +kernel
theorem pn_rm11a : plainName "java/util/ArrayList" = true := by first | (simp [plainName, overriddenIn]; done) | decide +kernel
theorem pd_rm11a_0 : parseMethodDescriptor "(Ljava/lang/Object;[Ljava/lang/Object;I)V" = some ⟨[(.object "java/lang/Object"), (.array (.object "java/lang/Object")), .int], none⟩ := by decide +kernel
theorem ef_rm11a (m : MethodId) (x0 : Addr) (x1 : Addr) : entryFrame m #[(.ref x0), (.ref x1)] 2 = mkF m 0 #[.val (.ref x0), .val (.ref x1)] [] := by first | (simp [entryFrame, mkF, argsToLocals, Value.category]; done) | rfl
def Q11a (Z : State) (a1 : Addr) (a2 : Addr) (md : Int32) (eD : Addr) (kD : ClassId) (gD : Nat → Value) (h0 : Heap) (n0 : Nat) (v : Option Value) (h : Heap) (L : List Loc) : Prop := ∃ (r : Addr) (kA : ClassId), v = some (.int (1 : Int32)) ∧ Fr n0 L ∧ Keep h0 h [a1] ∧ Exa Z h a1 "java/util/ArrayList" ∧ (∃ m : Int32, Fld Z h a1 "java/util/AbstractList" "modCount" "I" (.int m)) ∧ Fld Z h a1 "java/util/ArrayList" "elementData" "[Ljava/lang/Object;" (.ref r) ∧ Fld Z h a1 "java/util/ArrayList" "size" "I" (.int ((0 : Int32) + (1 : Int32))) ∧ own_Rg Z h r kA (10 : Int32) (fun x => if x = 0 then (.ref a2) else (fun _ => .null) x) ∧ Ovr Z kA "java/lang/Object" ∧ a1 ≠ r ∧ n0 ≤ r ∧ h0.size ≤ r
set_option maxRecDepth 65536 in
set_option maxHeartbeats 40000000 in
theorem rm11a (l : Launch) (Z : State) (a0 : Array Value) (hw : ∀ d ∈ tables_1, d.before a0 Z = true) (ws : List Jvm.Cond) (a1 : Addr) (a2 : Addr) (md : Int32) (eD : Addr) (kD : ClassId) (gD : Nat → Value) (h0 : Heap) (n0 : Nat) (Z0 : n0 ≤ h0.size) (E : Exa Z h0 a1 "java/util/ArrayList") (F0 : Fld Z h0 a1 "java/util/AbstractList" "modCount" "I" (.int md)) (F1 : Fld Z h0 a1 "java/util/ArrayList" "elementData" "[Ljava/lang/Object;" (.ref eD)) (F2 : Fld Z h0 a1 "java/util/ArrayList" "size" "I" (.int (0 : Int32))) (g_a1 : n0 ≤ a1) (SD : Sta Z h0 "java/util/ArrayList" "DEFAULTCAPACITY_EMPTY_ELEMENTDATA" "[Ljava/lang/Object;" (.ref eD)) (RD : own_Rg Z h0 eD kD (0 : Int32) gD) (neD : a1 ≠ eD) (E2 : Exa Z h0 a2 "java/lang/String") :
    MetFree l (⟨"java/util/ArrayList", "add", "(Ljava/lang/Object;)Z"⟩ : MethodName) (head1 (Jvm.Cond.code (⟨"java/util/ArrayList", "add", "(Ljava/lang/Object;)Z"⟩ : MethodName) jdk_38_method_25_code 2 (some .boolean) :: ws) ({ frames := 4, cells := 1, slots := 10, locals := 56 } : Room)) (fun a U => a = #[(.ref a1), (.ref a2)] ∧ Z.Warmed39 U.vm ∧ U.heap = h0) (fun _ _ _ _ _ => True) (fun _ U o U' => ∃ v L, o = .returned v ∧ Q11a Z a1 a2 md eD kD gD h0 n0 v U'.heap L ∧ FrameEnd U o U' L ({ frames := 4, cells := 1, slots := 10, locals := 56 } : Room).cells ({ frames := 4, cells := 1, slots := 10, locals := 56 } : Room).slots) := by
  refine MetFree.of_bodySF (plainFor_of_name pn_rm11a) hisR ?_
  intro p e s m args below meth c s₁ Bd hml0 hP hK
  obtain ⟨rfl, hZ, hh⟩ := hP
  have hx := Bd.exec
  have hby := Bd.bytes
  have hml : c.maxLocals = 2 := hml0
  have hown : s.vm.findClass "java/util/ArrayList" = some m.cls := findClass_of_methodNamed Bd.named
  have hnm := (name_of_methodNamed Bd.named Bd.method).1
  have X0 : Stand p l e ({ frames := 4, cells := 1, slots := 10, locals := 56 } : Room) s m #[(.ref a1), (.ref a2)] below meth c s₁ [] 0 0 := Stand.of_body Bd
  have e0 : s₁.heap = h0 := by rw [← hh, Bd.state]; rfl
  have N0 := Fr.nil n0
  have pre0 : ∀ t, Steps p.tables e below (s₁.setTop (mkF m 0 #[.val (.ref a1), .val (.ref a2)] [])) t → Steps p.tables e below (s₁.setTop (entryFrame m #[(.ref a1), (.ref a2)] 2)) t := fun t k => castTop (ef_rm11a m a1 a2) k
  show own_Fin p e below _ _
  refine own_go pre0 ?_
  refine own_go (B := s₁.setTop (mkF m 2 #[.val (.ref a1), .val (.ref a2)] [(.ref a1), (.ref a1)])) (fun t k => ?_) ?_
  · show Steps p.tables e below (s₁.setTop (mkF m 0 #[.val (.ref a1), .val (.ref a2)] [])) t
    refine XS.aloadN X0.here hx rfl (hb hby d11a_0) rfl rfl ?_
    show Steps p.tables e below (s₁.setTop (mkF m 1 #[.val (.ref a1), .val (.ref a2)] [(.ref a1)])) t
    refine XS.dup X0.here hx rfl (hb hby d11a_1) rfl rfl ?_
    exact k
  obtain ⟨T1, X1, e1, st1⟩ := getF X0 hx hZ hown (host := "") (Or.inl (hw _ (List.mem_of_getElem? (i := 63) rfl))) (Via.of (hw _ (List.mem_of_getElem? (i := 64) rfl))) e0 F0 (g := (mkF m 2 #[.val (.ref a1), .val (.ref a2)] [(.ref a1), (.ref a1)])) rfl rfl (hb hby d11a_2)
  refine own_go (fun t k => st1 t k) ?_
  refine own_go (B := T1.setTop (mkF m 7 #[.val (.ref a1), .val (.ref a2)] [(.int (md + (1 : Int32))), (.ref a1)])) (fun t k => ?_) ?_
  · show Steps p.tables e below (T1.setTop (mkF m 5 #[.val (.ref a1), .val (.ref a2)] [(.int md), (.ref a1)])) t
    refine XS.iconst X1.here hx rfl (hb hby d11a_5) ?_
    show Steps p.tables e below (T1.setTop (mkF m 6 #[.val (.ref a1), .val (.ref a2)] [(.int (1 : Int32)), (.int md), (.ref a1)])) t
    refine XS.iadd X1.here hx rfl (hb hby d11a_6) rfl ?_
    exact k
  obtain ⟨T2, h2, X2, e2, W2, st2⟩ := putF X1 hx hZ hown (host := "") (Or.inl (hw _ (List.mem_of_getElem? (i := 63) rfl))) (Via.of (hw _ (List.mem_of_getElem? (i := 64) rfl))) e1 F0 E (Or.inl (hw _ (List.mem_of_getElem? (i := 54) rfl))) (hw _ (List.mem_of_getElem? (i := 35) rfl)) (ty := .int) (by decide) rfl rfl (g := (mkF m 7 #[.val (.ref a1), .val (.ref a2)] [(.int (md + (1 : Int32))), (.ref a1)])) rfl rfl (hb hby d11a_7)
  refine own_go (fun t k => st2 t k) ?_
  have N2 := Fr.snoc X2 N0 g_a1
  obtain ⟨LL2, X2, N2⟩ := own_abs X2 N2
  have K2 : Keep h0 h2 [a1] := (Keep.refl h0 [a1]).wr W2 (Or.inl (List.mem_of_getElem? (i := 0) rfl))
  have f2_0 := E.wr W2
  have f2_1 := F0.same W2
  have f2_2 := F1.other W2 (Or.inr (slot_ne (Or.inl (hw _ (List.mem_of_getElem? (i := 57) rfl))) (Or.inl (hw _ (List.mem_of_getElem? (i := 54) rfl))) (by decide) (t := (.array (.object "java/lang/Object"))) (t' := .int) (by decide) (by decide)))
  have f2_3 := F2.other W2 (Or.inr (slot_ne (Or.inl (hw _ (List.mem_of_getElem? (i := 66) rfl))) (Or.inl (hw _ (List.mem_of_getElem? (i := 54) rfl))) (by decide) (t := .int) (t' := .int) (by decide) (by decide)))
  have f2_4 := SD.wr W2
  have f2_5 := RD.other W2 (Ne.symm neD)
  have f2_6 := E2.wr W2
  refine own_go (B := T2.setTop (mkF m 13 #[.val (.ref a1), .val (.ref a2)] [(.ref a1), (.ref a2), (.ref a1)])) (fun t k => ?_) ?_
  · show Steps p.tables e below (T2.setTop (mkF m 10 #[.val (.ref a1), .val (.ref a2)] [])) t
    refine XS.aloadN X2.here hx rfl (hb hby d11a_10) rfl rfl ?_
    show Steps p.tables e below (T2.setTop (mkF m 11 #[.val (.ref a1), .val (.ref a2)] [(.ref a1)])) t
    refine XS.aloadN X2.here hx rfl (hb hby d11a_11) rfl rfl ?_
    show Steps p.tables e below (T2.setTop (mkF m 12 #[.val (.ref a1), .val (.ref a2)] [(.ref a2), (.ref a1)])) t
    refine XS.aloadN X2.here hx rfl (hb hby d11a_12) rfl rfl ?_
    exact k
  obtain ⟨T3, X3, e3, st3⟩ := getF X2 hx hZ hown (host := "") (Or.inl (hw _ (List.mem_of_getElem? (i := 56) rfl))) Via.refl e2 f2_2 (g := (mkF m 13 #[.val (.ref a1), .val (.ref a2)] [(.ref a1), (.ref a2), (.ref a1)])) rfl rfl (hb hby d11a_13)
  refine own_go (fun t k => st3 t k) ?_
  refine own_go (B := T3.setTop (mkF m 17 #[.val (.ref a1), .val (.ref a2)] [(.ref a1), (.ref eD), (.ref a2), (.ref a1)])) (fun t k => ?_) ?_
  · show Steps p.tables e below (T3.setTop (mkF m 16 #[.val (.ref a1), .val (.ref a2)] [(.ref eD), (.ref a2), (.ref a1)])) t
    refine XS.aloadN X3.here hx rfl (hb hby d11a_16) rfl rfl ?_
    exact k
  obtain ⟨T4, X4, e4, st4⟩ := getF X3 hx hZ hown (host := "") (Or.inl (hw _ (List.mem_of_getElem? (i := 65) rfl))) Via.refl e3 f2_3 (g := (mkF m 17 #[.val (.ref a1), .val (.ref a2)] [(.ref a1), (.ref eD), (.ref a2), (.ref a1)])) rfl rfl (hb hby d11a_17)
  refine own_go (fun t k => st4 t k) ?_
  obtain ⟨cq5, q5, q5'⟩ := f2_0.cell
  obtain ⟨_, _, ⟨T5, L5, k5, n5⟩, -, X5, ⟨Lc5, hQ5, l5, y5, z5⟩, st5⟩ := X4.privateBack hx (y := (⟨"java/util/ArrayList", "add", "(Ljava/lang/Object;[Ljava/lang/Object;I)V"⟩ : MethodName)) hown (mvT hZ (hw _ (List.mem_of_getElem? (i := 67) rfl))) (mvT hZ (hw _ (List.mem_of_getElem? (i := 68) rfl))) (mvT hZ (hw _ (List.mem_of_getElem? (i := 70) rfl))) (Cond.privateMethod_at (mvP hZ (hw _ (List.mem_of_getElem? (i := 69) rfl)) (args := #[]))) (mvT hZ (hw _ (List.mem_of_getElem? (i := 71) rfl))) (by decide) (backOf (W := 0) (rm12a l Z a0 hw [] a1 a2 (md + (1 : Int32)) eD kD gD h2 n0 (Nat.le_trans Z0 (Keep.of_wr W2).1) f2_0 f2_1 f2_2 f2_3 g_a1 f2_4 f2_5 neD f2_6) hZ (hw _ (List.mem_of_getElem? (i := 71) rfl)) (hw _ (List.mem_of_getElem? (i := 36) rfl)) (by decide) (by decide)) (g := (mkF m 20 #[.val (.ref a1), .val (.ref a2)] [(.int (0 : Int32)), (.ref eD), (.ref a2), (.ref a1)])) rfl (by rw [hml]; rfl) (Steps.refl _) (a := a1) (by rw [e4]; exact q5) q5' (argsL := [(.ref a2), (.ref eD), (.int (0 : Int32))]) (rest := []) (lenOf pd_rm11a_0 rfl) rfl (by show 2 * 0 + _ ≤ _; exact Nat.le_of_eq rfl) (hb hby d11a_20) (fun _ _ => ⟨rfl, e4, (by decide : 0 + 1 ≤ _), (by decide : 0 + 10 ≤ _)⟩)
  dsimp only [Pt.U, Pt.locs, Pt.cells, Pt.slots] at X5 l5 y5 z5 st5 hQ5
  subst l5 y5 z5
  obtain ⟨r5, kA5, rfl, N5q, K5, -, ⟨m5, G0_5⟩, G1_5, G2_5, R5, O5, nr5, lr5, hs5⟩ := hQ5
  have N5 := Fr.app N2 N5q
  obtain ⟨LL5, X5, N5⟩ := own_abs X5 N5
  refine own_go (fun t k => st5.trans k) ?_
  have KK5 : Keep h0 T5.heap [a1] := K2.trans K5 (allS (Or.inl (List.mem_of_getElem? (i := 0) rfl)) all0)
  have f5_0 := f2_0.keep K5
  have f5_4 := own_staKeep f2_4 K5 (nsS f2_0.nostat ns0)
  have f5_5 := f2_5.keep K5 (ninS (Ne.symm neD) nin0)
  have f5_6 := f2_6.keep K5
  have old5 : h0.size ≤ r5 := Nat.le_trans K2.1 hs5
  refine own_go (B := T5.setTop (mkF m 24 #[.val (.ref a1), .val (.ref a2)] [(.int (1 : Int32))])) (fun t k => ?_) ?_
  · show Steps p.tables e below (T5.setTop (mkF m 23 #[.val (.ref a1), .val (.ref a2)] [])) t
    refine XS.iconst X5.here hx rfl (hb hby d11a_23) ?_
    exact k
  obtain ⟨fs, hr, hrun, hended, hW, hsame⟩ := X5.leave (v := some (.int (1 : Int32))) (fun h => by rw [Bd.returns] at h; cases h)
  refine ⟨_, _, ?_, hrun, hended, _, _, rfl, ?_, ⟨_, rfl⟩, hW, hsame.mono (by decide) (by decide)⟩
  · show Steps p.tables e below (T5.setTop (mkF m 24 #[.val (.ref a1), .val (.ref a2)] [(.int (1 : Int32))])) _
    exact retN X5 hx (t := .boolean) Bd.returns (by simp) (hb hby d11a_24) hr
  · show Q11a Z a1 a2 md eD kD gD h0 n0 _ T5.heap _
    exact ⟨r5, _, rfl, N5, KK5, f5_0, ⟨_, G0_5⟩, G1_5, G2_5, R5, O5, nr5, lr5, old5⟩
theorem d11b_0 : decode jdk_38_method_25_code 0 = .ok (.aload_n 0, 1) := by decide +kernel
theorem d11b_1 : decode jdk_38_method_25_code 1 = .ok (.dup, 1) := by decide +kernel
theorem d11b_2 : decode jdk_38_method_25_code 2 = .ok (.getfield 63, 3) := by decide +kernel
theorem d11b_5 : decode jdk_38_method_25_code 5 = .ok (.iconst 1, 1) := by decide +kernel
theorem d11b_6 : decode jdk_38_method_25_code 6 = .ok (.iadd, 1) := by decide +kernel
theorem d11b_7 : decode jdk_38_method_25_code 7 = .ok (.putfield 63, 3) := by decide +kernel
theorem d11b_10 : decode jdk_38_method_25_code 10 = .ok (.aload_n 0, 1) := by decide +kernel
theorem d11b_11 : decode jdk_38_method_25_code 11 = .ok (.aload_n 1, 1) := by decide +kernel
theorem d11b_12 : decode jdk_38_method_25_code 12 = .ok (.aload_n 0, 1) := by decide +kernel
theorem d11b_13 : decode jdk_38_method_25_code 13 = .ok (.getfield 9, 3) := by decide +kernel
theorem d11b_16 : decode jdk_38_method_25_code 16 = .ok (.aload_n 0, 1) := by decide +kernel
theorem d11b_17 : decode jdk_38_method_25_code 17 = .ok (.getfield 48, 3) := by decide +kernel
theorem d11b_20 : decode jdk_38_method_25_code 20 = .ok (.invokevirtual 131, 3) := by decide +kernel
theorem d11b_23 : decode jdk_38_method_25_code 23 = .ok (.iconst 1, 1) := by decide +kernel
theorem d11b_24 : decode jdk_38_method_25_code 24 = .ok (.ireturn, 1) := by decide +kernel
theorem pn_rm11b : plainName "java/util/ArrayList" = true := by first | (simp [plainName, overriddenIn]; done) | decide +kernel
theorem pd_rm11b_0 : parseMethodDescriptor "(Ljava/lang/Object;[Ljava/lang/Object;I)V" = some ⟨[(.object "java/lang/Object"), (.array (.object "java/lang/Object")), .int], none⟩ := by decide +kernel
theorem ef_rm11b (m : MethodId) (x0 : Addr) (x1 : Addr) : entryFrame m #[(.ref x0), (.ref x1)] 2 = mkF m 0 #[.val (.ref x0), .val (.ref x1)] [] := by first | (simp [entryFrame, mkF, argsToLocals, Value.category]; done) | rfl
def Q11b (Z : State) (a1 : Addr) (a2 : Addr) (md : Int32) (sz : Int32) (r : Addr) (kA : ClassId) (gA : Nat → Value) (kk : Nat) (h0 : Heap) (n0 : Nat) (v : Option Value) (h : Heap) (L : List Loc) : Prop := v = some (.int (1 : Int32)) ∧ Fr n0 L ∧ Keep h0 h [a1, r] ∧ Exa Z h a1 "java/util/ArrayList" ∧ (∃ m : Int32, Fld Z h a1 "java/util/AbstractList" "modCount" "I" (.int m)) ∧ Fld Z h a1 "java/util/ArrayList" "elementData" "[Ljava/lang/Object;" (.ref r) ∧ Fld Z h a1 "java/util/ArrayList" "size" "I" (.int (sz + (1 : Int32))) ∧ own_Rg Z h r kA (10 : Int32) (fun x => if x = kk then (.ref a2) else gA x)
set_option maxRecDepth 65536 in
set_option maxHeartbeats 40000000 in
theorem rm11b (l : Launch) (Z : State) (a0 : Array Value) (hw : ∀ d ∈ tables_1, d.before a0 Z = true) (ws : List Jvm.Cond) (a1 : Addr) (a2 : Addr) (md : Int32) (sz : Int32) (r : Addr) (kA : ClassId) (gA : Nat → Value) (kk : Nat) (h0 : Heap) (n0 : Nat) (Z0 : n0 ≤ h0.size) (E : Exa Z h0 a1 "java/util/ArrayList") (F0 : Fld Z h0 a1 "java/util/AbstractList" "modCount" "I" (.int md)) (F1 : Fld Z h0 a1 "java/util/ArrayList" "elementData" "[Ljava/lang/Object;" (.ref r)) (F2 : Fld Z h0 a1 "java/util/ArrayList" "size" "I" (.int sz)) (g_a1 : n0 ≤ a1) (RR : own_Rg Z h0 r kA (10 : Int32) gA) (OO : Ovr Z kA "java/lang/Object") (nr : a1 ≠ r) (g_r : n0 ≤ r) (E2 : Exa Z h0 a2 "java/lang/String") (hs0 : ¬ sz < 0) (hs1 : sz < (10 : Int32)) (hk : sz.toNatClampNeg = kk) :
    MetFree l (⟨"java/util/ArrayList", "add", "(Ljava/lang/Object;)Z"⟩ : MethodName) (head1 (Jvm.Cond.code (⟨"java/util/ArrayList", "add", "(Ljava/lang/Object;)Z"⟩ : MethodName) jdk_38_method_25_code 2 (some .boolean) :: ws) ({ frames := 1, cells := 0, slots := 0, locals := 15 } : Room)) (fun a U => a = #[(.ref a1), (.ref a2)] ∧ Z.Warmed39 U.vm ∧ U.heap = h0) (fun _ _ _ _ _ => True) (fun _ U o U' => ∃ v L, o = .returned v ∧ Q11b Z a1 a2 md sz r kA gA kk h0 n0 v U'.heap L ∧ FrameEnd U o U' L ({ frames := 1, cells := 0, slots := 0, locals := 15 } : Room).cells ({ frames := 1, cells := 0, slots := 0, locals := 15 } : Room).slots) := by
  refine MetFree.of_bodySF (plainFor_of_name pn_rm11b) hisR ?_
  intro p e s m args below meth c s₁ Bd hml0 hP hK
  obtain ⟨rfl, hZ, hh⟩ := hP
  have hx := Bd.exec
  have hby := Bd.bytes
  have hml : c.maxLocals = 2 := hml0
  have hown : s.vm.findClass "java/util/ArrayList" = some m.cls := findClass_of_methodNamed Bd.named
  have hnm := (name_of_methodNamed Bd.named Bd.method).1
  have X0 : Stand p l e ({ frames := 1, cells := 0, slots := 0, locals := 15 } : Room) s m #[(.ref a1), (.ref a2)] below meth c s₁ [] 0 0 := Stand.of_body Bd
  have e0 : s₁.heap = h0 := by rw [← hh, Bd.state]; rfl
  have N0 := Fr.nil n0
  have pre0 : ∀ t, Steps p.tables e below (s₁.setTop (mkF m 0 #[.val (.ref a1), .val (.ref a2)] [])) t → Steps p.tables e below (s₁.setTop (entryFrame m #[(.ref a1), (.ref a2)] 2)) t := fun t k => castTop (ef_rm11b m a1 a2) k
  show own_Fin p e below _ _
  refine own_go pre0 ?_
  refine own_go (B := s₁.setTop (mkF m 2 #[.val (.ref a1), .val (.ref a2)] [(.ref a1), (.ref a1)])) (fun t k => ?_) ?_
  · show Steps p.tables e below (s₁.setTop (mkF m 0 #[.val (.ref a1), .val (.ref a2)] [])) t
    refine XS.aloadN X0.here hx rfl (hb hby d11b_0) rfl rfl ?_
    show Steps p.tables e below (s₁.setTop (mkF m 1 #[.val (.ref a1), .val (.ref a2)] [(.ref a1)])) t
    refine XS.dup X0.here hx rfl (hb hby d11b_1) rfl rfl ?_
    exact k
  obtain ⟨T1, X1, e1, st1⟩ := getF X0 hx hZ hown (host := "") (Or.inl (hw _ (List.mem_of_getElem? (i := 63) rfl))) (Via.of (hw _ (List.mem_of_getElem? (i := 64) rfl))) e0 F0 (g := (mkF m 2 #[.val (.ref a1), .val (.ref a2)] [(.ref a1), (.ref a1)])) rfl rfl (hb hby d11b_2)
  refine own_go (fun t k => st1 t k) ?_
  refine own_go (B := T1.setTop (mkF m 7 #[.val (.ref a1), .val (.ref a2)] [(.int (md + (1 : Int32))), (.ref a1)])) (fun t k => ?_) ?_
  · show Steps p.tables e below (T1.setTop (mkF m 5 #[.val (.ref a1), .val (.ref a2)] [(.int md), (.ref a1)])) t
    refine XS.iconst X1.here hx rfl (hb hby d11b_5) ?_
    show Steps p.tables e below (T1.setTop (mkF m 6 #[.val (.ref a1), .val (.ref a2)] [(.int (1 : Int32)), (.int md), (.ref a1)])) t
    refine XS.iadd X1.here hx rfl (hb hby d11b_6) rfl ?_
    exact k
  obtain ⟨T2, h2, X2, e2, W2, st2⟩ := putF X1 hx hZ hown (host := "") (Or.inl (hw _ (List.mem_of_getElem? (i := 63) rfl))) (Via.of (hw _ (List.mem_of_getElem? (i := 64) rfl))) e1 F0 E (Or.inl (hw _ (List.mem_of_getElem? (i := 54) rfl))) (hw _ (List.mem_of_getElem? (i := 35) rfl)) (ty := .int) (by decide) rfl rfl (g := (mkF m 7 #[.val (.ref a1), .val (.ref a2)] [(.int (md + (1 : Int32))), (.ref a1)])) rfl rfl (hb hby d11b_7)
  refine own_go (fun t k => st2 t k) ?_
  have N2 := Fr.snoc X2 N0 g_a1
  obtain ⟨LL2, X2, N2⟩ := own_abs X2 N2
  have K2 : Keep h0 h2 [a1, r] := (Keep.refl h0 [a1, r]).wr W2 (Or.inl (List.mem_of_getElem? (i := 0) rfl))
  have f2_0 := E.wr W2
  have f2_1 := F0.same W2
  have f2_2 := F1.other W2 (Or.inr (slot_ne (Or.inl (hw _ (List.mem_of_getElem? (i := 57) rfl))) (Or.inl (hw _ (List.mem_of_getElem? (i := 54) rfl))) (by decide) (t := (.array (.object "java/lang/Object"))) (t' := .int) (by decide) (by decide)))
  have f2_3 := F2.other W2 (Or.inr (slot_ne (Or.inl (hw _ (List.mem_of_getElem? (i := 66) rfl))) (Or.inl (hw _ (List.mem_of_getElem? (i := 54) rfl))) (by decide) (t := .int) (t' := .int) (by decide) (by decide)))
  have f2_4 := RR.other W2 (Ne.symm nr)
  have f2_5 := E2.wr W2
  refine own_go (B := T2.setTop (mkF m 13 #[.val (.ref a1), .val (.ref a2)] [(.ref a1), (.ref a2), (.ref a1)])) (fun t k => ?_) ?_
  · show Steps p.tables e below (T2.setTop (mkF m 10 #[.val (.ref a1), .val (.ref a2)] [])) t
    refine XS.aloadN X2.here hx rfl (hb hby d11b_10) rfl rfl ?_
    show Steps p.tables e below (T2.setTop (mkF m 11 #[.val (.ref a1), .val (.ref a2)] [(.ref a1)])) t
    refine XS.aloadN X2.here hx rfl (hb hby d11b_11) rfl rfl ?_
    show Steps p.tables e below (T2.setTop (mkF m 12 #[.val (.ref a1), .val (.ref a2)] [(.ref a2), (.ref a1)])) t
    refine XS.aloadN X2.here hx rfl (hb hby d11b_12) rfl rfl ?_
    exact k
  obtain ⟨T3, X3, e3, st3⟩ := getF X2 hx hZ hown (host := "") (Or.inl (hw _ (List.mem_of_getElem? (i := 56) rfl))) Via.refl e2 f2_2 (g := (mkF m 13 #[.val (.ref a1), .val (.ref a2)] [(.ref a1), (.ref a2), (.ref a1)])) rfl rfl (hb hby d11b_13)
  refine own_go (fun t k => st3 t k) ?_
  refine own_go (B := T3.setTop (mkF m 17 #[.val (.ref a1), .val (.ref a2)] [(.ref a1), (.ref r), (.ref a2), (.ref a1)])) (fun t k => ?_) ?_
  · show Steps p.tables e below (T3.setTop (mkF m 16 #[.val (.ref a1), .val (.ref a2)] [(.ref r), (.ref a2), (.ref a1)])) t
    refine XS.aloadN X3.here hx rfl (hb hby d11b_16) rfl rfl ?_
    exact k
  obtain ⟨T4, X4, e4, st4⟩ := getF X3 hx hZ hown (host := "") (Or.inl (hw _ (List.mem_of_getElem? (i := 65) rfl))) Via.refl e3 f2_3 (g := (mkF m 17 #[.val (.ref a1), .val (.ref a2)] [(.ref a1), (.ref r), (.ref a2), (.ref a1)])) rfl rfl (hb hby d11b_17)
  refine own_go (fun t k => st4 t k) ?_
  obtain ⟨cq5, q5, q5'⟩ := f2_0.cell
  obtain ⟨_, _, ⟨T5, L5, k5, n5⟩, -, X5, ⟨Lc5, hQ5, l5, y5, z5⟩, st5⟩ := X4.privateBack hx (y := (⟨"java/util/ArrayList", "add", "(Ljava/lang/Object;[Ljava/lang/Object;I)V"⟩ : MethodName)) hown (mvT hZ (hw _ (List.mem_of_getElem? (i := 67) rfl))) (mvT hZ (hw _ (List.mem_of_getElem? (i := 68) rfl))) (mvT hZ (hw _ (List.mem_of_getElem? (i := 70) rfl))) (Cond.privateMethod_at (mvP hZ (hw _ (List.mem_of_getElem? (i := 69) rfl)) (args := #[]))) (mvT hZ (hw _ (List.mem_of_getElem? (i := 71) rfl))) (by decide) (backOf (W := 0) (rm12b l Z a0 hw [] a1 a2 (md + (1 : Int32)) sz r kA gA kk h2 n0 (Nat.le_trans Z0 (Keep.of_wr W2).1) f2_0 f2_1 f2_2 f2_3 g_a1 f2_4 OO nr g_r f2_5 hs0 hs1 hk) hZ (hw _ (List.mem_of_getElem? (i := 71) rfl)) (hw _ (List.mem_of_getElem? (i := 36) rfl)) (by decide) (by decide)) (g := (mkF m 20 #[.val (.ref a1), .val (.ref a2)] [(.int sz), (.ref r), (.ref a2), (.ref a1)])) rfl (by rw [hml]; rfl) (Steps.refl _) (a := a1) (by rw [e4]; exact q5) q5' (argsL := [(.ref a2), (.ref r), (.int sz)]) (rest := []) (lenOf pd_rm11b_0 rfl) rfl (by show 2 * 0 + _ ≤ _; exact Nat.le_of_eq rfl) (hb hby d11b_20) (fun _ _ => ⟨rfl, e4, (by decide : 0 + 0 ≤ _), (by decide : 0 + 0 ≤ _)⟩)
  dsimp only [Pt.U, Pt.locs, Pt.cells, Pt.slots] at X5 l5 y5 z5 st5 hQ5
  subst l5 y5 z5
  obtain ⟨rfl, N5q, K5, -, ⟨m5, G0_5⟩, G1_5, G2_5, R5⟩ := hQ5
  have N5 := Fr.app N2 N5q
  obtain ⟨LL5, X5, N5⟩ := own_abs X5 N5
  refine own_go (fun t k => st5.trans k) ?_
  have KK5 : Keep h0 T5.heap [a1, r] := K2.trans K5 (allS (Or.inl (List.mem_of_getElem? (i := 0) rfl)) (allS (Or.inl (List.mem_of_getElem? (i := 1) rfl)) all0))
  have f5_0 := f2_0.keep K5
  have f5_5 := f2_5.keep K5
  refine own_go (B := T5.setTop (mkF m 24 #[.val (.ref a1), .val (.ref a2)] [(.int (1 : Int32))])) (fun t k => ?_) ?_
  · show Steps p.tables e below (T5.setTop (mkF m 23 #[.val (.ref a1), .val (.ref a2)] [])) t
    refine XS.iconst X5.here hx rfl (hb hby d11b_23) ?_
    exact k
  obtain ⟨fs, hr, hrun, hended, hW, hsame⟩ := X5.leave (v := some (.int (1 : Int32))) (fun h => by rw [Bd.returns] at h; cases h)
  refine ⟨_, _, ?_, hrun, hended, _, _, rfl, ?_, ⟨_, rfl⟩, hW, hsame.mono (by decide) (by decide)⟩
  · show Steps p.tables e below (T5.setTop (mkF m 24 #[.val (.ref a1), .val (.ref a2)] [(.int (1 : Int32))])) _
    exact retN X5 hx (t := .boolean) Bd.returns (by simp) (hb hby d11b_24) hr
  · show Q11b Z a1 a2 md sz r kA gA kk h0 n0 _ T5.heap _
    exact ⟨rfl, N5, KK5, f5_0, ⟨_, G0_5⟩, G1_5, G2_5, R5⟩
theorem d17_0 : decode jdk_30_method_1_code 0 = .ok (.aload_n 0, 1) := by decide +kernel
theorem d17_1 : decode jdk_30_method_1_code 1 = .ok (.invokespecial 1, 3) := by decide +kernel
theorem d17_4 : decode jdk_30_method_1_code 4 = .ok (.return_, 1) := by decide +kernel
theorem pn_rm17 : plainName "java/lang/Record" = true := by first | (simp [plainName, overriddenIn]; done) | decide +kernel
theorem ef_rm17 (m : MethodId) (x0 : Addr) : entryFrame m #[(.ref x0)] 1 = mkF m 0 #[.val (.ref x0)] [] := by first | (simp [entryFrame, mkF, argsToLocals, Value.category]; done) | rfl
def Q17 (Z : State) (a1 : Addr) (h0 : Heap) (n0 : Nat) (v : Option Value) (h : Heap) (L : List Loc) : Prop := v = none ∧ Fr n0 L ∧ h = h0
set_option maxRecDepth 65536 in
set_option maxHeartbeats 40000000 in
theorem rm17 (l : Launch) (Z : State) (a0 : Array Value) (hw : ∀ d ∈ tables_1, d.before a0 Z = true) (ws : List Jvm.Cond) (a1 : Addr) (h0 : Heap) (n0 : Nat) (Z0 : n0 ≤ h0.size) :
    MetFree l (⟨"java/lang/Record", "<init>", "()V"⟩ : MethodName) (head1 (Jvm.Cond.code (⟨"java/lang/Record", "<init>", "()V"⟩ : MethodName) jdk_30_method_1_code 1 none :: ws) ({ frames := 1, cells := 0, slots := 0, locals := 12 } : Room)) (fun a U => a = #[(.ref a1)] ∧ Z.Warmed39 U.vm ∧ U.heap = h0) (fun _ _ _ _ _ => True) (fun _ U o U' => ∃ v L, o = .returned v ∧ Q17 Z a1 h0 n0 v U'.heap L ∧ FrameEnd U o U' L ({ frames := 1, cells := 0, slots := 0, locals := 12 } : Room).cells ({ frames := 1, cells := 0, slots := 0, locals := 12 } : Room).slots) := by
  refine MetFree.of_bodySF (plainFor_of_name pn_rm17) hisR ?_
  intro p e s m args below meth c s₁ Bd hml0 hP hK
  obtain ⟨rfl, hZ, hh⟩ := hP
  have hx := Bd.exec
  have hby := Bd.bytes
  have hml : c.maxLocals = 1 := hml0
  have hown : s.vm.findClass "java/lang/Record" = some m.cls := findClass_of_methodNamed Bd.named
  have hnm := (name_of_methodNamed Bd.named Bd.method).1
  have X0 : Stand p l e ({ frames := 1, cells := 0, slots := 0, locals := 12 } : Room) s m #[(.ref a1)] below meth c s₁ [] 0 0 := Stand.of_body Bd
  have e0 : s₁.heap = h0 := by rw [← hh, Bd.state]; rfl
  have N0 := Fr.nil n0
  have pre0 : ∀ t, Steps p.tables e below (s₁.setTop (mkF m 0 #[.val (.ref a1)] [])) t → Steps p.tables e below (s₁.setTop (entryFrame m #[(.ref a1)] 1)) t := fun t k => castTop (ef_rm17 m a1) k
  show own_Fin p e below _ _
  refine own_go pre0 ?_
  refine own_go (B := s₁.setTop (mkF m 1 #[.val (.ref a1)] [(.ref a1)])) (fun t k => ?_) ?_
  · show Steps p.tables e below (s₁.setTop (mkF m 0 #[.val (.ref a1)] [])) t
    refine XS.aloadN X0.here hx rfl (hb hby d17_0) rfl rfl ?_
    exact k
  obtain ⟨T1, X1, e1, st1⟩ := initO X0 hx hZ hown (hw _ (List.mem_of_getElem? (i := 100) rfl)) (hw _ (List.mem_of_getElem? (i := 16) rfl)) (hw _ (List.mem_of_getElem? (i := 17) rfl)) e0 (g := (mkF m 1 #[.val (.ref a1)] [(.ref a1)])) rfl (by rw [hml]; rfl) rfl (hb hby d17_1) (by decide) (W := 0) (by show 2 * 0 + _ ≤ _; exact Nat.le_of_eq rfl) (by decide)
  refine own_go (fun t k => st1 t k) ?_
  obtain ⟨fs, hr, hrun, hended, hW, hsame⟩ := X1.leave (v := none) (fun _ => rfl)
  refine ⟨_, _, ?_, hrun, hended, _, _, rfl, ?_, ⟨_, rfl⟩, hW, hsame.mono (by decide) (by decide)⟩
  · show Steps p.tables e below (T1.setTop (mkF m 4 #[.val (.ref a1)] [])) _
    exact X1.returnOut hx Bd.returns (hb hby d17_4) hr
  · show Q17 Z a1 h0 n0 _ T1.heap _
    rw [e1]
    exact ⟨rfl, N0, rfl⟩
theorem d16_0 : decode prog_9_method_1_code 0 = .ok (.aload_n 0, 1) := by decide +kernel
theorem d16_1 : decode prog_9_method_1_code 1 = .ok (.invokespecial 1, 3) := by decide +kernel
theorem d16_4 : decode prog_9_method_1_code 4 = .ok (.aload_n 0, 1) := by decide +kernel
theorem d16_5 : decode prog_9_method_1_code 5 = .ok (.aload_n 1, 1) := by decide +kernel
theorem d16_6 : decode prog_9_method_1_code 6 = .ok (.putfield 7, 3) := by decide +kernel
theorem d16_9 : decode prog_9_method_1_code 9 = .ok (.aload_n 0, 1) := by decide +kernel
theorem d16_10 : decode prog_9_method_1_code 10 = .ok (.aload_n 2, 1) := by decide +kernel
theorem d16_11 : decode prog_9_method_1_code 11 = .ok (.putfield 13, 3) := by decide +kernel
theorem d16_14 : decode prog_9_method_1_code 14 = .ok (.aload_n 0, 1) := by decide +kernel
theorem d16_15 : decode prog_9_method_1_code 15 = .ok (.aload_n 3, 1) := by decide +kernel
theorem d16_16 : decode prog_9_method_1_code 16 = .ok (.putfield 17, 3) := by decide +kernel
theorem d16_19 : decode prog_9_method_1_code 19 = .ok (.return_, 1) := by decide +kernel
theorem pn_rm16 : plainName "com/example/freshet/freshet/Command$Arguments" = true := by first | (simp [plainName, overriddenIn]; done) | decide +kernel
theorem pd_rm16_0 : parseMethodDescriptor "()V" = some ⟨[], none⟩ := by decide +kernel
theorem ef_rm16 (m : MethodId) (x0 : Addr) (x3 : Addr) : entryFrame m #[(.ref x0), .null, .null, (.ref x3)] 4 = mkF m 0 #[.val (.ref x0), .val .null, .val .null, .val (.ref x3)] [] := by first | (simp [entryFrame, mkF, argsToLocals, Value.category]; done) | rfl
def Q16 (Z : State) (a1 : Addr) (a4 : Addr) (u0 : Value) (u1 : Value) (u2 : Value) (h0 : Heap) (n0 : Nat) (v : Option Value) (h : Heap) (L : List Loc) : Prop := v = none ∧ Fr n0 L ∧ Keep h0 h [a1] ∧ Exa Z h a1 "com/example/freshet/freshet/Command$Arguments" ∧ Fld Z h a1 "com/example/freshet/freshet/Command$Arguments" "files" "Ljava/util/List;" (.ref a4)
set_option maxRecDepth 65536 in
set_option maxHeartbeats 40000000 in
theorem rm16 (l : Launch) (Z : State) (a0 : Array Value) (hw : ∀ d ∈ tables_1, d.before a0 Z = true) (ws : List Jvm.Cond) (a1 : Addr) (a4 : Addr) (u0 : Value) (u1 : Value) (u2 : Value) (h0 : Heap) (n0 : Nat) (Z0 : n0 ≤ h0.size) (E : Exa Z h0 a1 "com/example/freshet/freshet/Command$Arguments") (F0 : Fld Z h0 a1 "com/example/freshet/freshet/Command$Arguments" "options" "Ljava/util/Map;" u0) (F1 : Fld Z h0 a1 "com/example/freshet/freshet/Command$Arguments" "flags" "Ljava/util/Set;" u1) (F2 : Fld Z h0 a1 "com/example/freshet/freshet/Command$Arguments" "files" "Ljava/util/List;" u2) (g_a1 : n0 ≤ a1) :
    MetFree l (⟨"com/example/freshet/freshet/Command$Arguments", "<init>", "(Ljava/util/Map;Ljava/util/Set;Ljava/util/List;)V"⟩ : MethodName) (head1 (Jvm.Cond.code (⟨"com/example/freshet/freshet/Command$Arguments", "<init>", "(Ljava/util/Map;Ljava/util/Set;Ljava/util/List;)V"⟩ : MethodName) prog_9_method_1_code 4 none :: ws) ({ frames := 2, cells := 0, slots := 0, locals := 24 } : Room)) (fun a U => a = #[(.ref a1), .null, .null, (.ref a4)] ∧ Z.Warmed39 U.vm ∧ U.heap = h0) (fun _ _ _ _ _ => True) (fun _ U o U' => ∃ v L, o = .returned v ∧ Q16 Z a1 a4 u0 u1 u2 h0 n0 v U'.heap L ∧ FrameEnd U o U' L ({ frames := 2, cells := 0, slots := 0, locals := 24 } : Room).cells ({ frames := 2, cells := 0, slots := 0, locals := 24 } : Room).slots) := by
  refine MetFree.of_bodySF (plainFor_of_name pn_rm16) hisR ?_
  intro p e s m args below meth c s₁ Bd hml0 hP hK
  obtain ⟨rfl, hZ, hh⟩ := hP
  have hx := Bd.exec
  have hby := Bd.bytes
  have hml : c.maxLocals = 4 := hml0
  have hown : s.vm.findClass "com/example/freshet/freshet/Command$Arguments" = some m.cls := findClass_of_methodNamed Bd.named
  have hnm := (name_of_methodNamed Bd.named Bd.method).1
  have X0 : Stand p l e ({ frames := 2, cells := 0, slots := 0, locals := 24 } : Room) s m #[(.ref a1), .null, .null, (.ref a4)] below meth c s₁ [] 0 0 := Stand.of_body Bd
  have e0 : s₁.heap = h0 := by rw [← hh, Bd.state]; rfl
  have N0 := Fr.nil n0
  have pre0 : ∀ t, Steps p.tables e below (s₁.setTop (mkF m 0 #[.val (.ref a1), .val .null, .val .null, .val (.ref a4)] [])) t → Steps p.tables e below (s₁.setTop (entryFrame m #[(.ref a1), .null, .null, (.ref a4)] 4)) t := fun t k => castTop (ef_rm16 m a1 a4) k
  show own_Fin p e below _ _
  refine own_go pre0 ?_
  refine own_go (B := s₁.setTop (mkF m 1 #[.val (.ref a1), .val .null, .val .null, .val (.ref a4)] [(.ref a1)])) (fun t k => ?_) ?_
  · show Steps p.tables e below (s₁.setTop (mkF m 0 #[.val (.ref a1), .val .null, .val .null, .val (.ref a4)] [])) t
    refine XS.aloadN X0.here hx rfl (hb hby d16_0) rfl rfl ?_
    exact k
  obtain ⟨_, _, ⟨T1, L1, k1, n1⟩, -, X1, ⟨Lc1, hQ1, l1, y1, z1⟩, st1⟩ := X0.specialBack hx (y := (⟨"java/lang/Record", "<init>", "()V"⟩ : MethodName)) rfl hown (mvT hZ (hw _ (List.mem_of_getElem? (i := 95) rfl))) (mvT hZ (hw _ (List.mem_of_getElem? (i := 96) rfl))) (mvT hZ (hw _ (List.mem_of_getElem? (i := 99) rfl))) (by decide) (backOf (W := 0) (rm17 l Z a0 hw [] a1 h0 n0 Z0) hZ (hw _ (List.mem_of_getElem? (i := 99) rfl)) (hw _ (List.mem_of_getElem? (i := 98) rfl)) (by decide) (by decide)) (g := (mkF m 1 #[.val (.ref a1), .val .null, .val .null, .val (.ref a4)] [(.ref a1)])) rfl (by rw [hml]; rfl) (Steps.refl _) (a := a1) (argsL := []) (rest := []) (lenOf pd_rm16_0 rfl) rfl (by show 2 * 0 + _ ≤ _; exact Nat.le_of_eq rfl) (hb hby d16_1) (fun _ _ => ⟨rfl, e0, (by decide : 0 + 0 ≤ _), (by decide : 0 + 0 ≤ _)⟩)
  dsimp only [Pt.U, Pt.locs, Pt.cells, Pt.slots] at X1 l1 y1 z1 st1 hQ1
  subst l1 y1 z1
  obtain ⟨rfl, N1q, hh1⟩ := hQ1
  have N1 := Fr.app N0 N1q
  obtain ⟨LL1, X1, N1⟩ := own_abs X1 N1
  refine own_go (fun t k => st1.trans k) ?_
  refine own_go (B := T1.setTop (mkF m 6 #[.val (.ref a1), .val .null, .val .null, .val (.ref a4)] [.null, (.ref a1)])) (fun t k => ?_) ?_
  · show Steps p.tables e below (T1.setTop (mkF m 4 #[.val (.ref a1), .val .null, .val .null, .val (.ref a4)] [])) t
    refine XS.aloadN X1.here hx rfl (hb hby d16_4) rfl rfl ?_
    show Steps p.tables e below (T1.setTop (mkF m 5 #[.val (.ref a1), .val .null, .val .null, .val (.ref a4)] [(.ref a1)])) t
    refine XS.aloadN X1.here hx rfl (hb hby d16_5) rfl rfl ?_
    exact k
  obtain ⟨T2, h2, X2, e2, W2, st2⟩ := putF X1 hx hZ hown (host := "") (Or.inl (hw _ (List.mem_of_getElem? (i := 101) rfl))) Via.refl hh1 F0 E (Or.inr ⟨(hw _ (List.mem_of_getElem? (i := 102) rfl)), rfl, hnm⟩) (hw _ (List.mem_of_getElem? (i := 90) rfl)) (ty := (.object "java/util/Map")) (by decide) rfl rfl (g := (mkF m 6 #[.val (.ref a1), .val .null, .val .null, .val (.ref a4)] [.null, (.ref a1)])) rfl rfl (hb hby d16_6)
  refine own_go (fun t k => st2 t k) ?_
  have N2 := Fr.snoc X2 N1 g_a1
  obtain ⟨LL2, X2, N2⟩ := own_abs X2 N2
  have K2 : Keep h0 h2 [a1] := (Keep.refl h0 [a1]).wr W2 (Or.inl (List.mem_of_getElem? (i := 0) rfl))
  have f2_0 := E.wr W2
  have f2_1 := F0.same W2
  have f2_2 := F1.other W2 (Or.inr (slot_ne (Or.inr (hw _ (List.mem_of_getElem? (i := 104) rfl))) (Or.inr (hw _ (List.mem_of_getElem? (i := 102) rfl))) (by decide) (t := (.object "java/util/Set")) (t' := (.object "java/util/Map")) (by decide) (by decide)))
  have f2_3 := F2.other W2 (Or.inr (slot_ne (Or.inr (hw _ (List.mem_of_getElem? (i := 106) rfl))) (Or.inr (hw _ (List.mem_of_getElem? (i := 102) rfl))) (by decide) (t := (.object "java/util/List")) (t' := (.object "java/util/Map")) (by decide) (by decide)))
  refine own_go (B := T2.setTop (mkF m 11 #[.val (.ref a1), .val .null, .val .null, .val (.ref a4)] [.null, (.ref a1)])) (fun t k => ?_) ?_
  · show Steps p.tables e below (T2.setTop (mkF m 9 #[.val (.ref a1), .val .null, .val .null, .val (.ref a4)] [])) t
    refine XS.aloadN X2.here hx rfl (hb hby d16_9) rfl rfl ?_
    show Steps p.tables e below (T2.setTop (mkF m 10 #[.val (.ref a1), .val .null, .val .null, .val (.ref a4)] [(.ref a1)])) t
    refine XS.aloadN X2.here hx rfl (hb hby d16_10) rfl rfl ?_
    exact k
  obtain ⟨T3, h3, X3, e3, W3, st3⟩ := putF X2 hx hZ hown (host := "") (Or.inl (hw _ (List.mem_of_getElem? (i := 103) rfl))) Via.refl e2 f2_2 f2_0 (Or.inr ⟨(hw _ (List.mem_of_getElem? (i := 104) rfl)), rfl, hnm⟩) (hw _ (List.mem_of_getElem? (i := 90) rfl)) (ty := (.object "java/util/Set")) (by decide) rfl rfl (g := (mkF m 11 #[.val (.ref a1), .val .null, .val .null, .val (.ref a4)] [.null, (.ref a1)])) rfl rfl (hb hby d16_11)
  refine own_go (fun t k => st3 t k) ?_
  have N3 := Fr.snoc X3 N2 g_a1
  obtain ⟨LL3, X3, N3⟩ := own_abs X3 N3
  have K3 : Keep h0 h3 [a1] := K2.wr W3 (Or.inl (List.mem_of_getElem? (i := 0) rfl))
  have f3_0 := f2_0.wr W3
  have f3_1 := f2_1.other W3 (Or.inr (slot_ne (Or.inr (hw _ (List.mem_of_getElem? (i := 102) rfl))) (Or.inr (hw _ (List.mem_of_getElem? (i := 104) rfl))) (by decide) (t := (.object "java/util/Map")) (t' := (.object "java/util/Set")) (by decide) (by decide)))
  have f3_2 := f2_2.same W3
  have f3_3 := f2_3.other W3 (Or.inr (slot_ne (Or.inr (hw _ (List.mem_of_getElem? (i := 106) rfl))) (Or.inr (hw _ (List.mem_of_getElem? (i := 104) rfl))) (by decide) (t := (.object "java/util/List")) (t' := (.object "java/util/Set")) (by decide) (by decide)))
  refine own_go (B := T3.setTop (mkF m 16 #[.val (.ref a1), .val .null, .val .null, .val (.ref a4)] [(.ref a4), (.ref a1)])) (fun t k => ?_) ?_
  · show Steps p.tables e below (T3.setTop (mkF m 14 #[.val (.ref a1), .val .null, .val .null, .val (.ref a4)] [])) t
    refine XS.aloadN X3.here hx rfl (hb hby d16_14) rfl rfl ?_
    show Steps p.tables e below (T3.setTop (mkF m 15 #[.val (.ref a1), .val .null, .val .null, .val (.ref a4)] [(.ref a1)])) t
    refine XS.aloadN X3.here hx rfl (hb hby d16_15) rfl rfl ?_
    exact k
  obtain ⟨T4, h4, X4, e4, W4, st4⟩ := putF X3 hx hZ hown (host := "") (Or.inl (hw _ (List.mem_of_getElem? (i := 105) rfl))) Via.refl e3 f3_3 f3_0 (Or.inr ⟨(hw _ (List.mem_of_getElem? (i := 106) rfl)), rfl, hnm⟩) (hw _ (List.mem_of_getElem? (i := 90) rfl)) (ty := (.object "java/util/List")) (by decide) rfl rfl (g := (mkF m 16 #[.val (.ref a1), .val .null, .val .null, .val (.ref a4)] [(.ref a4), (.ref a1)])) rfl rfl (hb hby d16_16)
  refine own_go (fun t k => st4 t k) ?_
  have N4 := Fr.snoc X4 N3 g_a1
  obtain ⟨LL4, X4, N4⟩ := own_abs X4 N4
  have K4 : Keep h0 h4 [a1] := K3.wr W4 (Or.inl (List.mem_of_getElem? (i := 0) rfl))
  have f4_0 := f3_0.wr W4
  have f4_1 := f3_1.other W4 (Or.inr (slot_ne (Or.inr (hw _ (List.mem_of_getElem? (i := 102) rfl))) (Or.inr (hw _ (List.mem_of_getElem? (i := 106) rfl))) (by decide) (t := (.object "java/util/Map")) (t' := (.object "java/util/List")) (by decide) (by decide)))
  have f4_2 := f3_2.other W4 (Or.inr (slot_ne (Or.inr (hw _ (List.mem_of_getElem? (i := 104) rfl))) (Or.inr (hw _ (List.mem_of_getElem? (i := 106) rfl))) (by decide) (t := (.object "java/util/Set")) (t' := (.object "java/util/List")) (by decide) (by decide)))
  have f4_3 := f3_3.same W4
  obtain ⟨fs, hr, hrun, hended, hW, hsame⟩ := X4.leave (v := none) (fun _ => rfl)
  refine ⟨_, _, ?_, hrun, hended, _, _, rfl, ?_, ⟨_, rfl⟩, hW, hsame.mono (by decide) (by decide)⟩
  · show Steps p.tables e below (T4.setTop (mkF m 19 #[.val (.ref a1), .val .null, .val .null, .val (.ref a4)] [])) _
    exact X4.returnOut hx Bd.returns (hb hby d16_19) hr
  · show Q16 Z a1 a4 u0 u1 u2 h0 n0 _ T4.heap _
    rw [e4]
    exact ⟨rfl, N4, K4, f4_0, f4_3⟩
theorem d19_0 : decode jdk_38_method_9_code 0 = .ok (.aload_n 0, 1) := by decide +kernel
theorem d19_1 : decode jdk_38_method_9_code 1 = .ok (.getfield 48, 3) := by decide +kernel
theorem d19_4 : decode jdk_38_method_9_code 4 = .ok (.ifCond .ne 7, 3) := by decide +kernel
theorem d19_11 : decode jdk_38_method_9_code 11 = .ok (.iconst 0, 1) := by decide +kernel
theorem d19_12 : decode jdk_38_method_9_code 12 = .ok (.ireturn, 1) := by decide +kernel
theorem pn_rm19 : plainName "java/util/ArrayList" = true := by first | (simp [plainName, overriddenIn]; done) | decide +kernel
theorem ef_rm19 (m : MethodId) (x0 : Addr) : entryFrame m #[(.ref x0)] 1 = mkF m 0 #[.val (.ref x0)] [] := by first | (simp [entryFrame, mkF, argsToLocals, Value.category]; done) | rfl
def Q19 (Z : State) (a1 : Addr) (sz : Int32) (h0 : Heap) (n0 : Nat) (v : Option Value) (h : Heap) (L : List Loc) : Prop := v = some (.int (0 : Int32)) ∧ Fr n0 L ∧ h = h0
set_option maxRecDepth 65536 in
set_option maxHeartbeats 40000000 in
theorem rm19 (l : Launch) (Z : State) (a0 : Array Value) (hw : ∀ d ∈ tables_1, d.before a0 Z = true) (ws : List Jvm.Cond) (a1 : Addr) (sz : Int32) (h0 : Heap) (n0 : Nat) (Z0 : n0 ≤ h0.size) (F2 : Fld Z h0 a1 "java/util/ArrayList" "size" "I" (.int sz)) (hs : ¬ sz = 0) :
    MetFree l (⟨"java/util/ArrayList", "isEmpty", "()Z"⟩ : MethodName) (head1 (Jvm.Cond.code (⟨"java/util/ArrayList", "isEmpty", "()Z"⟩ : MethodName) jdk_38_method_9_code 1 (some .boolean) :: ws) ({ frames := 0, cells := 0, slots := 0, locals := 0 } : Room)) (fun a U => a = #[(.ref a1)] ∧ Z.Warmed39 U.vm ∧ U.heap = h0) (fun _ _ _ _ _ => True) (fun _ U o U' => ∃ v L, o = .returned v ∧ Q19 Z a1 sz h0 n0 v U'.heap L ∧ FrameEnd U o U' L ({ frames := 0, cells := 0, slots := 0, locals := 0 } : Room).cells ({ frames := 0, cells := 0, slots := 0, locals := 0 } : Room).slots) := by
  refine MetFree.of_bodySF (plainFor_of_name pn_rm19) hisR ?_
  intro p e s m args below meth c s₁ Bd hml0 hP hK
  obtain ⟨rfl, hZ, hh⟩ := hP
  have hx := Bd.exec
  have hby := Bd.bytes
  have hml : c.maxLocals = 1 := hml0
  have hown : s.vm.findClass "java/util/ArrayList" = some m.cls := findClass_of_methodNamed Bd.named
  have hnm := (name_of_methodNamed Bd.named Bd.method).1
  have X0 : Stand p l e ({ frames := 0, cells := 0, slots := 0, locals := 0 } : Room) s m #[(.ref a1)] below meth c s₁ [] 0 0 := Stand.of_body Bd
  have e0 : s₁.heap = h0 := by rw [← hh, Bd.state]; rfl
  have N0 := Fr.nil n0
  have pre0 : ∀ t, Steps p.tables e below (s₁.setTop (mkF m 0 #[.val (.ref a1)] [])) t → Steps p.tables e below (s₁.setTop (entryFrame m #[(.ref a1)] 1)) t := fun t k => castTop (ef_rm19 m a1) k
  show own_Fin p e below _ _
  refine own_go pre0 ?_
  refine own_go (B := s₁.setTop (mkF m 1 #[.val (.ref a1)] [(.ref a1)])) (fun t k => ?_) ?_
  · show Steps p.tables e below (s₁.setTop (mkF m 0 #[.val (.ref a1)] [])) t
    refine XS.aloadN X0.here hx rfl (hb hby d19_0) rfl rfl ?_
    exact k
  obtain ⟨T1, X1, e1, st1⟩ := getF X0 hx hZ hown (host := "") (Or.inl (hw _ (List.mem_of_getElem? (i := 65) rfl))) Via.refl e0 F2 (g := (mkF m 1 #[.val (.ref a1)] [(.ref a1)])) rfl rfl (hb hby d19_1)
  refine own_go (fun t k => st1 t k) ?_
  refine own_go (B := T1.setTop (mkF m 12 #[.val (.ref a1)] [(.int (0 : Int32))])) (fun t k => ?_) ?_
  · show Steps p.tables e below (T1.setTop (mkF m 4 #[.val (.ref a1)] [(.int sz)])) t
    refine XS.ifYes X1.here hx rfl (pc0 := 4) (pc' := 11) rfl (hb hby d19_4) rfl ((if0 _ _).trans (feq (hs : ¬ (sz = (0 : Int32)))).2) (by decide) (by decide) ?_
    show Steps p.tables e below (T1.setTop (mkF m 11 #[.val (.ref a1)] [])) t
    refine XS.iconst X1.here hx rfl (hb hby d19_11) ?_
    exact k
  obtain ⟨fs, hr, hrun, hended, hW, hsame⟩ := X1.leave (v := some (.int (0 : Int32))) (fun h => by rw [Bd.returns] at h; cases h)
  refine ⟨_, _, ?_, hrun, hended, _, _, rfl, ?_, ⟨_, rfl⟩, hW, hsame.mono (by decide) (by decide)⟩
  · show Steps p.tables e below (T1.setTop (mkF m 12 #[.val (.ref a1)] [(.int (0 : Int32))])) _
    exact retN X1 hx (t := .boolean) Bd.returns (by simp) (hb hby d19_12) hr
  · show Q19 Z a1 sz h0 n0 _ T1.heap _
    rw [e1]
    exact ⟨rfl, N0, rfl⟩
theorem d20_0 : decode jdk_38_method_8_code 0 = .ok (.aload_n 0, 1) := by decide +kernel
theorem d20_1 : decode jdk_38_method_8_code 1 = .ok (.getfield 48, 3) := by decide +kernel
theorem d20_4 : decode jdk_38_method_8_code 4 = .ok (.ireturn, 1) := by decide +kernel
theorem pn_rm20 : plainName "java/util/ArrayList" = true := by first | (simp [plainName, overriddenIn]; done) | decide +kernel
theorem ef_rm20 (m : MethodId) (x0 : Addr) : entryFrame m #[(.ref x0)] 1 = mkF m 0 #[.val (.ref x0)] [] := by first | (simp [entryFrame, mkF, argsToLocals, Value.category]; done) | rfl
def Q20 (Z : State) (a1 : Addr) (sz : Int32) (h0 : Heap) (n0 : Nat) (v : Option Value) (h : Heap) (L : List Loc) : Prop := v = some (.int sz) ∧ Fr n0 L ∧ h = h0
set_option maxRecDepth 65536 in
set_option maxHeartbeats 40000000 in
theorem rm20 (l : Launch) (Z : State) (a0 : Array Value) (hw : ∀ d ∈ tables_1, d.before a0 Z = true) (ws : List Jvm.Cond) (a1 : Addr) (sz : Int32) (h0 : Heap) (n0 : Nat) (Z0 : n0 ≤ h0.size) (F2 : Fld Z h0 a1 "java/util/ArrayList" "size" "I" (.int sz)) :
    MetFree l (⟨"java/util/ArrayList", "size", "()I"⟩ : MethodName) (head1 (Jvm.Cond.code (⟨"java/util/ArrayList", "size", "()I"⟩ : MethodName) jdk_38_method_8_code 1 (some .int) :: ws) ({ frames := 0, cells := 0, slots := 0, locals := 0 } : Room)) (fun a U => a = #[(.ref a1)] ∧ Z.Warmed39 U.vm ∧ U.heap = h0) (fun _ _ _ _ _ => True) (fun _ U o U' => ∃ v L, o = .returned v ∧ Q20 Z a1 sz h0 n0 v U'.heap L ∧ FrameEnd U o U' L ({ frames := 0, cells := 0, slots := 0, locals := 0 } : Room).cells ({ frames := 0, cells := 0, slots := 0, locals := 0 } : Room).slots) := by
  refine MetFree.of_bodySF (plainFor_of_name pn_rm20) hisR ?_
  intro p e s m args below meth c s₁ Bd hml0 hP hK
  obtain ⟨rfl, hZ, hh⟩ := hP
  have hx := Bd.exec
  have hby := Bd.bytes
  have hml : c.maxLocals = 1 := hml0
  have hown : s.vm.findClass "java/util/ArrayList" = some m.cls := findClass_of_methodNamed Bd.named
  have hnm := (name_of_methodNamed Bd.named Bd.method).1
  have X0 : Stand p l e ({ frames := 0, cells := 0, slots := 0, locals := 0 } : Room) s m #[(.ref a1)] below meth c s₁ [] 0 0 := Stand.of_body Bd
  have e0 : s₁.heap = h0 := by rw [← hh, Bd.state]; rfl
  have N0 := Fr.nil n0
  have pre0 : ∀ t, Steps p.tables e below (s₁.setTop (mkF m 0 #[.val (.ref a1)] [])) t → Steps p.tables e below (s₁.setTop (entryFrame m #[(.ref a1)] 1)) t := fun t k => castTop (ef_rm20 m a1) k
  show own_Fin p e below _ _
  refine own_go pre0 ?_
  refine own_go (B := s₁.setTop (mkF m 1 #[.val (.ref a1)] [(.ref a1)])) (fun t k => ?_) ?_
  · show Steps p.tables e below (s₁.setTop (mkF m 0 #[.val (.ref a1)] [])) t
    refine XS.aloadN X0.here hx rfl (hb hby d20_0) rfl rfl ?_
    exact k
  obtain ⟨T1, X1, e1, st1⟩ := getF X0 hx hZ hown (host := "") (Or.inl (hw _ (List.mem_of_getElem? (i := 65) rfl))) Via.refl e0 F2 (g := (mkF m 1 #[.val (.ref a1)] [(.ref a1)])) rfl rfl (hb hby d20_1)
  refine own_go (fun t k => st1 t k) ?_
  obtain ⟨fs, hr, hrun, hended, hW, hsame⟩ := X1.leave (v := some (.int sz)) (fun h => by rw [Bd.returns] at h; cases h)
  refine ⟨_, _, ?_, hrun, hended, _, _, rfl, ?_, ⟨_, rfl⟩, hW, hsame.mono (by decide) (by decide)⟩
  · show Steps p.tables e below (T1.setTop (mkF m 4 #[.val (.ref a1)] [(.int sz)])) _
    exact retI X1 hx Bd.returns (hb hby d20_4) hr
  · show Q20 Z a1 sz h0 n0 _ T1.heap _
    rw [e1]
    exact ⟨rfl, N0, rfl⟩
theorem d18_0 : decode prog_9_method_3_code 0 = .ok (.aload_n 0, 1) := by decide +kernel
theorem d18_1 : decode prog_9_method_3_code 1 = .ok (.getfield 17, 3) := by decide +kernel
theorem d18_4 : decode prog_9_method_3_code 4 = .ok (.invokeinterface 38 1, 5) := by decide +kernel
theorem d18_9 : decode prog_9_method_3_code 9 = .ok (.ifCond .eq 13, 3) := by decide +kernel
theorem d18_22 : decode prog_9_method_3_code 22 = .ok (.aload_n 0, 1) := by decide +kernel
theorem d18_23 : decode prog_9_method_3_code 23 = .ok (.getfield 17, 3) := by decide +kernel
theorem d18_26 : decode prog_9_method_3_code 26 = .ok (.areturn, 1) := by decide +kernel
theorem pn_rm18 : plainName "com/example/freshet/freshet/Command$Arguments" = true := by first | (simp [plainName, overriddenIn]; done) | decide +kernel
theorem pd_rm18_0 : parseMethodDescriptor "()Z" = some ⟨[], some .boolean⟩ := by decide +kernel
theorem ef_rm18 (m : MethodId) (x0 : Addr) : entryFrame m #[(.ref x0)] 1 = mkF m 0 #[.val (.ref x0)] [] := by first | (simp [entryFrame, mkF, argsToLocals, Value.category]; done) | rfl
def Q18 (Z : State) (a1 : Addr) (b : Addr) (sz : Int32) (h0 : Heap) (n0 : Nat) (v : Option Value) (h : Heap) (L : List Loc) : Prop := v = some (.ref b) ∧ Fr n0 L ∧ h = h0
set_option maxRecDepth 65536 in
set_option maxHeartbeats 40000000 in
theorem rm18 (l : Launch) (Z : State) (a0 : Array Value) (hw : ∀ d ∈ tables_1, d.before a0 Z = true) (ws : List Jvm.Cond) (a1 : Addr) (b : Addr) (sz : Int32) (h0 : Heap) (n0 : Nat) (Z0 : n0 ≤ h0.size) (E : Exa Z h0 a1 "com/example/freshet/freshet/Command$Arguments") (F : Fld Z h0 a1 "com/example/freshet/freshet/Command$Arguments" "files" "Ljava/util/List;" (.ref b)) (EB : Exa Z h0 b "java/util/ArrayList") (FB : Fld Z h0 b "java/util/ArrayList" "size" "I" (.int sz)) (hs : ¬ sz = 0) :
    MetFree l (⟨"com/example/freshet/freshet/Command$Arguments", "traceFiles", "()Ljava/util/List;"⟩ : MethodName) (head1 (Jvm.Cond.code (⟨"com/example/freshet/freshet/Command$Arguments", "traceFiles", "()Ljava/util/List;"⟩ : MethodName) prog_9_method_3_code 1 (some (.object "java/util/List")) :: ws) ({ frames := 1, cells := 0, slots := 0, locals := 12 } : Room)) (fun a U => a = #[(.ref a1)] ∧ Z.Warmed39 U.vm ∧ U.heap = h0) (fun _ _ _ _ _ => True) (fun _ U o U' => ∃ v L, o = .returned v ∧ Q18 Z a1 b sz h0 n0 v U'.heap L ∧ FrameEnd U o U' L ({ frames := 1, cells := 0, slots := 0, locals := 12 } : Room).cells ({ frames := 1, cells := 0, slots := 0, locals := 12 } : Room).slots) := by
  refine MetFree.of_bodySF (plainFor_of_name pn_rm18) hisR ?_
  intro p e s m args below meth c s₁ Bd hml0 hP hK
  obtain ⟨rfl, hZ, hh⟩ := hP
  have hx := Bd.exec
  have hby := Bd.bytes
  have hml : c.maxLocals = 1 := hml0
  have hown : s.vm.findClass "com/example/freshet/freshet/Command$Arguments" = some m.cls := findClass_of_methodNamed Bd.named
  have hnm := (name_of_methodNamed Bd.named Bd.method).1
  have X0 : Stand p l e ({ frames := 1, cells := 0, slots := 0, locals := 12 } : Room) s m #[(.ref a1)] below meth c s₁ [] 0 0 := Stand.of_body Bd
  have e0 : s₁.heap = h0 := by rw [← hh, Bd.state]; rfl
  have N0 := Fr.nil n0
  have pre0 : ∀ t, Steps p.tables e below (s₁.setTop (mkF m 0 #[.val (.ref a1)] [])) t → Steps p.tables e below (s₁.setTop (entryFrame m #[(.ref a1)] 1)) t := fun t k => castTop (ef_rm18 m a1) k
  show own_Fin p e below _ _
  refine own_go pre0 ?_
  refine own_go (B := s₁.setTop (mkF m 1 #[.val (.ref a1)] [(.ref a1)])) (fun t k => ?_) ?_
  · show Steps p.tables e below (s₁.setTop (mkF m 0 #[.val (.ref a1)] [])) t
    refine XS.aloadN X0.here hx rfl (hb hby d18_0) rfl rfl ?_
    exact k
  obtain ⟨T1, X1, e1, st1⟩ := getF X0 hx hZ hown (host := "") (Or.inl (hw _ (List.mem_of_getElem? (i := 105) rfl))) Via.refl e0 F (g := (mkF m 1 #[.val (.ref a1)] [(.ref a1)])) rfl rfl (hb hby d18_1)
  refine own_go (fun t k => st1 t k) ?_
  obtain ⟨cq2, kq2, q2a, q2b, q2c⟩ := isOf hZ e1 EB
  obtain ⟨_, _, ⟨T2, L2, k2, n2⟩, -, X2, ⟨Lc2, hQ2, l2, y2, z2⟩, st2⟩ := X1.interfaceBack hx (xi := (⟨"java/util/List", "isEmpty", "()Z"⟩ : MethodName)) (y := (⟨"java/util/ArrayList", "isEmpty", "()Z"⟩ : MethodName)) hown (mvT hZ (hw _ (List.mem_of_getElem? (i := 112) rfl))) (mvT hZ (hw _ (List.mem_of_getElem? (i := 113) rfl))) (mvT hZ (hw _ (List.mem_of_getElem? (i := 114) rfl))) (mvT hZ (hw _ (List.mem_of_getElem? (i := 115) rfl))) (mvT hZ (hw _ (List.mem_of_getElem? (i := 116) rfl))) (mvT hZ (hw _ (List.mem_of_getElem? (i := 117) rfl))) (mvT hZ (hw _ (List.mem_of_getElem? (i := 118) rfl))) (mvT hZ (hw _ (List.mem_of_getElem? (i := 119) rfl))) (by decide) (backOf (W := 0) (rm19 l Z a0 hw [] b sz h0 n0 Z0 FB hs) hZ (hw _ (List.mem_of_getElem? (i := 120) rfl)) (hw _ (List.mem_of_getElem? (i := 36) rfl)) (by decide) (by decide)) q2a q2b q2c (g := (mkF m 4 #[.val (.ref a1)] [(.ref b)])) rfl (by rw [hml]; rfl) (Steps.refl _) (argsL := []) (rest := []) (lenOf pd_rm18_0 rfl) rfl (by show 2 * 0 + _ ≤ _; exact Nat.le_of_eq rfl) (hb hby d18_4) (fun _ _ => ⟨rfl, e1, (by decide : 0 + 0 ≤ _), (by decide : 0 + 0 ≤ _)⟩)
  dsimp only [Pt.U, Pt.locs, Pt.cells, Pt.slots] at X2 l2 y2 z2 st2 hQ2
  subst l2 y2 z2
  obtain ⟨rfl, N2q, hh2⟩ := hQ2
  have N2 := Fr.app N0 N2q
  obtain ⟨LL2, X2, N2⟩ := own_abs X2 N2
  refine own_go (fun t k => st2.trans k) ?_
  refine own_go (B := T2.setTop (mkF m 23 #[.val (.ref a1)] [(.ref a1)])) (fun t k => ?_) ?_
  · show Steps p.tables e below (T2.setTop (mkF m 9 #[.val (.ref a1)] [(.int (0 : Int32))])) t
    refine XS.ifYes X2.here hx rfl (pc0 := 9) (pc' := 22) rfl (hb hby d18_9) rfl ((if0 _ _).trans (teq (by decide : (0 : Int32) = (0 : Int32))).1) (by decide) (by decide) ?_
    show Steps p.tables e below (T2.setTop (mkF m 22 #[.val (.ref a1)] [])) t
    refine XS.aloadN X2.here hx rfl (hb hby d18_22) rfl rfl ?_
    exact k
  obtain ⟨T3, X3, e3, st3⟩ := getF X2 hx hZ hown (host := "") (Or.inl (hw _ (List.mem_of_getElem? (i := 105) rfl))) Via.refl hh2 F (g := (mkF m 23 #[.val (.ref a1)] [(.ref a1)])) rfl rfl (hb hby d18_23)
  refine own_go (fun t k => st3 t k) ?_
  obtain ⟨fs, hr, hrun, hended, hW, hsame⟩ := X3.leave (v := some (.ref b)) (fun h => by rw [Bd.returns] at h; cases h)
  refine ⟨_, _, ?_, hrun, hended, _, _, rfl, ?_, ⟨_, rfl⟩, hW, hsame.mono (by decide) (by decide)⟩
  · show Steps p.tables e below (T3.setTop (mkF m 26 #[.val (.ref a1)] [(.ref b)])) _
    jvm_step X3.here [X3.here.top, hx, (hb hby d18_26), X3.method', Bd.returns, Value.isRef, FieldType.isReference]
    first | (intro acts; rw [hr _ acts rfl rfl rfl]) | rw [hr _ _ rfl rfl rfl]
    exact Steps.refl _
  · show Q18 Z a1 b sz h0 n0 _ T3.heap _
    rw [e3]
    exact ⟨rfl, N2, rfl⟩
theorem d23_0 : decode jdk_41_method_11_code 0 = .ok (.iload_n 0, 1) := by decide +kernel
theorem d23_1 : decode jdk_41_method_11_code 1 = .ok (.ifCond .lt 8, 3) := by decide +kernel
theorem d23_4 : decode jdk_41_method_11_code 4 = .ok (.iload_n 0, 1) := by decide +kernel
theorem d23_5 : decode jdk_41_method_11_code 5 = .ok (.iload_n 1, 1) := by decide +kernel
theorem d23_6 : decode jdk_41_method_11_code 6 = .ok (.if_icmp .lt 10, 3) := by decide +kernel
theorem d23_16 : decode jdk_41_method_11_code 16 = .ok (.iload_n 0, 1) := by decide +kernel
theorem d23_17 : decode jdk_41_method_11_code 17 = .ok (.ireturn, 1) := by decide +kernel
theorem pn_rm23 : plainName "jdk/internal/util/Preconditions" = true := by first | (simp [plainName, overriddenIn]; done) | decide +kernel
theorem ef_rm23 (m : MethodId) (x0 : Int32) (x1 : Int32) : entryFrame m #[(.int x0), (.int x1), .null] 3 = mkF m 0 #[.val (.int x0), .val (.int x1), .val .null] [] := by first | (simp [entryFrame, mkF, argsToLocals, Value.category]; done) | rfl
def Q23 (Z : State) (p1 : Int32) (p2 : Int32) (h0 : Heap) (n0 : Nat) (v : Option Value) (h : Heap) (L : List Loc) : Prop := v = some (.int p1) ∧ Fr n0 L ∧ h = h0
set_option maxRecDepth 65536 in
set_option maxHeartbeats 40000000 in
theorem rm23 (l : Launch) (Z : State) (a0 : Array Value) (hw : ∀ d ∈ tables_1, d.before a0 Z = true) (ws : List Jvm.Cond) (p1 : Int32) (p2 : Int32) (h0 : Heap) (n0 : Nat) (Z0 : n0 ≤ h0.size) (c0 : ¬ p1 < (0 : Int32)) (c1 : p1 < p2) :
    MetFree l (⟨"jdk/internal/util/Preconditions", "checkIndex", "(IILjava/util/function/BiFunction;)I"⟩ : MethodName) (head1 (Jvm.Cond.code (⟨"jdk/internal/util/Preconditions", "checkIndex", "(IILjava/util/function/BiFunction;)I"⟩ : MethodName) jdk_41_method_11_code 3 (some .int) :: ws) ({ frames := 0, cells := 0, slots := 0, locals := 0 } : Room)) (fun a U => a = #[(.int p1), (.int p2), .null] ∧ Z.Warmed39 U.vm ∧ U.heap = h0) (fun _ _ _ _ _ => True) (fun _ U o U' => ∃ v L, o = .returned v ∧ Q23 Z p1 p2 h0 n0 v U'.heap L ∧ FrameEnd U o U' L ({ frames := 0, cells := 0, slots := 0, locals := 0 } : Room).cells ({ frames := 0, cells := 0, slots := 0, locals := 0 } : Room).slots) := by
  refine MetFree.of_bodySF (plainFor_of_name pn_rm23) hisR ?_
  intro p e s m args below meth c s₁ Bd hml0 hP hK
  obtain ⟨rfl, hZ, hh⟩ := hP
  have hx := Bd.exec
  have hby := Bd.bytes
  have hml : c.maxLocals = 3 := hml0
  have hown : s.vm.findClass "jdk/internal/util/Preconditions" = some m.cls := findClass_of_methodNamed Bd.named
  have hnm := (name_of_methodNamed Bd.named Bd.method).1
  have X0 : Stand p l e ({ frames := 0, cells := 0, slots := 0, locals := 0 } : Room) s m #[(.int p1), (.int p2), .null] below meth c s₁ [] 0 0 := Stand.of_body Bd
  have e0 : s₁.heap = h0 := by rw [← hh, Bd.state]; rfl
  have N0 := Fr.nil n0
  have pre0 : ∀ t, Steps p.tables e below (s₁.setTop (mkF m 0 #[.val (.int p1), .val (.int p2), .val .null] [])) t → Steps p.tables e below (s₁.setTop (entryFrame m #[(.int p1), (.int p2), .null] 3)) t := fun t k => castTop (ef_rm23 m p1 p2) k
  show own_Fin p e below _ _
  refine own_go pre0 ?_
  refine own_go (B := s₁.setTop (mkF m 17 #[.val (.int p1), .val (.int p2), .val .null] [(.int p1)])) (fun t k => ?_) ?_
  · show Steps p.tables e below (s₁.setTop (mkF m 0 #[.val (.int p1), .val (.int p2), .val .null] [])) t
    refine XS.iloadN X0.here hx rfl (hb hby d23_0) rfl ?_
    show Steps p.tables e below (s₁.setTop (mkF m 1 #[.val (.int p1), .val (.int p2), .val .null] [(.int p1)])) t
    refine XS.ifNo X0.here hx rfl (hb hby d23_1) rfl ((if0 _ _).trans (flt (c0 : ¬ (p1 < (0 : Int32)))).1) ?_
    show Steps p.tables e below (s₁.setTop (mkF m 4 #[.val (.int p1), .val (.int p2), .val .null] [])) t
    refine XS.iloadN X0.here hx rfl (hb hby d23_4) rfl ?_
    show Steps p.tables e below (s₁.setTop (mkF m 5 #[.val (.int p1), .val (.int p2), .val .null] [(.int p1)])) t
    refine XS.iloadN X0.here hx rfl (hb hby d23_5) rfl ?_
    show Steps p.tables e below (s₁.setTop (mkF m 6 #[.val (.int p1), .val (.int p2), .val .null] [(.int p2), (.int p1)])) t
    refine XS.icmpYes X0.here hx rfl (pc0 := 6) (pc' := 16) rfl (hb hby d23_6) rfl (tlt (c1 : p1 < p2)).1 (by decide) (by decide) ?_
    show Steps p.tables e below (s₁.setTop (mkF m 16 #[.val (.int p1), .val (.int p2), .val .null] [])) t
    refine XS.iloadN X0.here hx rfl (hb hby d23_16) rfl ?_
    exact k
  obtain ⟨fs, hr, hrun, hended, hW, hsame⟩ := X0.leave (v := some (.int p1)) (fun h => by rw [Bd.returns] at h; cases h)
  refine ⟨_, _, ?_, hrun, hended, _, _, rfl, ?_, ⟨_, rfl⟩, hW, hsame.mono (by decide) (by decide)⟩
  · show Steps p.tables e below (s₁.setTop (mkF m 17 #[.val (.int p1), .val (.int p2), .val .null] [(.int p1)])) _
    exact retI X0 hx Bd.returns (hb hby d23_17) hr
  · show Q23 Z p1 p2 h0 n0 _ s₁.heap _
    rw [e0]
    exact ⟨rfl, N0, rfl⟩
theorem d22_0 : decode jdk_31_method_17_code 0 = .ok (.iload_n 0, 1) := by decide +kernel
theorem d22_1 : decode jdk_31_method_17_code 1 = .ok (.iload_n 1, 1) := by decide +kernel
theorem d22_2 : decode jdk_31_method_17_code 2 = .ok (.aconst_null, 1) := by decide +kernel
theorem d22_3 : decode jdk_31_method_17_code 3 = .ok (.invokestatic 105, 3) := by decide +kernel
theorem d22_6 : decode jdk_31_method_17_code 6 = .ok (.ireturn, 1) := by decide +kernel
theorem pn_rm22 : plainName "java/util/Objects" = true := by first | (simp [plainName, overriddenIn]; done) | decide +kernel
theorem pd_rm22_0 : parseMethodDescriptor "(IILjava/util/function/BiFunction;)I" = some ⟨[.int, .int, (.object "java/util/function/BiFunction")], some .int⟩ := by decide +kernel
theorem ef_rm22 (m : MethodId) (x0 : Int32) (x1 : Int32) : entryFrame m #[(.int x0), (.int x1)] 2 = mkF m 0 #[.val (.int x0), .val (.int x1)] [] := by first | (simp [entryFrame, mkF, argsToLocals, Value.category]; done) | rfl
def Q22 (Z : State) (p1 : Int32) (p2 : Int32) (h0 : Heap) (n0 : Nat) (v : Option Value) (h : Heap) (L : List Loc) : Prop := v = some (.int p1) ∧ Fr n0 L ∧ h = h0
set_option maxRecDepth 65536 in
set_option maxHeartbeats 40000000 in
theorem rm22 (l : Launch) (Z : State) (a0 : Array Value) (hw : ∀ d ∈ tables_1, d.before a0 Z = true) (ws : List Jvm.Cond) (p1 : Int32) (p2 : Int32) (h0 : Heap) (n0 : Nat) (Z0 : n0 ≤ h0.size) (c0 : ¬ p1 < (0 : Int32)) (c1 : p1 < p2) :
    MetFree l (⟨"java/util/Objects", "checkIndex", "(II)I"⟩ : MethodName) (head1 (Jvm.Cond.code (⟨"java/util/Objects", "checkIndex", "(II)I"⟩ : MethodName) jdk_31_method_17_code 2 (some .int) :: ws) ({ frames := 1, cells := 0, slots := 0, locals := 14 } : Room)) (fun a U => a = #[(.int p1), (.int p2)] ∧ Z.Warmed39 U.vm ∧ U.heap = h0) (fun _ _ _ _ _ => True) (fun _ U o U' => ∃ v L, o = .returned v ∧ Q22 Z p1 p2 h0 n0 v U'.heap L ∧ FrameEnd U o U' L ({ frames := 1, cells := 0, slots := 0, locals := 14 } : Room).cells ({ frames := 1, cells := 0, slots := 0, locals := 14 } : Room).slots) := by
  refine MetFree.of_bodySF (plainFor_of_name pn_rm22) hisR ?_
  intro p e s m args below meth c s₁ Bd hml0 hP hK
  obtain ⟨rfl, hZ, hh⟩ := hP
  have hx := Bd.exec
  have hby := Bd.bytes
  have hml : c.maxLocals = 2 := hml0
  have hown : s.vm.findClass "java/util/Objects" = some m.cls := findClass_of_methodNamed Bd.named
  have hnm := (name_of_methodNamed Bd.named Bd.method).1
  have X0 : Stand p l e ({ frames := 1, cells := 0, slots := 0, locals := 14 } : Room) s m #[(.int p1), (.int p2)] below meth c s₁ [] 0 0 := Stand.of_body Bd
  have e0 : s₁.heap = h0 := by rw [← hh, Bd.state]; rfl
  have N0 := Fr.nil n0
  have pre0 : ∀ t, Steps p.tables e below (s₁.setTop (mkF m 0 #[.val (.int p1), .val (.int p2)] [])) t → Steps p.tables e below (s₁.setTop (entryFrame m #[(.int p1), (.int p2)] 2)) t := fun t k => castTop (ef_rm22 m p1 p2) k
  show own_Fin p e below _ _
  refine own_go pre0 ?_
  refine own_go (B := s₁.setTop (mkF m 3 #[.val (.int p1), .val (.int p2)] [.null, (.int p2), (.int p1)])) (fun t k => ?_) ?_
  · show Steps p.tables e below (s₁.setTop (mkF m 0 #[.val (.int p1), .val (.int p2)] [])) t
    refine XS.iloadN X0.here hx rfl (hb hby d22_0) rfl ?_
    show Steps p.tables e below (s₁.setTop (mkF m 1 #[.val (.int p1), .val (.int p2)] [(.int p1)])) t
    refine XS.iloadN X0.here hx rfl (hb hby d22_1) rfl ?_
    show Steps p.tables e below (s₁.setTop (mkF m 2 #[.val (.int p1), .val (.int p2)] [(.int p2), (.int p1)])) t
    refine XS.aconstNull X0.here hx rfl (hb hby d22_2) ?_
    exact k
  obtain ⟨_, _, ⟨T1, L1, k1, n1⟩, -, X1, ⟨Lc1, hQ1, l1, y1, z1⟩, st1⟩ := Jvm.LawKit.callS X0 hx (y := (⟨"jdk/internal/util/Preconditions", "checkIndex", "(IILjava/util/function/BiFunction;)I"⟩ : MethodName)) hown (mvT hZ (hw _ (List.mem_of_getElem? (i := 141) rfl))) (mvT hZ (hw _ (List.mem_of_getElem? (i := 142) rfl))) (mvT hZ (hw _ (List.mem_of_getElem? (i := 143) rfl))) (mvT hZ (hw _ (List.mem_of_getElem? (i := 144) rfl))) (by decide) (backOf (W := 0) (rm23 l Z a0 hw [] p1 p2 h0 n0 Z0 c0 c1) hZ (hw _ (List.mem_of_getElem? (i := 144) rfl)) (hw _ (List.mem_of_getElem? (i := 143) rfl)) (by decide) (by decide)) (g := (mkF m 3 #[.val (.int p1), .val (.int p2)] [.null, (.int p2), (.int p1)])) rfl (by rw [hml]; rfl) (argsL := [(.int p1), (.int p2), .null]) (rest := []) (lenOf pd_rm22_0 rfl) rfl (by show 2 * 0 + _ ≤ _; exact Nat.le_of_eq rfl) (hb hby d22_3) (fun _ _ => ⟨rfl, e0, (by decide : 0 + 0 ≤ _), (by decide : 0 + 0 ≤ _)⟩)
  dsimp only [Pt.U, Pt.locs, Pt.cells, Pt.slots] at X1 l1 y1 z1 st1 hQ1
  subst l1 y1 z1
  obtain ⟨rfl, N1q, hh1⟩ := hQ1
  have N1 := Fr.app N0 N1q
  obtain ⟨LL1, X1, N1⟩ := own_abs X1 N1
  refine own_go (fun t k => st1 t k) ?_
  obtain ⟨fs, hr, hrun, hended, hW, hsame⟩ := X1.leave (v := some (.int p1)) (fun h => by rw [Bd.returns] at h; cases h)
  refine ⟨_, _, ?_, hrun, hended, _, _, rfl, ?_, ⟨_, rfl⟩, hW, hsame.mono (by decide) (by decide)⟩
  · show Steps p.tables e below (T1.setTop (mkF m 6 #[.val (.int p1), .val (.int p2)] [(.int p1)])) _
    exact retI X1 hx Bd.returns (hb hby d22_6) hr
  · show Q22 Z p1 p2 h0 n0 _ T1.heap _
    rw [hh1]
    exact ⟨rfl, N1, rfl⟩
theorem d24_0 : decode jdk_38_method_18_code 0 = .ok (.aload_n 0, 1) := by decide +kernel
theorem d24_1 : decode jdk_38_method_18_code 1 = .ok (.getfield 9, 3) := by decide +kernel
theorem d24_4 : decode jdk_38_method_18_code 4 = .ok (.iload_n 1, 1) := by decide +kernel
theorem d24_5 : decode jdk_38_method_18_code 5 = .ok (.aaload, 1) := by decide +kernel
theorem d24_6 : decode jdk_38_method_18_code 6 = .ok (.areturn, 1) := by decide +kernel
theorem pn_rm24 : plainName "java/util/ArrayList" = true := by first | (simp [plainName, overriddenIn]; done) | decide +kernel
theorem ef_rm24 (m : MethodId) (x0 : Addr) (x1 : Int32) : entryFrame m #[(.ref x0), (.int x1)] 2 = mkF m 0 #[.val (.ref x0), .val (.int x1)] [] := by first | (simp [entryFrame, mkF, argsToLocals, Value.category]; done) | rfl
def Q24 (Z : State) (a1 : Addr) (p2 : Int32) (r : Addr) (kA : ClassId) (gA : Nat → Value) (y : Addr) (h0 : Heap) (n0 : Nat) (v : Option Value) (h : Heap) (L : List Loc) : Prop := v = some (.ref y) ∧ Fr n0 L ∧ h = h0
set_option maxRecDepth 65536 in
set_option maxHeartbeats 40000000 in
theorem rm24 (l : Launch) (Z : State) (a0 : Array Value) (hw : ∀ d ∈ tables_1, d.before a0 Z = true) (ws : List Jvm.Cond) (a1 : Addr) (p2 : Int32) (r : Addr) (kA : ClassId) (gA : Nat → Value) (y : Addr) (h0 : Heap) (n0 : Nat) (Z0 : n0 ≤ h0.size) (F1 : Fld Z h0 a1 "java/util/ArrayList" "elementData" "[Ljava/lang/Object;" (.ref r)) (RR : own_Rg Z h0 r kA (10 : Int32) gA) (c0 : ¬ p2 < (0 : Int32)) (c2 : p2 < (10 : Int32)) (hat : gA p2.toNatClampNeg = .ref y) :
    MetFree l (⟨"java/util/ArrayList", "elementData", "(I)Ljava/lang/Object;"⟩ : MethodName) (head1 (Jvm.Cond.code (⟨"java/util/ArrayList", "elementData", "(I)Ljava/lang/Object;"⟩ : MethodName) jdk_38_method_18_code 2 (some (.object "java/lang/Object")) :: ws) ({ frames := 0, cells := 0, slots := 0, locals := 0 } : Room)) (fun a U => a = #[(.ref a1), (.int p2)] ∧ Z.Warmed39 U.vm ∧ U.heap = h0) (fun _ _ _ _ _ => True) (fun _ U o U' => ∃ v L, o = .returned v ∧ Q24 Z a1 p2 r kA gA y h0 n0 v U'.heap L ∧ FrameEnd U o U' L ({ frames := 0, cells := 0, slots := 0, locals := 0 } : Room).cells ({ frames := 0, cells := 0, slots := 0, locals := 0 } : Room).slots) := by
  refine MetFree.of_bodySF (plainFor_of_name pn_rm24) hisR ?_
  intro p e s m args below meth c s₁ Bd hml0 hP hK
  obtain ⟨rfl, hZ, hh⟩ := hP
  have hx := Bd.exec
  have hby := Bd.bytes
  have hml : c.maxLocals = 2 := hml0
  have hown : s.vm.findClass "java/util/ArrayList" = some m.cls := findClass_of_methodNamed Bd.named
  have hnm := (name_of_methodNamed Bd.named Bd.method).1
  have X0 : Stand p l e ({ frames := 0, cells := 0, slots := 0, locals := 0 } : Room) s m #[(.ref a1), (.int p2)] below meth c s₁ [] 0 0 := Stand.of_body Bd
  have e0 : s₁.heap = h0 := by rw [← hh, Bd.state]; rfl
  have N0 := Fr.nil n0
  have pre0 : ∀ t, Steps p.tables e below (s₁.setTop (mkF m 0 #[.val (.ref a1), .val (.int p2)] [])) t → Steps p.tables e below (s₁.setTop (entryFrame m #[(.ref a1), (.int p2)] 2)) t := fun t k => castTop (ef_rm24 m a1 p2) k
  show own_Fin p e below _ _
  refine own_go pre0 ?_
  refine own_go (B := s₁.setTop (mkF m 1 #[.val (.ref a1), .val (.int p2)] [(.ref a1)])) (fun t k => ?_) ?_
  · show Steps p.tables e below (s₁.setTop (mkF m 0 #[.val (.ref a1), .val (.int p2)] [])) t
    refine XS.aloadN X0.here hx rfl (hb hby d24_0) rfl rfl ?_
    exact k
  obtain ⟨T1, X1, e1, st1⟩ := getF X0 hx hZ hown (host := "") (Or.inl (hw _ (List.mem_of_getElem? (i := 56) rfl))) Via.refl e0 F1 (g := (mkF m 1 #[.val (.ref a1), .val (.int p2)] [(.ref a1)])) rfl rfl (hb hby d24_1)
  refine own_go (fun t k => st1 t k) ?_
  refine own_go (B := T1.setTop (mkF m 5 #[.val (.ref a1), .val (.int p2)] [(.int p2), (.ref r)])) (fun t k => ?_) ?_
  · show Steps p.tables e below (T1.setTop (mkF m 4 #[.val (.ref a1), .val (.int p2)] [(.ref r)])) t
    refine XS.iloadN X1.here hx rfl (hb hby d24_4) rfl ?_
    exact k
  obtain ⟨cl2, Ar2, -, hin2, hat2⟩ := RR.get (j := p2) c0 c2
  rw [hat] at hat2
  refine own_go (X1.aaload hx (j := p2) (v := (.ref y)) (by rw [e1]; exact Ar2.1) (State.isArrayOf_alike hZ.alike Ar2.2.1) rfl Ar2.2.2 hin2 hat2 (g := (mkF m 5 #[.val (.ref a1), .val (.int p2)] [(.int p2), (.ref r)])) rfl rfl (hb hby d24_5)) ?_
  obtain ⟨fs, hr, hrun, hended, hW, hsame⟩ := X1.leave (v := some (.ref y)) (fun h => by rw [Bd.returns] at h; cases h)
  refine ⟨_, _, ?_, hrun, hended, _, _, rfl, ?_, ⟨_, rfl⟩, hW, hsame.mono (by decide) (by decide)⟩
  · show Steps p.tables e below (T1.setTop (mkF m 6 #[.val (.ref a1), .val (.int p2)] [(.ref y)])) _
    jvm_step X1.here [X1.here.top, hx, (hb hby d24_6), X1.method', Bd.returns, Value.isRef, FieldType.isReference]
    first | (intro acts; rw [hr _ acts rfl rfl rfl]) | rw [hr _ _ rfl rfl rfl]
    exact Steps.refl _
  · show Q24 Z a1 p2 r kA gA y h0 n0 _ T1.heap _
    rw [e1]
    exact ⟨rfl, N0, rfl⟩
theorem d21_0 : decode jdk_38_method_20_code 0 = .ok (.iload_n 1, 1) := by decide +kernel
theorem d21_1 : decode jdk_38_method_20_code 1 = .ok (.aload_n 0, 1) := by decide +kernel
theorem d21_2 : decode jdk_38_method_20_code 2 = .ok (.getfield 48, 3) := by decide +kernel
theorem d21_5 : decode jdk_38_method_20_code 5 = .ok (.invokestatic 118, 3) := by decide +kernel
theorem d21_8 : decode jdk_38_method_20_code 8 = .ok (.pop, 1) := by decide +kernel
theorem d21_9 : decode jdk_38_method_20_code 9 = .ok (.aload_n 0, 1) := by decide +kernel
theorem d21_10 : decode jdk_38_method_20_code 10 = .ok (.iload_n 1, 1) := by decide +kernel
theorem d21_11 : decode jdk_38_method_20_code 11 = .ok (.invokevirtual 123, 3) := by decide +kernel
theorem d21_14 : decode jdk_38_method_20_code 14 = .ok (.areturn, 1) := by decide +kernel
theorem pn_rm21 : plainName "java/util/ArrayList" = true := by first | (simp [plainName, overriddenIn]; done) | decide +kernel
theorem pd_rm21_0 : parseMethodDescriptor "(II)I" = some ⟨[.int, .int], some .int⟩ := by decide +kernel
theorem pd_rm21_1 : parseMethodDescriptor "(I)Ljava/lang/Object;" = some ⟨[.int], some (.object "java/lang/Object")⟩ := by decide +kernel
theorem ef_rm21 (m : MethodId) (x0 : Addr) (x1 : Int32) : entryFrame m #[(.ref x0), (.int x1)] 2 = mkF m 0 #[.val (.ref x0), .val (.int x1)] [] := by first | (simp [entryFrame, mkF, argsToLocals, Value.category]; done) | rfl
def Q21 (Z : State) (a1 : Addr) (p2 : Int32) (r : Addr) (kA : ClassId) (gA : Nat → Value) (y : Addr) (sz : Int32) (h0 : Heap) (n0 : Nat) (v : Option Value) (h : Heap) (L : List Loc) : Prop := v = some (.ref y) ∧ Fr n0 L ∧ h = h0
set_option maxRecDepth 65536 in
set_option maxHeartbeats 40000000 in
theorem rm21 (l : Launch) (Z : State) (a0 : Array Value) (hw : ∀ d ∈ tables_1, d.before a0 Z = true) (ws : List Jvm.Cond) (a1 : Addr) (p2 : Int32) (r : Addr) (kA : ClassId) (gA : Nat → Value) (y : Addr) (sz : Int32) (h0 : Heap) (n0 : Nat) (Z0 : n0 ≤ h0.size) (F1 : Fld Z h0 a1 "java/util/ArrayList" "elementData" "[Ljava/lang/Object;" (.ref r)) (RR : own_Rg Z h0 r kA (10 : Int32) gA) (c0 : ¬ p2 < (0 : Int32)) (c2 : p2 < (10 : Int32)) (hat : gA p2.toNatClampNeg = .ref y) (F2 : Fld Z h0 a1 "java/util/ArrayList" "size" "I" (.int sz)) (c1 : p2 < sz) (E : Exa Z h0 a1 "java/util/ArrayList") :
    MetFree l (⟨"java/util/ArrayList", "get", "(I)Ljava/lang/Object;"⟩ : MethodName) (head1 (Jvm.Cond.code (⟨"java/util/ArrayList", "get", "(I)Ljava/lang/Object;"⟩ : MethodName) jdk_38_method_20_code 2 (some (.object "java/lang/Object")) :: ws) ({ frames := 2, cells := 0, slots := 0, locals := 27 } : Room)) (fun a U => a = #[(.ref a1), (.int p2)] ∧ Z.Warmed39 U.vm ∧ U.heap = h0) (fun _ _ _ _ _ => True) (fun _ U o U' => ∃ v L, o = .returned v ∧ Q21 Z a1 p2 r kA gA y sz h0 n0 v U'.heap L ∧ FrameEnd U o U' L ({ frames := 2, cells := 0, slots := 0, locals := 27 } : Room).cells ({ frames := 2, cells := 0, slots := 0, locals := 27 } : Room).slots) := by
  refine MetFree.of_bodySF (plainFor_of_name pn_rm21) hisR ?_
  intro p e s m args below meth c s₁ Bd hml0 hP hK
  obtain ⟨rfl, hZ, hh⟩ := hP
  have hx := Bd.exec
  have hby := Bd.bytes
  have hml : c.maxLocals = 2 := hml0
  have hown : s.vm.findClass "java/util/ArrayList" = some m.cls := findClass_of_methodNamed Bd.named
  have hnm := (name_of_methodNamed Bd.named Bd.method).1
  have X0 : Stand p l e ({ frames := 2, cells := 0, slots := 0, locals := 27 } : Room) s m #[(.ref a1), (.int p2)] below meth c s₁ [] 0 0 := Stand.of_body Bd
  have e0 : s₁.heap = h0 := by rw [← hh, Bd.state]; rfl
  have N0 := Fr.nil n0
  have pre0 : ∀ t, Steps p.tables e below (s₁.setTop (mkF m 0 #[.val (.ref a1), .val (.int p2)] [])) t → Steps p.tables e below (s₁.setTop (entryFrame m #[(.ref a1), (.int p2)] 2)) t := fun t k => castTop (ef_rm21 m a1 p2) k
  show own_Fin p e below _ _
  refine own_go pre0 ?_
  refine own_go (B := s₁.setTop (mkF m 2 #[.val (.ref a1), .val (.int p2)] [(.ref a1), (.int p2)])) (fun t k => ?_) ?_
  · show Steps p.tables e below (s₁.setTop (mkF m 0 #[.val (.ref a1), .val (.int p2)] [])) t
    refine XS.iloadN X0.here hx rfl (hb hby d21_0) rfl ?_
    show Steps p.tables e below (s₁.setTop (mkF m 1 #[.val (.ref a1), .val (.int p2)] [(.int p2)])) t
    refine XS.aloadN X0.here hx rfl (hb hby d21_1) rfl rfl ?_
    exact k
  obtain ⟨T1, X1, e1, st1⟩ := getF X0 hx hZ hown (host := "") (Or.inl (hw _ (List.mem_of_getElem? (i := 65) rfl))) Via.refl e0 F2 (g := (mkF m 2 #[.val (.ref a1), .val (.int p2)] [(.ref a1), (.int p2)])) rfl rfl (hb hby d21_2)
  refine own_go (fun t k => st1 t k) ?_
  obtain ⟨_, _, ⟨T2, L2, k2, n2⟩, -, X2, ⟨Lc2, hQ2, l2, y2, z2⟩, st2⟩ := Jvm.LawKit.callS X1 hx (y := (⟨"java/util/Objects", "checkIndex", "(II)I"⟩ : MethodName)) hown (mvT hZ (hw _ (List.mem_of_getElem? (i := 137) rfl))) (mvT hZ (hw _ (List.mem_of_getElem? (i := 138) rfl))) (mvT hZ (hw _ (List.mem_of_getElem? (i := 139) rfl))) (mvT hZ (hw _ (List.mem_of_getElem? (i := 140) rfl))) (by decide) (backOf (W := 0) (rm22 l Z a0 hw [] p2 sz h0 n0 Z0 c0 c1) hZ (hw _ (List.mem_of_getElem? (i := 140) rfl)) (hw _ (List.mem_of_getElem? (i := 139) rfl)) (by decide) (by decide)) (g := (mkF m 5 #[.val (.ref a1), .val (.int p2)] [(.int sz), (.int p2)])) rfl (by rw [hml]; rfl) (argsL := [(.int p2), (.int sz)]) (rest := []) (lenOf pd_rm21_0 rfl) rfl (by show 2 * 0 + _ ≤ _; exact Nat.le_of_eq rfl) (hb hby d21_5) (fun _ _ => ⟨rfl, e1, (by decide : 0 + 0 ≤ _), (by decide : 0 + 0 ≤ _)⟩)
  dsimp only [Pt.U, Pt.locs, Pt.cells, Pt.slots] at X2 l2 y2 z2 st2 hQ2
  subst l2 y2 z2
  obtain ⟨rfl, N2q, hh2⟩ := hQ2
  have N2 := Fr.app N0 N2q
  obtain ⟨LL2, X2, N2⟩ := own_abs X2 N2
  refine own_go (fun t k => st2 t k) ?_
  refine own_go (B := T2.setTop (mkF m 11 #[.val (.ref a1), .val (.int p2)] [(.int p2), (.ref a1)])) (fun t k => ?_) ?_
  · show Steps p.tables e below (T2.setTop (mkF m 8 #[.val (.ref a1), .val (.int p2)] [(.int p2)])) t
    refine XS.pop X2.here hx rfl (hb hby d21_8) rfl rfl ?_
    show Steps p.tables e below (T2.setTop (mkF m 9 #[.val (.ref a1), .val (.int p2)] [])) t
    refine XS.aloadN X2.here hx rfl (hb hby d21_9) rfl rfl ?_
    show Steps p.tables e below (T2.setTop (mkF m 10 #[.val (.ref a1), .val (.int p2)] [(.ref a1)])) t
    refine XS.iloadN X2.here hx rfl (hb hby d21_10) rfl ?_
    exact k
  obtain ⟨cq3, kq3, q3a, q3b, q3c⟩ := isOf hZ hh2 E
  obtain ⟨_, _, ⟨T3, L3, k3, n3⟩, -, X3, ⟨Lc3, hQ3, l3, y3, z3⟩, st3⟩ := X2.virtualBack hx (y := (⟨"java/util/ArrayList", "elementData", "(I)Ljava/lang/Object;"⟩ : MethodName)) (z := (⟨"java/util/ArrayList", "elementData", "(I)Ljava/lang/Object;"⟩ : MethodName)) hown (mvT hZ (hw _ (List.mem_of_getElem? (i := 145) rfl))) (mvT hZ (hw _ (List.mem_of_getElem? (i := 146) rfl))) (notFace_of_selects (args := #[]) (mvT hZ (hw _ (List.mem_of_getElem? (i := 148) rfl)))) (mvT hZ (hw _ (List.mem_of_getElem? (i := 148) rfl))) (mvT hZ (hw _ (List.mem_of_getElem? (i := 147) rfl))) (by decide) (backOf (W := 0) (rm24 l Z a0 hw [] a1 p2 r kA gA y h0 n0 Z0 F1 RR c0 c2 hat) hZ (hw _ (List.mem_of_getElem? (i := 149) rfl)) (hw _ (List.mem_of_getElem? (i := 36) rfl)) (by decide) (by decide)) q3a q3c (g := (mkF m 11 #[.val (.ref a1), .val (.int p2)] [(.int p2), (.ref a1)])) rfl (by rw [hml]; rfl) (Steps.refl _) (argsL := [(.int p2)]) (rest := []) (lenOf pd_rm21_1 rfl) rfl (by show 2 * 0 + _ ≤ _; exact Nat.le_of_eq rfl) (hb hby d21_11) (fun _ _ => ⟨rfl, hh2, (by decide : 0 + 0 ≤ _), (by decide : 0 + 0 ≤ _)⟩)
  dsimp only [Pt.U, Pt.locs, Pt.cells, Pt.slots] at X3 l3 y3 z3 st3 hQ3
  subst l3 y3 z3
  obtain ⟨rfl, N3q, hh3⟩ := hQ3
  have N3 := Fr.app N2 N3q
  obtain ⟨LL3, X3, N3⟩ := own_abs X3 N3
  refine own_go (fun t k => st3.trans k) ?_
  obtain ⟨fs, hr, hrun, hended, hW, hsame⟩ := X3.leave (v := some (.ref y)) (fun h => by rw [Bd.returns] at h; cases h)
  refine ⟨_, _, ?_, hrun, hended, _, _, rfl, ?_, ⟨_, rfl⟩, hW, hsame.mono (by decide) (by decide)⟩
  · show Steps p.tables e below (T3.setTop (mkF m 14 #[.val (.ref a1), .val (.int p2)] [(.ref y)])) _
    jvm_step X3.here [X3.here.top, hx, (hb hby d21_14), X3.method', Bd.returns, Value.isRef, FieldType.isReference]
    first | (intro acts; rw [hr _ acts rfl rfl rfl]) | rw [hr _ _ rfl rfl rfl]
    exact Steps.refl _
  · show Q21 Z a1 p2 r kA gA y sz h0 n0 _ T3.heap _
    rw [hh3]
    exact ⟨rfl, N3, rfl⟩
theorem d25_0 : decode jdk_42_method_66_code 0 = .ok (.aload_n 0, 1) := by decide +kernel
theorem d25_1 : decode jdk_42_method_66_code 1 = .ok (.aload_n 1, 1) := by decide +kernel
theorem d25_2 : decode jdk_42_method_66_code 2 = .ok (.if_acmp .ne 5, 3) := by decide +kernel
theorem d25_5 : decode jdk_42_method_66_code 5 = .ok (.iconst 1, 1) := by decide +kernel
theorem d25_6 : decode jdk_42_method_66_code 6 = .ok (.ireturn, 1) := by decide +kernel
theorem pn_rm25 : plainName "java/lang/String" = true := by first | (simp [plainName, overriddenIn]; done) | decide +kernel
theorem ef_rm25 (m : MethodId) (x0 : Addr) (x1 : Addr) : entryFrame m #[(.ref x0), (.ref x1)] 3 = mkF m 0 #[.val (.ref x0), .val (.ref x1), .unset] [] := by first | (simp [entryFrame, mkF, argsToLocals, Value.category]; done) | rfl
def Q25 (Z : State) (a1 : Addr) (h0 : Heap) (n0 : Nat) (v : Option Value) (h : Heap) (L : List Loc) : Prop := v = some (.int (1 : Int32)) ∧ Fr n0 L ∧ h = h0
set_option maxRecDepth 65536 in
set_option maxHeartbeats 40000000 in
theorem rm25 (l : Launch) (Z : State) (a0 : Array Value) (hw : ∀ d ∈ tables_1, d.before a0 Z = true) (ws : List Jvm.Cond) (a1 : Addr) (h0 : Heap) (n0 : Nat) (Z0 : n0 ≤ h0.size) :
    MetFree l (⟨"java/lang/String", "equals", "(Ljava/lang/Object;)Z"⟩ : MethodName) (head1 (Jvm.Cond.code (⟨"java/lang/String", "equals", "(Ljava/lang/Object;)Z"⟩ : MethodName) jdk_42_method_66_code 3 (some .boolean) :: ws) ({ frames := 0, cells := 0, slots := 0, locals := 0 } : Room)) (fun a U => a = #[(.ref a1), (.ref a1)] ∧ Z.Warmed39 U.vm ∧ U.heap = h0) (fun _ _ _ _ _ => True) (fun _ U o U' => ∃ v L, o = .returned v ∧ Q25 Z a1 h0 n0 v U'.heap L ∧ FrameEnd U o U' L ({ frames := 0, cells := 0, slots := 0, locals := 0 } : Room).cells ({ frames := 0, cells := 0, slots := 0, locals := 0 } : Room).slots) := by
  refine MetFree.of_bodySF (plainFor_of_name pn_rm25) hisR ?_
  intro p e s m args below meth c s₁ Bd hml0 hP hK
  obtain ⟨rfl, hZ, hh⟩ := hP
  have hx := Bd.exec
  have hby := Bd.bytes
  have hml : c.maxLocals = 3 := hml0
  have hown : s.vm.findClass "java/lang/String" = some m.cls := findClass_of_methodNamed Bd.named
  have hnm := (name_of_methodNamed Bd.named Bd.method).1
  have X0 : Stand p l e ({ frames := 0, cells := 0, slots := 0, locals := 0 } : Room) s m #[(.ref a1), (.ref a1)] below meth c s₁ [] 0 0 := Stand.of_body Bd
  have e0 : s₁.heap = h0 := by rw [← hh, Bd.state]; rfl
  have N0 := Fr.nil n0
  have pre0 : ∀ t, Steps p.tables e below (s₁.setTop (mkF m 0 #[.val (.ref a1), .val (.ref a1), .unset] [])) t → Steps p.tables e below (s₁.setTop (entryFrame m #[(.ref a1), (.ref a1)] 3)) t := fun t k => castTop (ef_rm25 m a1 a1) k
  show own_Fin p e below _ _
  refine own_go pre0 ?_
  refine own_go (B := s₁.setTop (mkF m 6 #[.val (.ref a1), .val (.ref a1), .unset] [(.int (1 : Int32))])) (fun t k => ?_) ?_
  · show Steps p.tables e below (s₁.setTop (mkF m 0 #[.val (.ref a1), .val (.ref a1), .unset] [])) t
    refine XS.aloadN X0.here hx rfl (hb hby d25_0) rfl rfl ?_
    show Steps p.tables e below (s₁.setTop (mkF m 1 #[.val (.ref a1), .val (.ref a1), .unset] [(.ref a1)])) t
    refine XS.aloadN X0.here hx rfl (hb hby d25_1) rfl rfl ?_
    show Steps p.tables e below (s₁.setTop (mkF m 2 #[.val (.ref a1), .val (.ref a1), .unset] [(.ref a1), (.ref a1)])) t
    refine Jvm.RoadKit.acmp (g := (mkF m 2 #[.val (.ref a1), .val (.ref a1), .unset] [(.ref a1), (.ref a1)])) X0 hx rfl rfl rfl (pc0 := 2) (pc' := 5) (same := true) rfl (hb hby d25_2) rfl (decide_eq_true rfl) (by decide) (by decide) ?_
    show Steps p.tables e below (s₁.setTop (mkF m 5 #[.val (.ref a1), .val (.ref a1), .unset] [])) t
    refine XS.iconst X0.here hx rfl (hb hby d25_5) ?_
    exact k
  obtain ⟨fs, hr, hrun, hended, hW, hsame⟩ := X0.leave (v := some (.int (1 : Int32))) (fun h => by rw [Bd.returns] at h; cases h)
  refine ⟨_, _, ?_, hrun, hended, _, _, rfl, ?_, ⟨_, rfl⟩, hW, hsame.mono (by decide) (by decide)⟩
  · show Steps p.tables e below (s₁.setTop (mkF m 6 #[.val (.ref a1), .val (.ref a1), .unset] [(.int (1 : Int32))])) _
    exact retN X0 hx (t := .boolean) Bd.returns (by simp) (hb hby d25_6) hr
  · show Q25 Z a1 h0 n0 _ s₁.heap _
    rw [e0]
    exact ⟨rfl, N0, rfl⟩
theorem pn_rm0 : plainName "com/example/freshet/freshet/ArgumentsTraceFilesPinLaw" = true := by first | (simp [plainName, overriddenIn]; done) | decide +kernel
theorem pd_rm0_0 : parseMethodDescriptor "(I)Ljava/lang/String;" = some ⟨[.int], some (.object "java/lang/String")⟩ := by decide +kernel
theorem pd_rm0_1 : parseMethodDescriptor "()V" = some ⟨[], none⟩ := by decide +kernel
theorem pd_rm0_2 : parseMethodDescriptor "(Ljava/lang/Object;)Z" = some ⟨[(.object "java/lang/Object")], some .boolean⟩ := by decide +kernel
theorem pd_rm0_3 : parseMethodDescriptor "(Ljava/util/Map;Ljava/util/Set;Ljava/util/List;)V" = some ⟨[(.object "java/util/Map"), (.object "java/util/Set"), (.object "java/util/List")], none⟩ := by decide +kernel
theorem pd_rm0_4 : parseMethodDescriptor "()Ljava/util/List;" = some ⟨[], some (.object "java/util/List")⟩ := by decide +kernel
theorem pd_rm0_5 : parseMethodDescriptor "()I" = some ⟨[], some .int⟩ := by decide +kernel
theorem pd_rm0_6 : parseMethodDescriptor "(I)Ljava/lang/Object;" = some ⟨[.int], some (.object "java/lang/Object")⟩ := by decide +kernel
theorem ef_rm0 (m : MethodId) (x0 : Int32) (x1 : Int32) (x2 : Int32) (x3 : Int32) (x4 : Int32) : entryFrame m #[(.int x0), (.int x1), (.int x2), (.int x3), (.int x4)] maxLocals = mkF m 0 #[.val (.int x0), .val (.int x1), .val (.int x2), .val (.int x3), .val (.int x4), .unset, .unset, .unset, .unset, .unset, .unset, .unset, .unset, .unset] [] := by first | (simp [entryFrame, mkF, argsToLocals, Value.category, maxLocals]; done) | rfl
def Q0 (Z : State) (p1 : Int32) (p2 : Int32) (p3 : Int32) (p4 : Int32) (p5 : Int32) (cz : Int32) (eD : Addr) (kD : ClassId) (gD : Nat → Value) (h0 : Heap) (n0 : Nat) (v : Option Value) (h : Heap) (L : List Loc) : Prop := v = some (.int (1 : Int32)) ∧ Fr n0 L
set_option maxRecDepth 65536 in
set_option maxHeartbeats 40000000 in
theorem rm0 (l : Launch) (Z : State) (a0 : Array Value) (hw : ∀ d ∈ tables_1, d.before a0 Z = true) (ws : List Jvm.Cond) (p1 : Int32) (p2 : Int32) (p3 : Int32) (p4 : Int32) (p5 : Int32) (cz : Int32) (eD : Addr) (kD : ClassId) (gD : Nat → Value) (h0 : Heap) (n0 : Nat) (Z0 : n0 ≤ h0.size) (SC : Sta Z h0 "java/lang/String" "COMPACT_STRINGS" "Z" (.int cz)) (hz : ¬ cz = 0) (SD : Sta Z h0 "java/util/ArrayList" "DEFAULTCAPACITY_EMPTY_ELEMENTDATA" "[Ljava/lang/Object;" (.ref eD)) (RD : own_Rg Z h0 eD kD (0 : Int32) gD) :
    MetFree l x (head1 (Jvm.Cond.code x code maxLocals ret :: ws) room_1) (fun a U => a = #[(.int p1), (.int p2), (.int p3), (.int p4), (.int p5)] ∧ Z.Warmed39 U.vm ∧ U.heap = h0) (fun _ _ _ _ _ => True) (fun _ U o U' => ∃ v L, o = .returned v ∧ Q0 Z p1 p2 p3 p4 p5 cz eD kD gD h0 n0 v U'.heap L ∧ FrameEnd U o U' L room_1.cells room_1.slots) := by
  refine MetFree.of_bodySF (plainFor_of_name pn_rm0) hisR ?_
  intro p e s m args below meth c s₁ Bd hml0 hP hK
  obtain ⟨rfl, hZ, hh⟩ := hP
  have hx := Bd.exec
  have hby := Bd.bytes
  have hml : c.maxLocals = 14 := hml0
  have hown : s.vm.findClass "com/example/freshet/freshet/ArgumentsTraceFilesPinLaw" = some m.cls := findClass_of_methodNamed Bd.named
  have hnm := (name_of_methodNamed Bd.named Bd.method).1
  have X0 : Stand p l e room_1 s m #[(.int p1), (.int p2), (.int p3), (.int p4), (.int p5)] below meth c s₁ [] 0 0 := Stand.of_body Bd
  have e0 : s₁.heap = h0 := by rw [← hh, Bd.state]; rfl
  have N0 := Fr.nil n0
  have pre0 : ∀ t, Steps p.tables e below (s₁.setTop (mkF m 0 #[.val (.int p1), .val (.int p2), .val (.int p3), .val (.int p4), .val (.int p5), .unset, .unset, .unset, .unset, .unset, .unset, .unset, .unset, .unset] [])) t → Steps p.tables e below (s₁.setTop (entryFrame m #[(.int p1), (.int p2), (.int p3), (.int p4), (.int p5)] maxLocals)) t := fun t k => castTop (ef_rm0 m p1 p2 p3 p4 p5) k
  show own_Fin p e below _ _
  refine own_go pre0 ?_
  refine own_go (B := s₁.setTop (mkF m 7 #[.val (.int p1), .val (.int p2), .val (.int p3), .val (.int p4), .val (.int p5), .val (.int ((1 : Int32) + (p1 &&& (3 : Int32)))), .unset, .unset, .unset, .unset, .unset, .unset, .unset, .unset] [])) (fun t k => ?_) ?_
  · show Steps p.tables e below (s₁.setTop (mkF m 0 #[.val (.int p1), .val (.int p2), .val (.int p3), .val (.int p4), .val (.int p5), .unset, .unset, .unset, .unset, .unset, .unset, .unset, .unset, .unset] [])) t
    refine XS.iconst X0.here hx rfl (hb hby at_0) ?_
    show Steps p.tables e below (s₁.setTop (mkF m 1 #[.val (.int p1), .val (.int p2), .val (.int p3), .val (.int p4), .val (.int p5), .unset, .unset, .unset, .unset, .unset, .unset, .unset, .unset, .unset] [(.int (1 : Int32))])) t
    refine XS.iloadN X0.here hx rfl (hb hby at_1) rfl ?_
    show Steps p.tables e below (s₁.setTop (mkF m 2 #[.val (.int p1), .val (.int p2), .val (.int p3), .val (.int p4), .val (.int p5), .unset, .unset, .unset, .unset, .unset, .unset, .unset, .unset, .unset] [(.int p1), (.int (1 : Int32))])) t
    refine XS.iconst X0.here hx rfl (hb hby at_2) ?_
    show Steps p.tables e below (s₁.setTop (mkF m 3 #[.val (.int p1), .val (.int p2), .val (.int p3), .val (.int p4), .val (.int p5), .unset, .unset, .unset, .unset, .unset, .unset, .unset, .unset, .unset] [(.int (3 : Int32)), (.int p1), (.int (1 : Int32))])) t
    refine XS.iand X0.here hx rfl (hb hby at_3) rfl ?_
    show Steps p.tables e below (s₁.setTop (mkF m 4 #[.val (.int p1), .val (.int p2), .val (.int p3), .val (.int p4), .val (.int p5), .unset, .unset, .unset, .unset, .unset, .unset, .unset, .unset, .unset] [(.int (p1 &&& (3 : Int32))), (.int (1 : Int32))])) t
    refine XS.iadd X0.here hx rfl (hb hby at_4) rfl ?_
    show Steps p.tables e below (s₁.setTop (mkF m 5 #[.val (.int p1), .val (.int p2), .val (.int p3), .val (.int p4), .val (.int p5), .unset, .unset, .unset, .unset, .unset, .unset, .unset, .unset, .unset] [(.int ((1 : Int32) + (p1 &&& (3 : Int32))))])) t
    refine XS.istore X0.here hx rfl (hb hby at_5) rfl (l' := #[.val (.int p1), .val (.int p2), .val (.int p3), .val (.int p4), .val (.int p5), .val (.int ((1 : Int32) + (p1 &&& (3 : Int32)))), .unset, .unset, .unset, .unset, .unset, .unset, .unset, .unset]) rfl ?_
    exact k
  obtain ⟨kk, hkk⟩ : ∃ z : Int32, z = ((1 : Int32) + (p1 &&& (3 : Int32))) := ⟨_, rfl⟩
  rw [← hkk]
  refine own_go (B := s₁.setTop (mkF m 8 #[.val (.int p1), .val (.int p2), .val (.int p3), .val (.int p4), .val (.int p5), .val (.int kk), .unset, .unset, .unset, .unset, .unset, .unset, .unset, .unset] [(.int p2)])) (fun t k => ?_) ?_
  · show Steps p.tables e below (s₁.setTop (mkF m 7 #[.val (.int p1), .val (.int p2), .val (.int p3), .val (.int p4), .val (.int p5), .val (.int kk), .unset, .unset, .unset, .unset, .unset, .unset, .unset, .unset] [])) t
    refine XS.iloadN X0.here hx rfl (hb hby at_7) rfl ?_
    exact k
  have M1 := rm1 l Z a0 hw [] p2 cz h0 n0 Z0 SC hz
  obtain ⟨_, _, ⟨T1, L1, k1, n1⟩, -, X1, ⟨Lc1, hQ1, l1, y1, z1⟩, st1⟩ := Jvm.LawKit.callS X0 hx (y := (⟨"com/example/freshet/freshet/ArgumentsTraceFilesPinLaw", "name", "(I)Ljava/lang/String;"⟩ : MethodName)) hown (mvT hZ (hw _ (List.mem_of_getElem? (i := 0) rfl))) (mvT hZ (hw _ (List.mem_of_getElem? (i := 1) rfl))) (mvT hZ (hw _ (List.mem_of_getElem? (i := 2) rfl))) (mvT hZ (hw _ (List.mem_of_getElem? (i := 3) rfl))) (by decide) (backOf (W := 0) (M1) hZ (hw _ (List.mem_of_getElem? (i := 3) rfl)) (hw _ (List.mem_of_getElem? (i := 2) rfl)) (by decide) (by decide)) (g := (mkF m 8 #[.val (.int p1), .val (.int p2), .val (.int p3), .val (.int p4), .val (.int p5), .val (.int kk), .unset, .unset, .unset, .unset, .unset, .unset, .unset, .unset] [(.int p2)])) rfl (by rw [hml]; rfl) (argsL := [(.int p2)]) (rest := []) (lenOf pd_rm0_0 rfl) rfl (by show 2 * 0 + _ ≤ _; exact Nat.le_of_eq rfl) (hb hby at_8) (fun _ _ => ⟨rfl, e0, (by decide : 0 + 3 ≤ _), (by decide : 0 + 8 ≤ _)⟩)
  dsimp only [Pt.U, Pt.locs, Pt.cells, Pt.slots] at X1 l1 y1 z1 st1 hQ1
  subst l1 y1 z1
  obtain ⟨s1, rfl, N1q, K1, Es1⟩ := hQ1
  have N1 := Fr.app N0 N1q
  obtain ⟨LL1, X1, N1⟩ := own_abs X1 N1
  refine own_go (fun t k => st1 t k) ?_
  have f1_0 := own_staKeep SC K1 ns0
  have f1_1 := own_staKeep SD K1 ns0
  have f1_2 := RD.keep K1 nin0
  refine own_go (B := T1.setTop (mkF m 14 #[.val (.int p1), .val (.int p2), .val (.int p3), .val (.int p4), .val (.int p5), .val (.int kk), .val (.ref s1), .unset, .unset, .unset, .unset, .unset, .unset, .unset] [(.int p3)])) (fun t k => ?_) ?_
  · show Steps p.tables e below (T1.setTop (mkF m 11 #[.val (.int p1), .val (.int p2), .val (.int p3), .val (.int p4), .val (.int p5), .val (.int kk), .unset, .unset, .unset, .unset, .unset, .unset, .unset, .unset] [(.ref s1)])) t
    refine XS.astore X1.here hx rfl (hb hby at_11) rfl rfl (l' := #[.val (.int p1), .val (.int p2), .val (.int p3), .val (.int p4), .val (.int p5), .val (.int kk), .val (.ref s1), .unset, .unset, .unset, .unset, .unset, .unset, .unset]) rfl ?_
    show Steps p.tables e below (T1.setTop (mkF m 13 #[.val (.int p1), .val (.int p2), .val (.int p3), .val (.int p4), .val (.int p5), .val (.int kk), .val (.ref s1), .unset, .unset, .unset, .unset, .unset, .unset, .unset] [])) t
    refine XS.iloadN X1.here hx rfl (hb hby at_13) rfl ?_
    exact k
  have M2 := rm1 l Z a0 hw [] p3 cz T1.heap n0 (Nat.le_trans Z0 K1.1) f1_0 hz
  obtain ⟨_, _, ⟨T2, L2, k2, n2⟩, -, X2, ⟨Lc2, hQ2, l2, y2, z2⟩, st2⟩ := Jvm.LawKit.callS X1 hx (y := (⟨"com/example/freshet/freshet/ArgumentsTraceFilesPinLaw", "name", "(I)Ljava/lang/String;"⟩ : MethodName)) hown (mvT hZ (hw _ (List.mem_of_getElem? (i := 0) rfl))) (mvT hZ (hw _ (List.mem_of_getElem? (i := 1) rfl))) (mvT hZ (hw _ (List.mem_of_getElem? (i := 2) rfl))) (mvT hZ (hw _ (List.mem_of_getElem? (i := 3) rfl))) (by decide) (backOf (W := 0) (M2) hZ (hw _ (List.mem_of_getElem? (i := 3) rfl)) (hw _ (List.mem_of_getElem? (i := 2) rfl)) (by decide) (by decide)) (g := (mkF m 14 #[.val (.int p1), .val (.int p2), .val (.int p3), .val (.int p4), .val (.int p5), .val (.int kk), .val (.ref s1), .unset, .unset, .unset, .unset, .unset, .unset, .unset] [(.int p3)])) rfl (by rw [hml]; rfl) (argsL := [(.int p3)]) (rest := []) (lenOf pd_rm0_0 rfl) rfl (by show 2 * 0 + _ ≤ _; exact Nat.le_of_eq rfl) (hb hby at_14) (fun _ _ => ⟨rfl, rfl, (by decide : 3 + 3 ≤ _), (by decide : 8 + 8 ≤ _)⟩)
  dsimp only [Pt.U, Pt.locs, Pt.cells, Pt.slots] at X2 l2 y2 z2 st2 hQ2
  subst l2 y2 z2
  obtain ⟨s2, rfl, N2q, K2, Es2⟩ := hQ2
  have N2 := Fr.app N1 N2q
  obtain ⟨LL2, X2, N2⟩ := own_abs X2 N2
  refine own_go (fun t k => st2 t k) ?_
  have f2_0 := own_staKeep f1_0 K2 ns0
  have f2_1 := own_staKeep f1_1 K2 ns0
  have f2_2 := f1_2.keep K2 nin0
  have f2_3 := Es1.keep K2
  refine own_go (B := T2.setTop (mkF m 20 #[.val (.int p1), .val (.int p2), .val (.int p3), .val (.int p4), .val (.int p5), .val (.int kk), .val (.ref s1), .val (.ref s2), .unset, .unset, .unset, .unset, .unset, .unset] [(.int p4)])) (fun t k => ?_) ?_
  · show Steps p.tables e below (T2.setTop (mkF m 17 #[.val (.int p1), .val (.int p2), .val (.int p3), .val (.int p4), .val (.int p5), .val (.int kk), .val (.ref s1), .unset, .unset, .unset, .unset, .unset, .unset, .unset] [(.ref s2)])) t
    refine XS.astore X2.here hx rfl (hb hby at_17) rfl rfl (l' := #[.val (.int p1), .val (.int p2), .val (.int p3), .val (.int p4), .val (.int p5), .val (.int kk), .val (.ref s1), .val (.ref s2), .unset, .unset, .unset, .unset, .unset, .unset]) rfl ?_
    show Steps p.tables e below (T2.setTop (mkF m 19 #[.val (.int p1), .val (.int p2), .val (.int p3), .val (.int p4), .val (.int p5), .val (.int kk), .val (.ref s1), .val (.ref s2), .unset, .unset, .unset, .unset, .unset, .unset] [])) t
    refine XS.iloadN X2.here hx rfl (hb hby at_19) rfl ?_
    exact k
  have M3 := rm1 l Z a0 hw [] p4 cz T2.heap n0 (Nat.le_trans (Nat.le_trans Z0 K1.1) K2.1) f2_0 hz
  obtain ⟨_, _, ⟨T3, L3, k3, n3⟩, -, X3, ⟨Lc3, hQ3, l3, y3, z3⟩, st3⟩ := Jvm.LawKit.callS X2 hx (y := (⟨"com/example/freshet/freshet/ArgumentsTraceFilesPinLaw", "name", "(I)Ljava/lang/String;"⟩ : MethodName)) hown (mvT hZ (hw _ (List.mem_of_getElem? (i := 0) rfl))) (mvT hZ (hw _ (List.mem_of_getElem? (i := 1) rfl))) (mvT hZ (hw _ (List.mem_of_getElem? (i := 2) rfl))) (mvT hZ (hw _ (List.mem_of_getElem? (i := 3) rfl))) (by decide) (backOf (W := 0) (M3) hZ (hw _ (List.mem_of_getElem? (i := 3) rfl)) (hw _ (List.mem_of_getElem? (i := 2) rfl)) (by decide) (by decide)) (g := (mkF m 20 #[.val (.int p1), .val (.int p2), .val (.int p3), .val (.int p4), .val (.int p5), .val (.int kk), .val (.ref s1), .val (.ref s2), .unset, .unset, .unset, .unset, .unset, .unset] [(.int p4)])) rfl (by rw [hml]; rfl) (argsL := [(.int p4)]) (rest := []) (lenOf pd_rm0_0 rfl) rfl (by show 2 * 0 + _ ≤ _; exact Nat.le_of_eq rfl) (hb hby at_20) (fun _ _ => ⟨rfl, rfl, (by decide : 6 + 3 ≤ _), (by decide : 16 + 8 ≤ _)⟩)
  dsimp only [Pt.U, Pt.locs, Pt.cells, Pt.slots] at X3 l3 y3 z3 st3 hQ3
  subst l3 y3 z3
  obtain ⟨s3, rfl, N3q, K3, Es3⟩ := hQ3
  have N3 := Fr.app N2 N3q
  obtain ⟨LL3, X3, N3⟩ := own_abs X3 N3
  refine own_go (fun t k => st3 t k) ?_
  have f3_0 := own_staKeep f2_0 K3 ns0
  have f3_1 := own_staKeep f2_1 K3 ns0
  have f3_2 := f2_2.keep K3 nin0
  have f3_3 := f2_3.keep K3
  have f3_4 := Es2.keep K3
  refine own_go (B := T3.setTop (mkF m 27 #[.val (.int p1), .val (.int p2), .val (.int p3), .val (.int p4), .val (.int p5), .val (.int kk), .val (.ref s1), .val (.ref s2), .val (.ref s3), .unset, .unset, .unset, .unset, .unset] [(.int p5)])) (fun t k => ?_) ?_
  · show Steps p.tables e below (T3.setTop (mkF m 23 #[.val (.int p1), .val (.int p2), .val (.int p3), .val (.int p4), .val (.int p5), .val (.int kk), .val (.ref s1), .val (.ref s2), .unset, .unset, .unset, .unset, .unset, .unset] [(.ref s3)])) t
    refine XS.astore X3.here hx rfl (hb hby at_23) rfl rfl (l' := #[.val (.int p1), .val (.int p2), .val (.int p3), .val (.int p4), .val (.int p5), .val (.int kk), .val (.ref s1), .val (.ref s2), .val (.ref s3), .unset, .unset, .unset, .unset, .unset]) rfl ?_
    show Steps p.tables e below (T3.setTop (mkF m 25 #[.val (.int p1), .val (.int p2), .val (.int p3), .val (.int p4), .val (.int p5), .val (.int kk), .val (.ref s1), .val (.ref s2), .val (.ref s3), .unset, .unset, .unset, .unset, .unset] [])) t
    refine XS.iload X3.here hx rfl (hb hby at_25) rfl ?_
    exact k
  have M4 := rm1 l Z a0 hw [] p5 cz T3.heap n0 (Nat.le_trans (Nat.le_trans (Nat.le_trans Z0 K1.1) K2.1) K3.1) f3_0 hz
  obtain ⟨_, _, ⟨T4, L4, k4, n4⟩, -, X4, ⟨Lc4, hQ4, l4, y4, z4⟩, st4⟩ := Jvm.LawKit.callS X3 hx (y := (⟨"com/example/freshet/freshet/ArgumentsTraceFilesPinLaw", "name", "(I)Ljava/lang/String;"⟩ : MethodName)) hown (mvT hZ (hw _ (List.mem_of_getElem? (i := 0) rfl))) (mvT hZ (hw _ (List.mem_of_getElem? (i := 1) rfl))) (mvT hZ (hw _ (List.mem_of_getElem? (i := 2) rfl))) (mvT hZ (hw _ (List.mem_of_getElem? (i := 3) rfl))) (by decide) (backOf (W := 0) (M4) hZ (hw _ (List.mem_of_getElem? (i := 3) rfl)) (hw _ (List.mem_of_getElem? (i := 2) rfl)) (by decide) (by decide)) (g := (mkF m 27 #[.val (.int p1), .val (.int p2), .val (.int p3), .val (.int p4), .val (.int p5), .val (.int kk), .val (.ref s1), .val (.ref s2), .val (.ref s3), .unset, .unset, .unset, .unset, .unset] [(.int p5)])) rfl (by rw [hml]; rfl) (argsL := [(.int p5)]) (rest := []) (lenOf pd_rm0_0 rfl) rfl (by show 2 * 0 + _ ≤ _; exact Nat.le_of_eq rfl) (hb hby at_27) (fun _ _ => ⟨rfl, rfl, (by decide : 9 + 3 ≤ _), (by decide : 24 + 8 ≤ _)⟩)
  dsimp only [Pt.U, Pt.locs, Pt.cells, Pt.slots] at X4 l4 y4 z4 st4 hQ4
  subst l4 y4 z4
  obtain ⟨s4, rfl, N4q, K4, Es4⟩ := hQ4
  have N4 := Fr.app N3 N4q
  obtain ⟨LL4, X4, N4⟩ := own_abs X4 N4
  refine own_go (fun t k => st4 t k) ?_
  have f4_0 := own_staKeep f3_0 K4 ns0
  have f4_1 := own_staKeep f3_1 K4 ns0
  have f4_2 := f3_2.keep K4 nin0
  have f4_3 := f3_3.keep K4
  have f4_4 := f3_4.keep K4
  have f4_5 := Es3.keep K4
  refine own_go (B := T4.setTop (mkF m 32 #[.val (.int p1), .val (.int p2), .val (.int p3), .val (.int p4), .val (.int p5), .val (.int kk), .val (.ref s1), .val (.ref s2), .val (.ref s3), .val (.ref s4), .unset, .unset, .unset, .unset] [])) (fun t k => ?_) ?_
  · show Steps p.tables e below (T4.setTop (mkF m 30 #[.val (.int p1), .val (.int p2), .val (.int p3), .val (.int p4), .val (.int p5), .val (.int kk), .val (.ref s1), .val (.ref s2), .val (.ref s3), .unset, .unset, .unset, .unset, .unset] [(.ref s4)])) t
    refine XS.astore X4.here hx rfl (hb hby at_30) rfl rfl (l' := #[.val (.int p1), .val (.int p2), .val (.int p3), .val (.int p4), .val (.int p5), .val (.int kk), .val (.ref s1), .val (.ref s2), .val (.ref s3), .val (.ref s4), .unset, .unset, .unset, .unset]) rfl ?_
    exact k
  obtain ⟨T5, h5, X5, e5, E5, A5, D5, -, st5⟩ := newO X4 hx hZ hown (hw _ (List.mem_of_getElem? (i := 34) rfl)) (hw _ (List.mem_of_getElem? (i := 35) rfl)) (hw _ (List.mem_of_getElem? (i := 36) rfl)) rfl (g := (mkF m 32 #[.val (.int p1), .val (.int p2), .val (.int p3), .val (.int p4), .val (.int p5), .val (.int kk), .val (.ref s1), .val (.ref s2), .val (.ref s3), .val (.ref s4), .unset, .unset, .unset, .unset] [])) rfl (hb hby at_32) (by decide) (by decide)
  obtain ⟨b5, g5⟩ : ∃ z, z = T4.heap.size := ⟨_, rfl⟩
  rw [← g5] at A5 D5 st5
  refine own_go (fun t k => st5 t k) ?_
  have g_b5 : n0 ≤ b5 := Nat.le_trans (Nat.le_trans (Nat.le_trans (Nat.le_trans (Nat.le_trans Z0 K1.1) K2.1) K3.1) K4.1) (Nat.le_of_eq g5.symm)
  have ne5_eD : eD ≠ b5 := Nat.ne_of_lt (Nat.lt_of_lt_of_le f4_2.lt (Nat.le_of_eq g5.symm))
  have ne5_s1 : s1 ≠ b5 := Nat.ne_of_lt (Nat.lt_of_lt_of_le f4_3.lt (Nat.le_of_eq g5.symm))
  have ne5_s2 : s2 ≠ b5 := Nat.ne_of_lt (Nat.lt_of_lt_of_le f4_4.lt (Nat.le_of_eq g5.symm))
  have ne5_s3 : s3 ≠ b5 := Nat.ne_of_lt (Nat.lt_of_lt_of_le f4_5.lt (Nat.le_of_eq g5.symm))
  have ne5_s4 : s4 ≠ b5 := Nat.ne_of_lt (Nat.lt_of_lt_of_le Es4.lt (Nat.le_of_eq g5.symm))
  have f5_0 := f4_0.ext E5
  have f5_1 := f4_1.ext E5
  have f5_2 := f4_2.ext E5
  have f5_3 := f4_3.ext E5
  have f5_4 := f4_4.ext E5
  have f5_5 := f4_5.ext E5
  have f5_6 := Es4.ext E5
  have F5_modCount : Fld Z h5 b5 "java/util/AbstractList" "modCount" "I" (.int (0 : Int32)) := D5 (Or.inl (hw _ (List.mem_of_getElem? (i := 54) rfl))) (ty := .int) (by decide)
  have F5_elementData : Fld Z h5 b5 "java/util/ArrayList" "elementData" "[Ljava/lang/Object;" .null := D5 (Or.inl (hw _ (List.mem_of_getElem? (i := 57) rfl))) (ty := (.array (.object "java/lang/Object"))) (by decide)
  have F5_size : Fld Z h5 b5 "java/util/ArrayList" "size" "I" (.int (0 : Int32)) := D5 (Or.inl (hw _ (List.mem_of_getElem? (i := 66) rfl))) (ty := .int) (by decide)
  refine own_go (B := T5.setTop (mkF m 36 #[.val (.int p1), .val (.int p2), .val (.int p3), .val (.int p4), .val (.int p5), .val (.int kk), .val (.ref s1), .val (.ref s2), .val (.ref s3), .val (.ref s4), .unset, .unset, .unset, .unset] [(.ref b5), (.ref b5)])) (fun t k => ?_) ?_
  · show Steps p.tables e below (T5.setTop (mkF m 35 #[.val (.int p1), .val (.int p2), .val (.int p3), .val (.int p4), .val (.int p5), .val (.int kk), .val (.ref s1), .val (.ref s2), .val (.ref s3), .val (.ref s4), .unset, .unset, .unset, .unset] [(.ref b5)])) t
    refine XS.dup X5.here hx rfl (hb hby at_35) rfl rfl ?_
    exact k
  have M6 := rm8 l Z a0 hw [] b5 _ _ _ eD h5 n0 (Nat.le_trans (Nat.le_trans (Nat.le_trans (Nat.le_trans (Nat.le_trans Z0 K1.1) K2.1) K3.1) K4.1) E5.1) A5 F5_modCount F5_elementData F5_size g_b5 f5_1
  obtain ⟨_, _, ⟨T6, L6, k6, n6⟩, -, X6, ⟨Lc6, hQ6, l6, y6, z6⟩, st6⟩ := X5.specialBack hx (y := (⟨"java/util/ArrayList", "<init>", "()V"⟩ : MethodName)) rfl hown (mvT hZ (hw _ (List.mem_of_getElem? (i := 37) rfl))) (mvT hZ (hw _ (List.mem_of_getElem? (i := 38) rfl))) (mvT hZ (hw _ (List.mem_of_getElem? (i := 39) rfl))) (by decide) (backOf (W := 1) (M6) hZ (hw _ (List.mem_of_getElem? (i := 39) rfl)) (hw _ (List.mem_of_getElem? (i := 36) rfl)) (by decide) (by decide)) (g := (mkF m 36 #[.val (.int p1), .val (.int p2), .val (.int p3), .val (.int p4), .val (.int p5), .val (.int kk), .val (.ref s1), .val (.ref s2), .val (.ref s3), .val (.ref s4), .unset, .unset, .unset, .unset] [(.ref b5), (.ref b5)])) rfl (by rw [hml]; rfl) (Steps.refl _) (a := b5) (argsL := []) (rest := [(.ref b5)]) (lenOf pd_rm0_1 rfl) rfl (by show 2 * 0 + _ ≤ _; exact Nat.le_of_eq rfl) (hb hby at_36) (fun _ _ => ⟨rfl, e5, (by decide : 13 + 0 ≤ _), (by decide : 35 + 0 ≤ _)⟩)
  dsimp only [Pt.U, Pt.locs, Pt.cells, Pt.slots] at X6 l6 y6 z6 st6 hQ6
  subst l6 y6 z6
  obtain ⟨rfl, N6q, K6, -, G0_6, G1_6, G2_6⟩ := hQ6
  have N6 := Fr.app N4 N6q
  obtain ⟨LL6, X6, N6⟩ := own_abs X6 N6
  refine own_go (fun t k => st6.trans k) ?_
  have f6_0 := own_staKeep f5_0 K6 (nsS A5.nostat ns0)
  have f6_1 := own_staKeep f5_1 K6 (nsS A5.nostat ns0)
  have f6_2 := f5_2.keep K6 (ninS ne5_eD nin0)
  have f6_3 := f5_3.keep K6
  have f6_4 := f5_4.keep K6
  have f6_5 := f5_5.keep K6
  have f6_6 := f5_6.keep K6
  have f6_7 := A5.keep K6
  refine own_go (B := T6.setTop (mkF m 41 #[.val (.int p1), .val (.int p2), .val (.int p3), .val (.int p4), .val (.int p5), .val (.int kk), .val (.ref s1), .val (.ref s2), .val (.ref s3), .val (.ref s4), .val (.ref b5), .unset, .unset, .unset] [])) (fun t k => ?_) ?_
  · show Steps p.tables e below (T6.setTop (mkF m 39 #[.val (.int p1), .val (.int p2), .val (.int p3), .val (.int p4), .val (.int p5), .val (.int kk), .val (.ref s1), .val (.ref s2), .val (.ref s3), .val (.ref s4), .unset, .unset, .unset, .unset] [(.ref b5)])) t
    refine XS.astore X6.here hx rfl (hb hby at_39) rfl rfl (l' := #[.val (.int p1), .val (.int p2), .val (.int p3), .val (.int p4), .val (.int p5), .val (.int kk), .val (.ref s1), .val (.ref s2), .val (.ref s3), .val (.ref s4), .val (.ref b5), .unset, .unset, .unset]) rfl ?_
    exact k
  rcases own_k p1 hkk with e | e | e | e
  · subst e
    refine own_go (B := T6.setTop (mkF m 45 #[.val (.int p1), .val (.int p2), .val (.int p3), .val (.int p4), .val (.int p5), .val (.int (1 : Int32)), .val (.ref s1), .val (.ref s2), .val (.ref s3), .val (.ref s4), .val (.ref b5), .unset, .unset, .unset] [(.ref s1), (.ref b5)])) (fun t k => ?_) ?_
    · show Steps p.tables e below (T6.setTop (mkF m 41 #[.val (.int p1), .val (.int p2), .val (.int p3), .val (.int p4), .val (.int p5), .val (.int (1 : Int32)), .val (.ref s1), .val (.ref s2), .val (.ref s3), .val (.ref s4), .val (.ref b5), .unset, .unset, .unset] [])) t
      refine XS.aload X6.here hx rfl (hb hby at_41) rfl rfl ?_
      show Steps p.tables e below (T6.setTop (mkF m 43 #[.val (.int p1), .val (.int p2), .val (.int p3), .val (.int p4), .val (.int p5), .val (.int (1 : Int32)), .val (.ref s1), .val (.ref s2), .val (.ref s3), .val (.ref s4), .val (.ref b5), .unset, .unset, .unset] [(.ref b5)])) t
      refine XS.aload X6.here hx rfl (hb hby at_43) rfl rfl ?_
      exact k
    have M7 := rm11a l Z a0 hw [] b5 s1 (0 : Int32) eD kD gD T6.heap n0 (Nat.le_trans (Nat.le_trans (Nat.le_trans (Nat.le_trans (Nat.le_trans (Nat.le_trans Z0 K1.1) K2.1) K3.1) K4.1) E5.1) K6.1) f6_7 G0_6 G1_6 G2_6 g_b5 f6_1 f6_2 (Ne.symm ne5_eD) f6_3
    obtain ⟨cq7, kq7, q7a, q7b, q7c⟩ := isOf hZ rfl f6_7
    obtain ⟨_, _, ⟨T7, L7, k7, n7⟩, -, X7, ⟨Lc7, hQ7, l7, y7, z7⟩, st7⟩ := X6.virtualBack hx (y := (⟨"java/util/ArrayList", "add", "(Ljava/lang/Object;)Z"⟩ : MethodName)) (z := (⟨"java/util/ArrayList", "add", "(Ljava/lang/Object;)Z"⟩ : MethodName)) hown (mvT hZ (hw _ (List.mem_of_getElem? (i := 58) rfl))) (mvT hZ (hw _ (List.mem_of_getElem? (i := 59) rfl))) (notFace_of_selects (args := #[]) (mvT hZ (hw _ (List.mem_of_getElem? (i := 61) rfl)))) (mvT hZ (hw _ (List.mem_of_getElem? (i := 61) rfl))) (mvT hZ (hw _ (List.mem_of_getElem? (i := 60) rfl))) (by decide) (backOf (W := 0) (M7) hZ (hw _ (List.mem_of_getElem? (i := 62) rfl)) (hw _ (List.mem_of_getElem? (i := 36) rfl)) (by decide) (by decide)) q7a q7c (g := (mkF m 45 #[.val (.int p1), .val (.int p2), .val (.int p3), .val (.int p4), .val (.int p5), .val (.int (1 : Int32)), .val (.ref s1), .val (.ref s2), .val (.ref s3), .val (.ref s4), .val (.ref b5), .unset, .unset, .unset] [(.ref s1), (.ref b5)])) rfl (by rw [hml]; rfl) (Steps.refl _) (argsL := [(.ref s1)]) (rest := []) (lenOf pd_rm0_2 rfl) rfl (by show 2 * 0 + _ ≤ _; exact Nat.le_of_eq rfl) (hb hby at_45) (fun _ _ => ⟨rfl, rfl, (by decide : 13 + 1 ≤ _), (by decide : 35 + 10 ≤ _)⟩)
    dsimp only [Pt.U, Pt.locs, Pt.cells, Pt.slots] at X7 l7 y7 z7 st7 hQ7
    subst l7 y7 z7
    obtain ⟨r7, kA7, rfl, N7q, K7, -, ⟨m7, G0_7⟩, G1_7, G2_7, R7, O7, nr7, lr7, hs7⟩ := hQ7
    have N7 := Fr.app N6 N7q
    obtain ⟨LL7, X7, N7⟩ := own_abs X7 N7
    refine own_go (fun t k => st7.trans k) ?_
    have f7_0 := own_staKeep f6_0 K7 (nsS f6_7.nostat ns0)
    have f7_1 := own_staKeep f6_1 K7 (nsS f6_7.nostat ns0)
    have f7_2 := f6_2.keep K7 (ninS ne5_eD nin0)
    have f7_3 := f6_3.keep K7
    have f7_4 := f6_4.keep K7
    have f7_5 := f6_5.keep K7
    have f7_6 := f6_6.keep K7
    have f7_7 := f6_7.keep K7
    refine own_go (B := T7.setTop (mkF m 91 #[.val (.int p1), .val (.int p2), .val (.int p3), .val (.int p4), .val (.int p5), .val (.int (1 : Int32)), .val (.ref s1), .val (.ref s2), .val (.ref s3), .val (.ref s4), .val (.ref b5), .unset, .unset, .unset] [])) (fun t k => ?_) ?_
    · show Steps p.tables e below (T7.setTop (mkF m 48 #[.val (.int p1), .val (.int p2), .val (.int p3), .val (.int p4), .val (.int p5), .val (.int (1 : Int32)), .val (.ref s1), .val (.ref s2), .val (.ref s3), .val (.ref s4), .val (.ref b5), .unset, .unset, .unset] [(.int (1 : Int32))])) t
      refine XS.pop X7.here hx rfl (hb hby at_48) rfl rfl ?_
      show Steps p.tables e below (T7.setTop (mkF m 49 #[.val (.int p1), .val (.int p2), .val (.int p3), .val (.int p4), .val (.int p5), .val (.int (1 : Int32)), .val (.ref s1), .val (.ref s2), .val (.ref s3), .val (.ref s4), .val (.ref b5), .unset, .unset, .unset] [])) t
      refine XS.iload X7.here hx rfl (hb hby at_49) rfl ?_
      show Steps p.tables e below (T7.setTop (mkF m 51 #[.val (.int p1), .val (.int p2), .val (.int p3), .val (.int p4), .val (.int p5), .val (.int (1 : Int32)), .val (.ref s1), .val (.ref s2), .val (.ref s3), .val (.ref s4), .val (.ref b5), .unset, .unset, .unset] [(.int (1 : Int32))])) t
      refine XS.iconst X7.here hx rfl (hb hby at_51) ?_
      show Steps p.tables e below (T7.setTop (mkF m 52 #[.val (.int p1), .val (.int p2), .val (.int p3), .val (.int p4), .val (.int p5), .val (.int (1 : Int32)), .val (.ref s1), .val (.ref s2), .val (.ref s3), .val (.ref s4), .val (.ref b5), .unset, .unset, .unset] [(.int (1 : Int32)), (.int (1 : Int32))])) t
      refine XS.icmpYes X7.here hx rfl (pc0 := 52) (pc' := 63) rfl (hb hby at_52) rfl (flt (by decide : ¬ ((1 : Int32) < (1 : Int32)))).2.2.2 (by decide) (by decide) ?_
      show Steps p.tables e below (T7.setTop (mkF m 63 #[.val (.int p1), .val (.int p2), .val (.int p3), .val (.int p4), .val (.int p5), .val (.int (1 : Int32)), .val (.ref s1), .val (.ref s2), .val (.ref s3), .val (.ref s4), .val (.ref b5), .unset, .unset, .unset] [])) t
      refine XS.iload X7.here hx rfl (hb hby at_63) rfl ?_
      show Steps p.tables e below (T7.setTop (mkF m 65 #[.val (.int p1), .val (.int p2), .val (.int p3), .val (.int p4), .val (.int p5), .val (.int (1 : Int32)), .val (.ref s1), .val (.ref s2), .val (.ref s3), .val (.ref s4), .val (.ref b5), .unset, .unset, .unset] [(.int (1 : Int32))])) t
      refine XS.iconst X7.here hx rfl (hb hby at_65) ?_
      show Steps p.tables e below (T7.setTop (mkF m 66 #[.val (.int p1), .val (.int p2), .val (.int p3), .val (.int p4), .val (.int p5), .val (.int (1 : Int32)), .val (.ref s1), .val (.ref s2), .val (.ref s3), .val (.ref s4), .val (.ref b5), .unset, .unset, .unset] [(.int (2 : Int32)), (.int (1 : Int32))])) t
      refine XS.icmpYes X7.here hx rfl (pc0 := 66) (pc' := 77) rfl (hb hby at_66) rfl (flt (by decide : ¬ ((2 : Int32) < (1 : Int32)))).2.2.2 (by decide) (by decide) ?_
      show Steps p.tables e below (T7.setTop (mkF m 77 #[.val (.int p1), .val (.int p2), .val (.int p3), .val (.int p4), .val (.int p5), .val (.int (1 : Int32)), .val (.ref s1), .val (.ref s2), .val (.ref s3), .val (.ref s4), .val (.ref b5), .unset, .unset, .unset] [])) t
      refine XS.iload X7.here hx rfl (hb hby at_77) rfl ?_
      show Steps p.tables e below (T7.setTop (mkF m 79 #[.val (.int p1), .val (.int p2), .val (.int p3), .val (.int p4), .val (.int p5), .val (.int (1 : Int32)), .val (.ref s1), .val (.ref s2), .val (.ref s3), .val (.ref s4), .val (.ref b5), .unset, .unset, .unset] [(.int (1 : Int32))])) t
      refine XS.iconst X7.here hx rfl (hb hby at_79) ?_
      show Steps p.tables e below (T7.setTop (mkF m 80 #[.val (.int p1), .val (.int p2), .val (.int p3), .val (.int p4), .val (.int p5), .val (.int (1 : Int32)), .val (.ref s1), .val (.ref s2), .val (.ref s3), .val (.ref s4), .val (.ref b5), .unset, .unset, .unset] [(.int (3 : Int32)), (.int (1 : Int32))])) t
      refine XS.icmpYes X7.here hx rfl (pc0 := 80) (pc' := 91) rfl (hb hby at_80) rfl (flt (by decide : ¬ ((3 : Int32) < (1 : Int32)))).2.2.2 (by decide) (by decide) ?_
      exact k
    obtain ⟨T8, h8, X8, e8, E8, A8, D8, -, st8⟩ := newO X7 hx hZ hown (hw _ (List.mem_of_getElem? (i := 89) rfl)) (hw _ (List.mem_of_getElem? (i := 90) rfl)) (hw _ (List.mem_of_getElem? (i := 91) rfl)) rfl (g := (mkF m 91 #[.val (.int p1), .val (.int p2), .val (.int p3), .val (.int p4), .val (.int p5), .val (.int (1 : Int32)), .val (.ref s1), .val (.ref s2), .val (.ref s3), .val (.ref s4), .val (.ref b5), .unset, .unset, .unset] [])) rfl (hb hby at_91) (by decide) (by decide)
    obtain ⟨b8, g8⟩ : ∃ z, z = T7.heap.size := ⟨_, rfl⟩
    rw [← g8] at A8 D8 st8
    refine own_go (fun t k => st8 t k) ?_
    have g_b8 : n0 ≤ b8 := Nat.le_trans (Nat.le_trans (Nat.le_trans (Nat.le_trans (Nat.le_trans (Nat.le_trans (Nat.le_trans (Nat.le_trans Z0 K1.1) K2.1) K3.1) K4.1) E5.1) K6.1) K7.1) (Nat.le_of_eq g8.symm)
    have ne8_s1 : s1 ≠ b8 := Nat.ne_of_lt (Nat.lt_of_lt_of_le f7_3.lt (Nat.le_of_eq g8.symm))
    have ne8_s2 : s2 ≠ b8 := Nat.ne_of_lt (Nat.lt_of_lt_of_le f7_4.lt (Nat.le_of_eq g8.symm))
    have ne8_s3 : s3 ≠ b8 := Nat.ne_of_lt (Nat.lt_of_lt_of_le f7_5.lt (Nat.le_of_eq g8.symm))
    have ne8_s4 : s4 ≠ b8 := Nat.ne_of_lt (Nat.lt_of_lt_of_le f7_6.lt (Nat.le_of_eq g8.symm))
    have ne8_b5 : b5 ≠ b8 := Nat.ne_of_lt (Nat.lt_of_lt_of_le f7_7.lt (Nat.le_of_eq g8.symm))
    have ne8_r7 : r7 ≠ b8 := Nat.ne_of_lt (Nat.lt_of_lt_of_le R7.lt (Nat.le_of_eq g8.symm))
    have f8_0 := f7_3.ext E8
    have f8_1 := f7_4.ext E8
    have f8_2 := f7_5.ext E8
    have f8_3 := f7_6.ext E8
    have f8_4 := f7_7.ext E8
    have f8_5 := G0_7.ext E8
    have f8_6 := G1_7.ext E8
    have f8_7 := G2_7.ext E8
    have f8_8 := R7.ext E8
    have F8_options : Fld Z h8 b8 "com/example/freshet/freshet/Command$Arguments" "options" "Ljava/util/Map;" .null := D8 (Or.inr (hw _ (List.mem_of_getElem? (i := 102) rfl))) (ty := (.object "java/util/Map")) (by decide)
    have F8_flags : Fld Z h8 b8 "com/example/freshet/freshet/Command$Arguments" "flags" "Ljava/util/Set;" .null := D8 (Or.inr (hw _ (List.mem_of_getElem? (i := 104) rfl))) (ty := (.object "java/util/Set")) (by decide)
    have F8_files : Fld Z h8 b8 "com/example/freshet/freshet/Command$Arguments" "files" "Ljava/util/List;" .null := D8 (Or.inr (hw _ (List.mem_of_getElem? (i := 106) rfl))) (ty := (.object "java/util/List")) (by decide)
    refine own_go (B := T8.setTop (mkF m 99 #[.val (.int p1), .val (.int p2), .val (.int p3), .val (.int p4), .val (.int p5), .val (.int (1 : Int32)), .val (.ref s1), .val (.ref s2), .val (.ref s3), .val (.ref s4), .val (.ref b5), .unset, .unset, .unset] [(.ref b5), .null, .null, (.ref b8), (.ref b8)])) (fun t k => ?_) ?_
    · show Steps p.tables e below (T8.setTop (mkF m 94 #[.val (.int p1), .val (.int p2), .val (.int p3), .val (.int p4), .val (.int p5), .val (.int (1 : Int32)), .val (.ref s1), .val (.ref s2), .val (.ref s3), .val (.ref s4), .val (.ref b5), .unset, .unset, .unset] [(.ref b8)])) t
      refine XS.dup X8.here hx rfl (hb hby at_94) rfl rfl ?_
      show Steps p.tables e below (T8.setTop (mkF m 95 #[.val (.int p1), .val (.int p2), .val (.int p3), .val (.int p4), .val (.int p5), .val (.int (1 : Int32)), .val (.ref s1), .val (.ref s2), .val (.ref s3), .val (.ref s4), .val (.ref b5), .unset, .unset, .unset] [(.ref b8), (.ref b8)])) t
      refine XS.aconstNull X8.here hx rfl (hb hby at_95) ?_
      show Steps p.tables e below (T8.setTop (mkF m 96 #[.val (.int p1), .val (.int p2), .val (.int p3), .val (.int p4), .val (.int p5), .val (.int (1 : Int32)), .val (.ref s1), .val (.ref s2), .val (.ref s3), .val (.ref s4), .val (.ref b5), .unset, .unset, .unset] [.null, (.ref b8), (.ref b8)])) t
      refine XS.aconstNull X8.here hx rfl (hb hby at_96) ?_
      show Steps p.tables e below (T8.setTop (mkF m 97 #[.val (.int p1), .val (.int p2), .val (.int p3), .val (.int p4), .val (.int p5), .val (.int (1 : Int32)), .val (.ref s1), .val (.ref s2), .val (.ref s3), .val (.ref s4), .val (.ref b5), .unset, .unset, .unset] [.null, .null, (.ref b8), (.ref b8)])) t
      refine XS.aload X8.here hx rfl (hb hby at_97) rfl rfl ?_
      exact k
    have M9 := rm16 l Z a0 hw [] b8 b5 _ _ _ h8 n0 (Nat.le_trans (Nat.le_trans (Nat.le_trans (Nat.le_trans (Nat.le_trans (Nat.le_trans (Nat.le_trans (Nat.le_trans Z0 K1.1) K2.1) K3.1) K4.1) E5.1) K6.1) K7.1) E8.1) A8 F8_options F8_flags F8_files g_b8
    obtain ⟨_, _, ⟨T9, L9, k9, n9⟩, -, X9, ⟨Lc9, hQ9, l9, y9, z9⟩, st9⟩ := X8.specialBack hx (y := (⟨"com/example/freshet/freshet/Command$Arguments", "<init>", "(Ljava/util/Map;Ljava/util/Set;Ljava/util/List;)V"⟩ : MethodName)) rfl hown (mvT hZ (hw _ (List.mem_of_getElem? (i := 92) rfl))) (mvT hZ (hw _ (List.mem_of_getElem? (i := 93) rfl))) (mvT hZ (hw _ (List.mem_of_getElem? (i := 94) rfl))) (by decide) (backOf (W := 1) (M9) hZ (hw _ (List.mem_of_getElem? (i := 94) rfl)) (hw _ (List.mem_of_getElem? (i := 91) rfl)) (by decide) (by decide)) (g := (mkF m 99 #[.val (.int p1), .val (.int p2), .val (.int p3), .val (.int p4), .val (.int p5), .val (.int (1 : Int32)), .val (.ref s1), .val (.ref s2), .val (.ref s3), .val (.ref s4), .val (.ref b5), .unset, .unset, .unset] [(.ref b5), .null, .null, (.ref b8), (.ref b8)])) rfl (by rw [hml]; rfl) (Steps.refl _) (a := b8) (argsL := [.null, .null, (.ref b5)]) (rest := [(.ref b8)]) (lenOf pd_rm0_3 rfl) rfl (by show 2 * 0 + _ ≤ _; exact Nat.le_of_eq rfl) (hb hby at_99) (fun _ _ => ⟨rfl, e8, (by decide : 15 + 0 ≤ _), (by decide : 48 + 0 ≤ _)⟩)
    dsimp only [Pt.U, Pt.locs, Pt.cells, Pt.slots] at X9 l9 y9 z9 st9 hQ9
    subst l9 y9 z9
    obtain ⟨rfl, N9q, K9, -, G9⟩ := hQ9
    have N9 := Fr.app N7 N9q
    obtain ⟨LL9, X9, N9⟩ := own_abs X9 N9
    refine own_go (fun t k => st9.trans k) ?_
    have f9_0 := f8_0.keep K9
    have f9_1 := f8_1.keep K9
    have f9_2 := f8_2.keep K9
    have f9_3 := f8_3.keep K9
    have f9_4 := f8_4.keep K9
    have f9_5 := f8_5.keep K9 (ninS ne8_b5 nin0)
    have f9_6 := f8_6.keep K9 (ninS ne8_b5 nin0)
    have f9_7 := f8_7.keep K9 (ninS ne8_b5 nin0)
    have f9_8 := f8_8.keep K9 (ninS ne8_r7 nin0)
    have f9_9 := A8.keep K9
    refine own_go (B := T9.setTop (mkF m 106 #[.val (.int p1), .val (.int p2), .val (.int p3), .val (.int p4), .val (.int p5), .val (.int (1 : Int32)), .val (.ref s1), .val (.ref s2), .val (.ref s3), .val (.ref s4), .val (.ref b5), .val (.ref b8), .unset, .unset] [(.ref b8)])) (fun t k => ?_) ?_
    · show Steps p.tables e below (T9.setTop (mkF m 102 #[.val (.int p1), .val (.int p2), .val (.int p3), .val (.int p4), .val (.int p5), .val (.int (1 : Int32)), .val (.ref s1), .val (.ref s2), .val (.ref s3), .val (.ref s4), .val (.ref b5), .unset, .unset, .unset] [(.ref b8)])) t
      refine XS.astore X9.here hx rfl (hb hby at_102) rfl rfl (l' := #[.val (.int p1), .val (.int p2), .val (.int p3), .val (.int p4), .val (.int p5), .val (.int (1 : Int32)), .val (.ref s1), .val (.ref s2), .val (.ref s3), .val (.ref s4), .val (.ref b5), .val (.ref b8), .unset, .unset]) rfl ?_
      show Steps p.tables e below (T9.setTop (mkF m 104 #[.val (.int p1), .val (.int p2), .val (.int p3), .val (.int p4), .val (.int p5), .val (.int (1 : Int32)), .val (.ref s1), .val (.ref s2), .val (.ref s3), .val (.ref s4), .val (.ref b5), .val (.ref b8), .unset, .unset] [])) t
      refine XS.aload X9.here hx rfl (hb hby at_104) rfl rfl ?_
      exact k
    have M10 := rm18 l Z a0 hw [] b8 b5 ((0 : Int32) + (1 : Int32)) T9.heap n0 (Nat.le_trans (Nat.le_trans (Nat.le_trans (Nat.le_trans (Nat.le_trans (Nat.le_trans (Nat.le_trans (Nat.le_trans (Nat.le_trans Z0 K1.1) K2.1) K3.1) K4.1) E5.1) K6.1) K7.1) E8.1) K9.1) f9_9 G9 f9_4 f9_7 (by decide)
    obtain ⟨cq10, kq10, q10a, q10b, q10c⟩ := isOf hZ rfl f9_9
    obtain ⟨_, _, ⟨T10, L10, k10, n10⟩, -, X10, ⟨Lc10, hQ10, l10, y10, z10⟩, st10⟩ := X9.virtualBack hx (y := (⟨"com/example/freshet/freshet/Command$Arguments", "traceFiles", "()Ljava/util/List;"⟩ : MethodName)) (z := (⟨"com/example/freshet/freshet/Command$Arguments", "traceFiles", "()Ljava/util/List;"⟩ : MethodName)) hown (mvT hZ (hw _ (List.mem_of_getElem? (i := 107) rfl))) (mvT hZ (hw _ (List.mem_of_getElem? (i := 108) rfl))) (notFace_of_selects (args := #[]) (mvT hZ (hw _ (List.mem_of_getElem? (i := 110) rfl)))) (mvT hZ (hw _ (List.mem_of_getElem? (i := 110) rfl))) (mvT hZ (hw _ (List.mem_of_getElem? (i := 109) rfl))) (by decide) (backOf (W := 0) (M10) hZ (hw _ (List.mem_of_getElem? (i := 111) rfl)) (hw _ (List.mem_of_getElem? (i := 91) rfl)) (by decide) (by decide)) q10a q10c (g := (mkF m 106 #[.val (.int p1), .val (.int p2), .val (.int p3), .val (.int p4), .val (.int p5), .val (.int (1 : Int32)), .val (.ref s1), .val (.ref s2), .val (.ref s3), .val (.ref s4), .val (.ref b5), .val (.ref b8), .unset, .unset] [(.ref b8)])) rfl (by rw [hml]; rfl) (Steps.refl _) (argsL := []) (rest := []) (lenOf pd_rm0_4 rfl) rfl (by show 2 * 0 + _ ≤ _; exact Nat.le_of_eq rfl) (hb hby at_106) (fun _ _ => ⟨rfl, rfl, (by decide : 15 + 0 ≤ _), (by decide : 48 + 0 ≤ _)⟩)
    dsimp only [Pt.U, Pt.locs, Pt.cells, Pt.slots] at X10 l10 y10 z10 st10 hQ10
    subst l10 y10 z10
    obtain ⟨rfl, N10q, hh10⟩ := hQ10
    have N10 := Fr.app N9 N10q
    obtain ⟨LL10, X10, N10⟩ := own_abs X10 N10
    refine own_go (fun t k => st10.trans k) ?_
    refine own_go (B := T10.setTop (mkF m 118 #[.val (.int p1), .val (.int p2), .val (.int p3), .val (.int p4), .val (.int p5), .val (.int (1 : Int32)), .val (.ref s1), .val (.ref s2), .val (.ref s3), .val (.ref s4), .val (.ref b5), .val (.ref b8), .val (.ref b5), .unset] [(.ref b5)])) (fun t k => ?_) ?_
    · show Steps p.tables e below (T10.setTop (mkF m 109 #[.val (.int p1), .val (.int p2), .val (.int p3), .val (.int p4), .val (.int p5), .val (.int (1 : Int32)), .val (.ref s1), .val (.ref s2), .val (.ref s3), .val (.ref s4), .val (.ref b5), .val (.ref b8), .unset, .unset] [(.ref b5)])) t
      refine XS.astore X10.here hx rfl (hb hby at_109) rfl rfl (l' := #[.val (.int p1), .val (.int p2), .val (.int p3), .val (.int p4), .val (.int p5), .val (.int (1 : Int32)), .val (.ref s1), .val (.ref s2), .val (.ref s3), .val (.ref s4), .val (.ref b5), .val (.ref b8), .val (.ref b5), .unset]) rfl ?_
      show Steps p.tables e below (T10.setTop (mkF m 111 #[.val (.int p1), .val (.int p2), .val (.int p3), .val (.int p4), .val (.int p5), .val (.int (1 : Int32)), .val (.ref s1), .val (.ref s2), .val (.ref s3), .val (.ref s4), .val (.ref b5), .val (.ref b8), .val (.ref b5), .unset] [])) t
      refine XS.aload X10.here hx rfl (hb hby at_111) rfl rfl ?_
      show Steps p.tables e below (T10.setTop (mkF m 113 #[.val (.int p1), .val (.int p2), .val (.int p3), .val (.int p4), .val (.int p5), .val (.int (1 : Int32)), .val (.ref s1), .val (.ref s2), .val (.ref s3), .val (.ref s4), .val (.ref b5), .val (.ref b8), .val (.ref b5), .unset] [(.ref b5)])) t
      refine XS.ifnullNo X10.here hx rfl (hb hby at_113) rfl ?_
      show Steps p.tables e below (T10.setTop (mkF m 116 #[.val (.int p1), .val (.int p2), .val (.int p3), .val (.int p4), .val (.int p5), .val (.int (1 : Int32)), .val (.ref s1), .val (.ref s2), .val (.ref s3), .val (.ref s4), .val (.ref b5), .val (.ref b8), .val (.ref b5), .unset] [])) t
      refine XS.aload X10.here hx rfl (hb hby at_116) rfl rfl ?_
      exact k
    have M11 := rm20 l Z a0 hw [] b5 ((0 : Int32) + (1 : Int32)) T9.heap n0 (Nat.le_trans (Nat.le_trans (Nat.le_trans (Nat.le_trans (Nat.le_trans (Nat.le_trans (Nat.le_trans (Nat.le_trans (Nat.le_trans Z0 K1.1) K2.1) K3.1) K4.1) E5.1) K6.1) K7.1) E8.1) K9.1) f9_7
    obtain ⟨cq11, kq11, q11a, q11b, q11c⟩ := isOf hZ hh10 f9_4
    obtain ⟨_, _, ⟨T11, L11, k11, n11⟩, -, X11, ⟨Lc11, hQ11, l11, y11, z11⟩, st11⟩ := X10.interfaceBack hx (xi := (⟨"java/util/List", "size", "()I"⟩ : MethodName)) (y := (⟨"java/util/ArrayList", "size", "()I"⟩ : MethodName)) hown (mvT hZ (hw _ (List.mem_of_getElem? (i := 121) rfl))) (mvT hZ (hw _ (List.mem_of_getElem? (i := 122) rfl))) (mvT hZ (hw _ (List.mem_of_getElem? (i := 123) rfl))) (mvT hZ (hw _ (List.mem_of_getElem? (i := 124) rfl))) (mvT hZ (hw _ (List.mem_of_getElem? (i := 125) rfl))) (mvT hZ (hw _ (List.mem_of_getElem? (i := 126) rfl))) (mvT hZ (hw _ (List.mem_of_getElem? (i := 127) rfl))) (mvT hZ (hw _ (List.mem_of_getElem? (i := 119) rfl))) (by decide) (backOf (W := 0) (M11) hZ (hw _ (List.mem_of_getElem? (i := 128) rfl)) (hw _ (List.mem_of_getElem? (i := 36) rfl)) (by decide) (by decide)) q11a q11b q11c (g := (mkF m 118 #[.val (.int p1), .val (.int p2), .val (.int p3), .val (.int p4), .val (.int p5), .val (.int (1 : Int32)), .val (.ref s1), .val (.ref s2), .val (.ref s3), .val (.ref s4), .val (.ref b5), .val (.ref b8), .val (.ref b5), .unset] [(.ref b5)])) rfl (by rw [hml]; rfl) (Steps.refl _) (argsL := []) (rest := []) (lenOf pd_rm0_5 rfl) rfl (by show 2 * 0 + _ ≤ _; exact Nat.le_of_eq rfl) (hb hby at_118) (fun _ _ => ⟨rfl, hh10, (by decide : 15 + 0 ≤ _), (by decide : 48 + 0 ≤ _)⟩)
    dsimp only [Pt.U, Pt.locs, Pt.cells, Pt.slots] at X11 l11 y11 z11 st11 hQ11
    subst l11 y11 z11
    obtain ⟨rfl, N11q, hh11⟩ := hQ11
    have N11 := Fr.app N10 N11q
    obtain ⟨LL11, X11, N11⟩ := own_abs X11 N11
    refine own_go (fun t k => st11.trans k) ?_
    refine own_go (B := T11.setTop (mkF m 133 #[.val (.int p1), .val (.int p2), .val (.int p3), .val (.int p4), .val (.int p5), .val (.int (1 : Int32)), .val (.ref s1), .val (.ref s2), .val (.ref s3), .val (.ref s4), .val (.ref b5), .val (.ref b8), .val (.ref b5), .unset] [(.int (0 : Int32)), (.ref b5)])) (fun t k => ?_) ?_
    · show Steps p.tables e below (T11.setTop (mkF m 123 #[.val (.int p1), .val (.int p2), .val (.int p3), .val (.int p4), .val (.int p5), .val (.int (1 : Int32)), .val (.ref s1), .val (.ref s2), .val (.ref s3), .val (.ref s4), .val (.ref b5), .val (.ref b8), .val (.ref b5), .unset] [(.int ((0 : Int32) + (1 : Int32)))])) t
      refine XS.iload X11.here hx rfl (hb hby at_123) rfl ?_
      show Steps p.tables e below (T11.setTop (mkF m 125 #[.val (.int p1), .val (.int p2), .val (.int p3), .val (.int p4), .val (.int p5), .val (.int (1 : Int32)), .val (.ref s1), .val (.ref s2), .val (.ref s3), .val (.ref s4), .val (.ref b5), .val (.ref b8), .val (.ref b5), .unset] [(.int (1 : Int32)), (.int ((0 : Int32) + (1 : Int32)))])) t
      refine XS.icmpYes X11.here hx rfl (pc0 := 125) (pc' := 130) rfl (hb hby at_125) rfl (teq (by decide : ((0 : Int32) + (1 : Int32)) = (1 : Int32))).1 (by decide) (by decide) ?_
      show Steps p.tables e below (T11.setTop (mkF m 130 #[.val (.int p1), .val (.int p2), .val (.int p3), .val (.int p4), .val (.int p5), .val (.int (1 : Int32)), .val (.ref s1), .val (.ref s2), .val (.ref s3), .val (.ref s4), .val (.ref b5), .val (.ref b8), .val (.ref b5), .unset] [])) t
      refine XS.aload X11.here hx rfl (hb hby at_130) rfl rfl ?_
      show Steps p.tables e below (T11.setTop (mkF m 132 #[.val (.int p1), .val (.int p2), .val (.int p3), .val (.int p4), .val (.int p5), .val (.int (1 : Int32)), .val (.ref s1), .val (.ref s2), .val (.ref s3), .val (.ref s4), .val (.ref b5), .val (.ref b8), .val (.ref b5), .unset] [(.ref b5)])) t
      refine XS.iconst X11.here hx rfl (hb hby at_132) ?_
      exact k
    have hat12 : (fun x => if x = 0 then (Value.ref s1) else (fun _ => Value.null) x) ((0 : Int32)).toNatClampNeg = Value.ref s1 := by rw [show ((0 : Int32)).toNatClampNeg = 0 from by decide]; rfl
    have M12 := rm21 l Z a0 hw [] b5 (0 : Int32) r7 kA7 (fun x => if x = 0 then (Value.ref s1) else (fun _ => Value.null) x) s1 ((0 : Int32) + (1 : Int32)) T9.heap n0 (Nat.le_trans (Nat.le_trans (Nat.le_trans (Nat.le_trans (Nat.le_trans (Nat.le_trans (Nat.le_trans (Nat.le_trans (Nat.le_trans Z0 K1.1) K2.1) K3.1) K4.1) E5.1) K6.1) K7.1) E8.1) K9.1) f9_6 f9_8 (by decide) (by decide) hat12 f9_7 (by decide) f9_4
    obtain ⟨cq12, kq12, q12a, q12b, q12c⟩ := isOf hZ hh11 f9_4
    obtain ⟨_, _, ⟨T12, L12, k12, n12⟩, -, X12, ⟨Lc12, hQ12, l12, y12, z12⟩, st12⟩ := X11.interfaceBack hx (xi := (⟨"java/util/List", "get", "(I)Ljava/lang/Object;"⟩ : MethodName)) (y := (⟨"java/util/ArrayList", "get", "(I)Ljava/lang/Object;"⟩ : MethodName)) hown (mvT hZ (hw _ (List.mem_of_getElem? (i := 129) rfl))) (mvT hZ (hw _ (List.mem_of_getElem? (i := 130) rfl))) (mvT hZ (hw _ (List.mem_of_getElem? (i := 131) rfl))) (mvT hZ (hw _ (List.mem_of_getElem? (i := 132) rfl))) (mvT hZ (hw _ (List.mem_of_getElem? (i := 133) rfl))) (mvT hZ (hw _ (List.mem_of_getElem? (i := 134) rfl))) (mvT hZ (hw _ (List.mem_of_getElem? (i := 135) rfl))) (mvT hZ (hw _ (List.mem_of_getElem? (i := 119) rfl))) (by decide) (backOf (W := 0) (M12) hZ (hw _ (List.mem_of_getElem? (i := 136) rfl)) (hw _ (List.mem_of_getElem? (i := 36) rfl)) (by decide) (by decide)) q12a q12b q12c (g := (mkF m 133 #[.val (.int p1), .val (.int p2), .val (.int p3), .val (.int p4), .val (.int p5), .val (.int (1 : Int32)), .val (.ref s1), .val (.ref s2), .val (.ref s3), .val (.ref s4), .val (.ref b5), .val (.ref b8), .val (.ref b5), .unset] [(.int (0 : Int32)), (.ref b5)])) rfl (by rw [hml]; rfl) (Steps.refl _) (argsL := [(.int (0 : Int32))]) (rest := []) (lenOf pd_rm0_6 rfl) rfl (by show 2 * 0 + _ ≤ _; exact Nat.le_of_eq rfl) (hb hby at_133) (fun _ _ => ⟨rfl, hh11, (by decide : 15 + 0 ≤ _), (by decide : 48 + 0 ≤ _)⟩)
    dsimp only [Pt.U, Pt.locs, Pt.cells, Pt.slots] at X12 l12 y12 z12 st12 hQ12
    subst l12 y12 z12
    obtain ⟨rfl, N12q, hh12⟩ := hQ12
    have N12 := Fr.app N11 N12q
    obtain ⟨LL12, X12, N12⟩ := own_abs X12 N12
    refine own_go (fun t k => st12.trans k) ?_
    obtain ⟨T13, X13, e13, st13⟩ := castY X12 hx hZ hown (hw _ (List.mem_of_getElem? (i := 5) rfl)) hh12 (Ins.self f9_0) (g := (mkF m 138 #[.val (.int p1), .val (.int p2), .val (.int p3), .val (.int p4), .val (.int p5), .val (.int (1 : Int32)), .val (.ref s1), .val (.ref s2), .val (.ref s3), .val (.ref s4), .val (.ref b5), .val (.ref b8), .val (.ref b5), .unset] [(.ref s1)])) rfl rfl (hb hby at_138)
    refine own_go (fun t k => st13 t k) ?_
    refine own_go (B := T13.setTop (mkF m 143 #[.val (.int p1), .val (.int p2), .val (.int p3), .val (.int p4), .val (.int p5), .val (.int (1 : Int32)), .val (.ref s1), .val (.ref s2), .val (.ref s3), .val (.ref s4), .val (.ref b5), .val (.ref b8), .val (.ref b5), .unset] [(.ref s1), (.ref s1)])) (fun t k => ?_) ?_
    · show Steps p.tables e below (T13.setTop (mkF m 141 #[.val (.int p1), .val (.int p2), .val (.int p3), .val (.int p4), .val (.int p5), .val (.int (1 : Int32)), .val (.ref s1), .val (.ref s2), .val (.ref s3), .val (.ref s4), .val (.ref b5), .val (.ref b8), .val (.ref b5), .unset] [(.ref s1)])) t
      refine XS.aload X13.here hx rfl (hb hby at_141) rfl rfl ?_
      exact k
    have M14 := rm25 l Z a0 hw [] s1 T9.heap n0 (Nat.le_trans (Nat.le_trans (Nat.le_trans (Nat.le_trans (Nat.le_trans (Nat.le_trans (Nat.le_trans (Nat.le_trans (Nat.le_trans Z0 K1.1) K2.1) K3.1) K4.1) E5.1) K6.1) K7.1) E8.1) K9.1)
    obtain ⟨cq14, kq14, q14a, q14b, q14c⟩ := isOf hZ e13 f9_0
    obtain ⟨_, _, ⟨T14, L14, k14, n14⟩, -, X14, ⟨Lc14, hQ14, l14, y14, z14⟩, st14⟩ := X13.virtualBack hx (y := (⟨"java/lang/String", "equals", "(Ljava/lang/Object;)Z"⟩ : MethodName)) (z := (⟨"java/lang/String", "equals", "(Ljava/lang/Object;)Z"⟩ : MethodName)) hown (mvT hZ (hw _ (List.mem_of_getElem? (i := 150) rfl))) (mvT hZ (hw _ (List.mem_of_getElem? (i := 151) rfl))) (notFace_of_selects (args := #[]) (mvT hZ (hw _ (List.mem_of_getElem? (i := 153) rfl)))) (mvT hZ (hw _ (List.mem_of_getElem? (i := 153) rfl))) (mvT hZ (hw _ (List.mem_of_getElem? (i := 152) rfl))) (by decide) (backOf (W := 0) (M14) hZ (hw _ (List.mem_of_getElem? (i := 154) rfl)) (hw _ (List.mem_of_getElem? (i := 7) rfl)) (by decide) (by decide)) q14a q14c (g := (mkF m 143 #[.val (.int p1), .val (.int p2), .val (.int p3), .val (.int p4), .val (.int p5), .val (.int (1 : Int32)), .val (.ref s1), .val (.ref s2), .val (.ref s3), .val (.ref s4), .val (.ref b5), .val (.ref b8), .val (.ref b5), .unset] [(.ref s1), (.ref s1)])) rfl (by rw [hml]; rfl) (Steps.refl _) (argsL := [(.ref s1)]) (rest := []) (lenOf pd_rm0_2 rfl) rfl (by show 2 * 0 + _ ≤ _; exact Nat.le_of_eq rfl) (hb hby at_143) (fun _ _ => ⟨rfl, e13, (by decide : 15 + 0 ≤ _), (by decide : 48 + 0 ≤ _)⟩)
    dsimp only [Pt.U, Pt.locs, Pt.cells, Pt.slots] at X14 l14 y14 z14 st14 hQ14
    subst l14 y14 z14
    obtain ⟨rfl, N14q, hh14⟩ := hQ14
    have N14 := Fr.app N12 N14q
    obtain ⟨LL14, X14, N14⟩ := own_abs X14 N14
    refine own_go (fun t k => st14.trans k) ?_
    refine own_go (B := T14.setTop (mkF m 261 #[.val (.int p1), .val (.int p2), .val (.int p3), .val (.int p4), .val (.int p5), .val (.int (1 : Int32)), .val (.ref s1), .val (.ref s2), .val (.ref s3), .val (.ref s4), .val (.ref b5), .val (.ref b8), .val (.ref b5), .val (.int (1 : Int32))] [(.int (1 : Int32))])) (fun t k => ?_) ?_
    · show Steps p.tables e below (T14.setTop (mkF m 146 #[.val (.int p1), .val (.int p2), .val (.int p3), .val (.int p4), .val (.int p5), .val (.int (1 : Int32)), .val (.ref s1), .val (.ref s2), .val (.ref s3), .val (.ref s4), .val (.ref b5), .val (.ref b8), .val (.ref b5), .unset] [(.int (1 : Int32))])) t
      refine XS.istore X14.here hx rfl (hb hby at_146) rfl (l' := #[.val (.int p1), .val (.int p2), .val (.int p3), .val (.int p4), .val (.int p5), .val (.int (1 : Int32)), .val (.ref s1), .val (.ref s2), .val (.ref s3), .val (.ref s4), .val (.ref b5), .val (.ref b8), .val (.ref b5), .val (.int (1 : Int32))]) rfl ?_
      show Steps p.tables e below (T14.setTop (mkF m 148 #[.val (.int p1), .val (.int p2), .val (.int p3), .val (.int p4), .val (.int p5), .val (.int (1 : Int32)), .val (.ref s1), .val (.ref s2), .val (.ref s3), .val (.ref s4), .val (.ref b5), .val (.ref b8), .val (.ref b5), .val (.int (1 : Int32))] [])) t
      refine XS.iload X14.here hx rfl (hb hby at_148) rfl ?_
      show Steps p.tables e below (T14.setTop (mkF m 150 #[.val (.int p1), .val (.int p2), .val (.int p3), .val (.int p4), .val (.int p5), .val (.int (1 : Int32)), .val (.ref s1), .val (.ref s2), .val (.ref s3), .val (.ref s4), .val (.ref b5), .val (.ref b8), .val (.ref b5), .val (.int (1 : Int32))] [(.int (1 : Int32))])) t
      refine XS.iconst X14.here hx rfl (hb hby at_150) ?_
      show Steps p.tables e below (T14.setTop (mkF m 151 #[.val (.int p1), .val (.int p2), .val (.int p3), .val (.int p4), .val (.int p5), .val (.int (1 : Int32)), .val (.ref s1), .val (.ref s2), .val (.ref s3), .val (.ref s4), .val (.ref b5), .val (.ref b8), .val (.ref b5), .val (.int (1 : Int32))] [(.int (1 : Int32)), (.int (1 : Int32))])) t
      refine XS.icmpYes X14.here hx rfl (pc0 := 151) (pc' := 185) rfl (hb hby at_151) rfl (flt (by decide : ¬ ((1 : Int32) < (1 : Int32)))).2.2.2 (by decide) (by decide) ?_
      show Steps p.tables e below (T14.setTop (mkF m 185 #[.val (.int p1), .val (.int p2), .val (.int p3), .val (.int p4), .val (.int p5), .val (.int (1 : Int32)), .val (.ref s1), .val (.ref s2), .val (.ref s3), .val (.ref s4), .val (.ref b5), .val (.ref b8), .val (.ref b5), .val (.int (1 : Int32))] [])) t
      refine XS.iload X14.here hx rfl (hb hby at_185) rfl ?_
      show Steps p.tables e below (T14.setTop (mkF m 187 #[.val (.int p1), .val (.int p2), .val (.int p3), .val (.int p4), .val (.int p5), .val (.int (1 : Int32)), .val (.ref s1), .val (.ref s2), .val (.ref s3), .val (.ref s4), .val (.ref b5), .val (.ref b8), .val (.ref b5), .val (.int (1 : Int32))] [(.int (1 : Int32))])) t
      refine XS.iconst X14.here hx rfl (hb hby at_187) ?_
      show Steps p.tables e below (T14.setTop (mkF m 188 #[.val (.int p1), .val (.int p2), .val (.int p3), .val (.int p4), .val (.int p5), .val (.int (1 : Int32)), .val (.ref s1), .val (.ref s2), .val (.ref s3), .val (.ref s4), .val (.ref b5), .val (.ref b8), .val (.ref b5), .val (.int (1 : Int32))] [(.int (2 : Int32)), (.int (1 : Int32))])) t
      refine XS.icmpYes X14.here hx rfl (pc0 := 188) (pc' := 222) rfl (hb hby at_188) rfl (flt (by decide : ¬ ((2 : Int32) < (1 : Int32)))).2.2.2 (by decide) (by decide) ?_
      show Steps p.tables e below (T14.setTop (mkF m 222 #[.val (.int p1), .val (.int p2), .val (.int p3), .val (.int p4), .val (.int p5), .val (.int (1 : Int32)), .val (.ref s1), .val (.ref s2), .val (.ref s3), .val (.ref s4), .val (.ref b5), .val (.ref b8), .val (.ref b5), .val (.int (1 : Int32))] [])) t
      refine XS.iload X14.here hx rfl (hb hby at_222) rfl ?_
      show Steps p.tables e below (T14.setTop (mkF m 224 #[.val (.int p1), .val (.int p2), .val (.int p3), .val (.int p4), .val (.int p5), .val (.int (1 : Int32)), .val (.ref s1), .val (.ref s2), .val (.ref s3), .val (.ref s4), .val (.ref b5), .val (.ref b8), .val (.ref b5), .val (.int (1 : Int32))] [(.int (1 : Int32))])) t
      refine XS.iconst X14.here hx rfl (hb hby at_224) ?_
      show Steps p.tables e below (T14.setTop (mkF m 225 #[.val (.int p1), .val (.int p2), .val (.int p3), .val (.int p4), .val (.int p5), .val (.int (1 : Int32)), .val (.ref s1), .val (.ref s2), .val (.ref s3), .val (.ref s4), .val (.ref b5), .val (.ref b8), .val (.ref b5), .val (.int (1 : Int32))] [(.int (3 : Int32)), (.int (1 : Int32))])) t
      refine XS.icmpYes X14.here hx rfl (pc0 := 225) (pc' := 259) rfl (hb hby at_225) rfl (flt (by decide : ¬ ((3 : Int32) < (1 : Int32)))).2.2.2 (by decide) (by decide) ?_
      show Steps p.tables e below (T14.setTop (mkF m 259 #[.val (.int p1), .val (.int p2), .val (.int p3), .val (.int p4), .val (.int p5), .val (.int (1 : Int32)), .val (.ref s1), .val (.ref s2), .val (.ref s3), .val (.ref s4), .val (.ref b5), .val (.ref b8), .val (.ref b5), .val (.int (1 : Int32))] [])) t
      refine XS.iload X14.here hx rfl (hb hby at_259) rfl ?_
      exact k
    obtain ⟨fs, hr, hrun, hended, hW, hsame⟩ := X14.leave (v := some (.int (1 : Int32))) (fun h => by rw [Bd.returns] at h; cases h)
    refine ⟨_, _, ?_, hrun, hended, _, _, rfl, ?_, ⟨_, rfl⟩, hW, hsame.mono (by decide) (by decide)⟩
    · show Steps p.tables e below (T14.setTop (mkF m 261 #[.val (.int p1), .val (.int p2), .val (.int p3), .val (.int p4), .val (.int p5), .val (.int (1 : Int32)), .val (.ref s1), .val (.ref s2), .val (.ref s3), .val (.ref s4), .val (.ref b5), .val (.ref b8), .val (.ref b5), .val (.int (1 : Int32))] [(.int (1 : Int32))])) _
      exact retN X14 hx (t := .boolean) Bd.returns (by simp) (hb hby at_261) hr
    · show Q0 Z p1 p2 p3 p4 p5 cz eD kD gD h0 n0 _ T14.heap _
      rw [hh14]
      exact ⟨rfl, N14⟩
  · subst e
    refine own_go (B := T6.setTop (mkF m 45 #[.val (.int p1), .val (.int p2), .val (.int p3), .val (.int p4), .val (.int p5), .val (.int (2 : Int32)), .val (.ref s1), .val (.ref s2), .val (.ref s3), .val (.ref s4), .val (.ref b5), .unset, .unset, .unset] [(.ref s1), (.ref b5)])) (fun t k => ?_) ?_
    · show Steps p.tables e below (T6.setTop (mkF m 41 #[.val (.int p1), .val (.int p2), .val (.int p3), .val (.int p4), .val (.int p5), .val (.int (2 : Int32)), .val (.ref s1), .val (.ref s2), .val (.ref s3), .val (.ref s4), .val (.ref b5), .unset, .unset, .unset] [])) t
      refine XS.aload X6.here hx rfl (hb hby at_41) rfl rfl ?_
      show Steps p.tables e below (T6.setTop (mkF m 43 #[.val (.int p1), .val (.int p2), .val (.int p3), .val (.int p4), .val (.int p5), .val (.int (2 : Int32)), .val (.ref s1), .val (.ref s2), .val (.ref s3), .val (.ref s4), .val (.ref b5), .unset, .unset, .unset] [(.ref b5)])) t
      refine XS.aload X6.here hx rfl (hb hby at_43) rfl rfl ?_
      exact k
    have M15 := rm11a l Z a0 hw [] b5 s1 (0 : Int32) eD kD gD T6.heap n0 (Nat.le_trans (Nat.le_trans (Nat.le_trans (Nat.le_trans (Nat.le_trans (Nat.le_trans Z0 K1.1) K2.1) K3.1) K4.1) E5.1) K6.1) f6_7 G0_6 G1_6 G2_6 g_b5 f6_1 f6_2 (Ne.symm ne5_eD) f6_3
    obtain ⟨cq15, kq15, q15a, q15b, q15c⟩ := isOf hZ rfl f6_7
    obtain ⟨_, _, ⟨T15, L15, k15, n15⟩, -, X15, ⟨Lc15, hQ15, l15, y15, z15⟩, st15⟩ := X6.virtualBack hx (y := (⟨"java/util/ArrayList", "add", "(Ljava/lang/Object;)Z"⟩ : MethodName)) (z := (⟨"java/util/ArrayList", "add", "(Ljava/lang/Object;)Z"⟩ : MethodName)) hown (mvT hZ (hw _ (List.mem_of_getElem? (i := 58) rfl))) (mvT hZ (hw _ (List.mem_of_getElem? (i := 59) rfl))) (notFace_of_selects (args := #[]) (mvT hZ (hw _ (List.mem_of_getElem? (i := 61) rfl)))) (mvT hZ (hw _ (List.mem_of_getElem? (i := 61) rfl))) (mvT hZ (hw _ (List.mem_of_getElem? (i := 60) rfl))) (by decide) (backOf (W := 0) (M15) hZ (hw _ (List.mem_of_getElem? (i := 62) rfl)) (hw _ (List.mem_of_getElem? (i := 36) rfl)) (by decide) (by decide)) q15a q15c (g := (mkF m 45 #[.val (.int p1), .val (.int p2), .val (.int p3), .val (.int p4), .val (.int p5), .val (.int (2 : Int32)), .val (.ref s1), .val (.ref s2), .val (.ref s3), .val (.ref s4), .val (.ref b5), .unset, .unset, .unset] [(.ref s1), (.ref b5)])) rfl (by rw [hml]; rfl) (Steps.refl _) (argsL := [(.ref s1)]) (rest := []) (lenOf pd_rm0_2 rfl) rfl (by show 2 * 0 + _ ≤ _; exact Nat.le_of_eq rfl) (hb hby at_45) (fun _ _ => ⟨rfl, rfl, (by decide : 13 + 1 ≤ _), (by decide : 35 + 10 ≤ _)⟩)
    dsimp only [Pt.U, Pt.locs, Pt.cells, Pt.slots] at X15 l15 y15 z15 st15 hQ15
    subst l15 y15 z15
    obtain ⟨r15, kA15, rfl, N15q, K15, -, ⟨m15, G0_15⟩, G1_15, G2_15, R15, O15, nr15, lr15, hs15⟩ := hQ15
    have N15 := Fr.app N6 N15q
    obtain ⟨LL15, X15, N15⟩ := own_abs X15 N15
    refine own_go (fun t k => st15.trans k) ?_
    have f15_0 := own_staKeep f6_0 K15 (nsS f6_7.nostat ns0)
    have f15_1 := own_staKeep f6_1 K15 (nsS f6_7.nostat ns0)
    have f15_2 := f6_2.keep K15 (ninS ne5_eD nin0)
    have f15_3 := f6_3.keep K15
    have f15_4 := f6_4.keep K15
    have f15_5 := f6_5.keep K15
    have f15_6 := f6_6.keep K15
    have f15_7 := f6_7.keep K15
    refine own_go (B := T15.setTop (mkF m 59 #[.val (.int p1), .val (.int p2), .val (.int p3), .val (.int p4), .val (.int p5), .val (.int (2 : Int32)), .val (.ref s1), .val (.ref s2), .val (.ref s3), .val (.ref s4), .val (.ref b5), .unset, .unset, .unset] [(.ref s2), (.ref b5)])) (fun t k => ?_) ?_
    · show Steps p.tables e below (T15.setTop (mkF m 48 #[.val (.int p1), .val (.int p2), .val (.int p3), .val (.int p4), .val (.int p5), .val (.int (2 : Int32)), .val (.ref s1), .val (.ref s2), .val (.ref s3), .val (.ref s4), .val (.ref b5), .unset, .unset, .unset] [(.int (1 : Int32))])) t
      refine XS.pop X15.here hx rfl (hb hby at_48) rfl rfl ?_
      show Steps p.tables e below (T15.setTop (mkF m 49 #[.val (.int p1), .val (.int p2), .val (.int p3), .val (.int p4), .val (.int p5), .val (.int (2 : Int32)), .val (.ref s1), .val (.ref s2), .val (.ref s3), .val (.ref s4), .val (.ref b5), .unset, .unset, .unset] [])) t
      refine XS.iload X15.here hx rfl (hb hby at_49) rfl ?_
      show Steps p.tables e below (T15.setTop (mkF m 51 #[.val (.int p1), .val (.int p2), .val (.int p3), .val (.int p4), .val (.int p5), .val (.int (2 : Int32)), .val (.ref s1), .val (.ref s2), .val (.ref s3), .val (.ref s4), .val (.ref b5), .unset, .unset, .unset] [(.int (2 : Int32))])) t
      refine XS.iconst X15.here hx rfl (hb hby at_51) ?_
      show Steps p.tables e below (T15.setTop (mkF m 52 #[.val (.int p1), .val (.int p2), .val (.int p3), .val (.int p4), .val (.int p5), .val (.int (2 : Int32)), .val (.ref s1), .val (.ref s2), .val (.ref s3), .val (.ref s4), .val (.ref b5), .unset, .unset, .unset] [(.int (1 : Int32)), (.int (2 : Int32))])) t
      refine XS.icmpNo X15.here hx rfl (hb hby at_52) rfl (tlt (by decide : (1 : Int32) < (2 : Int32))).2.2.2 ?_
      show Steps p.tables e below (T15.setTop (mkF m 55 #[.val (.int p1), .val (.int p2), .val (.int p3), .val (.int p4), .val (.int p5), .val (.int (2 : Int32)), .val (.ref s1), .val (.ref s2), .val (.ref s3), .val (.ref s4), .val (.ref b5), .unset, .unset, .unset] [])) t
      refine XS.aload X15.here hx rfl (hb hby at_55) rfl rfl ?_
      show Steps p.tables e below (T15.setTop (mkF m 57 #[.val (.int p1), .val (.int p2), .val (.int p3), .val (.int p4), .val (.int p5), .val (.int (2 : Int32)), .val (.ref s1), .val (.ref s2), .val (.ref s3), .val (.ref s4), .val (.ref b5), .unset, .unset, .unset] [(.ref b5)])) t
      refine XS.aload X15.here hx rfl (hb hby at_57) rfl rfl ?_
      exact k
    have M16 := rm11b l Z a0 hw [] b5 s2 m15 ((0 : Int32) + (1 : Int32)) r15 kA15 (fun x => if x = 0 then (Value.ref s1) else (fun _ => Value.null) x) 1 T15.heap n0 (Nat.le_trans (Nat.le_trans (Nat.le_trans (Nat.le_trans (Nat.le_trans (Nat.le_trans (Nat.le_trans Z0 K1.1) K2.1) K3.1) K4.1) E5.1) K6.1) K15.1) f15_7 G0_15 G1_15 G2_15 g_b5 R15 O15 nr15 lr15 f15_4 (by decide) (by decide) (by decide)
    obtain ⟨cq16, kq16, q16a, q16b, q16c⟩ := isOf hZ rfl f15_7
    obtain ⟨_, _, ⟨T16, L16, k16, n16⟩, -, X16, ⟨Lc16, hQ16, l16, y16, z16⟩, st16⟩ := X15.virtualBack hx (y := (⟨"java/util/ArrayList", "add", "(Ljava/lang/Object;)Z"⟩ : MethodName)) (z := (⟨"java/util/ArrayList", "add", "(Ljava/lang/Object;)Z"⟩ : MethodName)) hown (mvT hZ (hw _ (List.mem_of_getElem? (i := 58) rfl))) (mvT hZ (hw _ (List.mem_of_getElem? (i := 59) rfl))) (notFace_of_selects (args := #[]) (mvT hZ (hw _ (List.mem_of_getElem? (i := 61) rfl)))) (mvT hZ (hw _ (List.mem_of_getElem? (i := 61) rfl))) (mvT hZ (hw _ (List.mem_of_getElem? (i := 60) rfl))) (by decide) (backOf (W := 0) (M16) hZ (hw _ (List.mem_of_getElem? (i := 62) rfl)) (hw _ (List.mem_of_getElem? (i := 36) rfl)) (by decide) (by decide)) q16a q16c (g := (mkF m 59 #[.val (.int p1), .val (.int p2), .val (.int p3), .val (.int p4), .val (.int p5), .val (.int (2 : Int32)), .val (.ref s1), .val (.ref s2), .val (.ref s3), .val (.ref s4), .val (.ref b5), .unset, .unset, .unset] [(.ref s2), (.ref b5)])) rfl (by rw [hml]; rfl) (Steps.refl _) (argsL := [(.ref s2)]) (rest := []) (lenOf pd_rm0_2 rfl) rfl (by show 2 * 0 + _ ≤ _; exact Nat.le_of_eq rfl) (hb hby at_59) (fun _ _ => ⟨rfl, rfl, (by decide : 14 + 0 ≤ _), (by decide : 45 + 0 ≤ _)⟩)
    dsimp only [Pt.U, Pt.locs, Pt.cells, Pt.slots] at X16 l16 y16 z16 st16 hQ16
    subst l16 y16 z16
    obtain ⟨rfl, N16q, K16, -, ⟨m16, G0_16⟩, G1_16, G2_16, R16⟩ := hQ16
    have N16 := Fr.app N15 N16q
    obtain ⟨LL16, X16, N16⟩ := own_abs X16 N16
    refine own_go (fun t k => st16.trans k) ?_
    have f16_0 := f15_3.keep K16
    have f16_1 := f15_4.keep K16
    have f16_2 := f15_5.keep K16
    have f16_3 := f15_6.keep K16
    have f16_4 := f15_7.keep K16
    refine own_go (B := T16.setTop (mkF m 91 #[.val (.int p1), .val (.int p2), .val (.int p3), .val (.int p4), .val (.int p5), .val (.int (2 : Int32)), .val (.ref s1), .val (.ref s2), .val (.ref s3), .val (.ref s4), .val (.ref b5), .unset, .unset, .unset] [])) (fun t k => ?_) ?_
    · show Steps p.tables e below (T16.setTop (mkF m 62 #[.val (.int p1), .val (.int p2), .val (.int p3), .val (.int p4), .val (.int p5), .val (.int (2 : Int32)), .val (.ref s1), .val (.ref s2), .val (.ref s3), .val (.ref s4), .val (.ref b5), .unset, .unset, .unset] [(.int (1 : Int32))])) t
      refine XS.pop X16.here hx rfl (hb hby at_62) rfl rfl ?_
      show Steps p.tables e below (T16.setTop (mkF m 63 #[.val (.int p1), .val (.int p2), .val (.int p3), .val (.int p4), .val (.int p5), .val (.int (2 : Int32)), .val (.ref s1), .val (.ref s2), .val (.ref s3), .val (.ref s4), .val (.ref b5), .unset, .unset, .unset] [])) t
      refine XS.iload X16.here hx rfl (hb hby at_63) rfl ?_
      show Steps p.tables e below (T16.setTop (mkF m 65 #[.val (.int p1), .val (.int p2), .val (.int p3), .val (.int p4), .val (.int p5), .val (.int (2 : Int32)), .val (.ref s1), .val (.ref s2), .val (.ref s3), .val (.ref s4), .val (.ref b5), .unset, .unset, .unset] [(.int (2 : Int32))])) t
      refine XS.iconst X16.here hx rfl (hb hby at_65) ?_
      show Steps p.tables e below (T16.setTop (mkF m 66 #[.val (.int p1), .val (.int p2), .val (.int p3), .val (.int p4), .val (.int p5), .val (.int (2 : Int32)), .val (.ref s1), .val (.ref s2), .val (.ref s3), .val (.ref s4), .val (.ref b5), .unset, .unset, .unset] [(.int (2 : Int32)), (.int (2 : Int32))])) t
      refine XS.icmpYes X16.here hx rfl (pc0 := 66) (pc' := 77) rfl (hb hby at_66) rfl (flt (by decide : ¬ ((2 : Int32) < (2 : Int32)))).2.2.2 (by decide) (by decide) ?_
      show Steps p.tables e below (T16.setTop (mkF m 77 #[.val (.int p1), .val (.int p2), .val (.int p3), .val (.int p4), .val (.int p5), .val (.int (2 : Int32)), .val (.ref s1), .val (.ref s2), .val (.ref s3), .val (.ref s4), .val (.ref b5), .unset, .unset, .unset] [])) t
      refine XS.iload X16.here hx rfl (hb hby at_77) rfl ?_
      show Steps p.tables e below (T16.setTop (mkF m 79 #[.val (.int p1), .val (.int p2), .val (.int p3), .val (.int p4), .val (.int p5), .val (.int (2 : Int32)), .val (.ref s1), .val (.ref s2), .val (.ref s3), .val (.ref s4), .val (.ref b5), .unset, .unset, .unset] [(.int (2 : Int32))])) t
      refine XS.iconst X16.here hx rfl (hb hby at_79) ?_
      show Steps p.tables e below (T16.setTop (mkF m 80 #[.val (.int p1), .val (.int p2), .val (.int p3), .val (.int p4), .val (.int p5), .val (.int (2 : Int32)), .val (.ref s1), .val (.ref s2), .val (.ref s3), .val (.ref s4), .val (.ref b5), .unset, .unset, .unset] [(.int (3 : Int32)), (.int (2 : Int32))])) t
      refine XS.icmpYes X16.here hx rfl (pc0 := 80) (pc' := 91) rfl (hb hby at_80) rfl (flt (by decide : ¬ ((3 : Int32) < (2 : Int32)))).2.2.2 (by decide) (by decide) ?_
      exact k
    obtain ⟨T17, h17, X17, e17, E17, A17, D17, -, st17⟩ := newO X16 hx hZ hown (hw _ (List.mem_of_getElem? (i := 89) rfl)) (hw _ (List.mem_of_getElem? (i := 90) rfl)) (hw _ (List.mem_of_getElem? (i := 91) rfl)) rfl (g := (mkF m 91 #[.val (.int p1), .val (.int p2), .val (.int p3), .val (.int p4), .val (.int p5), .val (.int (2 : Int32)), .val (.ref s1), .val (.ref s2), .val (.ref s3), .val (.ref s4), .val (.ref b5), .unset, .unset, .unset] [])) rfl (hb hby at_91) (by decide) (by decide)
    obtain ⟨b17, g17⟩ : ∃ z, z = T16.heap.size := ⟨_, rfl⟩
    rw [← g17] at A17 D17 st17
    refine own_go (fun t k => st17 t k) ?_
    have g_b17 : n0 ≤ b17 := Nat.le_trans (Nat.le_trans (Nat.le_trans (Nat.le_trans (Nat.le_trans (Nat.le_trans (Nat.le_trans (Nat.le_trans (Nat.le_trans Z0 K1.1) K2.1) K3.1) K4.1) E5.1) K6.1) K15.1) K16.1) (Nat.le_of_eq g17.symm)
    have ne17_s1 : s1 ≠ b17 := Nat.ne_of_lt (Nat.lt_of_lt_of_le f16_0.lt (Nat.le_of_eq g17.symm))
    have ne17_s2 : s2 ≠ b17 := Nat.ne_of_lt (Nat.lt_of_lt_of_le f16_1.lt (Nat.le_of_eq g17.symm))
    have ne17_s3 : s3 ≠ b17 := Nat.ne_of_lt (Nat.lt_of_lt_of_le f16_2.lt (Nat.le_of_eq g17.symm))
    have ne17_s4 : s4 ≠ b17 := Nat.ne_of_lt (Nat.lt_of_lt_of_le f16_3.lt (Nat.le_of_eq g17.symm))
    have ne17_b5 : b5 ≠ b17 := Nat.ne_of_lt (Nat.lt_of_lt_of_le f16_4.lt (Nat.le_of_eq g17.symm))
    have ne17_r15 : r15 ≠ b17 := Nat.ne_of_lt (Nat.lt_of_lt_of_le R16.lt (Nat.le_of_eq g17.symm))
    have f17_0 := f16_0.ext E17
    have f17_1 := f16_1.ext E17
    have f17_2 := f16_2.ext E17
    have f17_3 := f16_3.ext E17
    have f17_4 := f16_4.ext E17
    have f17_5 := G0_16.ext E17
    have f17_6 := G1_16.ext E17
    have f17_7 := G2_16.ext E17
    have f17_8 := R16.ext E17
    have F17_options : Fld Z h17 b17 "com/example/freshet/freshet/Command$Arguments" "options" "Ljava/util/Map;" .null := D17 (Or.inr (hw _ (List.mem_of_getElem? (i := 102) rfl))) (ty := (.object "java/util/Map")) (by decide)
    have F17_flags : Fld Z h17 b17 "com/example/freshet/freshet/Command$Arguments" "flags" "Ljava/util/Set;" .null := D17 (Or.inr (hw _ (List.mem_of_getElem? (i := 104) rfl))) (ty := (.object "java/util/Set")) (by decide)
    have F17_files : Fld Z h17 b17 "com/example/freshet/freshet/Command$Arguments" "files" "Ljava/util/List;" .null := D17 (Or.inr (hw _ (List.mem_of_getElem? (i := 106) rfl))) (ty := (.object "java/util/List")) (by decide)
    refine own_go (B := T17.setTop (mkF m 99 #[.val (.int p1), .val (.int p2), .val (.int p3), .val (.int p4), .val (.int p5), .val (.int (2 : Int32)), .val (.ref s1), .val (.ref s2), .val (.ref s3), .val (.ref s4), .val (.ref b5), .unset, .unset, .unset] [(.ref b5), .null, .null, (.ref b17), (.ref b17)])) (fun t k => ?_) ?_
    · show Steps p.tables e below (T17.setTop (mkF m 94 #[.val (.int p1), .val (.int p2), .val (.int p3), .val (.int p4), .val (.int p5), .val (.int (2 : Int32)), .val (.ref s1), .val (.ref s2), .val (.ref s3), .val (.ref s4), .val (.ref b5), .unset, .unset, .unset] [(.ref b17)])) t
      refine XS.dup X17.here hx rfl (hb hby at_94) rfl rfl ?_
      show Steps p.tables e below (T17.setTop (mkF m 95 #[.val (.int p1), .val (.int p2), .val (.int p3), .val (.int p4), .val (.int p5), .val (.int (2 : Int32)), .val (.ref s1), .val (.ref s2), .val (.ref s3), .val (.ref s4), .val (.ref b5), .unset, .unset, .unset] [(.ref b17), (.ref b17)])) t
      refine XS.aconstNull X17.here hx rfl (hb hby at_95) ?_
      show Steps p.tables e below (T17.setTop (mkF m 96 #[.val (.int p1), .val (.int p2), .val (.int p3), .val (.int p4), .val (.int p5), .val (.int (2 : Int32)), .val (.ref s1), .val (.ref s2), .val (.ref s3), .val (.ref s4), .val (.ref b5), .unset, .unset, .unset] [.null, (.ref b17), (.ref b17)])) t
      refine XS.aconstNull X17.here hx rfl (hb hby at_96) ?_
      show Steps p.tables e below (T17.setTop (mkF m 97 #[.val (.int p1), .val (.int p2), .val (.int p3), .val (.int p4), .val (.int p5), .val (.int (2 : Int32)), .val (.ref s1), .val (.ref s2), .val (.ref s3), .val (.ref s4), .val (.ref b5), .unset, .unset, .unset] [.null, .null, (.ref b17), (.ref b17)])) t
      refine XS.aload X17.here hx rfl (hb hby at_97) rfl rfl ?_
      exact k
    have M18 := rm16 l Z a0 hw [] b17 b5 _ _ _ h17 n0 (Nat.le_trans (Nat.le_trans (Nat.le_trans (Nat.le_trans (Nat.le_trans (Nat.le_trans (Nat.le_trans (Nat.le_trans (Nat.le_trans Z0 K1.1) K2.1) K3.1) K4.1) E5.1) K6.1) K15.1) K16.1) E17.1) A17 F17_options F17_flags F17_files g_b17
    obtain ⟨_, _, ⟨T18, L18, k18, n18⟩, -, X18, ⟨Lc18, hQ18, l18, y18, z18⟩, st18⟩ := X17.specialBack hx (y := (⟨"com/example/freshet/freshet/Command$Arguments", "<init>", "(Ljava/util/Map;Ljava/util/Set;Ljava/util/List;)V"⟩ : MethodName)) rfl hown (mvT hZ (hw _ (List.mem_of_getElem? (i := 92) rfl))) (mvT hZ (hw _ (List.mem_of_getElem? (i := 93) rfl))) (mvT hZ (hw _ (List.mem_of_getElem? (i := 94) rfl))) (by decide) (backOf (W := 1) (M18) hZ (hw _ (List.mem_of_getElem? (i := 94) rfl)) (hw _ (List.mem_of_getElem? (i := 91) rfl)) (by decide) (by decide)) (g := (mkF m 99 #[.val (.int p1), .val (.int p2), .val (.int p3), .val (.int p4), .val (.int p5), .val (.int (2 : Int32)), .val (.ref s1), .val (.ref s2), .val (.ref s3), .val (.ref s4), .val (.ref b5), .unset, .unset, .unset] [(.ref b5), .null, .null, (.ref b17), (.ref b17)])) rfl (by rw [hml]; rfl) (Steps.refl _) (a := b17) (argsL := [.null, .null, (.ref b5)]) (rest := [(.ref b17)]) (lenOf pd_rm0_3 rfl) rfl (by show 2 * 0 + _ ≤ _; exact Nat.le_of_eq rfl) (hb hby at_99) (fun _ _ => ⟨rfl, e17, (by decide : 15 + 0 ≤ _), (by decide : 48 + 0 ≤ _)⟩)
    dsimp only [Pt.U, Pt.locs, Pt.cells, Pt.slots] at X18 l18 y18 z18 st18 hQ18
    subst l18 y18 z18
    obtain ⟨rfl, N18q, K18, -, G18⟩ := hQ18
    have N18 := Fr.app N16 N18q
    obtain ⟨LL18, X18, N18⟩ := own_abs X18 N18
    refine own_go (fun t k => st18.trans k) ?_
    have f18_0 := f17_0.keep K18
    have f18_1 := f17_1.keep K18
    have f18_2 := f17_2.keep K18
    have f18_3 := f17_3.keep K18
    have f18_4 := f17_4.keep K18
    have f18_5 := f17_5.keep K18 (ninS ne17_b5 nin0)
    have f18_6 := f17_6.keep K18 (ninS ne17_b5 nin0)
    have f18_7 := f17_7.keep K18 (ninS ne17_b5 nin0)
    have f18_8 := f17_8.keep K18 (ninS ne17_r15 nin0)
    have f18_9 := A17.keep K18
    refine own_go (B := T18.setTop (mkF m 106 #[.val (.int p1), .val (.int p2), .val (.int p3), .val (.int p4), .val (.int p5), .val (.int (2 : Int32)), .val (.ref s1), .val (.ref s2), .val (.ref s3), .val (.ref s4), .val (.ref b5), .val (.ref b17), .unset, .unset] [(.ref b17)])) (fun t k => ?_) ?_
    · show Steps p.tables e below (T18.setTop (mkF m 102 #[.val (.int p1), .val (.int p2), .val (.int p3), .val (.int p4), .val (.int p5), .val (.int (2 : Int32)), .val (.ref s1), .val (.ref s2), .val (.ref s3), .val (.ref s4), .val (.ref b5), .unset, .unset, .unset] [(.ref b17)])) t
      refine XS.astore X18.here hx rfl (hb hby at_102) rfl rfl (l' := #[.val (.int p1), .val (.int p2), .val (.int p3), .val (.int p4), .val (.int p5), .val (.int (2 : Int32)), .val (.ref s1), .val (.ref s2), .val (.ref s3), .val (.ref s4), .val (.ref b5), .val (.ref b17), .unset, .unset]) rfl ?_
      show Steps p.tables e below (T18.setTop (mkF m 104 #[.val (.int p1), .val (.int p2), .val (.int p3), .val (.int p4), .val (.int p5), .val (.int (2 : Int32)), .val (.ref s1), .val (.ref s2), .val (.ref s3), .val (.ref s4), .val (.ref b5), .val (.ref b17), .unset, .unset] [])) t
      refine XS.aload X18.here hx rfl (hb hby at_104) rfl rfl ?_
      exact k
    have M19 := rm18 l Z a0 hw [] b17 b5 (((0 : Int32) + (1 : Int32)) + (1 : Int32)) T18.heap n0 (Nat.le_trans (Nat.le_trans (Nat.le_trans (Nat.le_trans (Nat.le_trans (Nat.le_trans (Nat.le_trans (Nat.le_trans (Nat.le_trans (Nat.le_trans Z0 K1.1) K2.1) K3.1) K4.1) E5.1) K6.1) K15.1) K16.1) E17.1) K18.1) f18_9 G18 f18_4 f18_7 (by decide)
    obtain ⟨cq19, kq19, q19a, q19b, q19c⟩ := isOf hZ rfl f18_9
    obtain ⟨_, _, ⟨T19, L19, k19, n19⟩, -, X19, ⟨Lc19, hQ19, l19, y19, z19⟩, st19⟩ := X18.virtualBack hx (y := (⟨"com/example/freshet/freshet/Command$Arguments", "traceFiles", "()Ljava/util/List;"⟩ : MethodName)) (z := (⟨"com/example/freshet/freshet/Command$Arguments", "traceFiles", "()Ljava/util/List;"⟩ : MethodName)) hown (mvT hZ (hw _ (List.mem_of_getElem? (i := 107) rfl))) (mvT hZ (hw _ (List.mem_of_getElem? (i := 108) rfl))) (notFace_of_selects (args := #[]) (mvT hZ (hw _ (List.mem_of_getElem? (i := 110) rfl)))) (mvT hZ (hw _ (List.mem_of_getElem? (i := 110) rfl))) (mvT hZ (hw _ (List.mem_of_getElem? (i := 109) rfl))) (by decide) (backOf (W := 0) (M19) hZ (hw _ (List.mem_of_getElem? (i := 111) rfl)) (hw _ (List.mem_of_getElem? (i := 91) rfl)) (by decide) (by decide)) q19a q19c (g := (mkF m 106 #[.val (.int p1), .val (.int p2), .val (.int p3), .val (.int p4), .val (.int p5), .val (.int (2 : Int32)), .val (.ref s1), .val (.ref s2), .val (.ref s3), .val (.ref s4), .val (.ref b5), .val (.ref b17), .unset, .unset] [(.ref b17)])) rfl (by rw [hml]; rfl) (Steps.refl _) (argsL := []) (rest := []) (lenOf pd_rm0_4 rfl) rfl (by show 2 * 0 + _ ≤ _; exact Nat.le_of_eq rfl) (hb hby at_106) (fun _ _ => ⟨rfl, rfl, (by decide : 15 + 0 ≤ _), (by decide : 48 + 0 ≤ _)⟩)
    dsimp only [Pt.U, Pt.locs, Pt.cells, Pt.slots] at X19 l19 y19 z19 st19 hQ19
    subst l19 y19 z19
    obtain ⟨rfl, N19q, hh19⟩ := hQ19
    have N19 := Fr.app N18 N19q
    obtain ⟨LL19, X19, N19⟩ := own_abs X19 N19
    refine own_go (fun t k => st19.trans k) ?_
    refine own_go (B := T19.setTop (mkF m 118 #[.val (.int p1), .val (.int p2), .val (.int p3), .val (.int p4), .val (.int p5), .val (.int (2 : Int32)), .val (.ref s1), .val (.ref s2), .val (.ref s3), .val (.ref s4), .val (.ref b5), .val (.ref b17), .val (.ref b5), .unset] [(.ref b5)])) (fun t k => ?_) ?_
    · show Steps p.tables e below (T19.setTop (mkF m 109 #[.val (.int p1), .val (.int p2), .val (.int p3), .val (.int p4), .val (.int p5), .val (.int (2 : Int32)), .val (.ref s1), .val (.ref s2), .val (.ref s3), .val (.ref s4), .val (.ref b5), .val (.ref b17), .unset, .unset] [(.ref b5)])) t
      refine XS.astore X19.here hx rfl (hb hby at_109) rfl rfl (l' := #[.val (.int p1), .val (.int p2), .val (.int p3), .val (.int p4), .val (.int p5), .val (.int (2 : Int32)), .val (.ref s1), .val (.ref s2), .val (.ref s3), .val (.ref s4), .val (.ref b5), .val (.ref b17), .val (.ref b5), .unset]) rfl ?_
      show Steps p.tables e below (T19.setTop (mkF m 111 #[.val (.int p1), .val (.int p2), .val (.int p3), .val (.int p4), .val (.int p5), .val (.int (2 : Int32)), .val (.ref s1), .val (.ref s2), .val (.ref s3), .val (.ref s4), .val (.ref b5), .val (.ref b17), .val (.ref b5), .unset] [])) t
      refine XS.aload X19.here hx rfl (hb hby at_111) rfl rfl ?_
      show Steps p.tables e below (T19.setTop (mkF m 113 #[.val (.int p1), .val (.int p2), .val (.int p3), .val (.int p4), .val (.int p5), .val (.int (2 : Int32)), .val (.ref s1), .val (.ref s2), .val (.ref s3), .val (.ref s4), .val (.ref b5), .val (.ref b17), .val (.ref b5), .unset] [(.ref b5)])) t
      refine XS.ifnullNo X19.here hx rfl (hb hby at_113) rfl ?_
      show Steps p.tables e below (T19.setTop (mkF m 116 #[.val (.int p1), .val (.int p2), .val (.int p3), .val (.int p4), .val (.int p5), .val (.int (2 : Int32)), .val (.ref s1), .val (.ref s2), .val (.ref s3), .val (.ref s4), .val (.ref b5), .val (.ref b17), .val (.ref b5), .unset] [])) t
      refine XS.aload X19.here hx rfl (hb hby at_116) rfl rfl ?_
      exact k
    have M20 := rm20 l Z a0 hw [] b5 (((0 : Int32) + (1 : Int32)) + (1 : Int32)) T18.heap n0 (Nat.le_trans (Nat.le_trans (Nat.le_trans (Nat.le_trans (Nat.le_trans (Nat.le_trans (Nat.le_trans (Nat.le_trans (Nat.le_trans (Nat.le_trans Z0 K1.1) K2.1) K3.1) K4.1) E5.1) K6.1) K15.1) K16.1) E17.1) K18.1) f18_7
    obtain ⟨cq20, kq20, q20a, q20b, q20c⟩ := isOf hZ hh19 f18_4
    obtain ⟨_, _, ⟨T20, L20, k20, n20⟩, -, X20, ⟨Lc20, hQ20, l20, y20, z20⟩, st20⟩ := X19.interfaceBack hx (xi := (⟨"java/util/List", "size", "()I"⟩ : MethodName)) (y := (⟨"java/util/ArrayList", "size", "()I"⟩ : MethodName)) hown (mvT hZ (hw _ (List.mem_of_getElem? (i := 121) rfl))) (mvT hZ (hw _ (List.mem_of_getElem? (i := 122) rfl))) (mvT hZ (hw _ (List.mem_of_getElem? (i := 123) rfl))) (mvT hZ (hw _ (List.mem_of_getElem? (i := 124) rfl))) (mvT hZ (hw _ (List.mem_of_getElem? (i := 125) rfl))) (mvT hZ (hw _ (List.mem_of_getElem? (i := 126) rfl))) (mvT hZ (hw _ (List.mem_of_getElem? (i := 127) rfl))) (mvT hZ (hw _ (List.mem_of_getElem? (i := 119) rfl))) (by decide) (backOf (W := 0) (M20) hZ (hw _ (List.mem_of_getElem? (i := 128) rfl)) (hw _ (List.mem_of_getElem? (i := 36) rfl)) (by decide) (by decide)) q20a q20b q20c (g := (mkF m 118 #[.val (.int p1), .val (.int p2), .val (.int p3), .val (.int p4), .val (.int p5), .val (.int (2 : Int32)), .val (.ref s1), .val (.ref s2), .val (.ref s3), .val (.ref s4), .val (.ref b5), .val (.ref b17), .val (.ref b5), .unset] [(.ref b5)])) rfl (by rw [hml]; rfl) (Steps.refl _) (argsL := []) (rest := []) (lenOf pd_rm0_5 rfl) rfl (by show 2 * 0 + _ ≤ _; exact Nat.le_of_eq rfl) (hb hby at_118) (fun _ _ => ⟨rfl, hh19, (by decide : 15 + 0 ≤ _), (by decide : 48 + 0 ≤ _)⟩)
    dsimp only [Pt.U, Pt.locs, Pt.cells, Pt.slots] at X20 l20 y20 z20 st20 hQ20
    subst l20 y20 z20
    obtain ⟨rfl, N20q, hh20⟩ := hQ20
    have N20 := Fr.app N19 N20q
    obtain ⟨LL20, X20, N20⟩ := own_abs X20 N20
    refine own_go (fun t k => st20.trans k) ?_
    refine own_go (B := T20.setTop (mkF m 133 #[.val (.int p1), .val (.int p2), .val (.int p3), .val (.int p4), .val (.int p5), .val (.int (2 : Int32)), .val (.ref s1), .val (.ref s2), .val (.ref s3), .val (.ref s4), .val (.ref b5), .val (.ref b17), .val (.ref b5), .unset] [(.int (0 : Int32)), (.ref b5)])) (fun t k => ?_) ?_
    · show Steps p.tables e below (T20.setTop (mkF m 123 #[.val (.int p1), .val (.int p2), .val (.int p3), .val (.int p4), .val (.int p5), .val (.int (2 : Int32)), .val (.ref s1), .val (.ref s2), .val (.ref s3), .val (.ref s4), .val (.ref b5), .val (.ref b17), .val (.ref b5), .unset] [(.int (((0 : Int32) + (1 : Int32)) + (1 : Int32)))])) t
      refine XS.iload X20.here hx rfl (hb hby at_123) rfl ?_
      show Steps p.tables e below (T20.setTop (mkF m 125 #[.val (.int p1), .val (.int p2), .val (.int p3), .val (.int p4), .val (.int p5), .val (.int (2 : Int32)), .val (.ref s1), .val (.ref s2), .val (.ref s3), .val (.ref s4), .val (.ref b5), .val (.ref b17), .val (.ref b5), .unset] [(.int (2 : Int32)), (.int (((0 : Int32) + (1 : Int32)) + (1 : Int32)))])) t
      refine XS.icmpYes X20.here hx rfl (pc0 := 125) (pc' := 130) rfl (hb hby at_125) rfl (teq (by decide : (((0 : Int32) + (1 : Int32)) + (1 : Int32)) = (2 : Int32))).1 (by decide) (by decide) ?_
      show Steps p.tables e below (T20.setTop (mkF m 130 #[.val (.int p1), .val (.int p2), .val (.int p3), .val (.int p4), .val (.int p5), .val (.int (2 : Int32)), .val (.ref s1), .val (.ref s2), .val (.ref s3), .val (.ref s4), .val (.ref b5), .val (.ref b17), .val (.ref b5), .unset] [])) t
      refine XS.aload X20.here hx rfl (hb hby at_130) rfl rfl ?_
      show Steps p.tables e below (T20.setTop (mkF m 132 #[.val (.int p1), .val (.int p2), .val (.int p3), .val (.int p4), .val (.int p5), .val (.int (2 : Int32)), .val (.ref s1), .val (.ref s2), .val (.ref s3), .val (.ref s4), .val (.ref b5), .val (.ref b17), .val (.ref b5), .unset] [(.ref b5)])) t
      refine XS.iconst X20.here hx rfl (hb hby at_132) ?_
      exact k
    have hat21 : (fun x => if x = 1 then (Value.ref s2) else (fun x => if x = 0 then (Value.ref s1) else (fun _ => Value.null) x) x) ((0 : Int32)).toNatClampNeg = Value.ref s1 := by rw [show ((0 : Int32)).toNatClampNeg = 0 from by decide]; rfl
    have M21 := rm21 l Z a0 hw [] b5 (0 : Int32) r15 kA15 (fun x => if x = 1 then (Value.ref s2) else (fun x => if x = 0 then (Value.ref s1) else (fun _ => Value.null) x) x) s1 (((0 : Int32) + (1 : Int32)) + (1 : Int32)) T18.heap n0 (Nat.le_trans (Nat.le_trans (Nat.le_trans (Nat.le_trans (Nat.le_trans (Nat.le_trans (Nat.le_trans (Nat.le_trans (Nat.le_trans (Nat.le_trans Z0 K1.1) K2.1) K3.1) K4.1) E5.1) K6.1) K15.1) K16.1) E17.1) K18.1) f18_6 f18_8 (by decide) (by decide) hat21 f18_7 (by decide) f18_4
    obtain ⟨cq21, kq21, q21a, q21b, q21c⟩ := isOf hZ hh20 f18_4
    obtain ⟨_, _, ⟨T21, L21, k21, n21⟩, -, X21, ⟨Lc21, hQ21, l21, y21, z21⟩, st21⟩ := X20.interfaceBack hx (xi := (⟨"java/util/List", "get", "(I)Ljava/lang/Object;"⟩ : MethodName)) (y := (⟨"java/util/ArrayList", "get", "(I)Ljava/lang/Object;"⟩ : MethodName)) hown (mvT hZ (hw _ (List.mem_of_getElem? (i := 129) rfl))) (mvT hZ (hw _ (List.mem_of_getElem? (i := 130) rfl))) (mvT hZ (hw _ (List.mem_of_getElem? (i := 131) rfl))) (mvT hZ (hw _ (List.mem_of_getElem? (i := 132) rfl))) (mvT hZ (hw _ (List.mem_of_getElem? (i := 133) rfl))) (mvT hZ (hw _ (List.mem_of_getElem? (i := 134) rfl))) (mvT hZ (hw _ (List.mem_of_getElem? (i := 135) rfl))) (mvT hZ (hw _ (List.mem_of_getElem? (i := 119) rfl))) (by decide) (backOf (W := 0) (M21) hZ (hw _ (List.mem_of_getElem? (i := 136) rfl)) (hw _ (List.mem_of_getElem? (i := 36) rfl)) (by decide) (by decide)) q21a q21b q21c (g := (mkF m 133 #[.val (.int p1), .val (.int p2), .val (.int p3), .val (.int p4), .val (.int p5), .val (.int (2 : Int32)), .val (.ref s1), .val (.ref s2), .val (.ref s3), .val (.ref s4), .val (.ref b5), .val (.ref b17), .val (.ref b5), .unset] [(.int (0 : Int32)), (.ref b5)])) rfl (by rw [hml]; rfl) (Steps.refl _) (argsL := [(.int (0 : Int32))]) (rest := []) (lenOf pd_rm0_6 rfl) rfl (by show 2 * 0 + _ ≤ _; exact Nat.le_of_eq rfl) (hb hby at_133) (fun _ _ => ⟨rfl, hh20, (by decide : 15 + 0 ≤ _), (by decide : 48 + 0 ≤ _)⟩)
    dsimp only [Pt.U, Pt.locs, Pt.cells, Pt.slots] at X21 l21 y21 z21 st21 hQ21
    subst l21 y21 z21
    obtain ⟨rfl, N21q, hh21⟩ := hQ21
    have N21 := Fr.app N20 N21q
    obtain ⟨LL21, X21, N21⟩ := own_abs X21 N21
    refine own_go (fun t k => st21.trans k) ?_
    obtain ⟨T22, X22, e22, st22⟩ := castY X21 hx hZ hown (hw _ (List.mem_of_getElem? (i := 5) rfl)) hh21 (Ins.self f18_0) (g := (mkF m 138 #[.val (.int p1), .val (.int p2), .val (.int p3), .val (.int p4), .val (.int p5), .val (.int (2 : Int32)), .val (.ref s1), .val (.ref s2), .val (.ref s3), .val (.ref s4), .val (.ref b5), .val (.ref b17), .val (.ref b5), .unset] [(.ref s1)])) rfl rfl (hb hby at_138)
    refine own_go (fun t k => st22 t k) ?_
    refine own_go (B := T22.setTop (mkF m 143 #[.val (.int p1), .val (.int p2), .val (.int p3), .val (.int p4), .val (.int p5), .val (.int (2 : Int32)), .val (.ref s1), .val (.ref s2), .val (.ref s3), .val (.ref s4), .val (.ref b5), .val (.ref b17), .val (.ref b5), .unset] [(.ref s1), (.ref s1)])) (fun t k => ?_) ?_
    · show Steps p.tables e below (T22.setTop (mkF m 141 #[.val (.int p1), .val (.int p2), .val (.int p3), .val (.int p4), .val (.int p5), .val (.int (2 : Int32)), .val (.ref s1), .val (.ref s2), .val (.ref s3), .val (.ref s4), .val (.ref b5), .val (.ref b17), .val (.ref b5), .unset] [(.ref s1)])) t
      refine XS.aload X22.here hx rfl (hb hby at_141) rfl rfl ?_
      exact k
    have M23 := rm25 l Z a0 hw [] s1 T18.heap n0 (Nat.le_trans (Nat.le_trans (Nat.le_trans (Nat.le_trans (Nat.le_trans (Nat.le_trans (Nat.le_trans (Nat.le_trans (Nat.le_trans (Nat.le_trans Z0 K1.1) K2.1) K3.1) K4.1) E5.1) K6.1) K15.1) K16.1) E17.1) K18.1)
    obtain ⟨cq23, kq23, q23a, q23b, q23c⟩ := isOf hZ e22 f18_0
    obtain ⟨_, _, ⟨T23, L23, k23, n23⟩, -, X23, ⟨Lc23, hQ23, l23, y23, z23⟩, st23⟩ := X22.virtualBack hx (y := (⟨"java/lang/String", "equals", "(Ljava/lang/Object;)Z"⟩ : MethodName)) (z := (⟨"java/lang/String", "equals", "(Ljava/lang/Object;)Z"⟩ : MethodName)) hown (mvT hZ (hw _ (List.mem_of_getElem? (i := 150) rfl))) (mvT hZ (hw _ (List.mem_of_getElem? (i := 151) rfl))) (notFace_of_selects (args := #[]) (mvT hZ (hw _ (List.mem_of_getElem? (i := 153) rfl)))) (mvT hZ (hw _ (List.mem_of_getElem? (i := 153) rfl))) (mvT hZ (hw _ (List.mem_of_getElem? (i := 152) rfl))) (by decide) (backOf (W := 0) (M23) hZ (hw _ (List.mem_of_getElem? (i := 154) rfl)) (hw _ (List.mem_of_getElem? (i := 7) rfl)) (by decide) (by decide)) q23a q23c (g := (mkF m 143 #[.val (.int p1), .val (.int p2), .val (.int p3), .val (.int p4), .val (.int p5), .val (.int (2 : Int32)), .val (.ref s1), .val (.ref s2), .val (.ref s3), .val (.ref s4), .val (.ref b5), .val (.ref b17), .val (.ref b5), .unset] [(.ref s1), (.ref s1)])) rfl (by rw [hml]; rfl) (Steps.refl _) (argsL := [(.ref s1)]) (rest := []) (lenOf pd_rm0_2 rfl) rfl (by show 2 * 0 + _ ≤ _; exact Nat.le_of_eq rfl) (hb hby at_143) (fun _ _ => ⟨rfl, e22, (by decide : 15 + 0 ≤ _), (by decide : 48 + 0 ≤ _)⟩)
    dsimp only [Pt.U, Pt.locs, Pt.cells, Pt.slots] at X23 l23 y23 z23 st23 hQ23
    subst l23 y23 z23
    obtain ⟨rfl, N23q, hh23⟩ := hQ23
    have N23 := Fr.app N21 N23q
    obtain ⟨LL23, X23, N23⟩ := own_abs X23 N23
    refine own_go (fun t k => st23.trans k) ?_
    refine own_go (B := T23.setTop (mkF m 162 #[.val (.int p1), .val (.int p2), .val (.int p3), .val (.int p4), .val (.int p5), .val (.int (2 : Int32)), .val (.ref s1), .val (.ref s2), .val (.ref s3), .val (.ref s4), .val (.ref b5), .val (.ref b17), .val (.ref b5), .val (.int (1 : Int32))] [(.int (1 : Int32)), (.ref b5)])) (fun t k => ?_) ?_
    · show Steps p.tables e below (T23.setTop (mkF m 146 #[.val (.int p1), .val (.int p2), .val (.int p3), .val (.int p4), .val (.int p5), .val (.int (2 : Int32)), .val (.ref s1), .val (.ref s2), .val (.ref s3), .val (.ref s4), .val (.ref b5), .val (.ref b17), .val (.ref b5), .unset] [(.int (1 : Int32))])) t
      refine XS.istore X23.here hx rfl (hb hby at_146) rfl (l' := #[.val (.int p1), .val (.int p2), .val (.int p3), .val (.int p4), .val (.int p5), .val (.int (2 : Int32)), .val (.ref s1), .val (.ref s2), .val (.ref s3), .val (.ref s4), .val (.ref b5), .val (.ref b17), .val (.ref b5), .val (.int (1 : Int32))]) rfl ?_
      show Steps p.tables e below (T23.setTop (mkF m 148 #[.val (.int p1), .val (.int p2), .val (.int p3), .val (.int p4), .val (.int p5), .val (.int (2 : Int32)), .val (.ref s1), .val (.ref s2), .val (.ref s3), .val (.ref s4), .val (.ref b5), .val (.ref b17), .val (.ref b5), .val (.int (1 : Int32))] [])) t
      refine XS.iload X23.here hx rfl (hb hby at_148) rfl ?_
      show Steps p.tables e below (T23.setTop (mkF m 150 #[.val (.int p1), .val (.int p2), .val (.int p3), .val (.int p4), .val (.int p5), .val (.int (2 : Int32)), .val (.ref s1), .val (.ref s2), .val (.ref s3), .val (.ref s4), .val (.ref b5), .val (.ref b17), .val (.ref b5), .val (.int (1 : Int32))] [(.int (2 : Int32))])) t
      refine XS.iconst X23.here hx rfl (hb hby at_150) ?_
      show Steps p.tables e below (T23.setTop (mkF m 151 #[.val (.int p1), .val (.int p2), .val (.int p3), .val (.int p4), .val (.int p5), .val (.int (2 : Int32)), .val (.ref s1), .val (.ref s2), .val (.ref s3), .val (.ref s4), .val (.ref b5), .val (.ref b17), .val (.ref b5), .val (.int (1 : Int32))] [(.int (1 : Int32)), (.int (2 : Int32))])) t
      refine XS.icmpNo X23.here hx rfl (hb hby at_151) rfl (tlt (by decide : (1 : Int32) < (2 : Int32))).2.2.2 ?_
      show Steps p.tables e below (T23.setTop (mkF m 154 #[.val (.int p1), .val (.int p2), .val (.int p3), .val (.int p4), .val (.int p5), .val (.int (2 : Int32)), .val (.ref s1), .val (.ref s2), .val (.ref s3), .val (.ref s4), .val (.ref b5), .val (.ref b17), .val (.ref b5), .val (.int (1 : Int32))] [])) t
      refine XS.iload X23.here hx rfl (hb hby at_154) rfl ?_
      show Steps p.tables e below (T23.setTop (mkF m 156 #[.val (.int p1), .val (.int p2), .val (.int p3), .val (.int p4), .val (.int p5), .val (.int (2 : Int32)), .val (.ref s1), .val (.ref s2), .val (.ref s3), .val (.ref s4), .val (.ref b5), .val (.ref b17), .val (.ref b5), .val (.int (1 : Int32))] [(.int (1 : Int32))])) t
      refine XS.ifNo X23.here hx rfl (hb hby at_156) rfl ((if0 _ _).trans (feq (by decide : ¬ ((1 : Int32) = (0 : Int32)))).1) ?_
      show Steps p.tables e below (T23.setTop (mkF m 159 #[.val (.int p1), .val (.int p2), .val (.int p3), .val (.int p4), .val (.int p5), .val (.int (2 : Int32)), .val (.ref s1), .val (.ref s2), .val (.ref s3), .val (.ref s4), .val (.ref b5), .val (.ref b17), .val (.ref b5), .val (.int (1 : Int32))] [])) t
      refine XS.aload X23.here hx rfl (hb hby at_159) rfl rfl ?_
      show Steps p.tables e below (T23.setTop (mkF m 161 #[.val (.int p1), .val (.int p2), .val (.int p3), .val (.int p4), .val (.int p5), .val (.int (2 : Int32)), .val (.ref s1), .val (.ref s2), .val (.ref s3), .val (.ref s4), .val (.ref b5), .val (.ref b17), .val (.ref b5), .val (.int (1 : Int32))] [(.ref b5)])) t
      refine XS.iconst X23.here hx rfl (hb hby at_161) ?_
      exact k
    have hat24 : (fun x => if x = 1 then (Value.ref s2) else (fun x => if x = 0 then (Value.ref s1) else (fun _ => Value.null) x) x) ((1 : Int32)).toNatClampNeg = Value.ref s2 := by rw [show ((1 : Int32)).toNatClampNeg = 1 from by decide]; rfl
    have M24 := rm21 l Z a0 hw [] b5 (1 : Int32) r15 kA15 (fun x => if x = 1 then (Value.ref s2) else (fun x => if x = 0 then (Value.ref s1) else (fun _ => Value.null) x) x) s2 (((0 : Int32) + (1 : Int32)) + (1 : Int32)) T18.heap n0 (Nat.le_trans (Nat.le_trans (Nat.le_trans (Nat.le_trans (Nat.le_trans (Nat.le_trans (Nat.le_trans (Nat.le_trans (Nat.le_trans (Nat.le_trans Z0 K1.1) K2.1) K3.1) K4.1) E5.1) K6.1) K15.1) K16.1) E17.1) K18.1) f18_6 f18_8 (by decide) (by decide) hat24 f18_7 (by decide) f18_4
    obtain ⟨cq24, kq24, q24a, q24b, q24c⟩ := isOf hZ hh23 f18_4
    obtain ⟨_, _, ⟨T24, L24, k24, n24⟩, -, X24, ⟨Lc24, hQ24, l24, y24, z24⟩, st24⟩ := X23.interfaceBack hx (xi := (⟨"java/util/List", "get", "(I)Ljava/lang/Object;"⟩ : MethodName)) (y := (⟨"java/util/ArrayList", "get", "(I)Ljava/lang/Object;"⟩ : MethodName)) hown (mvT hZ (hw _ (List.mem_of_getElem? (i := 129) rfl))) (mvT hZ (hw _ (List.mem_of_getElem? (i := 130) rfl))) (mvT hZ (hw _ (List.mem_of_getElem? (i := 131) rfl))) (mvT hZ (hw _ (List.mem_of_getElem? (i := 132) rfl))) (mvT hZ (hw _ (List.mem_of_getElem? (i := 133) rfl))) (mvT hZ (hw _ (List.mem_of_getElem? (i := 134) rfl))) (mvT hZ (hw _ (List.mem_of_getElem? (i := 135) rfl))) (mvT hZ (hw _ (List.mem_of_getElem? (i := 119) rfl))) (by decide) (backOf (W := 0) (M24) hZ (hw _ (List.mem_of_getElem? (i := 136) rfl)) (hw _ (List.mem_of_getElem? (i := 36) rfl)) (by decide) (by decide)) q24a q24b q24c (g := (mkF m 162 #[.val (.int p1), .val (.int p2), .val (.int p3), .val (.int p4), .val (.int p5), .val (.int (2 : Int32)), .val (.ref s1), .val (.ref s2), .val (.ref s3), .val (.ref s4), .val (.ref b5), .val (.ref b17), .val (.ref b5), .val (.int (1 : Int32))] [(.int (1 : Int32)), (.ref b5)])) rfl (by rw [hml]; rfl) (Steps.refl _) (argsL := [(.int (1 : Int32))]) (rest := []) (lenOf pd_rm0_6 rfl) rfl (by show 2 * 0 + _ ≤ _; exact Nat.le_of_eq rfl) (hb hby at_162) (fun _ _ => ⟨rfl, hh23, (by decide : 15 + 0 ≤ _), (by decide : 48 + 0 ≤ _)⟩)
    dsimp only [Pt.U, Pt.locs, Pt.cells, Pt.slots] at X24 l24 y24 z24 st24 hQ24
    subst l24 y24 z24
    obtain ⟨rfl, N24q, hh24⟩ := hQ24
    have N24 := Fr.app N23 N24q
    obtain ⟨LL24, X24, N24⟩ := own_abs X24 N24
    refine own_go (fun t k => st24.trans k) ?_
    obtain ⟨T25, X25, e25, st25⟩ := castY X24 hx hZ hown (hw _ (List.mem_of_getElem? (i := 5) rfl)) hh24 (Ins.self f18_1) (g := (mkF m 167 #[.val (.int p1), .val (.int p2), .val (.int p3), .val (.int p4), .val (.int p5), .val (.int (2 : Int32)), .val (.ref s1), .val (.ref s2), .val (.ref s3), .val (.ref s4), .val (.ref b5), .val (.ref b17), .val (.ref b5), .val (.int (1 : Int32))] [(.ref s2)])) rfl rfl (hb hby at_167)
    refine own_go (fun t k => st25 t k) ?_
    refine own_go (B := T25.setTop (mkF m 172 #[.val (.int p1), .val (.int p2), .val (.int p3), .val (.int p4), .val (.int p5), .val (.int (2 : Int32)), .val (.ref s1), .val (.ref s2), .val (.ref s3), .val (.ref s4), .val (.ref b5), .val (.ref b17), .val (.ref b5), .val (.int (1 : Int32))] [(.ref s2), (.ref s2)])) (fun t k => ?_) ?_
    · show Steps p.tables e below (T25.setTop (mkF m 170 #[.val (.int p1), .val (.int p2), .val (.int p3), .val (.int p4), .val (.int p5), .val (.int (2 : Int32)), .val (.ref s1), .val (.ref s2), .val (.ref s3), .val (.ref s4), .val (.ref b5), .val (.ref b17), .val (.ref b5), .val (.int (1 : Int32))] [(.ref s2)])) t
      refine XS.aload X25.here hx rfl (hb hby at_170) rfl rfl ?_
      exact k
    have M26 := rm25 l Z a0 hw [] s2 T18.heap n0 (Nat.le_trans (Nat.le_trans (Nat.le_trans (Nat.le_trans (Nat.le_trans (Nat.le_trans (Nat.le_trans (Nat.le_trans (Nat.le_trans (Nat.le_trans Z0 K1.1) K2.1) K3.1) K4.1) E5.1) K6.1) K15.1) K16.1) E17.1) K18.1)
    obtain ⟨cq26, kq26, q26a, q26b, q26c⟩ := isOf hZ e25 f18_1
    obtain ⟨_, _, ⟨T26, L26, k26, n26⟩, -, X26, ⟨Lc26, hQ26, l26, y26, z26⟩, st26⟩ := X25.virtualBack hx (y := (⟨"java/lang/String", "equals", "(Ljava/lang/Object;)Z"⟩ : MethodName)) (z := (⟨"java/lang/String", "equals", "(Ljava/lang/Object;)Z"⟩ : MethodName)) hown (mvT hZ (hw _ (List.mem_of_getElem? (i := 150) rfl))) (mvT hZ (hw _ (List.mem_of_getElem? (i := 151) rfl))) (notFace_of_selects (args := #[]) (mvT hZ (hw _ (List.mem_of_getElem? (i := 153) rfl)))) (mvT hZ (hw _ (List.mem_of_getElem? (i := 153) rfl))) (mvT hZ (hw _ (List.mem_of_getElem? (i := 152) rfl))) (by decide) (backOf (W := 0) (M26) hZ (hw _ (List.mem_of_getElem? (i := 154) rfl)) (hw _ (List.mem_of_getElem? (i := 7) rfl)) (by decide) (by decide)) q26a q26c (g := (mkF m 172 #[.val (.int p1), .val (.int p2), .val (.int p3), .val (.int p4), .val (.int p5), .val (.int (2 : Int32)), .val (.ref s1), .val (.ref s2), .val (.ref s3), .val (.ref s4), .val (.ref b5), .val (.ref b17), .val (.ref b5), .val (.int (1 : Int32))] [(.ref s2), (.ref s2)])) rfl (by rw [hml]; rfl) (Steps.refl _) (argsL := [(.ref s2)]) (rest := []) (lenOf pd_rm0_2 rfl) rfl (by show 2 * 0 + _ ≤ _; exact Nat.le_of_eq rfl) (hb hby at_172) (fun _ _ => ⟨rfl, e25, (by decide : 15 + 0 ≤ _), (by decide : 48 + 0 ≤ _)⟩)
    dsimp only [Pt.U, Pt.locs, Pt.cells, Pt.slots] at X26 l26 y26 z26 st26 hQ26
    subst l26 y26 z26
    obtain ⟨rfl, N26q, hh26⟩ := hQ26
    have N26 := Fr.app N24 N26q
    obtain ⟨LL26, X26, N26⟩ := own_abs X26 N26
    refine own_go (fun t k => st26.trans k) ?_
    refine own_go (B := T26.setTop (mkF m 261 #[.val (.int p1), .val (.int p2), .val (.int p3), .val (.int p4), .val (.int p5), .val (.int (2 : Int32)), .val (.ref s1), .val (.ref s2), .val (.ref s3), .val (.ref s4), .val (.ref b5), .val (.ref b17), .val (.ref b5), .val (.int (1 : Int32))] [(.int (1 : Int32))])) (fun t k => ?_) ?_
    · show Steps p.tables e below (T26.setTop (mkF m 175 #[.val (.int p1), .val (.int p2), .val (.int p3), .val (.int p4), .val (.int p5), .val (.int (2 : Int32)), .val (.ref s1), .val (.ref s2), .val (.ref s3), .val (.ref s4), .val (.ref b5), .val (.ref b17), .val (.ref b5), .val (.int (1 : Int32))] [(.int (1 : Int32))])) t
      refine XS.ifNo X26.here hx rfl (hb hby at_175) rfl ((if0 _ _).trans (feq (by decide : ¬ ((1 : Int32) = (0 : Int32)))).1) ?_
      show Steps p.tables e below (T26.setTop (mkF m 178 #[.val (.int p1), .val (.int p2), .val (.int p3), .val (.int p4), .val (.int p5), .val (.int (2 : Int32)), .val (.ref s1), .val (.ref s2), .val (.ref s3), .val (.ref s4), .val (.ref b5), .val (.ref b17), .val (.ref b5), .val (.int (1 : Int32))] [])) t
      refine XS.iconst X26.here hx rfl (hb hby at_178) ?_
      show Steps p.tables e below (T26.setTop (mkF m 179 #[.val (.int p1), .val (.int p2), .val (.int p3), .val (.int p4), .val (.int p5), .val (.int (2 : Int32)), .val (.ref s1), .val (.ref s2), .val (.ref s3), .val (.ref s4), .val (.ref b5), .val (.ref b17), .val (.ref b5), .val (.int (1 : Int32))] [(.int (1 : Int32))])) t
      refine XS.goto X26.here hx rfl (pc0 := 179) (pc' := 183) rfl (hb hby at_179) (by decide) (by decide) ?_
      show Steps p.tables e below (T26.setTop (mkF m 183 #[.val (.int p1), .val (.int p2), .val (.int p3), .val (.int p4), .val (.int p5), .val (.int (2 : Int32)), .val (.ref s1), .val (.ref s2), .val (.ref s3), .val (.ref s4), .val (.ref b5), .val (.ref b17), .val (.ref b5), .val (.int (1 : Int32))] [(.int (1 : Int32))])) t
      refine XS.istore X26.here hx rfl (hb hby at_183) rfl (l' := #[.val (.int p1), .val (.int p2), .val (.int p3), .val (.int p4), .val (.int p5), .val (.int (2 : Int32)), .val (.ref s1), .val (.ref s2), .val (.ref s3), .val (.ref s4), .val (.ref b5), .val (.ref b17), .val (.ref b5), .val (.int (1 : Int32))]) rfl ?_
      show Steps p.tables e below (T26.setTop (mkF m 185 #[.val (.int p1), .val (.int p2), .val (.int p3), .val (.int p4), .val (.int p5), .val (.int (2 : Int32)), .val (.ref s1), .val (.ref s2), .val (.ref s3), .val (.ref s4), .val (.ref b5), .val (.ref b17), .val (.ref b5), .val (.int (1 : Int32))] [])) t
      refine XS.iload X26.here hx rfl (hb hby at_185) rfl ?_
      show Steps p.tables e below (T26.setTop (mkF m 187 #[.val (.int p1), .val (.int p2), .val (.int p3), .val (.int p4), .val (.int p5), .val (.int (2 : Int32)), .val (.ref s1), .val (.ref s2), .val (.ref s3), .val (.ref s4), .val (.ref b5), .val (.ref b17), .val (.ref b5), .val (.int (1 : Int32))] [(.int (2 : Int32))])) t
      refine XS.iconst X26.here hx rfl (hb hby at_187) ?_
      show Steps p.tables e below (T26.setTop (mkF m 188 #[.val (.int p1), .val (.int p2), .val (.int p3), .val (.int p4), .val (.int p5), .val (.int (2 : Int32)), .val (.ref s1), .val (.ref s2), .val (.ref s3), .val (.ref s4), .val (.ref b5), .val (.ref b17), .val (.ref b5), .val (.int (1 : Int32))] [(.int (2 : Int32)), (.int (2 : Int32))])) t
      refine XS.icmpYes X26.here hx rfl (pc0 := 188) (pc' := 222) rfl (hb hby at_188) rfl (flt (by decide : ¬ ((2 : Int32) < (2 : Int32)))).2.2.2 (by decide) (by decide) ?_
      show Steps p.tables e below (T26.setTop (mkF m 222 #[.val (.int p1), .val (.int p2), .val (.int p3), .val (.int p4), .val (.int p5), .val (.int (2 : Int32)), .val (.ref s1), .val (.ref s2), .val (.ref s3), .val (.ref s4), .val (.ref b5), .val (.ref b17), .val (.ref b5), .val (.int (1 : Int32))] [])) t
      refine XS.iload X26.here hx rfl (hb hby at_222) rfl ?_
      show Steps p.tables e below (T26.setTop (mkF m 224 #[.val (.int p1), .val (.int p2), .val (.int p3), .val (.int p4), .val (.int p5), .val (.int (2 : Int32)), .val (.ref s1), .val (.ref s2), .val (.ref s3), .val (.ref s4), .val (.ref b5), .val (.ref b17), .val (.ref b5), .val (.int (1 : Int32))] [(.int (2 : Int32))])) t
      refine XS.iconst X26.here hx rfl (hb hby at_224) ?_
      show Steps p.tables e below (T26.setTop (mkF m 225 #[.val (.int p1), .val (.int p2), .val (.int p3), .val (.int p4), .val (.int p5), .val (.int (2 : Int32)), .val (.ref s1), .val (.ref s2), .val (.ref s3), .val (.ref s4), .val (.ref b5), .val (.ref b17), .val (.ref b5), .val (.int (1 : Int32))] [(.int (3 : Int32)), (.int (2 : Int32))])) t
      refine XS.icmpYes X26.here hx rfl (pc0 := 225) (pc' := 259) rfl (hb hby at_225) rfl (flt (by decide : ¬ ((3 : Int32) < (2 : Int32)))).2.2.2 (by decide) (by decide) ?_
      show Steps p.tables e below (T26.setTop (mkF m 259 #[.val (.int p1), .val (.int p2), .val (.int p3), .val (.int p4), .val (.int p5), .val (.int (2 : Int32)), .val (.ref s1), .val (.ref s2), .val (.ref s3), .val (.ref s4), .val (.ref b5), .val (.ref b17), .val (.ref b5), .val (.int (1 : Int32))] [])) t
      refine XS.iload X26.here hx rfl (hb hby at_259) rfl ?_
      exact k
    obtain ⟨fs, hr, hrun, hended, hW, hsame⟩ := X26.leave (v := some (.int (1 : Int32))) (fun h => by rw [Bd.returns] at h; cases h)
    refine ⟨_, _, ?_, hrun, hended, _, _, rfl, ?_, ⟨_, rfl⟩, hW, hsame.mono (by decide) (by decide)⟩
    · show Steps p.tables e below (T26.setTop (mkF m 261 #[.val (.int p1), .val (.int p2), .val (.int p3), .val (.int p4), .val (.int p5), .val (.int (2 : Int32)), .val (.ref s1), .val (.ref s2), .val (.ref s3), .val (.ref s4), .val (.ref b5), .val (.ref b17), .val (.ref b5), .val (.int (1 : Int32))] [(.int (1 : Int32))])) _
      exact retN X26 hx (t := .boolean) Bd.returns (by simp) (hb hby at_261) hr
    · show Q0 Z p1 p2 p3 p4 p5 cz eD kD gD h0 n0 _ T26.heap _
      rw [hh26]
      exact ⟨rfl, N26⟩
  · subst e
    refine own_go (B := T6.setTop (mkF m 45 #[.val (.int p1), .val (.int p2), .val (.int p3), .val (.int p4), .val (.int p5), .val (.int (3 : Int32)), .val (.ref s1), .val (.ref s2), .val (.ref s3), .val (.ref s4), .val (.ref b5), .unset, .unset, .unset] [(.ref s1), (.ref b5)])) (fun t k => ?_) ?_
    · show Steps p.tables e below (T6.setTop (mkF m 41 #[.val (.int p1), .val (.int p2), .val (.int p3), .val (.int p4), .val (.int p5), .val (.int (3 : Int32)), .val (.ref s1), .val (.ref s2), .val (.ref s3), .val (.ref s4), .val (.ref b5), .unset, .unset, .unset] [])) t
      refine XS.aload X6.here hx rfl (hb hby at_41) rfl rfl ?_
      show Steps p.tables e below (T6.setTop (mkF m 43 #[.val (.int p1), .val (.int p2), .val (.int p3), .val (.int p4), .val (.int p5), .val (.int (3 : Int32)), .val (.ref s1), .val (.ref s2), .val (.ref s3), .val (.ref s4), .val (.ref b5), .unset, .unset, .unset] [(.ref b5)])) t
      refine XS.aload X6.here hx rfl (hb hby at_43) rfl rfl ?_
      exact k
    have M27 := rm11a l Z a0 hw [] b5 s1 (0 : Int32) eD kD gD T6.heap n0 (Nat.le_trans (Nat.le_trans (Nat.le_trans (Nat.le_trans (Nat.le_trans (Nat.le_trans Z0 K1.1) K2.1) K3.1) K4.1) E5.1) K6.1) f6_7 G0_6 G1_6 G2_6 g_b5 f6_1 f6_2 (Ne.symm ne5_eD) f6_3
    obtain ⟨cq27, kq27, q27a, q27b, q27c⟩ := isOf hZ rfl f6_7
    obtain ⟨_, _, ⟨T27, L27, k27, n27⟩, -, X27, ⟨Lc27, hQ27, l27, y27, z27⟩, st27⟩ := X6.virtualBack hx (y := (⟨"java/util/ArrayList", "add", "(Ljava/lang/Object;)Z"⟩ : MethodName)) (z := (⟨"java/util/ArrayList", "add", "(Ljava/lang/Object;)Z"⟩ : MethodName)) hown (mvT hZ (hw _ (List.mem_of_getElem? (i := 58) rfl))) (mvT hZ (hw _ (List.mem_of_getElem? (i := 59) rfl))) (notFace_of_selects (args := #[]) (mvT hZ (hw _ (List.mem_of_getElem? (i := 61) rfl)))) (mvT hZ (hw _ (List.mem_of_getElem? (i := 61) rfl))) (mvT hZ (hw _ (List.mem_of_getElem? (i := 60) rfl))) (by decide) (backOf (W := 0) (M27) hZ (hw _ (List.mem_of_getElem? (i := 62) rfl)) (hw _ (List.mem_of_getElem? (i := 36) rfl)) (by decide) (by decide)) q27a q27c (g := (mkF m 45 #[.val (.int p1), .val (.int p2), .val (.int p3), .val (.int p4), .val (.int p5), .val (.int (3 : Int32)), .val (.ref s1), .val (.ref s2), .val (.ref s3), .val (.ref s4), .val (.ref b5), .unset, .unset, .unset] [(.ref s1), (.ref b5)])) rfl (by rw [hml]; rfl) (Steps.refl _) (argsL := [(.ref s1)]) (rest := []) (lenOf pd_rm0_2 rfl) rfl (by show 2 * 0 + _ ≤ _; exact Nat.le_of_eq rfl) (hb hby at_45) (fun _ _ => ⟨rfl, rfl, (by decide : 13 + 1 ≤ _), (by decide : 35 + 10 ≤ _)⟩)
    dsimp only [Pt.U, Pt.locs, Pt.cells, Pt.slots] at X27 l27 y27 z27 st27 hQ27
    subst l27 y27 z27
    obtain ⟨r27, kA27, rfl, N27q, K27, -, ⟨m27, G0_27⟩, G1_27, G2_27, R27, O27, nr27, lr27, hs27⟩ := hQ27
    have N27 := Fr.app N6 N27q
    obtain ⟨LL27, X27, N27⟩ := own_abs X27 N27
    refine own_go (fun t k => st27.trans k) ?_
    have f27_0 := own_staKeep f6_0 K27 (nsS f6_7.nostat ns0)
    have f27_1 := own_staKeep f6_1 K27 (nsS f6_7.nostat ns0)
    have f27_2 := f6_2.keep K27 (ninS ne5_eD nin0)
    have f27_3 := f6_3.keep K27
    have f27_4 := f6_4.keep K27
    have f27_5 := f6_5.keep K27
    have f27_6 := f6_6.keep K27
    have f27_7 := f6_7.keep K27
    refine own_go (B := T27.setTop (mkF m 59 #[.val (.int p1), .val (.int p2), .val (.int p3), .val (.int p4), .val (.int p5), .val (.int (3 : Int32)), .val (.ref s1), .val (.ref s2), .val (.ref s3), .val (.ref s4), .val (.ref b5), .unset, .unset, .unset] [(.ref s2), (.ref b5)])) (fun t k => ?_) ?_
    · show Steps p.tables e below (T27.setTop (mkF m 48 #[.val (.int p1), .val (.int p2), .val (.int p3), .val (.int p4), .val (.int p5), .val (.int (3 : Int32)), .val (.ref s1), .val (.ref s2), .val (.ref s3), .val (.ref s4), .val (.ref b5), .unset, .unset, .unset] [(.int (1 : Int32))])) t
      refine XS.pop X27.here hx rfl (hb hby at_48) rfl rfl ?_
      show Steps p.tables e below (T27.setTop (mkF m 49 #[.val (.int p1), .val (.int p2), .val (.int p3), .val (.int p4), .val (.int p5), .val (.int (3 : Int32)), .val (.ref s1), .val (.ref s2), .val (.ref s3), .val (.ref s4), .val (.ref b5), .unset, .unset, .unset] [])) t
      refine XS.iload X27.here hx rfl (hb hby at_49) rfl ?_
      show Steps p.tables e below (T27.setTop (mkF m 51 #[.val (.int p1), .val (.int p2), .val (.int p3), .val (.int p4), .val (.int p5), .val (.int (3 : Int32)), .val (.ref s1), .val (.ref s2), .val (.ref s3), .val (.ref s4), .val (.ref b5), .unset, .unset, .unset] [(.int (3 : Int32))])) t
      refine XS.iconst X27.here hx rfl (hb hby at_51) ?_
      show Steps p.tables e below (T27.setTop (mkF m 52 #[.val (.int p1), .val (.int p2), .val (.int p3), .val (.int p4), .val (.int p5), .val (.int (3 : Int32)), .val (.ref s1), .val (.ref s2), .val (.ref s3), .val (.ref s4), .val (.ref b5), .unset, .unset, .unset] [(.int (1 : Int32)), (.int (3 : Int32))])) t
      refine XS.icmpNo X27.here hx rfl (hb hby at_52) rfl (tlt (by decide : (1 : Int32) < (3 : Int32))).2.2.2 ?_
      show Steps p.tables e below (T27.setTop (mkF m 55 #[.val (.int p1), .val (.int p2), .val (.int p3), .val (.int p4), .val (.int p5), .val (.int (3 : Int32)), .val (.ref s1), .val (.ref s2), .val (.ref s3), .val (.ref s4), .val (.ref b5), .unset, .unset, .unset] [])) t
      refine XS.aload X27.here hx rfl (hb hby at_55) rfl rfl ?_
      show Steps p.tables e below (T27.setTop (mkF m 57 #[.val (.int p1), .val (.int p2), .val (.int p3), .val (.int p4), .val (.int p5), .val (.int (3 : Int32)), .val (.ref s1), .val (.ref s2), .val (.ref s3), .val (.ref s4), .val (.ref b5), .unset, .unset, .unset] [(.ref b5)])) t
      refine XS.aload X27.here hx rfl (hb hby at_57) rfl rfl ?_
      exact k
    have M28 := rm11b l Z a0 hw [] b5 s2 m27 ((0 : Int32) + (1 : Int32)) r27 kA27 (fun x => if x = 0 then (Value.ref s1) else (fun _ => Value.null) x) 1 T27.heap n0 (Nat.le_trans (Nat.le_trans (Nat.le_trans (Nat.le_trans (Nat.le_trans (Nat.le_trans (Nat.le_trans Z0 K1.1) K2.1) K3.1) K4.1) E5.1) K6.1) K27.1) f27_7 G0_27 G1_27 G2_27 g_b5 R27 O27 nr27 lr27 f27_4 (by decide) (by decide) (by decide)
    obtain ⟨cq28, kq28, q28a, q28b, q28c⟩ := isOf hZ rfl f27_7
    obtain ⟨_, _, ⟨T28, L28, k28, n28⟩, -, X28, ⟨Lc28, hQ28, l28, y28, z28⟩, st28⟩ := X27.virtualBack hx (y := (⟨"java/util/ArrayList", "add", "(Ljava/lang/Object;)Z"⟩ : MethodName)) (z := (⟨"java/util/ArrayList", "add", "(Ljava/lang/Object;)Z"⟩ : MethodName)) hown (mvT hZ (hw _ (List.mem_of_getElem? (i := 58) rfl))) (mvT hZ (hw _ (List.mem_of_getElem? (i := 59) rfl))) (notFace_of_selects (args := #[]) (mvT hZ (hw _ (List.mem_of_getElem? (i := 61) rfl)))) (mvT hZ (hw _ (List.mem_of_getElem? (i := 61) rfl))) (mvT hZ (hw _ (List.mem_of_getElem? (i := 60) rfl))) (by decide) (backOf (W := 0) (M28) hZ (hw _ (List.mem_of_getElem? (i := 62) rfl)) (hw _ (List.mem_of_getElem? (i := 36) rfl)) (by decide) (by decide)) q28a q28c (g := (mkF m 59 #[.val (.int p1), .val (.int p2), .val (.int p3), .val (.int p4), .val (.int p5), .val (.int (3 : Int32)), .val (.ref s1), .val (.ref s2), .val (.ref s3), .val (.ref s4), .val (.ref b5), .unset, .unset, .unset] [(.ref s2), (.ref b5)])) rfl (by rw [hml]; rfl) (Steps.refl _) (argsL := [(.ref s2)]) (rest := []) (lenOf pd_rm0_2 rfl) rfl (by show 2 * 0 + _ ≤ _; exact Nat.le_of_eq rfl) (hb hby at_59) (fun _ _ => ⟨rfl, rfl, (by decide : 14 + 0 ≤ _), (by decide : 45 + 0 ≤ _)⟩)
    dsimp only [Pt.U, Pt.locs, Pt.cells, Pt.slots] at X28 l28 y28 z28 st28 hQ28
    subst l28 y28 z28
    obtain ⟨rfl, N28q, K28, -, ⟨m28, G0_28⟩, G1_28, G2_28, R28⟩ := hQ28
    have N28 := Fr.app N27 N28q
    obtain ⟨LL28, X28, N28⟩ := own_abs X28 N28
    refine own_go (fun t k => st28.trans k) ?_
    have f28_0 := f27_3.keep K28
    have f28_1 := f27_4.keep K28
    have f28_2 := f27_5.keep K28
    have f28_3 := f27_6.keep K28
    have f28_4 := f27_7.keep K28
    refine own_go (B := T28.setTop (mkF m 73 #[.val (.int p1), .val (.int p2), .val (.int p3), .val (.int p4), .val (.int p5), .val (.int (3 : Int32)), .val (.ref s1), .val (.ref s2), .val (.ref s3), .val (.ref s4), .val (.ref b5), .unset, .unset, .unset] [(.ref s3), (.ref b5)])) (fun t k => ?_) ?_
    · show Steps p.tables e below (T28.setTop (mkF m 62 #[.val (.int p1), .val (.int p2), .val (.int p3), .val (.int p4), .val (.int p5), .val (.int (3 : Int32)), .val (.ref s1), .val (.ref s2), .val (.ref s3), .val (.ref s4), .val (.ref b5), .unset, .unset, .unset] [(.int (1 : Int32))])) t
      refine XS.pop X28.here hx rfl (hb hby at_62) rfl rfl ?_
      show Steps p.tables e below (T28.setTop (mkF m 63 #[.val (.int p1), .val (.int p2), .val (.int p3), .val (.int p4), .val (.int p5), .val (.int (3 : Int32)), .val (.ref s1), .val (.ref s2), .val (.ref s3), .val (.ref s4), .val (.ref b5), .unset, .unset, .unset] [])) t
      refine XS.iload X28.here hx rfl (hb hby at_63) rfl ?_
      show Steps p.tables e below (T28.setTop (mkF m 65 #[.val (.int p1), .val (.int p2), .val (.int p3), .val (.int p4), .val (.int p5), .val (.int (3 : Int32)), .val (.ref s1), .val (.ref s2), .val (.ref s3), .val (.ref s4), .val (.ref b5), .unset, .unset, .unset] [(.int (3 : Int32))])) t
      refine XS.iconst X28.here hx rfl (hb hby at_65) ?_
      show Steps p.tables e below (T28.setTop (mkF m 66 #[.val (.int p1), .val (.int p2), .val (.int p3), .val (.int p4), .val (.int p5), .val (.int (3 : Int32)), .val (.ref s1), .val (.ref s2), .val (.ref s3), .val (.ref s4), .val (.ref b5), .unset, .unset, .unset] [(.int (2 : Int32)), (.int (3 : Int32))])) t
      refine XS.icmpNo X28.here hx rfl (hb hby at_66) rfl (tlt (by decide : (2 : Int32) < (3 : Int32))).2.2.2 ?_
      show Steps p.tables e below (T28.setTop (mkF m 69 #[.val (.int p1), .val (.int p2), .val (.int p3), .val (.int p4), .val (.int p5), .val (.int (3 : Int32)), .val (.ref s1), .val (.ref s2), .val (.ref s3), .val (.ref s4), .val (.ref b5), .unset, .unset, .unset] [])) t
      refine XS.aload X28.here hx rfl (hb hby at_69) rfl rfl ?_
      show Steps p.tables e below (T28.setTop (mkF m 71 #[.val (.int p1), .val (.int p2), .val (.int p3), .val (.int p4), .val (.int p5), .val (.int (3 : Int32)), .val (.ref s1), .val (.ref s2), .val (.ref s3), .val (.ref s4), .val (.ref b5), .unset, .unset, .unset] [(.ref b5)])) t
      refine XS.aload X28.here hx rfl (hb hby at_71) rfl rfl ?_
      exact k
    have M29 := rm11b l Z a0 hw [] b5 s3 m28 (((0 : Int32) + (1 : Int32)) + (1 : Int32)) r27 kA27 (fun x => if x = 1 then (Value.ref s2) else (fun x => if x = 0 then (Value.ref s1) else (fun _ => Value.null) x) x) 2 T28.heap n0 (Nat.le_trans (Nat.le_trans (Nat.le_trans (Nat.le_trans (Nat.le_trans (Nat.le_trans (Nat.le_trans (Nat.le_trans Z0 K1.1) K2.1) K3.1) K4.1) E5.1) K6.1) K27.1) K28.1) f28_4 G0_28 G1_28 G2_28 g_b5 R28 O27 nr27 lr27 f28_2 (by decide) (by decide) (by decide)
    obtain ⟨cq29, kq29, q29a, q29b, q29c⟩ := isOf hZ rfl f28_4
    obtain ⟨_, _, ⟨T29, L29, k29, n29⟩, -, X29, ⟨Lc29, hQ29, l29, y29, z29⟩, st29⟩ := X28.virtualBack hx (y := (⟨"java/util/ArrayList", "add", "(Ljava/lang/Object;)Z"⟩ : MethodName)) (z := (⟨"java/util/ArrayList", "add", "(Ljava/lang/Object;)Z"⟩ : MethodName)) hown (mvT hZ (hw _ (List.mem_of_getElem? (i := 58) rfl))) (mvT hZ (hw _ (List.mem_of_getElem? (i := 59) rfl))) (notFace_of_selects (args := #[]) (mvT hZ (hw _ (List.mem_of_getElem? (i := 61) rfl)))) (mvT hZ (hw _ (List.mem_of_getElem? (i := 61) rfl))) (mvT hZ (hw _ (List.mem_of_getElem? (i := 60) rfl))) (by decide) (backOf (W := 0) (M29) hZ (hw _ (List.mem_of_getElem? (i := 62) rfl)) (hw _ (List.mem_of_getElem? (i := 36) rfl)) (by decide) (by decide)) q29a q29c (g := (mkF m 73 #[.val (.int p1), .val (.int p2), .val (.int p3), .val (.int p4), .val (.int p5), .val (.int (3 : Int32)), .val (.ref s1), .val (.ref s2), .val (.ref s3), .val (.ref s4), .val (.ref b5), .unset, .unset, .unset] [(.ref s3), (.ref b5)])) rfl (by rw [hml]; rfl) (Steps.refl _) (argsL := [(.ref s3)]) (rest := []) (lenOf pd_rm0_2 rfl) rfl (by show 2 * 0 + _ ≤ _; exact Nat.le_of_eq rfl) (hb hby at_73) (fun _ _ => ⟨rfl, rfl, (by decide : 14 + 0 ≤ _), (by decide : 45 + 0 ≤ _)⟩)
    dsimp only [Pt.U, Pt.locs, Pt.cells, Pt.slots] at X29 l29 y29 z29 st29 hQ29
    subst l29 y29 z29
    obtain ⟨rfl, N29q, K29, -, ⟨m29, G0_29⟩, G1_29, G2_29, R29⟩ := hQ29
    have N29 := Fr.app N28 N29q
    obtain ⟨LL29, X29, N29⟩ := own_abs X29 N29
    refine own_go (fun t k => st29.trans k) ?_
    have f29_0 := f28_0.keep K29
    have f29_1 := f28_1.keep K29
    have f29_2 := f28_2.keep K29
    have f29_3 := f28_3.keep K29
    have f29_4 := f28_4.keep K29
    refine own_go (B := T29.setTop (mkF m 91 #[.val (.int p1), .val (.int p2), .val (.int p3), .val (.int p4), .val (.int p5), .val (.int (3 : Int32)), .val (.ref s1), .val (.ref s2), .val (.ref s3), .val (.ref s4), .val (.ref b5), .unset, .unset, .unset] [])) (fun t k => ?_) ?_
    · show Steps p.tables e below (T29.setTop (mkF m 76 #[.val (.int p1), .val (.int p2), .val (.int p3), .val (.int p4), .val (.int p5), .val (.int (3 : Int32)), .val (.ref s1), .val (.ref s2), .val (.ref s3), .val (.ref s4), .val (.ref b5), .unset, .unset, .unset] [(.int (1 : Int32))])) t
      refine XS.pop X29.here hx rfl (hb hby at_76) rfl rfl ?_
      show Steps p.tables e below (T29.setTop (mkF m 77 #[.val (.int p1), .val (.int p2), .val (.int p3), .val (.int p4), .val (.int p5), .val (.int (3 : Int32)), .val (.ref s1), .val (.ref s2), .val (.ref s3), .val (.ref s4), .val (.ref b5), .unset, .unset, .unset] [])) t
      refine XS.iload X29.here hx rfl (hb hby at_77) rfl ?_
      show Steps p.tables e below (T29.setTop (mkF m 79 #[.val (.int p1), .val (.int p2), .val (.int p3), .val (.int p4), .val (.int p5), .val (.int (3 : Int32)), .val (.ref s1), .val (.ref s2), .val (.ref s3), .val (.ref s4), .val (.ref b5), .unset, .unset, .unset] [(.int (3 : Int32))])) t
      refine XS.iconst X29.here hx rfl (hb hby at_79) ?_
      show Steps p.tables e below (T29.setTop (mkF m 80 #[.val (.int p1), .val (.int p2), .val (.int p3), .val (.int p4), .val (.int p5), .val (.int (3 : Int32)), .val (.ref s1), .val (.ref s2), .val (.ref s3), .val (.ref s4), .val (.ref b5), .unset, .unset, .unset] [(.int (3 : Int32)), (.int (3 : Int32))])) t
      refine XS.icmpYes X29.here hx rfl (pc0 := 80) (pc' := 91) rfl (hb hby at_80) rfl (flt (by decide : ¬ ((3 : Int32) < (3 : Int32)))).2.2.2 (by decide) (by decide) ?_
      exact k
    obtain ⟨T30, h30, X30, e30, E30, A30, D30, -, st30⟩ := newO X29 hx hZ hown (hw _ (List.mem_of_getElem? (i := 89) rfl)) (hw _ (List.mem_of_getElem? (i := 90) rfl)) (hw _ (List.mem_of_getElem? (i := 91) rfl)) rfl (g := (mkF m 91 #[.val (.int p1), .val (.int p2), .val (.int p3), .val (.int p4), .val (.int p5), .val (.int (3 : Int32)), .val (.ref s1), .val (.ref s2), .val (.ref s3), .val (.ref s4), .val (.ref b5), .unset, .unset, .unset] [])) rfl (hb hby at_91) (by decide) (by decide)
    obtain ⟨b30, g30⟩ : ∃ z, z = T29.heap.size := ⟨_, rfl⟩
    rw [← g30] at A30 D30 st30
    refine own_go (fun t k => st30 t k) ?_
    have g_b30 : n0 ≤ b30 := Nat.le_trans (Nat.le_trans (Nat.le_trans (Nat.le_trans (Nat.le_trans (Nat.le_trans (Nat.le_trans (Nat.le_trans (Nat.le_trans (Nat.le_trans Z0 K1.1) K2.1) K3.1) K4.1) E5.1) K6.1) K27.1) K28.1) K29.1) (Nat.le_of_eq g30.symm)
    have ne30_s1 : s1 ≠ b30 := Nat.ne_of_lt (Nat.lt_of_lt_of_le f29_0.lt (Nat.le_of_eq g30.symm))
    have ne30_s2 : s2 ≠ b30 := Nat.ne_of_lt (Nat.lt_of_lt_of_le f29_1.lt (Nat.le_of_eq g30.symm))
    have ne30_s3 : s3 ≠ b30 := Nat.ne_of_lt (Nat.lt_of_lt_of_le f29_2.lt (Nat.le_of_eq g30.symm))
    have ne30_s4 : s4 ≠ b30 := Nat.ne_of_lt (Nat.lt_of_lt_of_le f29_3.lt (Nat.le_of_eq g30.symm))
    have ne30_b5 : b5 ≠ b30 := Nat.ne_of_lt (Nat.lt_of_lt_of_le f29_4.lt (Nat.le_of_eq g30.symm))
    have ne30_r27 : r27 ≠ b30 := Nat.ne_of_lt (Nat.lt_of_lt_of_le R29.lt (Nat.le_of_eq g30.symm))
    have f30_0 := f29_0.ext E30
    have f30_1 := f29_1.ext E30
    have f30_2 := f29_2.ext E30
    have f30_3 := f29_3.ext E30
    have f30_4 := f29_4.ext E30
    have f30_5 := G0_29.ext E30
    have f30_6 := G1_29.ext E30
    have f30_7 := G2_29.ext E30
    have f30_8 := R29.ext E30
    have F30_options : Fld Z h30 b30 "com/example/freshet/freshet/Command$Arguments" "options" "Ljava/util/Map;" .null := D30 (Or.inr (hw _ (List.mem_of_getElem? (i := 102) rfl))) (ty := (.object "java/util/Map")) (by decide)
    have F30_flags : Fld Z h30 b30 "com/example/freshet/freshet/Command$Arguments" "flags" "Ljava/util/Set;" .null := D30 (Or.inr (hw _ (List.mem_of_getElem? (i := 104) rfl))) (ty := (.object "java/util/Set")) (by decide)
    have F30_files : Fld Z h30 b30 "com/example/freshet/freshet/Command$Arguments" "files" "Ljava/util/List;" .null := D30 (Or.inr (hw _ (List.mem_of_getElem? (i := 106) rfl))) (ty := (.object "java/util/List")) (by decide)
    refine own_go (B := T30.setTop (mkF m 99 #[.val (.int p1), .val (.int p2), .val (.int p3), .val (.int p4), .val (.int p5), .val (.int (3 : Int32)), .val (.ref s1), .val (.ref s2), .val (.ref s3), .val (.ref s4), .val (.ref b5), .unset, .unset, .unset] [(.ref b5), .null, .null, (.ref b30), (.ref b30)])) (fun t k => ?_) ?_
    · show Steps p.tables e below (T30.setTop (mkF m 94 #[.val (.int p1), .val (.int p2), .val (.int p3), .val (.int p4), .val (.int p5), .val (.int (3 : Int32)), .val (.ref s1), .val (.ref s2), .val (.ref s3), .val (.ref s4), .val (.ref b5), .unset, .unset, .unset] [(.ref b30)])) t
      refine XS.dup X30.here hx rfl (hb hby at_94) rfl rfl ?_
      show Steps p.tables e below (T30.setTop (mkF m 95 #[.val (.int p1), .val (.int p2), .val (.int p3), .val (.int p4), .val (.int p5), .val (.int (3 : Int32)), .val (.ref s1), .val (.ref s2), .val (.ref s3), .val (.ref s4), .val (.ref b5), .unset, .unset, .unset] [(.ref b30), (.ref b30)])) t
      refine XS.aconstNull X30.here hx rfl (hb hby at_95) ?_
      show Steps p.tables e below (T30.setTop (mkF m 96 #[.val (.int p1), .val (.int p2), .val (.int p3), .val (.int p4), .val (.int p5), .val (.int (3 : Int32)), .val (.ref s1), .val (.ref s2), .val (.ref s3), .val (.ref s4), .val (.ref b5), .unset, .unset, .unset] [.null, (.ref b30), (.ref b30)])) t
      refine XS.aconstNull X30.here hx rfl (hb hby at_96) ?_
      show Steps p.tables e below (T30.setTop (mkF m 97 #[.val (.int p1), .val (.int p2), .val (.int p3), .val (.int p4), .val (.int p5), .val (.int (3 : Int32)), .val (.ref s1), .val (.ref s2), .val (.ref s3), .val (.ref s4), .val (.ref b5), .unset, .unset, .unset] [.null, .null, (.ref b30), (.ref b30)])) t
      refine XS.aload X30.here hx rfl (hb hby at_97) rfl rfl ?_
      exact k
    have M31 := rm16 l Z a0 hw [] b30 b5 _ _ _ h30 n0 (Nat.le_trans (Nat.le_trans (Nat.le_trans (Nat.le_trans (Nat.le_trans (Nat.le_trans (Nat.le_trans (Nat.le_trans (Nat.le_trans (Nat.le_trans Z0 K1.1) K2.1) K3.1) K4.1) E5.1) K6.1) K27.1) K28.1) K29.1) E30.1) A30 F30_options F30_flags F30_files g_b30
    obtain ⟨_, _, ⟨T31, L31, k31, n31⟩, -, X31, ⟨Lc31, hQ31, l31, y31, z31⟩, st31⟩ := X30.specialBack hx (y := (⟨"com/example/freshet/freshet/Command$Arguments", "<init>", "(Ljava/util/Map;Ljava/util/Set;Ljava/util/List;)V"⟩ : MethodName)) rfl hown (mvT hZ (hw _ (List.mem_of_getElem? (i := 92) rfl))) (mvT hZ (hw _ (List.mem_of_getElem? (i := 93) rfl))) (mvT hZ (hw _ (List.mem_of_getElem? (i := 94) rfl))) (by decide) (backOf (W := 1) (M31) hZ (hw _ (List.mem_of_getElem? (i := 94) rfl)) (hw _ (List.mem_of_getElem? (i := 91) rfl)) (by decide) (by decide)) (g := (mkF m 99 #[.val (.int p1), .val (.int p2), .val (.int p3), .val (.int p4), .val (.int p5), .val (.int (3 : Int32)), .val (.ref s1), .val (.ref s2), .val (.ref s3), .val (.ref s4), .val (.ref b5), .unset, .unset, .unset] [(.ref b5), .null, .null, (.ref b30), (.ref b30)])) rfl (by rw [hml]; rfl) (Steps.refl _) (a := b30) (argsL := [.null, .null, (.ref b5)]) (rest := [(.ref b30)]) (lenOf pd_rm0_3 rfl) rfl (by show 2 * 0 + _ ≤ _; exact Nat.le_of_eq rfl) (hb hby at_99) (fun _ _ => ⟨rfl, e30, (by decide : 15 + 0 ≤ _), (by decide : 48 + 0 ≤ _)⟩)
    dsimp only [Pt.U, Pt.locs, Pt.cells, Pt.slots] at X31 l31 y31 z31 st31 hQ31
    subst l31 y31 z31
    obtain ⟨rfl, N31q, K31, -, G31⟩ := hQ31
    have N31 := Fr.app N29 N31q
    obtain ⟨LL31, X31, N31⟩ := own_abs X31 N31
    refine own_go (fun t k => st31.trans k) ?_
    have f31_0 := f30_0.keep K31
    have f31_1 := f30_1.keep K31
    have f31_2 := f30_2.keep K31
    have f31_3 := f30_3.keep K31
    have f31_4 := f30_4.keep K31
    have f31_5 := f30_5.keep K31 (ninS ne30_b5 nin0)
    have f31_6 := f30_6.keep K31 (ninS ne30_b5 nin0)
    have f31_7 := f30_7.keep K31 (ninS ne30_b5 nin0)
    have f31_8 := f30_8.keep K31 (ninS ne30_r27 nin0)
    have f31_9 := A30.keep K31
    refine own_go (B := T31.setTop (mkF m 106 #[.val (.int p1), .val (.int p2), .val (.int p3), .val (.int p4), .val (.int p5), .val (.int (3 : Int32)), .val (.ref s1), .val (.ref s2), .val (.ref s3), .val (.ref s4), .val (.ref b5), .val (.ref b30), .unset, .unset] [(.ref b30)])) (fun t k => ?_) ?_
    · show Steps p.tables e below (T31.setTop (mkF m 102 #[.val (.int p1), .val (.int p2), .val (.int p3), .val (.int p4), .val (.int p5), .val (.int (3 : Int32)), .val (.ref s1), .val (.ref s2), .val (.ref s3), .val (.ref s4), .val (.ref b5), .unset, .unset, .unset] [(.ref b30)])) t
      refine XS.astore X31.here hx rfl (hb hby at_102) rfl rfl (l' := #[.val (.int p1), .val (.int p2), .val (.int p3), .val (.int p4), .val (.int p5), .val (.int (3 : Int32)), .val (.ref s1), .val (.ref s2), .val (.ref s3), .val (.ref s4), .val (.ref b5), .val (.ref b30), .unset, .unset]) rfl ?_
      show Steps p.tables e below (T31.setTop (mkF m 104 #[.val (.int p1), .val (.int p2), .val (.int p3), .val (.int p4), .val (.int p5), .val (.int (3 : Int32)), .val (.ref s1), .val (.ref s2), .val (.ref s3), .val (.ref s4), .val (.ref b5), .val (.ref b30), .unset, .unset] [])) t
      refine XS.aload X31.here hx rfl (hb hby at_104) rfl rfl ?_
      exact k
    have M32 := rm18 l Z a0 hw [] b30 b5 ((((0 : Int32) + (1 : Int32)) + (1 : Int32)) + (1 : Int32)) T31.heap n0 (Nat.le_trans (Nat.le_trans (Nat.le_trans (Nat.le_trans (Nat.le_trans (Nat.le_trans (Nat.le_trans (Nat.le_trans (Nat.le_trans (Nat.le_trans (Nat.le_trans Z0 K1.1) K2.1) K3.1) K4.1) E5.1) K6.1) K27.1) K28.1) K29.1) E30.1) K31.1) f31_9 G31 f31_4 f31_7 (by decide)
    obtain ⟨cq32, kq32, q32a, q32b, q32c⟩ := isOf hZ rfl f31_9
    obtain ⟨_, _, ⟨T32, L32, k32, n32⟩, -, X32, ⟨Lc32, hQ32, l32, y32, z32⟩, st32⟩ := X31.virtualBack hx (y := (⟨"com/example/freshet/freshet/Command$Arguments", "traceFiles", "()Ljava/util/List;"⟩ : MethodName)) (z := (⟨"com/example/freshet/freshet/Command$Arguments", "traceFiles", "()Ljava/util/List;"⟩ : MethodName)) hown (mvT hZ (hw _ (List.mem_of_getElem? (i := 107) rfl))) (mvT hZ (hw _ (List.mem_of_getElem? (i := 108) rfl))) (notFace_of_selects (args := #[]) (mvT hZ (hw _ (List.mem_of_getElem? (i := 110) rfl)))) (mvT hZ (hw _ (List.mem_of_getElem? (i := 110) rfl))) (mvT hZ (hw _ (List.mem_of_getElem? (i := 109) rfl))) (by decide) (backOf (W := 0) (M32) hZ (hw _ (List.mem_of_getElem? (i := 111) rfl)) (hw _ (List.mem_of_getElem? (i := 91) rfl)) (by decide) (by decide)) q32a q32c (g := (mkF m 106 #[.val (.int p1), .val (.int p2), .val (.int p3), .val (.int p4), .val (.int p5), .val (.int (3 : Int32)), .val (.ref s1), .val (.ref s2), .val (.ref s3), .val (.ref s4), .val (.ref b5), .val (.ref b30), .unset, .unset] [(.ref b30)])) rfl (by rw [hml]; rfl) (Steps.refl _) (argsL := []) (rest := []) (lenOf pd_rm0_4 rfl) rfl (by show 2 * 0 + _ ≤ _; exact Nat.le_of_eq rfl) (hb hby at_106) (fun _ _ => ⟨rfl, rfl, (by decide : 15 + 0 ≤ _), (by decide : 48 + 0 ≤ _)⟩)
    dsimp only [Pt.U, Pt.locs, Pt.cells, Pt.slots] at X32 l32 y32 z32 st32 hQ32
    subst l32 y32 z32
    obtain ⟨rfl, N32q, hh32⟩ := hQ32
    have N32 := Fr.app N31 N32q
    obtain ⟨LL32, X32, N32⟩ := own_abs X32 N32
    refine own_go (fun t k => st32.trans k) ?_
    refine own_go (B := T32.setTop (mkF m 118 #[.val (.int p1), .val (.int p2), .val (.int p3), .val (.int p4), .val (.int p5), .val (.int (3 : Int32)), .val (.ref s1), .val (.ref s2), .val (.ref s3), .val (.ref s4), .val (.ref b5), .val (.ref b30), .val (.ref b5), .unset] [(.ref b5)])) (fun t k => ?_) ?_
    · show Steps p.tables e below (T32.setTop (mkF m 109 #[.val (.int p1), .val (.int p2), .val (.int p3), .val (.int p4), .val (.int p5), .val (.int (3 : Int32)), .val (.ref s1), .val (.ref s2), .val (.ref s3), .val (.ref s4), .val (.ref b5), .val (.ref b30), .unset, .unset] [(.ref b5)])) t
      refine XS.astore X32.here hx rfl (hb hby at_109) rfl rfl (l' := #[.val (.int p1), .val (.int p2), .val (.int p3), .val (.int p4), .val (.int p5), .val (.int (3 : Int32)), .val (.ref s1), .val (.ref s2), .val (.ref s3), .val (.ref s4), .val (.ref b5), .val (.ref b30), .val (.ref b5), .unset]) rfl ?_
      show Steps p.tables e below (T32.setTop (mkF m 111 #[.val (.int p1), .val (.int p2), .val (.int p3), .val (.int p4), .val (.int p5), .val (.int (3 : Int32)), .val (.ref s1), .val (.ref s2), .val (.ref s3), .val (.ref s4), .val (.ref b5), .val (.ref b30), .val (.ref b5), .unset] [])) t
      refine XS.aload X32.here hx rfl (hb hby at_111) rfl rfl ?_
      show Steps p.tables e below (T32.setTop (mkF m 113 #[.val (.int p1), .val (.int p2), .val (.int p3), .val (.int p4), .val (.int p5), .val (.int (3 : Int32)), .val (.ref s1), .val (.ref s2), .val (.ref s3), .val (.ref s4), .val (.ref b5), .val (.ref b30), .val (.ref b5), .unset] [(.ref b5)])) t
      refine XS.ifnullNo X32.here hx rfl (hb hby at_113) rfl ?_
      show Steps p.tables e below (T32.setTop (mkF m 116 #[.val (.int p1), .val (.int p2), .val (.int p3), .val (.int p4), .val (.int p5), .val (.int (3 : Int32)), .val (.ref s1), .val (.ref s2), .val (.ref s3), .val (.ref s4), .val (.ref b5), .val (.ref b30), .val (.ref b5), .unset] [])) t
      refine XS.aload X32.here hx rfl (hb hby at_116) rfl rfl ?_
      exact k
    have M33 := rm20 l Z a0 hw [] b5 ((((0 : Int32) + (1 : Int32)) + (1 : Int32)) + (1 : Int32)) T31.heap n0 (Nat.le_trans (Nat.le_trans (Nat.le_trans (Nat.le_trans (Nat.le_trans (Nat.le_trans (Nat.le_trans (Nat.le_trans (Nat.le_trans (Nat.le_trans (Nat.le_trans Z0 K1.1) K2.1) K3.1) K4.1) E5.1) K6.1) K27.1) K28.1) K29.1) E30.1) K31.1) f31_7
    obtain ⟨cq33, kq33, q33a, q33b, q33c⟩ := isOf hZ hh32 f31_4
    obtain ⟨_, _, ⟨T33, L33, k33, n33⟩, -, X33, ⟨Lc33, hQ33, l33, y33, z33⟩, st33⟩ := X32.interfaceBack hx (xi := (⟨"java/util/List", "size", "()I"⟩ : MethodName)) (y := (⟨"java/util/ArrayList", "size", "()I"⟩ : MethodName)) hown (mvT hZ (hw _ (List.mem_of_getElem? (i := 121) rfl))) (mvT hZ (hw _ (List.mem_of_getElem? (i := 122) rfl))) (mvT hZ (hw _ (List.mem_of_getElem? (i := 123) rfl))) (mvT hZ (hw _ (List.mem_of_getElem? (i := 124) rfl))) (mvT hZ (hw _ (List.mem_of_getElem? (i := 125) rfl))) (mvT hZ (hw _ (List.mem_of_getElem? (i := 126) rfl))) (mvT hZ (hw _ (List.mem_of_getElem? (i := 127) rfl))) (mvT hZ (hw _ (List.mem_of_getElem? (i := 119) rfl))) (by decide) (backOf (W := 0) (M33) hZ (hw _ (List.mem_of_getElem? (i := 128) rfl)) (hw _ (List.mem_of_getElem? (i := 36) rfl)) (by decide) (by decide)) q33a q33b q33c (g := (mkF m 118 #[.val (.int p1), .val (.int p2), .val (.int p3), .val (.int p4), .val (.int p5), .val (.int (3 : Int32)), .val (.ref s1), .val (.ref s2), .val (.ref s3), .val (.ref s4), .val (.ref b5), .val (.ref b30), .val (.ref b5), .unset] [(.ref b5)])) rfl (by rw [hml]; rfl) (Steps.refl _) (argsL := []) (rest := []) (lenOf pd_rm0_5 rfl) rfl (by show 2 * 0 + _ ≤ _; exact Nat.le_of_eq rfl) (hb hby at_118) (fun _ _ => ⟨rfl, hh32, (by decide : 15 + 0 ≤ _), (by decide : 48 + 0 ≤ _)⟩)
    dsimp only [Pt.U, Pt.locs, Pt.cells, Pt.slots] at X33 l33 y33 z33 st33 hQ33
    subst l33 y33 z33
    obtain ⟨rfl, N33q, hh33⟩ := hQ33
    have N33 := Fr.app N32 N33q
    obtain ⟨LL33, X33, N33⟩ := own_abs X33 N33
    refine own_go (fun t k => st33.trans k) ?_
    refine own_go (B := T33.setTop (mkF m 133 #[.val (.int p1), .val (.int p2), .val (.int p3), .val (.int p4), .val (.int p5), .val (.int (3 : Int32)), .val (.ref s1), .val (.ref s2), .val (.ref s3), .val (.ref s4), .val (.ref b5), .val (.ref b30), .val (.ref b5), .unset] [(.int (0 : Int32)), (.ref b5)])) (fun t k => ?_) ?_
    · show Steps p.tables e below (T33.setTop (mkF m 123 #[.val (.int p1), .val (.int p2), .val (.int p3), .val (.int p4), .val (.int p5), .val (.int (3 : Int32)), .val (.ref s1), .val (.ref s2), .val (.ref s3), .val (.ref s4), .val (.ref b5), .val (.ref b30), .val (.ref b5), .unset] [(.int ((((0 : Int32) + (1 : Int32)) + (1 : Int32)) + (1 : Int32)))])) t
      refine XS.iload X33.here hx rfl (hb hby at_123) rfl ?_
      show Steps p.tables e below (T33.setTop (mkF m 125 #[.val (.int p1), .val (.int p2), .val (.int p3), .val (.int p4), .val (.int p5), .val (.int (3 : Int32)), .val (.ref s1), .val (.ref s2), .val (.ref s3), .val (.ref s4), .val (.ref b5), .val (.ref b30), .val (.ref b5), .unset] [(.int (3 : Int32)), (.int ((((0 : Int32) + (1 : Int32)) + (1 : Int32)) + (1 : Int32)))])) t
      refine XS.icmpYes X33.here hx rfl (pc0 := 125) (pc' := 130) rfl (hb hby at_125) rfl (teq (by decide : ((((0 : Int32) + (1 : Int32)) + (1 : Int32)) + (1 : Int32)) = (3 : Int32))).1 (by decide) (by decide) ?_
      show Steps p.tables e below (T33.setTop (mkF m 130 #[.val (.int p1), .val (.int p2), .val (.int p3), .val (.int p4), .val (.int p5), .val (.int (3 : Int32)), .val (.ref s1), .val (.ref s2), .val (.ref s3), .val (.ref s4), .val (.ref b5), .val (.ref b30), .val (.ref b5), .unset] [])) t
      refine XS.aload X33.here hx rfl (hb hby at_130) rfl rfl ?_
      show Steps p.tables e below (T33.setTop (mkF m 132 #[.val (.int p1), .val (.int p2), .val (.int p3), .val (.int p4), .val (.int p5), .val (.int (3 : Int32)), .val (.ref s1), .val (.ref s2), .val (.ref s3), .val (.ref s4), .val (.ref b5), .val (.ref b30), .val (.ref b5), .unset] [(.ref b5)])) t
      refine XS.iconst X33.here hx rfl (hb hby at_132) ?_
      exact k
    have hat34 : (fun x => if x = 2 then (Value.ref s3) else (fun x => if x = 1 then (Value.ref s2) else (fun x => if x = 0 then (Value.ref s1) else (fun _ => Value.null) x) x) x) ((0 : Int32)).toNatClampNeg = Value.ref s1 := by rw [show ((0 : Int32)).toNatClampNeg = 0 from by decide]; rfl
    have M34 := rm21 l Z a0 hw [] b5 (0 : Int32) r27 kA27 (fun x => if x = 2 then (Value.ref s3) else (fun x => if x = 1 then (Value.ref s2) else (fun x => if x = 0 then (Value.ref s1) else (fun _ => Value.null) x) x) x) s1 ((((0 : Int32) + (1 : Int32)) + (1 : Int32)) + (1 : Int32)) T31.heap n0 (Nat.le_trans (Nat.le_trans (Nat.le_trans (Nat.le_trans (Nat.le_trans (Nat.le_trans (Nat.le_trans (Nat.le_trans (Nat.le_trans (Nat.le_trans (Nat.le_trans Z0 K1.1) K2.1) K3.1) K4.1) E5.1) K6.1) K27.1) K28.1) K29.1) E30.1) K31.1) f31_6 f31_8 (by decide) (by decide) hat34 f31_7 (by decide) f31_4
    obtain ⟨cq34, kq34, q34a, q34b, q34c⟩ := isOf hZ hh33 f31_4
    obtain ⟨_, _, ⟨T34, L34, k34, n34⟩, -, X34, ⟨Lc34, hQ34, l34, y34, z34⟩, st34⟩ := X33.interfaceBack hx (xi := (⟨"java/util/List", "get", "(I)Ljava/lang/Object;"⟩ : MethodName)) (y := (⟨"java/util/ArrayList", "get", "(I)Ljava/lang/Object;"⟩ : MethodName)) hown (mvT hZ (hw _ (List.mem_of_getElem? (i := 129) rfl))) (mvT hZ (hw _ (List.mem_of_getElem? (i := 130) rfl))) (mvT hZ (hw _ (List.mem_of_getElem? (i := 131) rfl))) (mvT hZ (hw _ (List.mem_of_getElem? (i := 132) rfl))) (mvT hZ (hw _ (List.mem_of_getElem? (i := 133) rfl))) (mvT hZ (hw _ (List.mem_of_getElem? (i := 134) rfl))) (mvT hZ (hw _ (List.mem_of_getElem? (i := 135) rfl))) (mvT hZ (hw _ (List.mem_of_getElem? (i := 119) rfl))) (by decide) (backOf (W := 0) (M34) hZ (hw _ (List.mem_of_getElem? (i := 136) rfl)) (hw _ (List.mem_of_getElem? (i := 36) rfl)) (by decide) (by decide)) q34a q34b q34c (g := (mkF m 133 #[.val (.int p1), .val (.int p2), .val (.int p3), .val (.int p4), .val (.int p5), .val (.int (3 : Int32)), .val (.ref s1), .val (.ref s2), .val (.ref s3), .val (.ref s4), .val (.ref b5), .val (.ref b30), .val (.ref b5), .unset] [(.int (0 : Int32)), (.ref b5)])) rfl (by rw [hml]; rfl) (Steps.refl _) (argsL := [(.int (0 : Int32))]) (rest := []) (lenOf pd_rm0_6 rfl) rfl (by show 2 * 0 + _ ≤ _; exact Nat.le_of_eq rfl) (hb hby at_133) (fun _ _ => ⟨rfl, hh33, (by decide : 15 + 0 ≤ _), (by decide : 48 + 0 ≤ _)⟩)
    dsimp only [Pt.U, Pt.locs, Pt.cells, Pt.slots] at X34 l34 y34 z34 st34 hQ34
    subst l34 y34 z34
    obtain ⟨rfl, N34q, hh34⟩ := hQ34
    have N34 := Fr.app N33 N34q
    obtain ⟨LL34, X34, N34⟩ := own_abs X34 N34
    refine own_go (fun t k => st34.trans k) ?_
    obtain ⟨T35, X35, e35, st35⟩ := castY X34 hx hZ hown (hw _ (List.mem_of_getElem? (i := 5) rfl)) hh34 (Ins.self f31_0) (g := (mkF m 138 #[.val (.int p1), .val (.int p2), .val (.int p3), .val (.int p4), .val (.int p5), .val (.int (3 : Int32)), .val (.ref s1), .val (.ref s2), .val (.ref s3), .val (.ref s4), .val (.ref b5), .val (.ref b30), .val (.ref b5), .unset] [(.ref s1)])) rfl rfl (hb hby at_138)
    refine own_go (fun t k => st35 t k) ?_
    refine own_go (B := T35.setTop (mkF m 143 #[.val (.int p1), .val (.int p2), .val (.int p3), .val (.int p4), .val (.int p5), .val (.int (3 : Int32)), .val (.ref s1), .val (.ref s2), .val (.ref s3), .val (.ref s4), .val (.ref b5), .val (.ref b30), .val (.ref b5), .unset] [(.ref s1), (.ref s1)])) (fun t k => ?_) ?_
    · show Steps p.tables e below (T35.setTop (mkF m 141 #[.val (.int p1), .val (.int p2), .val (.int p3), .val (.int p4), .val (.int p5), .val (.int (3 : Int32)), .val (.ref s1), .val (.ref s2), .val (.ref s3), .val (.ref s4), .val (.ref b5), .val (.ref b30), .val (.ref b5), .unset] [(.ref s1)])) t
      refine XS.aload X35.here hx rfl (hb hby at_141) rfl rfl ?_
      exact k
    have M36 := rm25 l Z a0 hw [] s1 T31.heap n0 (Nat.le_trans (Nat.le_trans (Nat.le_trans (Nat.le_trans (Nat.le_trans (Nat.le_trans (Nat.le_trans (Nat.le_trans (Nat.le_trans (Nat.le_trans (Nat.le_trans Z0 K1.1) K2.1) K3.1) K4.1) E5.1) K6.1) K27.1) K28.1) K29.1) E30.1) K31.1)
    obtain ⟨cq36, kq36, q36a, q36b, q36c⟩ := isOf hZ e35 f31_0
    obtain ⟨_, _, ⟨T36, L36, k36, n36⟩, -, X36, ⟨Lc36, hQ36, l36, y36, z36⟩, st36⟩ := X35.virtualBack hx (y := (⟨"java/lang/String", "equals", "(Ljava/lang/Object;)Z"⟩ : MethodName)) (z := (⟨"java/lang/String", "equals", "(Ljava/lang/Object;)Z"⟩ : MethodName)) hown (mvT hZ (hw _ (List.mem_of_getElem? (i := 150) rfl))) (mvT hZ (hw _ (List.mem_of_getElem? (i := 151) rfl))) (notFace_of_selects (args := #[]) (mvT hZ (hw _ (List.mem_of_getElem? (i := 153) rfl)))) (mvT hZ (hw _ (List.mem_of_getElem? (i := 153) rfl))) (mvT hZ (hw _ (List.mem_of_getElem? (i := 152) rfl))) (by decide) (backOf (W := 0) (M36) hZ (hw _ (List.mem_of_getElem? (i := 154) rfl)) (hw _ (List.mem_of_getElem? (i := 7) rfl)) (by decide) (by decide)) q36a q36c (g := (mkF m 143 #[.val (.int p1), .val (.int p2), .val (.int p3), .val (.int p4), .val (.int p5), .val (.int (3 : Int32)), .val (.ref s1), .val (.ref s2), .val (.ref s3), .val (.ref s4), .val (.ref b5), .val (.ref b30), .val (.ref b5), .unset] [(.ref s1), (.ref s1)])) rfl (by rw [hml]; rfl) (Steps.refl _) (argsL := [(.ref s1)]) (rest := []) (lenOf pd_rm0_2 rfl) rfl (by show 2 * 0 + _ ≤ _; exact Nat.le_of_eq rfl) (hb hby at_143) (fun _ _ => ⟨rfl, e35, (by decide : 15 + 0 ≤ _), (by decide : 48 + 0 ≤ _)⟩)
    dsimp only [Pt.U, Pt.locs, Pt.cells, Pt.slots] at X36 l36 y36 z36 st36 hQ36
    subst l36 y36 z36
    obtain ⟨rfl, N36q, hh36⟩ := hQ36
    have N36 := Fr.app N34 N36q
    obtain ⟨LL36, X36, N36⟩ := own_abs X36 N36
    refine own_go (fun t k => st36.trans k) ?_
    refine own_go (B := T36.setTop (mkF m 162 #[.val (.int p1), .val (.int p2), .val (.int p3), .val (.int p4), .val (.int p5), .val (.int (3 : Int32)), .val (.ref s1), .val (.ref s2), .val (.ref s3), .val (.ref s4), .val (.ref b5), .val (.ref b30), .val (.ref b5), .val (.int (1 : Int32))] [(.int (1 : Int32)), (.ref b5)])) (fun t k => ?_) ?_
    · show Steps p.tables e below (T36.setTop (mkF m 146 #[.val (.int p1), .val (.int p2), .val (.int p3), .val (.int p4), .val (.int p5), .val (.int (3 : Int32)), .val (.ref s1), .val (.ref s2), .val (.ref s3), .val (.ref s4), .val (.ref b5), .val (.ref b30), .val (.ref b5), .unset] [(.int (1 : Int32))])) t
      refine XS.istore X36.here hx rfl (hb hby at_146) rfl (l' := #[.val (.int p1), .val (.int p2), .val (.int p3), .val (.int p4), .val (.int p5), .val (.int (3 : Int32)), .val (.ref s1), .val (.ref s2), .val (.ref s3), .val (.ref s4), .val (.ref b5), .val (.ref b30), .val (.ref b5), .val (.int (1 : Int32))]) rfl ?_
      show Steps p.tables e below (T36.setTop (mkF m 148 #[.val (.int p1), .val (.int p2), .val (.int p3), .val (.int p4), .val (.int p5), .val (.int (3 : Int32)), .val (.ref s1), .val (.ref s2), .val (.ref s3), .val (.ref s4), .val (.ref b5), .val (.ref b30), .val (.ref b5), .val (.int (1 : Int32))] [])) t
      refine XS.iload X36.here hx rfl (hb hby at_148) rfl ?_
      show Steps p.tables e below (T36.setTop (mkF m 150 #[.val (.int p1), .val (.int p2), .val (.int p3), .val (.int p4), .val (.int p5), .val (.int (3 : Int32)), .val (.ref s1), .val (.ref s2), .val (.ref s3), .val (.ref s4), .val (.ref b5), .val (.ref b30), .val (.ref b5), .val (.int (1 : Int32))] [(.int (3 : Int32))])) t
      refine XS.iconst X36.here hx rfl (hb hby at_150) ?_
      show Steps p.tables e below (T36.setTop (mkF m 151 #[.val (.int p1), .val (.int p2), .val (.int p3), .val (.int p4), .val (.int p5), .val (.int (3 : Int32)), .val (.ref s1), .val (.ref s2), .val (.ref s3), .val (.ref s4), .val (.ref b5), .val (.ref b30), .val (.ref b5), .val (.int (1 : Int32))] [(.int (1 : Int32)), (.int (3 : Int32))])) t
      refine XS.icmpNo X36.here hx rfl (hb hby at_151) rfl (tlt (by decide : (1 : Int32) < (3 : Int32))).2.2.2 ?_
      show Steps p.tables e below (T36.setTop (mkF m 154 #[.val (.int p1), .val (.int p2), .val (.int p3), .val (.int p4), .val (.int p5), .val (.int (3 : Int32)), .val (.ref s1), .val (.ref s2), .val (.ref s3), .val (.ref s4), .val (.ref b5), .val (.ref b30), .val (.ref b5), .val (.int (1 : Int32))] [])) t
      refine XS.iload X36.here hx rfl (hb hby at_154) rfl ?_
      show Steps p.tables e below (T36.setTop (mkF m 156 #[.val (.int p1), .val (.int p2), .val (.int p3), .val (.int p4), .val (.int p5), .val (.int (3 : Int32)), .val (.ref s1), .val (.ref s2), .val (.ref s3), .val (.ref s4), .val (.ref b5), .val (.ref b30), .val (.ref b5), .val (.int (1 : Int32))] [(.int (1 : Int32))])) t
      refine XS.ifNo X36.here hx rfl (hb hby at_156) rfl ((if0 _ _).trans (feq (by decide : ¬ ((1 : Int32) = (0 : Int32)))).1) ?_
      show Steps p.tables e below (T36.setTop (mkF m 159 #[.val (.int p1), .val (.int p2), .val (.int p3), .val (.int p4), .val (.int p5), .val (.int (3 : Int32)), .val (.ref s1), .val (.ref s2), .val (.ref s3), .val (.ref s4), .val (.ref b5), .val (.ref b30), .val (.ref b5), .val (.int (1 : Int32))] [])) t
      refine XS.aload X36.here hx rfl (hb hby at_159) rfl rfl ?_
      show Steps p.tables e below (T36.setTop (mkF m 161 #[.val (.int p1), .val (.int p2), .val (.int p3), .val (.int p4), .val (.int p5), .val (.int (3 : Int32)), .val (.ref s1), .val (.ref s2), .val (.ref s3), .val (.ref s4), .val (.ref b5), .val (.ref b30), .val (.ref b5), .val (.int (1 : Int32))] [(.ref b5)])) t
      refine XS.iconst X36.here hx rfl (hb hby at_161) ?_
      exact k
    have hat37 : (fun x => if x = 2 then (Value.ref s3) else (fun x => if x = 1 then (Value.ref s2) else (fun x => if x = 0 then (Value.ref s1) else (fun _ => Value.null) x) x) x) ((1 : Int32)).toNatClampNeg = Value.ref s2 := by rw [show ((1 : Int32)).toNatClampNeg = 1 from by decide]; rfl
    have M37 := rm21 l Z a0 hw [] b5 (1 : Int32) r27 kA27 (fun x => if x = 2 then (Value.ref s3) else (fun x => if x = 1 then (Value.ref s2) else (fun x => if x = 0 then (Value.ref s1) else (fun _ => Value.null) x) x) x) s2 ((((0 : Int32) + (1 : Int32)) + (1 : Int32)) + (1 : Int32)) T31.heap n0 (Nat.le_trans (Nat.le_trans (Nat.le_trans (Nat.le_trans (Nat.le_trans (Nat.le_trans (Nat.le_trans (Nat.le_trans (Nat.le_trans (Nat.le_trans (Nat.le_trans Z0 K1.1) K2.1) K3.1) K4.1) E5.1) K6.1) K27.1) K28.1) K29.1) E30.1) K31.1) f31_6 f31_8 (by decide) (by decide) hat37 f31_7 (by decide) f31_4
    obtain ⟨cq37, kq37, q37a, q37b, q37c⟩ := isOf hZ hh36 f31_4
    obtain ⟨_, _, ⟨T37, L37, k37, n37⟩, -, X37, ⟨Lc37, hQ37, l37, y37, z37⟩, st37⟩ := X36.interfaceBack hx (xi := (⟨"java/util/List", "get", "(I)Ljava/lang/Object;"⟩ : MethodName)) (y := (⟨"java/util/ArrayList", "get", "(I)Ljava/lang/Object;"⟩ : MethodName)) hown (mvT hZ (hw _ (List.mem_of_getElem? (i := 129) rfl))) (mvT hZ (hw _ (List.mem_of_getElem? (i := 130) rfl))) (mvT hZ (hw _ (List.mem_of_getElem? (i := 131) rfl))) (mvT hZ (hw _ (List.mem_of_getElem? (i := 132) rfl))) (mvT hZ (hw _ (List.mem_of_getElem? (i := 133) rfl))) (mvT hZ (hw _ (List.mem_of_getElem? (i := 134) rfl))) (mvT hZ (hw _ (List.mem_of_getElem? (i := 135) rfl))) (mvT hZ (hw _ (List.mem_of_getElem? (i := 119) rfl))) (by decide) (backOf (W := 0) (M37) hZ (hw _ (List.mem_of_getElem? (i := 136) rfl)) (hw _ (List.mem_of_getElem? (i := 36) rfl)) (by decide) (by decide)) q37a q37b q37c (g := (mkF m 162 #[.val (.int p1), .val (.int p2), .val (.int p3), .val (.int p4), .val (.int p5), .val (.int (3 : Int32)), .val (.ref s1), .val (.ref s2), .val (.ref s3), .val (.ref s4), .val (.ref b5), .val (.ref b30), .val (.ref b5), .val (.int (1 : Int32))] [(.int (1 : Int32)), (.ref b5)])) rfl (by rw [hml]; rfl) (Steps.refl _) (argsL := [(.int (1 : Int32))]) (rest := []) (lenOf pd_rm0_6 rfl) rfl (by show 2 * 0 + _ ≤ _; exact Nat.le_of_eq rfl) (hb hby at_162) (fun _ _ => ⟨rfl, hh36, (by decide : 15 + 0 ≤ _), (by decide : 48 + 0 ≤ _)⟩)
    dsimp only [Pt.U, Pt.locs, Pt.cells, Pt.slots] at X37 l37 y37 z37 st37 hQ37
    subst l37 y37 z37
    obtain ⟨rfl, N37q, hh37⟩ := hQ37
    have N37 := Fr.app N36 N37q
    obtain ⟨LL37, X37, N37⟩ := own_abs X37 N37
    refine own_go (fun t k => st37.trans k) ?_
    obtain ⟨T38, X38, e38, st38⟩ := castY X37 hx hZ hown (hw _ (List.mem_of_getElem? (i := 5) rfl)) hh37 (Ins.self f31_1) (g := (mkF m 167 #[.val (.int p1), .val (.int p2), .val (.int p3), .val (.int p4), .val (.int p5), .val (.int (3 : Int32)), .val (.ref s1), .val (.ref s2), .val (.ref s3), .val (.ref s4), .val (.ref b5), .val (.ref b30), .val (.ref b5), .val (.int (1 : Int32))] [(.ref s2)])) rfl rfl (hb hby at_167)
    refine own_go (fun t k => st38 t k) ?_
    refine own_go (B := T38.setTop (mkF m 172 #[.val (.int p1), .val (.int p2), .val (.int p3), .val (.int p4), .val (.int p5), .val (.int (3 : Int32)), .val (.ref s1), .val (.ref s2), .val (.ref s3), .val (.ref s4), .val (.ref b5), .val (.ref b30), .val (.ref b5), .val (.int (1 : Int32))] [(.ref s2), (.ref s2)])) (fun t k => ?_) ?_
    · show Steps p.tables e below (T38.setTop (mkF m 170 #[.val (.int p1), .val (.int p2), .val (.int p3), .val (.int p4), .val (.int p5), .val (.int (3 : Int32)), .val (.ref s1), .val (.ref s2), .val (.ref s3), .val (.ref s4), .val (.ref b5), .val (.ref b30), .val (.ref b5), .val (.int (1 : Int32))] [(.ref s2)])) t
      refine XS.aload X38.here hx rfl (hb hby at_170) rfl rfl ?_
      exact k
    have M39 := rm25 l Z a0 hw [] s2 T31.heap n0 (Nat.le_trans (Nat.le_trans (Nat.le_trans (Nat.le_trans (Nat.le_trans (Nat.le_trans (Nat.le_trans (Nat.le_trans (Nat.le_trans (Nat.le_trans (Nat.le_trans Z0 K1.1) K2.1) K3.1) K4.1) E5.1) K6.1) K27.1) K28.1) K29.1) E30.1) K31.1)
    obtain ⟨cq39, kq39, q39a, q39b, q39c⟩ := isOf hZ e38 f31_1
    obtain ⟨_, _, ⟨T39, L39, k39, n39⟩, -, X39, ⟨Lc39, hQ39, l39, y39, z39⟩, st39⟩ := X38.virtualBack hx (y := (⟨"java/lang/String", "equals", "(Ljava/lang/Object;)Z"⟩ : MethodName)) (z := (⟨"java/lang/String", "equals", "(Ljava/lang/Object;)Z"⟩ : MethodName)) hown (mvT hZ (hw _ (List.mem_of_getElem? (i := 150) rfl))) (mvT hZ (hw _ (List.mem_of_getElem? (i := 151) rfl))) (notFace_of_selects (args := #[]) (mvT hZ (hw _ (List.mem_of_getElem? (i := 153) rfl)))) (mvT hZ (hw _ (List.mem_of_getElem? (i := 153) rfl))) (mvT hZ (hw _ (List.mem_of_getElem? (i := 152) rfl))) (by decide) (backOf (W := 0) (M39) hZ (hw _ (List.mem_of_getElem? (i := 154) rfl)) (hw _ (List.mem_of_getElem? (i := 7) rfl)) (by decide) (by decide)) q39a q39c (g := (mkF m 172 #[.val (.int p1), .val (.int p2), .val (.int p3), .val (.int p4), .val (.int p5), .val (.int (3 : Int32)), .val (.ref s1), .val (.ref s2), .val (.ref s3), .val (.ref s4), .val (.ref b5), .val (.ref b30), .val (.ref b5), .val (.int (1 : Int32))] [(.ref s2), (.ref s2)])) rfl (by rw [hml]; rfl) (Steps.refl _) (argsL := [(.ref s2)]) (rest := []) (lenOf pd_rm0_2 rfl) rfl (by show 2 * 0 + _ ≤ _; exact Nat.le_of_eq rfl) (hb hby at_172) (fun _ _ => ⟨rfl, e38, (by decide : 15 + 0 ≤ _), (by decide : 48 + 0 ≤ _)⟩)
    dsimp only [Pt.U, Pt.locs, Pt.cells, Pt.slots] at X39 l39 y39 z39 st39 hQ39
    subst l39 y39 z39
    obtain ⟨rfl, N39q, hh39⟩ := hQ39
    have N39 := Fr.app N37 N39q
    obtain ⟨LL39, X39, N39⟩ := own_abs X39 N39
    refine own_go (fun t k => st39.trans k) ?_
    refine own_go (B := T39.setTop (mkF m 199 #[.val (.int p1), .val (.int p2), .val (.int p3), .val (.int p4), .val (.int p5), .val (.int (3 : Int32)), .val (.ref s1), .val (.ref s2), .val (.ref s3), .val (.ref s4), .val (.ref b5), .val (.ref b30), .val (.ref b5), .val (.int (1 : Int32))] [(.int (2 : Int32)), (.ref b5)])) (fun t k => ?_) ?_
    · show Steps p.tables e below (T39.setTop (mkF m 175 #[.val (.int p1), .val (.int p2), .val (.int p3), .val (.int p4), .val (.int p5), .val (.int (3 : Int32)), .val (.ref s1), .val (.ref s2), .val (.ref s3), .val (.ref s4), .val (.ref b5), .val (.ref b30), .val (.ref b5), .val (.int (1 : Int32))] [(.int (1 : Int32))])) t
      refine XS.ifNo X39.here hx rfl (hb hby at_175) rfl ((if0 _ _).trans (feq (by decide : ¬ ((1 : Int32) = (0 : Int32)))).1) ?_
      show Steps p.tables e below (T39.setTop (mkF m 178 #[.val (.int p1), .val (.int p2), .val (.int p3), .val (.int p4), .val (.int p5), .val (.int (3 : Int32)), .val (.ref s1), .val (.ref s2), .val (.ref s3), .val (.ref s4), .val (.ref b5), .val (.ref b30), .val (.ref b5), .val (.int (1 : Int32))] [])) t
      refine XS.iconst X39.here hx rfl (hb hby at_178) ?_
      show Steps p.tables e below (T39.setTop (mkF m 179 #[.val (.int p1), .val (.int p2), .val (.int p3), .val (.int p4), .val (.int p5), .val (.int (3 : Int32)), .val (.ref s1), .val (.ref s2), .val (.ref s3), .val (.ref s4), .val (.ref b5), .val (.ref b30), .val (.ref b5), .val (.int (1 : Int32))] [(.int (1 : Int32))])) t
      refine XS.goto X39.here hx rfl (pc0 := 179) (pc' := 183) rfl (hb hby at_179) (by decide) (by decide) ?_
      show Steps p.tables e below (T39.setTop (mkF m 183 #[.val (.int p1), .val (.int p2), .val (.int p3), .val (.int p4), .val (.int p5), .val (.int (3 : Int32)), .val (.ref s1), .val (.ref s2), .val (.ref s3), .val (.ref s4), .val (.ref b5), .val (.ref b30), .val (.ref b5), .val (.int (1 : Int32))] [(.int (1 : Int32))])) t
      refine XS.istore X39.here hx rfl (hb hby at_183) rfl (l' := #[.val (.int p1), .val (.int p2), .val (.int p3), .val (.int p4), .val (.int p5), .val (.int (3 : Int32)), .val (.ref s1), .val (.ref s2), .val (.ref s3), .val (.ref s4), .val (.ref b5), .val (.ref b30), .val (.ref b5), .val (.int (1 : Int32))]) rfl ?_
      show Steps p.tables e below (T39.setTop (mkF m 185 #[.val (.int p1), .val (.int p2), .val (.int p3), .val (.int p4), .val (.int p5), .val (.int (3 : Int32)), .val (.ref s1), .val (.ref s2), .val (.ref s3), .val (.ref s4), .val (.ref b5), .val (.ref b30), .val (.ref b5), .val (.int (1 : Int32))] [])) t
      refine XS.iload X39.here hx rfl (hb hby at_185) rfl ?_
      show Steps p.tables e below (T39.setTop (mkF m 187 #[.val (.int p1), .val (.int p2), .val (.int p3), .val (.int p4), .val (.int p5), .val (.int (3 : Int32)), .val (.ref s1), .val (.ref s2), .val (.ref s3), .val (.ref s4), .val (.ref b5), .val (.ref b30), .val (.ref b5), .val (.int (1 : Int32))] [(.int (3 : Int32))])) t
      refine XS.iconst X39.here hx rfl (hb hby at_187) ?_
      show Steps p.tables e below (T39.setTop (mkF m 188 #[.val (.int p1), .val (.int p2), .val (.int p3), .val (.int p4), .val (.int p5), .val (.int (3 : Int32)), .val (.ref s1), .val (.ref s2), .val (.ref s3), .val (.ref s4), .val (.ref b5), .val (.ref b30), .val (.ref b5), .val (.int (1 : Int32))] [(.int (2 : Int32)), (.int (3 : Int32))])) t
      refine XS.icmpNo X39.here hx rfl (hb hby at_188) rfl (tlt (by decide : (2 : Int32) < (3 : Int32))).2.2.2 ?_
      show Steps p.tables e below (T39.setTop (mkF m 191 #[.val (.int p1), .val (.int p2), .val (.int p3), .val (.int p4), .val (.int p5), .val (.int (3 : Int32)), .val (.ref s1), .val (.ref s2), .val (.ref s3), .val (.ref s4), .val (.ref b5), .val (.ref b30), .val (.ref b5), .val (.int (1 : Int32))] [])) t
      refine XS.iload X39.here hx rfl (hb hby at_191) rfl ?_
      show Steps p.tables e below (T39.setTop (mkF m 193 #[.val (.int p1), .val (.int p2), .val (.int p3), .val (.int p4), .val (.int p5), .val (.int (3 : Int32)), .val (.ref s1), .val (.ref s2), .val (.ref s3), .val (.ref s4), .val (.ref b5), .val (.ref b30), .val (.ref b5), .val (.int (1 : Int32))] [(.int (1 : Int32))])) t
      refine XS.ifNo X39.here hx rfl (hb hby at_193) rfl ((if0 _ _).trans (feq (by decide : ¬ ((1 : Int32) = (0 : Int32)))).1) ?_
      show Steps p.tables e below (T39.setTop (mkF m 196 #[.val (.int p1), .val (.int p2), .val (.int p3), .val (.int p4), .val (.int p5), .val (.int (3 : Int32)), .val (.ref s1), .val (.ref s2), .val (.ref s3), .val (.ref s4), .val (.ref b5), .val (.ref b30), .val (.ref b5), .val (.int (1 : Int32))] [])) t
      refine XS.aload X39.here hx rfl (hb hby at_196) rfl rfl ?_
      show Steps p.tables e below (T39.setTop (mkF m 198 #[.val (.int p1), .val (.int p2), .val (.int p3), .val (.int p4), .val (.int p5), .val (.int (3 : Int32)), .val (.ref s1), .val (.ref s2), .val (.ref s3), .val (.ref s4), .val (.ref b5), .val (.ref b30), .val (.ref b5), .val (.int (1 : Int32))] [(.ref b5)])) t
      refine XS.iconst X39.here hx rfl (hb hby at_198) ?_
      exact k
    have hat40 : (fun x => if x = 2 then (Value.ref s3) else (fun x => if x = 1 then (Value.ref s2) else (fun x => if x = 0 then (Value.ref s1) else (fun _ => Value.null) x) x) x) ((2 : Int32)).toNatClampNeg = Value.ref s3 := by rw [show ((2 : Int32)).toNatClampNeg = 2 from by decide]; rfl
    have M40 := rm21 l Z a0 hw [] b5 (2 : Int32) r27 kA27 (fun x => if x = 2 then (Value.ref s3) else (fun x => if x = 1 then (Value.ref s2) else (fun x => if x = 0 then (Value.ref s1) else (fun _ => Value.null) x) x) x) s3 ((((0 : Int32) + (1 : Int32)) + (1 : Int32)) + (1 : Int32)) T31.heap n0 (Nat.le_trans (Nat.le_trans (Nat.le_trans (Nat.le_trans (Nat.le_trans (Nat.le_trans (Nat.le_trans (Nat.le_trans (Nat.le_trans (Nat.le_trans (Nat.le_trans Z0 K1.1) K2.1) K3.1) K4.1) E5.1) K6.1) K27.1) K28.1) K29.1) E30.1) K31.1) f31_6 f31_8 (by decide) (by decide) hat40 f31_7 (by decide) f31_4
    obtain ⟨cq40, kq40, q40a, q40b, q40c⟩ := isOf hZ hh39 f31_4
    obtain ⟨_, _, ⟨T40, L40, k40, n40⟩, -, X40, ⟨Lc40, hQ40, l40, y40, z40⟩, st40⟩ := X39.interfaceBack hx (xi := (⟨"java/util/List", "get", "(I)Ljava/lang/Object;"⟩ : MethodName)) (y := (⟨"java/util/ArrayList", "get", "(I)Ljava/lang/Object;"⟩ : MethodName)) hown (mvT hZ (hw _ (List.mem_of_getElem? (i := 129) rfl))) (mvT hZ (hw _ (List.mem_of_getElem? (i := 130) rfl))) (mvT hZ (hw _ (List.mem_of_getElem? (i := 131) rfl))) (mvT hZ (hw _ (List.mem_of_getElem? (i := 132) rfl))) (mvT hZ (hw _ (List.mem_of_getElem? (i := 133) rfl))) (mvT hZ (hw _ (List.mem_of_getElem? (i := 134) rfl))) (mvT hZ (hw _ (List.mem_of_getElem? (i := 135) rfl))) (mvT hZ (hw _ (List.mem_of_getElem? (i := 119) rfl))) (by decide) (backOf (W := 0) (M40) hZ (hw _ (List.mem_of_getElem? (i := 136) rfl)) (hw _ (List.mem_of_getElem? (i := 36) rfl)) (by decide) (by decide)) q40a q40b q40c (g := (mkF m 199 #[.val (.int p1), .val (.int p2), .val (.int p3), .val (.int p4), .val (.int p5), .val (.int (3 : Int32)), .val (.ref s1), .val (.ref s2), .val (.ref s3), .val (.ref s4), .val (.ref b5), .val (.ref b30), .val (.ref b5), .val (.int (1 : Int32))] [(.int (2 : Int32)), (.ref b5)])) rfl (by rw [hml]; rfl) (Steps.refl _) (argsL := [(.int (2 : Int32))]) (rest := []) (lenOf pd_rm0_6 rfl) rfl (by show 2 * 0 + _ ≤ _; exact Nat.le_of_eq rfl) (hb hby at_199) (fun _ _ => ⟨rfl, hh39, (by decide : 15 + 0 ≤ _), (by decide : 48 + 0 ≤ _)⟩)
    dsimp only [Pt.U, Pt.locs, Pt.cells, Pt.slots] at X40 l40 y40 z40 st40 hQ40
    subst l40 y40 z40
    obtain ⟨rfl, N40q, hh40⟩ := hQ40
    have N40 := Fr.app N39 N40q
    obtain ⟨LL40, X40, N40⟩ := own_abs X40 N40
    refine own_go (fun t k => st40.trans k) ?_
    obtain ⟨T41, X41, e41, st41⟩ := castY X40 hx hZ hown (hw _ (List.mem_of_getElem? (i := 5) rfl)) hh40 (Ins.self f31_2) (g := (mkF m 204 #[.val (.int p1), .val (.int p2), .val (.int p3), .val (.int p4), .val (.int p5), .val (.int (3 : Int32)), .val (.ref s1), .val (.ref s2), .val (.ref s3), .val (.ref s4), .val (.ref b5), .val (.ref b30), .val (.ref b5), .val (.int (1 : Int32))] [(.ref s3)])) rfl rfl (hb hby at_204)
    refine own_go (fun t k => st41 t k) ?_
    refine own_go (B := T41.setTop (mkF m 209 #[.val (.int p1), .val (.int p2), .val (.int p3), .val (.int p4), .val (.int p5), .val (.int (3 : Int32)), .val (.ref s1), .val (.ref s2), .val (.ref s3), .val (.ref s4), .val (.ref b5), .val (.ref b30), .val (.ref b5), .val (.int (1 : Int32))] [(.ref s3), (.ref s3)])) (fun t k => ?_) ?_
    · show Steps p.tables e below (T41.setTop (mkF m 207 #[.val (.int p1), .val (.int p2), .val (.int p3), .val (.int p4), .val (.int p5), .val (.int (3 : Int32)), .val (.ref s1), .val (.ref s2), .val (.ref s3), .val (.ref s4), .val (.ref b5), .val (.ref b30), .val (.ref b5), .val (.int (1 : Int32))] [(.ref s3)])) t
      refine XS.aload X41.here hx rfl (hb hby at_207) rfl rfl ?_
      exact k
    have M42 := rm25 l Z a0 hw [] s3 T31.heap n0 (Nat.le_trans (Nat.le_trans (Nat.le_trans (Nat.le_trans (Nat.le_trans (Nat.le_trans (Nat.le_trans (Nat.le_trans (Nat.le_trans (Nat.le_trans (Nat.le_trans Z0 K1.1) K2.1) K3.1) K4.1) E5.1) K6.1) K27.1) K28.1) K29.1) E30.1) K31.1)
    obtain ⟨cq42, kq42, q42a, q42b, q42c⟩ := isOf hZ e41 f31_2
    obtain ⟨_, _, ⟨T42, L42, k42, n42⟩, -, X42, ⟨Lc42, hQ42, l42, y42, z42⟩, st42⟩ := X41.virtualBack hx (y := (⟨"java/lang/String", "equals", "(Ljava/lang/Object;)Z"⟩ : MethodName)) (z := (⟨"java/lang/String", "equals", "(Ljava/lang/Object;)Z"⟩ : MethodName)) hown (mvT hZ (hw _ (List.mem_of_getElem? (i := 150) rfl))) (mvT hZ (hw _ (List.mem_of_getElem? (i := 151) rfl))) (notFace_of_selects (args := #[]) (mvT hZ (hw _ (List.mem_of_getElem? (i := 153) rfl)))) (mvT hZ (hw _ (List.mem_of_getElem? (i := 153) rfl))) (mvT hZ (hw _ (List.mem_of_getElem? (i := 152) rfl))) (by decide) (backOf (W := 0) (M42) hZ (hw _ (List.mem_of_getElem? (i := 154) rfl)) (hw _ (List.mem_of_getElem? (i := 7) rfl)) (by decide) (by decide)) q42a q42c (g := (mkF m 209 #[.val (.int p1), .val (.int p2), .val (.int p3), .val (.int p4), .val (.int p5), .val (.int (3 : Int32)), .val (.ref s1), .val (.ref s2), .val (.ref s3), .val (.ref s4), .val (.ref b5), .val (.ref b30), .val (.ref b5), .val (.int (1 : Int32))] [(.ref s3), (.ref s3)])) rfl (by rw [hml]; rfl) (Steps.refl _) (argsL := [(.ref s3)]) (rest := []) (lenOf pd_rm0_2 rfl) rfl (by show 2 * 0 + _ ≤ _; exact Nat.le_of_eq rfl) (hb hby at_209) (fun _ _ => ⟨rfl, e41, (by decide : 15 + 0 ≤ _), (by decide : 48 + 0 ≤ _)⟩)
    dsimp only [Pt.U, Pt.locs, Pt.cells, Pt.slots] at X42 l42 y42 z42 st42 hQ42
    subst l42 y42 z42
    obtain ⟨rfl, N42q, hh42⟩ := hQ42
    have N42 := Fr.app N40 N42q
    obtain ⟨LL42, X42, N42⟩ := own_abs X42 N42
    refine own_go (fun t k => st42.trans k) ?_
    refine own_go (B := T42.setTop (mkF m 261 #[.val (.int p1), .val (.int p2), .val (.int p3), .val (.int p4), .val (.int p5), .val (.int (3 : Int32)), .val (.ref s1), .val (.ref s2), .val (.ref s3), .val (.ref s4), .val (.ref b5), .val (.ref b30), .val (.ref b5), .val (.int (1 : Int32))] [(.int (1 : Int32))])) (fun t k => ?_) ?_
    · show Steps p.tables e below (T42.setTop (mkF m 212 #[.val (.int p1), .val (.int p2), .val (.int p3), .val (.int p4), .val (.int p5), .val (.int (3 : Int32)), .val (.ref s1), .val (.ref s2), .val (.ref s3), .val (.ref s4), .val (.ref b5), .val (.ref b30), .val (.ref b5), .val (.int (1 : Int32))] [(.int (1 : Int32))])) t
      refine XS.ifNo X42.here hx rfl (hb hby at_212) rfl ((if0 _ _).trans (feq (by decide : ¬ ((1 : Int32) = (0 : Int32)))).1) ?_
      show Steps p.tables e below (T42.setTop (mkF m 215 #[.val (.int p1), .val (.int p2), .val (.int p3), .val (.int p4), .val (.int p5), .val (.int (3 : Int32)), .val (.ref s1), .val (.ref s2), .val (.ref s3), .val (.ref s4), .val (.ref b5), .val (.ref b30), .val (.ref b5), .val (.int (1 : Int32))] [])) t
      refine XS.iconst X42.here hx rfl (hb hby at_215) ?_
      show Steps p.tables e below (T42.setTop (mkF m 216 #[.val (.int p1), .val (.int p2), .val (.int p3), .val (.int p4), .val (.int p5), .val (.int (3 : Int32)), .val (.ref s1), .val (.ref s2), .val (.ref s3), .val (.ref s4), .val (.ref b5), .val (.ref b30), .val (.ref b5), .val (.int (1 : Int32))] [(.int (1 : Int32))])) t
      refine XS.goto X42.here hx rfl (pc0 := 216) (pc' := 220) rfl (hb hby at_216) (by decide) (by decide) ?_
      show Steps p.tables e below (T42.setTop (mkF m 220 #[.val (.int p1), .val (.int p2), .val (.int p3), .val (.int p4), .val (.int p5), .val (.int (3 : Int32)), .val (.ref s1), .val (.ref s2), .val (.ref s3), .val (.ref s4), .val (.ref b5), .val (.ref b30), .val (.ref b5), .val (.int (1 : Int32))] [(.int (1 : Int32))])) t
      refine XS.istore X42.here hx rfl (hb hby at_220) rfl (l' := #[.val (.int p1), .val (.int p2), .val (.int p3), .val (.int p4), .val (.int p5), .val (.int (3 : Int32)), .val (.ref s1), .val (.ref s2), .val (.ref s3), .val (.ref s4), .val (.ref b5), .val (.ref b30), .val (.ref b5), .val (.int (1 : Int32))]) rfl ?_
      show Steps p.tables e below (T42.setTop (mkF m 222 #[.val (.int p1), .val (.int p2), .val (.int p3), .val (.int p4), .val (.int p5), .val (.int (3 : Int32)), .val (.ref s1), .val (.ref s2), .val (.ref s3), .val (.ref s4), .val (.ref b5), .val (.ref b30), .val (.ref b5), .val (.int (1 : Int32))] [])) t
      refine XS.iload X42.here hx rfl (hb hby at_222) rfl ?_
      show Steps p.tables e below (T42.setTop (mkF m 224 #[.val (.int p1), .val (.int p2), .val (.int p3), .val (.int p4), .val (.int p5), .val (.int (3 : Int32)), .val (.ref s1), .val (.ref s2), .val (.ref s3), .val (.ref s4), .val (.ref b5), .val (.ref b30), .val (.ref b5), .val (.int (1 : Int32))] [(.int (3 : Int32))])) t
      refine XS.iconst X42.here hx rfl (hb hby at_224) ?_
      show Steps p.tables e below (T42.setTop (mkF m 225 #[.val (.int p1), .val (.int p2), .val (.int p3), .val (.int p4), .val (.int p5), .val (.int (3 : Int32)), .val (.ref s1), .val (.ref s2), .val (.ref s3), .val (.ref s4), .val (.ref b5), .val (.ref b30), .val (.ref b5), .val (.int (1 : Int32))] [(.int (3 : Int32)), (.int (3 : Int32))])) t
      refine XS.icmpYes X42.here hx rfl (pc0 := 225) (pc' := 259) rfl (hb hby at_225) rfl (flt (by decide : ¬ ((3 : Int32) < (3 : Int32)))).2.2.2 (by decide) (by decide) ?_
      show Steps p.tables e below (T42.setTop (mkF m 259 #[.val (.int p1), .val (.int p2), .val (.int p3), .val (.int p4), .val (.int p5), .val (.int (3 : Int32)), .val (.ref s1), .val (.ref s2), .val (.ref s3), .val (.ref s4), .val (.ref b5), .val (.ref b30), .val (.ref b5), .val (.int (1 : Int32))] [])) t
      refine XS.iload X42.here hx rfl (hb hby at_259) rfl ?_
      exact k
    obtain ⟨fs, hr, hrun, hended, hW, hsame⟩ := X42.leave (v := some (.int (1 : Int32))) (fun h => by rw [Bd.returns] at h; cases h)
    refine ⟨_, _, ?_, hrun, hended, _, _, rfl, ?_, ⟨_, rfl⟩, hW, hsame.mono (by decide) (by decide)⟩
    · show Steps p.tables e below (T42.setTop (mkF m 261 #[.val (.int p1), .val (.int p2), .val (.int p3), .val (.int p4), .val (.int p5), .val (.int (3 : Int32)), .val (.ref s1), .val (.ref s2), .val (.ref s3), .val (.ref s4), .val (.ref b5), .val (.ref b30), .val (.ref b5), .val (.int (1 : Int32))] [(.int (1 : Int32))])) _
      exact retN X42 hx (t := .boolean) Bd.returns (by simp) (hb hby at_261) hr
    · show Q0 Z p1 p2 p3 p4 p5 cz eD kD gD h0 n0 _ T42.heap _
      rw [hh42]
      exact ⟨rfl, N42⟩
  · subst e
    refine own_go (B := T6.setTop (mkF m 45 #[.val (.int p1), .val (.int p2), .val (.int p3), .val (.int p4), .val (.int p5), .val (.int (4 : Int32)), .val (.ref s1), .val (.ref s2), .val (.ref s3), .val (.ref s4), .val (.ref b5), .unset, .unset, .unset] [(.ref s1), (.ref b5)])) (fun t k => ?_) ?_
    · show Steps p.tables e below (T6.setTop (mkF m 41 #[.val (.int p1), .val (.int p2), .val (.int p3), .val (.int p4), .val (.int p5), .val (.int (4 : Int32)), .val (.ref s1), .val (.ref s2), .val (.ref s3), .val (.ref s4), .val (.ref b5), .unset, .unset, .unset] [])) t
      refine XS.aload X6.here hx rfl (hb hby at_41) rfl rfl ?_
      show Steps p.tables e below (T6.setTop (mkF m 43 #[.val (.int p1), .val (.int p2), .val (.int p3), .val (.int p4), .val (.int p5), .val (.int (4 : Int32)), .val (.ref s1), .val (.ref s2), .val (.ref s3), .val (.ref s4), .val (.ref b5), .unset, .unset, .unset] [(.ref b5)])) t
      refine XS.aload X6.here hx rfl (hb hby at_43) rfl rfl ?_
      exact k
    have M43 := rm11a l Z a0 hw [] b5 s1 (0 : Int32) eD kD gD T6.heap n0 (Nat.le_trans (Nat.le_trans (Nat.le_trans (Nat.le_trans (Nat.le_trans (Nat.le_trans Z0 K1.1) K2.1) K3.1) K4.1) E5.1) K6.1) f6_7 G0_6 G1_6 G2_6 g_b5 f6_1 f6_2 (Ne.symm ne5_eD) f6_3
    obtain ⟨cq43, kq43, q43a, q43b, q43c⟩ := isOf hZ rfl f6_7
    obtain ⟨_, _, ⟨T43, L43, k43, n43⟩, -, X43, ⟨Lc43, hQ43, l43, y43, z43⟩, st43⟩ := X6.virtualBack hx (y := (⟨"java/util/ArrayList", "add", "(Ljava/lang/Object;)Z"⟩ : MethodName)) (z := (⟨"java/util/ArrayList", "add", "(Ljava/lang/Object;)Z"⟩ : MethodName)) hown (mvT hZ (hw _ (List.mem_of_getElem? (i := 58) rfl))) (mvT hZ (hw _ (List.mem_of_getElem? (i := 59) rfl))) (notFace_of_selects (args := #[]) (mvT hZ (hw _ (List.mem_of_getElem? (i := 61) rfl)))) (mvT hZ (hw _ (List.mem_of_getElem? (i := 61) rfl))) (mvT hZ (hw _ (List.mem_of_getElem? (i := 60) rfl))) (by decide) (backOf (W := 0) (M43) hZ (hw _ (List.mem_of_getElem? (i := 62) rfl)) (hw _ (List.mem_of_getElem? (i := 36) rfl)) (by decide) (by decide)) q43a q43c (g := (mkF m 45 #[.val (.int p1), .val (.int p2), .val (.int p3), .val (.int p4), .val (.int p5), .val (.int (4 : Int32)), .val (.ref s1), .val (.ref s2), .val (.ref s3), .val (.ref s4), .val (.ref b5), .unset, .unset, .unset] [(.ref s1), (.ref b5)])) rfl (by rw [hml]; rfl) (Steps.refl _) (argsL := [(.ref s1)]) (rest := []) (lenOf pd_rm0_2 rfl) rfl (by show 2 * 0 + _ ≤ _; exact Nat.le_of_eq rfl) (hb hby at_45) (fun _ _ => ⟨rfl, rfl, (by decide : 13 + 1 ≤ _), (by decide : 35 + 10 ≤ _)⟩)
    dsimp only [Pt.U, Pt.locs, Pt.cells, Pt.slots] at X43 l43 y43 z43 st43 hQ43
    subst l43 y43 z43
    obtain ⟨r43, kA43, rfl, N43q, K43, -, ⟨m43, G0_43⟩, G1_43, G2_43, R43, O43, nr43, lr43, hs43⟩ := hQ43
    have N43 := Fr.app N6 N43q
    obtain ⟨LL43, X43, N43⟩ := own_abs X43 N43
    refine own_go (fun t k => st43.trans k) ?_
    have f43_0 := own_staKeep f6_0 K43 (nsS f6_7.nostat ns0)
    have f43_1 := own_staKeep f6_1 K43 (nsS f6_7.nostat ns0)
    have f43_2 := f6_2.keep K43 (ninS ne5_eD nin0)
    have f43_3 := f6_3.keep K43
    have f43_4 := f6_4.keep K43
    have f43_5 := f6_5.keep K43
    have f43_6 := f6_6.keep K43
    have f43_7 := f6_7.keep K43
    refine own_go (B := T43.setTop (mkF m 59 #[.val (.int p1), .val (.int p2), .val (.int p3), .val (.int p4), .val (.int p5), .val (.int (4 : Int32)), .val (.ref s1), .val (.ref s2), .val (.ref s3), .val (.ref s4), .val (.ref b5), .unset, .unset, .unset] [(.ref s2), (.ref b5)])) (fun t k => ?_) ?_
    · show Steps p.tables e below (T43.setTop (mkF m 48 #[.val (.int p1), .val (.int p2), .val (.int p3), .val (.int p4), .val (.int p5), .val (.int (4 : Int32)), .val (.ref s1), .val (.ref s2), .val (.ref s3), .val (.ref s4), .val (.ref b5), .unset, .unset, .unset] [(.int (1 : Int32))])) t
      refine XS.pop X43.here hx rfl (hb hby at_48) rfl rfl ?_
      show Steps p.tables e below (T43.setTop (mkF m 49 #[.val (.int p1), .val (.int p2), .val (.int p3), .val (.int p4), .val (.int p5), .val (.int (4 : Int32)), .val (.ref s1), .val (.ref s2), .val (.ref s3), .val (.ref s4), .val (.ref b5), .unset, .unset, .unset] [])) t
      refine XS.iload X43.here hx rfl (hb hby at_49) rfl ?_
      show Steps p.tables e below (T43.setTop (mkF m 51 #[.val (.int p1), .val (.int p2), .val (.int p3), .val (.int p4), .val (.int p5), .val (.int (4 : Int32)), .val (.ref s1), .val (.ref s2), .val (.ref s3), .val (.ref s4), .val (.ref b5), .unset, .unset, .unset] [(.int (4 : Int32))])) t
      refine XS.iconst X43.here hx rfl (hb hby at_51) ?_
      show Steps p.tables e below (T43.setTop (mkF m 52 #[.val (.int p1), .val (.int p2), .val (.int p3), .val (.int p4), .val (.int p5), .val (.int (4 : Int32)), .val (.ref s1), .val (.ref s2), .val (.ref s3), .val (.ref s4), .val (.ref b5), .unset, .unset, .unset] [(.int (1 : Int32)), (.int (4 : Int32))])) t
      refine XS.icmpNo X43.here hx rfl (hb hby at_52) rfl (tlt (by decide : (1 : Int32) < (4 : Int32))).2.2.2 ?_
      show Steps p.tables e below (T43.setTop (mkF m 55 #[.val (.int p1), .val (.int p2), .val (.int p3), .val (.int p4), .val (.int p5), .val (.int (4 : Int32)), .val (.ref s1), .val (.ref s2), .val (.ref s3), .val (.ref s4), .val (.ref b5), .unset, .unset, .unset] [])) t
      refine XS.aload X43.here hx rfl (hb hby at_55) rfl rfl ?_
      show Steps p.tables e below (T43.setTop (mkF m 57 #[.val (.int p1), .val (.int p2), .val (.int p3), .val (.int p4), .val (.int p5), .val (.int (4 : Int32)), .val (.ref s1), .val (.ref s2), .val (.ref s3), .val (.ref s4), .val (.ref b5), .unset, .unset, .unset] [(.ref b5)])) t
      refine XS.aload X43.here hx rfl (hb hby at_57) rfl rfl ?_
      exact k
    have M44 := rm11b l Z a0 hw [] b5 s2 m43 ((0 : Int32) + (1 : Int32)) r43 kA43 (fun x => if x = 0 then (Value.ref s1) else (fun _ => Value.null) x) 1 T43.heap n0 (Nat.le_trans (Nat.le_trans (Nat.le_trans (Nat.le_trans (Nat.le_trans (Nat.le_trans (Nat.le_trans Z0 K1.1) K2.1) K3.1) K4.1) E5.1) K6.1) K43.1) f43_7 G0_43 G1_43 G2_43 g_b5 R43 O43 nr43 lr43 f43_4 (by decide) (by decide) (by decide)
    obtain ⟨cq44, kq44, q44a, q44b, q44c⟩ := isOf hZ rfl f43_7
    obtain ⟨_, _, ⟨T44, L44, k44, n44⟩, -, X44, ⟨Lc44, hQ44, l44, y44, z44⟩, st44⟩ := X43.virtualBack hx (y := (⟨"java/util/ArrayList", "add", "(Ljava/lang/Object;)Z"⟩ : MethodName)) (z := (⟨"java/util/ArrayList", "add", "(Ljava/lang/Object;)Z"⟩ : MethodName)) hown (mvT hZ (hw _ (List.mem_of_getElem? (i := 58) rfl))) (mvT hZ (hw _ (List.mem_of_getElem? (i := 59) rfl))) (notFace_of_selects (args := #[]) (mvT hZ (hw _ (List.mem_of_getElem? (i := 61) rfl)))) (mvT hZ (hw _ (List.mem_of_getElem? (i := 61) rfl))) (mvT hZ (hw _ (List.mem_of_getElem? (i := 60) rfl))) (by decide) (backOf (W := 0) (M44) hZ (hw _ (List.mem_of_getElem? (i := 62) rfl)) (hw _ (List.mem_of_getElem? (i := 36) rfl)) (by decide) (by decide)) q44a q44c (g := (mkF m 59 #[.val (.int p1), .val (.int p2), .val (.int p3), .val (.int p4), .val (.int p5), .val (.int (4 : Int32)), .val (.ref s1), .val (.ref s2), .val (.ref s3), .val (.ref s4), .val (.ref b5), .unset, .unset, .unset] [(.ref s2), (.ref b5)])) rfl (by rw [hml]; rfl) (Steps.refl _) (argsL := [(.ref s2)]) (rest := []) (lenOf pd_rm0_2 rfl) rfl (by show 2 * 0 + _ ≤ _; exact Nat.le_of_eq rfl) (hb hby at_59) (fun _ _ => ⟨rfl, rfl, (by decide : 14 + 0 ≤ _), (by decide : 45 + 0 ≤ _)⟩)
    dsimp only [Pt.U, Pt.locs, Pt.cells, Pt.slots] at X44 l44 y44 z44 st44 hQ44
    subst l44 y44 z44
    obtain ⟨rfl, N44q, K44, -, ⟨m44, G0_44⟩, G1_44, G2_44, R44⟩ := hQ44
    have N44 := Fr.app N43 N44q
    obtain ⟨LL44, X44, N44⟩ := own_abs X44 N44
    refine own_go (fun t k => st44.trans k) ?_
    have f44_0 := f43_3.keep K44
    have f44_1 := f43_4.keep K44
    have f44_2 := f43_5.keep K44
    have f44_3 := f43_6.keep K44
    have f44_4 := f43_7.keep K44
    refine own_go (B := T44.setTop (mkF m 73 #[.val (.int p1), .val (.int p2), .val (.int p3), .val (.int p4), .val (.int p5), .val (.int (4 : Int32)), .val (.ref s1), .val (.ref s2), .val (.ref s3), .val (.ref s4), .val (.ref b5), .unset, .unset, .unset] [(.ref s3), (.ref b5)])) (fun t k => ?_) ?_
    · show Steps p.tables e below (T44.setTop (mkF m 62 #[.val (.int p1), .val (.int p2), .val (.int p3), .val (.int p4), .val (.int p5), .val (.int (4 : Int32)), .val (.ref s1), .val (.ref s2), .val (.ref s3), .val (.ref s4), .val (.ref b5), .unset, .unset, .unset] [(.int (1 : Int32))])) t
      refine XS.pop X44.here hx rfl (hb hby at_62) rfl rfl ?_
      show Steps p.tables e below (T44.setTop (mkF m 63 #[.val (.int p1), .val (.int p2), .val (.int p3), .val (.int p4), .val (.int p5), .val (.int (4 : Int32)), .val (.ref s1), .val (.ref s2), .val (.ref s3), .val (.ref s4), .val (.ref b5), .unset, .unset, .unset] [])) t
      refine XS.iload X44.here hx rfl (hb hby at_63) rfl ?_
      show Steps p.tables e below (T44.setTop (mkF m 65 #[.val (.int p1), .val (.int p2), .val (.int p3), .val (.int p4), .val (.int p5), .val (.int (4 : Int32)), .val (.ref s1), .val (.ref s2), .val (.ref s3), .val (.ref s4), .val (.ref b5), .unset, .unset, .unset] [(.int (4 : Int32))])) t
      refine XS.iconst X44.here hx rfl (hb hby at_65) ?_
      show Steps p.tables e below (T44.setTop (mkF m 66 #[.val (.int p1), .val (.int p2), .val (.int p3), .val (.int p4), .val (.int p5), .val (.int (4 : Int32)), .val (.ref s1), .val (.ref s2), .val (.ref s3), .val (.ref s4), .val (.ref b5), .unset, .unset, .unset] [(.int (2 : Int32)), (.int (4 : Int32))])) t
      refine XS.icmpNo X44.here hx rfl (hb hby at_66) rfl (tlt (by decide : (2 : Int32) < (4 : Int32))).2.2.2 ?_
      show Steps p.tables e below (T44.setTop (mkF m 69 #[.val (.int p1), .val (.int p2), .val (.int p3), .val (.int p4), .val (.int p5), .val (.int (4 : Int32)), .val (.ref s1), .val (.ref s2), .val (.ref s3), .val (.ref s4), .val (.ref b5), .unset, .unset, .unset] [])) t
      refine XS.aload X44.here hx rfl (hb hby at_69) rfl rfl ?_
      show Steps p.tables e below (T44.setTop (mkF m 71 #[.val (.int p1), .val (.int p2), .val (.int p3), .val (.int p4), .val (.int p5), .val (.int (4 : Int32)), .val (.ref s1), .val (.ref s2), .val (.ref s3), .val (.ref s4), .val (.ref b5), .unset, .unset, .unset] [(.ref b5)])) t
      refine XS.aload X44.here hx rfl (hb hby at_71) rfl rfl ?_
      exact k
    have M45 := rm11b l Z a0 hw [] b5 s3 m44 (((0 : Int32) + (1 : Int32)) + (1 : Int32)) r43 kA43 (fun x => if x = 1 then (Value.ref s2) else (fun x => if x = 0 then (Value.ref s1) else (fun _ => Value.null) x) x) 2 T44.heap n0 (Nat.le_trans (Nat.le_trans (Nat.le_trans (Nat.le_trans (Nat.le_trans (Nat.le_trans (Nat.le_trans (Nat.le_trans Z0 K1.1) K2.1) K3.1) K4.1) E5.1) K6.1) K43.1) K44.1) f44_4 G0_44 G1_44 G2_44 g_b5 R44 O43 nr43 lr43 f44_2 (by decide) (by decide) (by decide)
    obtain ⟨cq45, kq45, q45a, q45b, q45c⟩ := isOf hZ rfl f44_4
    obtain ⟨_, _, ⟨T45, L45, k45, n45⟩, -, X45, ⟨Lc45, hQ45, l45, y45, z45⟩, st45⟩ := X44.virtualBack hx (y := (⟨"java/util/ArrayList", "add", "(Ljava/lang/Object;)Z"⟩ : MethodName)) (z := (⟨"java/util/ArrayList", "add", "(Ljava/lang/Object;)Z"⟩ : MethodName)) hown (mvT hZ (hw _ (List.mem_of_getElem? (i := 58) rfl))) (mvT hZ (hw _ (List.mem_of_getElem? (i := 59) rfl))) (notFace_of_selects (args := #[]) (mvT hZ (hw _ (List.mem_of_getElem? (i := 61) rfl)))) (mvT hZ (hw _ (List.mem_of_getElem? (i := 61) rfl))) (mvT hZ (hw _ (List.mem_of_getElem? (i := 60) rfl))) (by decide) (backOf (W := 0) (M45) hZ (hw _ (List.mem_of_getElem? (i := 62) rfl)) (hw _ (List.mem_of_getElem? (i := 36) rfl)) (by decide) (by decide)) q45a q45c (g := (mkF m 73 #[.val (.int p1), .val (.int p2), .val (.int p3), .val (.int p4), .val (.int p5), .val (.int (4 : Int32)), .val (.ref s1), .val (.ref s2), .val (.ref s3), .val (.ref s4), .val (.ref b5), .unset, .unset, .unset] [(.ref s3), (.ref b5)])) rfl (by rw [hml]; rfl) (Steps.refl _) (argsL := [(.ref s3)]) (rest := []) (lenOf pd_rm0_2 rfl) rfl (by show 2 * 0 + _ ≤ _; exact Nat.le_of_eq rfl) (hb hby at_73) (fun _ _ => ⟨rfl, rfl, (by decide : 14 + 0 ≤ _), (by decide : 45 + 0 ≤ _)⟩)
    dsimp only [Pt.U, Pt.locs, Pt.cells, Pt.slots] at X45 l45 y45 z45 st45 hQ45
    subst l45 y45 z45
    obtain ⟨rfl, N45q, K45, -, ⟨m45, G0_45⟩, G1_45, G2_45, R45⟩ := hQ45
    have N45 := Fr.app N44 N45q
    obtain ⟨LL45, X45, N45⟩ := own_abs X45 N45
    refine own_go (fun t k => st45.trans k) ?_
    have f45_0 := f44_0.keep K45
    have f45_1 := f44_1.keep K45
    have f45_2 := f44_2.keep K45
    have f45_3 := f44_3.keep K45
    have f45_4 := f44_4.keep K45
    refine own_go (B := T45.setTop (mkF m 87 #[.val (.int p1), .val (.int p2), .val (.int p3), .val (.int p4), .val (.int p5), .val (.int (4 : Int32)), .val (.ref s1), .val (.ref s2), .val (.ref s3), .val (.ref s4), .val (.ref b5), .unset, .unset, .unset] [(.ref s4), (.ref b5)])) (fun t k => ?_) ?_
    · show Steps p.tables e below (T45.setTop (mkF m 76 #[.val (.int p1), .val (.int p2), .val (.int p3), .val (.int p4), .val (.int p5), .val (.int (4 : Int32)), .val (.ref s1), .val (.ref s2), .val (.ref s3), .val (.ref s4), .val (.ref b5), .unset, .unset, .unset] [(.int (1 : Int32))])) t
      refine XS.pop X45.here hx rfl (hb hby at_76) rfl rfl ?_
      show Steps p.tables e below (T45.setTop (mkF m 77 #[.val (.int p1), .val (.int p2), .val (.int p3), .val (.int p4), .val (.int p5), .val (.int (4 : Int32)), .val (.ref s1), .val (.ref s2), .val (.ref s3), .val (.ref s4), .val (.ref b5), .unset, .unset, .unset] [])) t
      refine XS.iload X45.here hx rfl (hb hby at_77) rfl ?_
      show Steps p.tables e below (T45.setTop (mkF m 79 #[.val (.int p1), .val (.int p2), .val (.int p3), .val (.int p4), .val (.int p5), .val (.int (4 : Int32)), .val (.ref s1), .val (.ref s2), .val (.ref s3), .val (.ref s4), .val (.ref b5), .unset, .unset, .unset] [(.int (4 : Int32))])) t
      refine XS.iconst X45.here hx rfl (hb hby at_79) ?_
      show Steps p.tables e below (T45.setTop (mkF m 80 #[.val (.int p1), .val (.int p2), .val (.int p3), .val (.int p4), .val (.int p5), .val (.int (4 : Int32)), .val (.ref s1), .val (.ref s2), .val (.ref s3), .val (.ref s4), .val (.ref b5), .unset, .unset, .unset] [(.int (3 : Int32)), (.int (4 : Int32))])) t
      refine XS.icmpNo X45.here hx rfl (hb hby at_80) rfl (tlt (by decide : (3 : Int32) < (4 : Int32))).2.2.2 ?_
      show Steps p.tables e below (T45.setTop (mkF m 83 #[.val (.int p1), .val (.int p2), .val (.int p3), .val (.int p4), .val (.int p5), .val (.int (4 : Int32)), .val (.ref s1), .val (.ref s2), .val (.ref s3), .val (.ref s4), .val (.ref b5), .unset, .unset, .unset] [])) t
      refine XS.aload X45.here hx rfl (hb hby at_83) rfl rfl ?_
      show Steps p.tables e below (T45.setTop (mkF m 85 #[.val (.int p1), .val (.int p2), .val (.int p3), .val (.int p4), .val (.int p5), .val (.int (4 : Int32)), .val (.ref s1), .val (.ref s2), .val (.ref s3), .val (.ref s4), .val (.ref b5), .unset, .unset, .unset] [(.ref b5)])) t
      refine XS.aload X45.here hx rfl (hb hby at_85) rfl rfl ?_
      exact k
    have M46 := rm11b l Z a0 hw [] b5 s4 m45 ((((0 : Int32) + (1 : Int32)) + (1 : Int32)) + (1 : Int32)) r43 kA43 (fun x => if x = 2 then (Value.ref s3) else (fun x => if x = 1 then (Value.ref s2) else (fun x => if x = 0 then (Value.ref s1) else (fun _ => Value.null) x) x) x) 3 T45.heap n0 (Nat.le_trans (Nat.le_trans (Nat.le_trans (Nat.le_trans (Nat.le_trans (Nat.le_trans (Nat.le_trans (Nat.le_trans (Nat.le_trans Z0 K1.1) K2.1) K3.1) K4.1) E5.1) K6.1) K43.1) K44.1) K45.1) f45_4 G0_45 G1_45 G2_45 g_b5 R45 O43 nr43 lr43 f45_3 (by decide) (by decide) (by decide)
    obtain ⟨cq46, kq46, q46a, q46b, q46c⟩ := isOf hZ rfl f45_4
    obtain ⟨_, _, ⟨T46, L46, k46, n46⟩, -, X46, ⟨Lc46, hQ46, l46, y46, z46⟩, st46⟩ := X45.virtualBack hx (y := (⟨"java/util/ArrayList", "add", "(Ljava/lang/Object;)Z"⟩ : MethodName)) (z := (⟨"java/util/ArrayList", "add", "(Ljava/lang/Object;)Z"⟩ : MethodName)) hown (mvT hZ (hw _ (List.mem_of_getElem? (i := 58) rfl))) (mvT hZ (hw _ (List.mem_of_getElem? (i := 59) rfl))) (notFace_of_selects (args := #[]) (mvT hZ (hw _ (List.mem_of_getElem? (i := 61) rfl)))) (mvT hZ (hw _ (List.mem_of_getElem? (i := 61) rfl))) (mvT hZ (hw _ (List.mem_of_getElem? (i := 60) rfl))) (by decide) (backOf (W := 0) (M46) hZ (hw _ (List.mem_of_getElem? (i := 62) rfl)) (hw _ (List.mem_of_getElem? (i := 36) rfl)) (by decide) (by decide)) q46a q46c (g := (mkF m 87 #[.val (.int p1), .val (.int p2), .val (.int p3), .val (.int p4), .val (.int p5), .val (.int (4 : Int32)), .val (.ref s1), .val (.ref s2), .val (.ref s3), .val (.ref s4), .val (.ref b5), .unset, .unset, .unset] [(.ref s4), (.ref b5)])) rfl (by rw [hml]; rfl) (Steps.refl _) (argsL := [(.ref s4)]) (rest := []) (lenOf pd_rm0_2 rfl) rfl (by show 2 * 0 + _ ≤ _; exact Nat.le_of_eq rfl) (hb hby at_87) (fun _ _ => ⟨rfl, rfl, (by decide : 14 + 0 ≤ _), (by decide : 45 + 0 ≤ _)⟩)
    dsimp only [Pt.U, Pt.locs, Pt.cells, Pt.slots] at X46 l46 y46 z46 st46 hQ46
    subst l46 y46 z46
    obtain ⟨rfl, N46q, K46, -, ⟨m46, G0_46⟩, G1_46, G2_46, R46⟩ := hQ46
    have N46 := Fr.app N45 N46q
    obtain ⟨LL46, X46, N46⟩ := own_abs X46 N46
    refine own_go (fun t k => st46.trans k) ?_
    have f46_0 := f45_0.keep K46
    have f46_1 := f45_1.keep K46
    have f46_2 := f45_2.keep K46
    have f46_3 := f45_3.keep K46
    have f46_4 := f45_4.keep K46
    refine own_go (B := T46.setTop (mkF m 91 #[.val (.int p1), .val (.int p2), .val (.int p3), .val (.int p4), .val (.int p5), .val (.int (4 : Int32)), .val (.ref s1), .val (.ref s2), .val (.ref s3), .val (.ref s4), .val (.ref b5), .unset, .unset, .unset] [])) (fun t k => ?_) ?_
    · show Steps p.tables e below (T46.setTop (mkF m 90 #[.val (.int p1), .val (.int p2), .val (.int p3), .val (.int p4), .val (.int p5), .val (.int (4 : Int32)), .val (.ref s1), .val (.ref s2), .val (.ref s3), .val (.ref s4), .val (.ref b5), .unset, .unset, .unset] [(.int (1 : Int32))])) t
      refine XS.pop X46.here hx rfl (hb hby at_90) rfl rfl ?_
      exact k
    obtain ⟨T47, h47, X47, e47, E47, A47, D47, -, st47⟩ := newO X46 hx hZ hown (hw _ (List.mem_of_getElem? (i := 89) rfl)) (hw _ (List.mem_of_getElem? (i := 90) rfl)) (hw _ (List.mem_of_getElem? (i := 91) rfl)) rfl (g := (mkF m 91 #[.val (.int p1), .val (.int p2), .val (.int p3), .val (.int p4), .val (.int p5), .val (.int (4 : Int32)), .val (.ref s1), .val (.ref s2), .val (.ref s3), .val (.ref s4), .val (.ref b5), .unset, .unset, .unset] [])) rfl (hb hby at_91) (by decide) (by decide)
    obtain ⟨b47, g47⟩ : ∃ z, z = T46.heap.size := ⟨_, rfl⟩
    rw [← g47] at A47 D47 st47
    refine own_go (fun t k => st47 t k) ?_
    have g_b47 : n0 ≤ b47 := Nat.le_trans (Nat.le_trans (Nat.le_trans (Nat.le_trans (Nat.le_trans (Nat.le_trans (Nat.le_trans (Nat.le_trans (Nat.le_trans (Nat.le_trans (Nat.le_trans Z0 K1.1) K2.1) K3.1) K4.1) E5.1) K6.1) K43.1) K44.1) K45.1) K46.1) (Nat.le_of_eq g47.symm)
    have ne47_s1 : s1 ≠ b47 := Nat.ne_of_lt (Nat.lt_of_lt_of_le f46_0.lt (Nat.le_of_eq g47.symm))
    have ne47_s2 : s2 ≠ b47 := Nat.ne_of_lt (Nat.lt_of_lt_of_le f46_1.lt (Nat.le_of_eq g47.symm))
    have ne47_s3 : s3 ≠ b47 := Nat.ne_of_lt (Nat.lt_of_lt_of_le f46_2.lt (Nat.le_of_eq g47.symm))
    have ne47_s4 : s4 ≠ b47 := Nat.ne_of_lt (Nat.lt_of_lt_of_le f46_3.lt (Nat.le_of_eq g47.symm))
    have ne47_b5 : b5 ≠ b47 := Nat.ne_of_lt (Nat.lt_of_lt_of_le f46_4.lt (Nat.le_of_eq g47.symm))
    have ne47_r43 : r43 ≠ b47 := Nat.ne_of_lt (Nat.lt_of_lt_of_le R46.lt (Nat.le_of_eq g47.symm))
    have f47_0 := f46_0.ext E47
    have f47_1 := f46_1.ext E47
    have f47_2 := f46_2.ext E47
    have f47_3 := f46_3.ext E47
    have f47_4 := f46_4.ext E47
    have f47_5 := G0_46.ext E47
    have f47_6 := G1_46.ext E47
    have f47_7 := G2_46.ext E47
    have f47_8 := R46.ext E47
    have F47_options : Fld Z h47 b47 "com/example/freshet/freshet/Command$Arguments" "options" "Ljava/util/Map;" .null := D47 (Or.inr (hw _ (List.mem_of_getElem? (i := 102) rfl))) (ty := (.object "java/util/Map")) (by decide)
    have F47_flags : Fld Z h47 b47 "com/example/freshet/freshet/Command$Arguments" "flags" "Ljava/util/Set;" .null := D47 (Or.inr (hw _ (List.mem_of_getElem? (i := 104) rfl))) (ty := (.object "java/util/Set")) (by decide)
    have F47_files : Fld Z h47 b47 "com/example/freshet/freshet/Command$Arguments" "files" "Ljava/util/List;" .null := D47 (Or.inr (hw _ (List.mem_of_getElem? (i := 106) rfl))) (ty := (.object "java/util/List")) (by decide)
    refine own_go (B := T47.setTop (mkF m 99 #[.val (.int p1), .val (.int p2), .val (.int p3), .val (.int p4), .val (.int p5), .val (.int (4 : Int32)), .val (.ref s1), .val (.ref s2), .val (.ref s3), .val (.ref s4), .val (.ref b5), .unset, .unset, .unset] [(.ref b5), .null, .null, (.ref b47), (.ref b47)])) (fun t k => ?_) ?_
    · show Steps p.tables e below (T47.setTop (mkF m 94 #[.val (.int p1), .val (.int p2), .val (.int p3), .val (.int p4), .val (.int p5), .val (.int (4 : Int32)), .val (.ref s1), .val (.ref s2), .val (.ref s3), .val (.ref s4), .val (.ref b5), .unset, .unset, .unset] [(.ref b47)])) t
      refine XS.dup X47.here hx rfl (hb hby at_94) rfl rfl ?_
      show Steps p.tables e below (T47.setTop (mkF m 95 #[.val (.int p1), .val (.int p2), .val (.int p3), .val (.int p4), .val (.int p5), .val (.int (4 : Int32)), .val (.ref s1), .val (.ref s2), .val (.ref s3), .val (.ref s4), .val (.ref b5), .unset, .unset, .unset] [(.ref b47), (.ref b47)])) t
      refine XS.aconstNull X47.here hx rfl (hb hby at_95) ?_
      show Steps p.tables e below (T47.setTop (mkF m 96 #[.val (.int p1), .val (.int p2), .val (.int p3), .val (.int p4), .val (.int p5), .val (.int (4 : Int32)), .val (.ref s1), .val (.ref s2), .val (.ref s3), .val (.ref s4), .val (.ref b5), .unset, .unset, .unset] [.null, (.ref b47), (.ref b47)])) t
      refine XS.aconstNull X47.here hx rfl (hb hby at_96) ?_
      show Steps p.tables e below (T47.setTop (mkF m 97 #[.val (.int p1), .val (.int p2), .val (.int p3), .val (.int p4), .val (.int p5), .val (.int (4 : Int32)), .val (.ref s1), .val (.ref s2), .val (.ref s3), .val (.ref s4), .val (.ref b5), .unset, .unset, .unset] [.null, .null, (.ref b47), (.ref b47)])) t
      refine XS.aload X47.here hx rfl (hb hby at_97) rfl rfl ?_
      exact k
    have M48 := rm16 l Z a0 hw [] b47 b5 _ _ _ h47 n0 (Nat.le_trans (Nat.le_trans (Nat.le_trans (Nat.le_trans (Nat.le_trans (Nat.le_trans (Nat.le_trans (Nat.le_trans (Nat.le_trans (Nat.le_trans (Nat.le_trans Z0 K1.1) K2.1) K3.1) K4.1) E5.1) K6.1) K43.1) K44.1) K45.1) K46.1) E47.1) A47 F47_options F47_flags F47_files g_b47
    obtain ⟨_, _, ⟨T48, L48, k48, n48⟩, -, X48, ⟨Lc48, hQ48, l48, y48, z48⟩, st48⟩ := X47.specialBack hx (y := (⟨"com/example/freshet/freshet/Command$Arguments", "<init>", "(Ljava/util/Map;Ljava/util/Set;Ljava/util/List;)V"⟩ : MethodName)) rfl hown (mvT hZ (hw _ (List.mem_of_getElem? (i := 92) rfl))) (mvT hZ (hw _ (List.mem_of_getElem? (i := 93) rfl))) (mvT hZ (hw _ (List.mem_of_getElem? (i := 94) rfl))) (by decide) (backOf (W := 1) (M48) hZ (hw _ (List.mem_of_getElem? (i := 94) rfl)) (hw _ (List.mem_of_getElem? (i := 91) rfl)) (by decide) (by decide)) (g := (mkF m 99 #[.val (.int p1), .val (.int p2), .val (.int p3), .val (.int p4), .val (.int p5), .val (.int (4 : Int32)), .val (.ref s1), .val (.ref s2), .val (.ref s3), .val (.ref s4), .val (.ref b5), .unset, .unset, .unset] [(.ref b5), .null, .null, (.ref b47), (.ref b47)])) rfl (by rw [hml]; rfl) (Steps.refl _) (a := b47) (argsL := [.null, .null, (.ref b5)]) (rest := [(.ref b47)]) (lenOf pd_rm0_3 rfl) rfl (by show 2 * 0 + _ ≤ _; exact Nat.le_of_eq rfl) (hb hby at_99) (fun _ _ => ⟨rfl, e47, (by decide : 15 + 0 ≤ _), (by decide : 48 + 0 ≤ _)⟩)
    dsimp only [Pt.U, Pt.locs, Pt.cells, Pt.slots] at X48 l48 y48 z48 st48 hQ48
    subst l48 y48 z48
    obtain ⟨rfl, N48q, K48, -, G48⟩ := hQ48
    have N48 := Fr.app N46 N48q
    obtain ⟨LL48, X48, N48⟩ := own_abs X48 N48
    refine own_go (fun t k => st48.trans k) ?_
    have f48_0 := f47_0.keep K48
    have f48_1 := f47_1.keep K48
    have f48_2 := f47_2.keep K48
    have f48_3 := f47_3.keep K48
    have f48_4 := f47_4.keep K48
    have f48_5 := f47_5.keep K48 (ninS ne47_b5 nin0)
    have f48_6 := f47_6.keep K48 (ninS ne47_b5 nin0)
    have f48_7 := f47_7.keep K48 (ninS ne47_b5 nin0)
    have f48_8 := f47_8.keep K48 (ninS ne47_r43 nin0)
    have f48_9 := A47.keep K48
    refine own_go (B := T48.setTop (mkF m 106 #[.val (.int p1), .val (.int p2), .val (.int p3), .val (.int p4), .val (.int p5), .val (.int (4 : Int32)), .val (.ref s1), .val (.ref s2), .val (.ref s3), .val (.ref s4), .val (.ref b5), .val (.ref b47), .unset, .unset] [(.ref b47)])) (fun t k => ?_) ?_
    · show Steps p.tables e below (T48.setTop (mkF m 102 #[.val (.int p1), .val (.int p2), .val (.int p3), .val (.int p4), .val (.int p5), .val (.int (4 : Int32)), .val (.ref s1), .val (.ref s2), .val (.ref s3), .val (.ref s4), .val (.ref b5), .unset, .unset, .unset] [(.ref b47)])) t
      refine XS.astore X48.here hx rfl (hb hby at_102) rfl rfl (l' := #[.val (.int p1), .val (.int p2), .val (.int p3), .val (.int p4), .val (.int p5), .val (.int (4 : Int32)), .val (.ref s1), .val (.ref s2), .val (.ref s3), .val (.ref s4), .val (.ref b5), .val (.ref b47), .unset, .unset]) rfl ?_
      show Steps p.tables e below (T48.setTop (mkF m 104 #[.val (.int p1), .val (.int p2), .val (.int p3), .val (.int p4), .val (.int p5), .val (.int (4 : Int32)), .val (.ref s1), .val (.ref s2), .val (.ref s3), .val (.ref s4), .val (.ref b5), .val (.ref b47), .unset, .unset] [])) t
      refine XS.aload X48.here hx rfl (hb hby at_104) rfl rfl ?_
      exact k
    have M49 := rm18 l Z a0 hw [] b47 b5 (((((0 : Int32) + (1 : Int32)) + (1 : Int32)) + (1 : Int32)) + (1 : Int32)) T48.heap n0 (Nat.le_trans (Nat.le_trans (Nat.le_trans (Nat.le_trans (Nat.le_trans (Nat.le_trans (Nat.le_trans (Nat.le_trans (Nat.le_trans (Nat.le_trans (Nat.le_trans (Nat.le_trans Z0 K1.1) K2.1) K3.1) K4.1) E5.1) K6.1) K43.1) K44.1) K45.1) K46.1) E47.1) K48.1) f48_9 G48 f48_4 f48_7 (by decide)
    obtain ⟨cq49, kq49, q49a, q49b, q49c⟩ := isOf hZ rfl f48_9
    obtain ⟨_, _, ⟨T49, L49, k49, n49⟩, -, X49, ⟨Lc49, hQ49, l49, y49, z49⟩, st49⟩ := X48.virtualBack hx (y := (⟨"com/example/freshet/freshet/Command$Arguments", "traceFiles", "()Ljava/util/List;"⟩ : MethodName)) (z := (⟨"com/example/freshet/freshet/Command$Arguments", "traceFiles", "()Ljava/util/List;"⟩ : MethodName)) hown (mvT hZ (hw _ (List.mem_of_getElem? (i := 107) rfl))) (mvT hZ (hw _ (List.mem_of_getElem? (i := 108) rfl))) (notFace_of_selects (args := #[]) (mvT hZ (hw _ (List.mem_of_getElem? (i := 110) rfl)))) (mvT hZ (hw _ (List.mem_of_getElem? (i := 110) rfl))) (mvT hZ (hw _ (List.mem_of_getElem? (i := 109) rfl))) (by decide) (backOf (W := 0) (M49) hZ (hw _ (List.mem_of_getElem? (i := 111) rfl)) (hw _ (List.mem_of_getElem? (i := 91) rfl)) (by decide) (by decide)) q49a q49c (g := (mkF m 106 #[.val (.int p1), .val (.int p2), .val (.int p3), .val (.int p4), .val (.int p5), .val (.int (4 : Int32)), .val (.ref s1), .val (.ref s2), .val (.ref s3), .val (.ref s4), .val (.ref b5), .val (.ref b47), .unset, .unset] [(.ref b47)])) rfl (by rw [hml]; rfl) (Steps.refl _) (argsL := []) (rest := []) (lenOf pd_rm0_4 rfl) rfl (by show 2 * 0 + _ ≤ _; exact Nat.le_of_eq rfl) (hb hby at_106) (fun _ _ => ⟨rfl, rfl, (by decide : 15 + 0 ≤ _), (by decide : 48 + 0 ≤ _)⟩)
    dsimp only [Pt.U, Pt.locs, Pt.cells, Pt.slots] at X49 l49 y49 z49 st49 hQ49
    subst l49 y49 z49
    obtain ⟨rfl, N49q, hh49⟩ := hQ49
    have N49 := Fr.app N48 N49q
    obtain ⟨LL49, X49, N49⟩ := own_abs X49 N49
    refine own_go (fun t k => st49.trans k) ?_
    refine own_go (B := T49.setTop (mkF m 118 #[.val (.int p1), .val (.int p2), .val (.int p3), .val (.int p4), .val (.int p5), .val (.int (4 : Int32)), .val (.ref s1), .val (.ref s2), .val (.ref s3), .val (.ref s4), .val (.ref b5), .val (.ref b47), .val (.ref b5), .unset] [(.ref b5)])) (fun t k => ?_) ?_
    · show Steps p.tables e below (T49.setTop (mkF m 109 #[.val (.int p1), .val (.int p2), .val (.int p3), .val (.int p4), .val (.int p5), .val (.int (4 : Int32)), .val (.ref s1), .val (.ref s2), .val (.ref s3), .val (.ref s4), .val (.ref b5), .val (.ref b47), .unset, .unset] [(.ref b5)])) t
      refine XS.astore X49.here hx rfl (hb hby at_109) rfl rfl (l' := #[.val (.int p1), .val (.int p2), .val (.int p3), .val (.int p4), .val (.int p5), .val (.int (4 : Int32)), .val (.ref s1), .val (.ref s2), .val (.ref s3), .val (.ref s4), .val (.ref b5), .val (.ref b47), .val (.ref b5), .unset]) rfl ?_
      show Steps p.tables e below (T49.setTop (mkF m 111 #[.val (.int p1), .val (.int p2), .val (.int p3), .val (.int p4), .val (.int p5), .val (.int (4 : Int32)), .val (.ref s1), .val (.ref s2), .val (.ref s3), .val (.ref s4), .val (.ref b5), .val (.ref b47), .val (.ref b5), .unset] [])) t
      refine XS.aload X49.here hx rfl (hb hby at_111) rfl rfl ?_
      show Steps p.tables e below (T49.setTop (mkF m 113 #[.val (.int p1), .val (.int p2), .val (.int p3), .val (.int p4), .val (.int p5), .val (.int (4 : Int32)), .val (.ref s1), .val (.ref s2), .val (.ref s3), .val (.ref s4), .val (.ref b5), .val (.ref b47), .val (.ref b5), .unset] [(.ref b5)])) t
      refine XS.ifnullNo X49.here hx rfl (hb hby at_113) rfl ?_
      show Steps p.tables e below (T49.setTop (mkF m 116 #[.val (.int p1), .val (.int p2), .val (.int p3), .val (.int p4), .val (.int p5), .val (.int (4 : Int32)), .val (.ref s1), .val (.ref s2), .val (.ref s3), .val (.ref s4), .val (.ref b5), .val (.ref b47), .val (.ref b5), .unset] [])) t
      refine XS.aload X49.here hx rfl (hb hby at_116) rfl rfl ?_
      exact k
    have M50 := rm20 l Z a0 hw [] b5 (((((0 : Int32) + (1 : Int32)) + (1 : Int32)) + (1 : Int32)) + (1 : Int32)) T48.heap n0 (Nat.le_trans (Nat.le_trans (Nat.le_trans (Nat.le_trans (Nat.le_trans (Nat.le_trans (Nat.le_trans (Nat.le_trans (Nat.le_trans (Nat.le_trans (Nat.le_trans (Nat.le_trans Z0 K1.1) K2.1) K3.1) K4.1) E5.1) K6.1) K43.1) K44.1) K45.1) K46.1) E47.1) K48.1) f48_7
    obtain ⟨cq50, kq50, q50a, q50b, q50c⟩ := isOf hZ hh49 f48_4
    obtain ⟨_, _, ⟨T50, L50, k50, n50⟩, -, X50, ⟨Lc50, hQ50, l50, y50, z50⟩, st50⟩ := X49.interfaceBack hx (xi := (⟨"java/util/List", "size", "()I"⟩ : MethodName)) (y := (⟨"java/util/ArrayList", "size", "()I"⟩ : MethodName)) hown (mvT hZ (hw _ (List.mem_of_getElem? (i := 121) rfl))) (mvT hZ (hw _ (List.mem_of_getElem? (i := 122) rfl))) (mvT hZ (hw _ (List.mem_of_getElem? (i := 123) rfl))) (mvT hZ (hw _ (List.mem_of_getElem? (i := 124) rfl))) (mvT hZ (hw _ (List.mem_of_getElem? (i := 125) rfl))) (mvT hZ (hw _ (List.mem_of_getElem? (i := 126) rfl))) (mvT hZ (hw _ (List.mem_of_getElem? (i := 127) rfl))) (mvT hZ (hw _ (List.mem_of_getElem? (i := 119) rfl))) (by decide) (backOf (W := 0) (M50) hZ (hw _ (List.mem_of_getElem? (i := 128) rfl)) (hw _ (List.mem_of_getElem? (i := 36) rfl)) (by decide) (by decide)) q50a q50b q50c (g := (mkF m 118 #[.val (.int p1), .val (.int p2), .val (.int p3), .val (.int p4), .val (.int p5), .val (.int (4 : Int32)), .val (.ref s1), .val (.ref s2), .val (.ref s3), .val (.ref s4), .val (.ref b5), .val (.ref b47), .val (.ref b5), .unset] [(.ref b5)])) rfl (by rw [hml]; rfl) (Steps.refl _) (argsL := []) (rest := []) (lenOf pd_rm0_5 rfl) rfl (by show 2 * 0 + _ ≤ _; exact Nat.le_of_eq rfl) (hb hby at_118) (fun _ _ => ⟨rfl, hh49, (by decide : 15 + 0 ≤ _), (by decide : 48 + 0 ≤ _)⟩)
    dsimp only [Pt.U, Pt.locs, Pt.cells, Pt.slots] at X50 l50 y50 z50 st50 hQ50
    subst l50 y50 z50
    obtain ⟨rfl, N50q, hh50⟩ := hQ50
    have N50 := Fr.app N49 N50q
    obtain ⟨LL50, X50, N50⟩ := own_abs X50 N50
    refine own_go (fun t k => st50.trans k) ?_
    refine own_go (B := T50.setTop (mkF m 133 #[.val (.int p1), .val (.int p2), .val (.int p3), .val (.int p4), .val (.int p5), .val (.int (4 : Int32)), .val (.ref s1), .val (.ref s2), .val (.ref s3), .val (.ref s4), .val (.ref b5), .val (.ref b47), .val (.ref b5), .unset] [(.int (0 : Int32)), (.ref b5)])) (fun t k => ?_) ?_
    · show Steps p.tables e below (T50.setTop (mkF m 123 #[.val (.int p1), .val (.int p2), .val (.int p3), .val (.int p4), .val (.int p5), .val (.int (4 : Int32)), .val (.ref s1), .val (.ref s2), .val (.ref s3), .val (.ref s4), .val (.ref b5), .val (.ref b47), .val (.ref b5), .unset] [(.int (((((0 : Int32) + (1 : Int32)) + (1 : Int32)) + (1 : Int32)) + (1 : Int32)))])) t
      refine XS.iload X50.here hx rfl (hb hby at_123) rfl ?_
      show Steps p.tables e below (T50.setTop (mkF m 125 #[.val (.int p1), .val (.int p2), .val (.int p3), .val (.int p4), .val (.int p5), .val (.int (4 : Int32)), .val (.ref s1), .val (.ref s2), .val (.ref s3), .val (.ref s4), .val (.ref b5), .val (.ref b47), .val (.ref b5), .unset] [(.int (4 : Int32)), (.int (((((0 : Int32) + (1 : Int32)) + (1 : Int32)) + (1 : Int32)) + (1 : Int32)))])) t
      refine XS.icmpYes X50.here hx rfl (pc0 := 125) (pc' := 130) rfl (hb hby at_125) rfl (teq (by decide : (((((0 : Int32) + (1 : Int32)) + (1 : Int32)) + (1 : Int32)) + (1 : Int32)) = (4 : Int32))).1 (by decide) (by decide) ?_
      show Steps p.tables e below (T50.setTop (mkF m 130 #[.val (.int p1), .val (.int p2), .val (.int p3), .val (.int p4), .val (.int p5), .val (.int (4 : Int32)), .val (.ref s1), .val (.ref s2), .val (.ref s3), .val (.ref s4), .val (.ref b5), .val (.ref b47), .val (.ref b5), .unset] [])) t
      refine XS.aload X50.here hx rfl (hb hby at_130) rfl rfl ?_
      show Steps p.tables e below (T50.setTop (mkF m 132 #[.val (.int p1), .val (.int p2), .val (.int p3), .val (.int p4), .val (.int p5), .val (.int (4 : Int32)), .val (.ref s1), .val (.ref s2), .val (.ref s3), .val (.ref s4), .val (.ref b5), .val (.ref b47), .val (.ref b5), .unset] [(.ref b5)])) t
      refine XS.iconst X50.here hx rfl (hb hby at_132) ?_
      exact k
    have hat51 : (fun x => if x = 3 then (Value.ref s4) else (fun x => if x = 2 then (Value.ref s3) else (fun x => if x = 1 then (Value.ref s2) else (fun x => if x = 0 then (Value.ref s1) else (fun _ => Value.null) x) x) x) x) ((0 : Int32)).toNatClampNeg = Value.ref s1 := by rw [show ((0 : Int32)).toNatClampNeg = 0 from by decide]; rfl
    have M51 := rm21 l Z a0 hw [] b5 (0 : Int32) r43 kA43 (fun x => if x = 3 then (Value.ref s4) else (fun x => if x = 2 then (Value.ref s3) else (fun x => if x = 1 then (Value.ref s2) else (fun x => if x = 0 then (Value.ref s1) else (fun _ => Value.null) x) x) x) x) s1 (((((0 : Int32) + (1 : Int32)) + (1 : Int32)) + (1 : Int32)) + (1 : Int32)) T48.heap n0 (Nat.le_trans (Nat.le_trans (Nat.le_trans (Nat.le_trans (Nat.le_trans (Nat.le_trans (Nat.le_trans (Nat.le_trans (Nat.le_trans (Nat.le_trans (Nat.le_trans (Nat.le_trans Z0 K1.1) K2.1) K3.1) K4.1) E5.1) K6.1) K43.1) K44.1) K45.1) K46.1) E47.1) K48.1) f48_6 f48_8 (by decide) (by decide) hat51 f48_7 (by decide) f48_4
    obtain ⟨cq51, kq51, q51a, q51b, q51c⟩ := isOf hZ hh50 f48_4
    obtain ⟨_, _, ⟨T51, L51, k51, n51⟩, -, X51, ⟨Lc51, hQ51, l51, y51, z51⟩, st51⟩ := X50.interfaceBack hx (xi := (⟨"java/util/List", "get", "(I)Ljava/lang/Object;"⟩ : MethodName)) (y := (⟨"java/util/ArrayList", "get", "(I)Ljava/lang/Object;"⟩ : MethodName)) hown (mvT hZ (hw _ (List.mem_of_getElem? (i := 129) rfl))) (mvT hZ (hw _ (List.mem_of_getElem? (i := 130) rfl))) (mvT hZ (hw _ (List.mem_of_getElem? (i := 131) rfl))) (mvT hZ (hw _ (List.mem_of_getElem? (i := 132) rfl))) (mvT hZ (hw _ (List.mem_of_getElem? (i := 133) rfl))) (mvT hZ (hw _ (List.mem_of_getElem? (i := 134) rfl))) (mvT hZ (hw _ (List.mem_of_getElem? (i := 135) rfl))) (mvT hZ (hw _ (List.mem_of_getElem? (i := 119) rfl))) (by decide) (backOf (W := 0) (M51) hZ (hw _ (List.mem_of_getElem? (i := 136) rfl)) (hw _ (List.mem_of_getElem? (i := 36) rfl)) (by decide) (by decide)) q51a q51b q51c (g := (mkF m 133 #[.val (.int p1), .val (.int p2), .val (.int p3), .val (.int p4), .val (.int p5), .val (.int (4 : Int32)), .val (.ref s1), .val (.ref s2), .val (.ref s3), .val (.ref s4), .val (.ref b5), .val (.ref b47), .val (.ref b5), .unset] [(.int (0 : Int32)), (.ref b5)])) rfl (by rw [hml]; rfl) (Steps.refl _) (argsL := [(.int (0 : Int32))]) (rest := []) (lenOf pd_rm0_6 rfl) rfl (by show 2 * 0 + _ ≤ _; exact Nat.le_of_eq rfl) (hb hby at_133) (fun _ _ => ⟨rfl, hh50, (by decide : 15 + 0 ≤ _), (by decide : 48 + 0 ≤ _)⟩)
    dsimp only [Pt.U, Pt.locs, Pt.cells, Pt.slots] at X51 l51 y51 z51 st51 hQ51
    subst l51 y51 z51
    obtain ⟨rfl, N51q, hh51⟩ := hQ51
    have N51 := Fr.app N50 N51q
    obtain ⟨LL51, X51, N51⟩ := own_abs X51 N51
    refine own_go (fun t k => st51.trans k) ?_
    obtain ⟨T52, X52, e52, st52⟩ := castY X51 hx hZ hown (hw _ (List.mem_of_getElem? (i := 5) rfl)) hh51 (Ins.self f48_0) (g := (mkF m 138 #[.val (.int p1), .val (.int p2), .val (.int p3), .val (.int p4), .val (.int p5), .val (.int (4 : Int32)), .val (.ref s1), .val (.ref s2), .val (.ref s3), .val (.ref s4), .val (.ref b5), .val (.ref b47), .val (.ref b5), .unset] [(.ref s1)])) rfl rfl (hb hby at_138)
    refine own_go (fun t k => st52 t k) ?_
    refine own_go (B := T52.setTop (mkF m 143 #[.val (.int p1), .val (.int p2), .val (.int p3), .val (.int p4), .val (.int p5), .val (.int (4 : Int32)), .val (.ref s1), .val (.ref s2), .val (.ref s3), .val (.ref s4), .val (.ref b5), .val (.ref b47), .val (.ref b5), .unset] [(.ref s1), (.ref s1)])) (fun t k => ?_) ?_
    · show Steps p.tables e below (T52.setTop (mkF m 141 #[.val (.int p1), .val (.int p2), .val (.int p3), .val (.int p4), .val (.int p5), .val (.int (4 : Int32)), .val (.ref s1), .val (.ref s2), .val (.ref s3), .val (.ref s4), .val (.ref b5), .val (.ref b47), .val (.ref b5), .unset] [(.ref s1)])) t
      refine XS.aload X52.here hx rfl (hb hby at_141) rfl rfl ?_
      exact k
    have M53 := rm25 l Z a0 hw [] s1 T48.heap n0 (Nat.le_trans (Nat.le_trans (Nat.le_trans (Nat.le_trans (Nat.le_trans (Nat.le_trans (Nat.le_trans (Nat.le_trans (Nat.le_trans (Nat.le_trans (Nat.le_trans (Nat.le_trans Z0 K1.1) K2.1) K3.1) K4.1) E5.1) K6.1) K43.1) K44.1) K45.1) K46.1) E47.1) K48.1)
    obtain ⟨cq53, kq53, q53a, q53b, q53c⟩ := isOf hZ e52 f48_0
    obtain ⟨_, _, ⟨T53, L53, k53, n53⟩, -, X53, ⟨Lc53, hQ53, l53, y53, z53⟩, st53⟩ := X52.virtualBack hx (y := (⟨"java/lang/String", "equals", "(Ljava/lang/Object;)Z"⟩ : MethodName)) (z := (⟨"java/lang/String", "equals", "(Ljava/lang/Object;)Z"⟩ : MethodName)) hown (mvT hZ (hw _ (List.mem_of_getElem? (i := 150) rfl))) (mvT hZ (hw _ (List.mem_of_getElem? (i := 151) rfl))) (notFace_of_selects (args := #[]) (mvT hZ (hw _ (List.mem_of_getElem? (i := 153) rfl)))) (mvT hZ (hw _ (List.mem_of_getElem? (i := 153) rfl))) (mvT hZ (hw _ (List.mem_of_getElem? (i := 152) rfl))) (by decide) (backOf (W := 0) (M53) hZ (hw _ (List.mem_of_getElem? (i := 154) rfl)) (hw _ (List.mem_of_getElem? (i := 7) rfl)) (by decide) (by decide)) q53a q53c (g := (mkF m 143 #[.val (.int p1), .val (.int p2), .val (.int p3), .val (.int p4), .val (.int p5), .val (.int (4 : Int32)), .val (.ref s1), .val (.ref s2), .val (.ref s3), .val (.ref s4), .val (.ref b5), .val (.ref b47), .val (.ref b5), .unset] [(.ref s1), (.ref s1)])) rfl (by rw [hml]; rfl) (Steps.refl _) (argsL := [(.ref s1)]) (rest := []) (lenOf pd_rm0_2 rfl) rfl (by show 2 * 0 + _ ≤ _; exact Nat.le_of_eq rfl) (hb hby at_143) (fun _ _ => ⟨rfl, e52, (by decide : 15 + 0 ≤ _), (by decide : 48 + 0 ≤ _)⟩)
    dsimp only [Pt.U, Pt.locs, Pt.cells, Pt.slots] at X53 l53 y53 z53 st53 hQ53
    subst l53 y53 z53
    obtain ⟨rfl, N53q, hh53⟩ := hQ53
    have N53 := Fr.app N51 N53q
    obtain ⟨LL53, X53, N53⟩ := own_abs X53 N53
    refine own_go (fun t k => st53.trans k) ?_
    refine own_go (B := T53.setTop (mkF m 162 #[.val (.int p1), .val (.int p2), .val (.int p3), .val (.int p4), .val (.int p5), .val (.int (4 : Int32)), .val (.ref s1), .val (.ref s2), .val (.ref s3), .val (.ref s4), .val (.ref b5), .val (.ref b47), .val (.ref b5), .val (.int (1 : Int32))] [(.int (1 : Int32)), (.ref b5)])) (fun t k => ?_) ?_
    · show Steps p.tables e below (T53.setTop (mkF m 146 #[.val (.int p1), .val (.int p2), .val (.int p3), .val (.int p4), .val (.int p5), .val (.int (4 : Int32)), .val (.ref s1), .val (.ref s2), .val (.ref s3), .val (.ref s4), .val (.ref b5), .val (.ref b47), .val (.ref b5), .unset] [(.int (1 : Int32))])) t
      refine XS.istore X53.here hx rfl (hb hby at_146) rfl (l' := #[.val (.int p1), .val (.int p2), .val (.int p3), .val (.int p4), .val (.int p5), .val (.int (4 : Int32)), .val (.ref s1), .val (.ref s2), .val (.ref s3), .val (.ref s4), .val (.ref b5), .val (.ref b47), .val (.ref b5), .val (.int (1 : Int32))]) rfl ?_
      show Steps p.tables e below (T53.setTop (mkF m 148 #[.val (.int p1), .val (.int p2), .val (.int p3), .val (.int p4), .val (.int p5), .val (.int (4 : Int32)), .val (.ref s1), .val (.ref s2), .val (.ref s3), .val (.ref s4), .val (.ref b5), .val (.ref b47), .val (.ref b5), .val (.int (1 : Int32))] [])) t
      refine XS.iload X53.here hx rfl (hb hby at_148) rfl ?_
      show Steps p.tables e below (T53.setTop (mkF m 150 #[.val (.int p1), .val (.int p2), .val (.int p3), .val (.int p4), .val (.int p5), .val (.int (4 : Int32)), .val (.ref s1), .val (.ref s2), .val (.ref s3), .val (.ref s4), .val (.ref b5), .val (.ref b47), .val (.ref b5), .val (.int (1 : Int32))] [(.int (4 : Int32))])) t
      refine XS.iconst X53.here hx rfl (hb hby at_150) ?_
      show Steps p.tables e below (T53.setTop (mkF m 151 #[.val (.int p1), .val (.int p2), .val (.int p3), .val (.int p4), .val (.int p5), .val (.int (4 : Int32)), .val (.ref s1), .val (.ref s2), .val (.ref s3), .val (.ref s4), .val (.ref b5), .val (.ref b47), .val (.ref b5), .val (.int (1 : Int32))] [(.int (1 : Int32)), (.int (4 : Int32))])) t
      refine XS.icmpNo X53.here hx rfl (hb hby at_151) rfl (tlt (by decide : (1 : Int32) < (4 : Int32))).2.2.2 ?_
      show Steps p.tables e below (T53.setTop (mkF m 154 #[.val (.int p1), .val (.int p2), .val (.int p3), .val (.int p4), .val (.int p5), .val (.int (4 : Int32)), .val (.ref s1), .val (.ref s2), .val (.ref s3), .val (.ref s4), .val (.ref b5), .val (.ref b47), .val (.ref b5), .val (.int (1 : Int32))] [])) t
      refine XS.iload X53.here hx rfl (hb hby at_154) rfl ?_
      show Steps p.tables e below (T53.setTop (mkF m 156 #[.val (.int p1), .val (.int p2), .val (.int p3), .val (.int p4), .val (.int p5), .val (.int (4 : Int32)), .val (.ref s1), .val (.ref s2), .val (.ref s3), .val (.ref s4), .val (.ref b5), .val (.ref b47), .val (.ref b5), .val (.int (1 : Int32))] [(.int (1 : Int32))])) t
      refine XS.ifNo X53.here hx rfl (hb hby at_156) rfl ((if0 _ _).trans (feq (by decide : ¬ ((1 : Int32) = (0 : Int32)))).1) ?_
      show Steps p.tables e below (T53.setTop (mkF m 159 #[.val (.int p1), .val (.int p2), .val (.int p3), .val (.int p4), .val (.int p5), .val (.int (4 : Int32)), .val (.ref s1), .val (.ref s2), .val (.ref s3), .val (.ref s4), .val (.ref b5), .val (.ref b47), .val (.ref b5), .val (.int (1 : Int32))] [])) t
      refine XS.aload X53.here hx rfl (hb hby at_159) rfl rfl ?_
      show Steps p.tables e below (T53.setTop (mkF m 161 #[.val (.int p1), .val (.int p2), .val (.int p3), .val (.int p4), .val (.int p5), .val (.int (4 : Int32)), .val (.ref s1), .val (.ref s2), .val (.ref s3), .val (.ref s4), .val (.ref b5), .val (.ref b47), .val (.ref b5), .val (.int (1 : Int32))] [(.ref b5)])) t
      refine XS.iconst X53.here hx rfl (hb hby at_161) ?_
      exact k
    have hat54 : (fun x => if x = 3 then (Value.ref s4) else (fun x => if x = 2 then (Value.ref s3) else (fun x => if x = 1 then (Value.ref s2) else (fun x => if x = 0 then (Value.ref s1) else (fun _ => Value.null) x) x) x) x) ((1 : Int32)).toNatClampNeg = Value.ref s2 := by rw [show ((1 : Int32)).toNatClampNeg = 1 from by decide]; rfl
    have M54 := rm21 l Z a0 hw [] b5 (1 : Int32) r43 kA43 (fun x => if x = 3 then (Value.ref s4) else (fun x => if x = 2 then (Value.ref s3) else (fun x => if x = 1 then (Value.ref s2) else (fun x => if x = 0 then (Value.ref s1) else (fun _ => Value.null) x) x) x) x) s2 (((((0 : Int32) + (1 : Int32)) + (1 : Int32)) + (1 : Int32)) + (1 : Int32)) T48.heap n0 (Nat.le_trans (Nat.le_trans (Nat.le_trans (Nat.le_trans (Nat.le_trans (Nat.le_trans (Nat.le_trans (Nat.le_trans (Nat.le_trans (Nat.le_trans (Nat.le_trans (Nat.le_trans Z0 K1.1) K2.1) K3.1) K4.1) E5.1) K6.1) K43.1) K44.1) K45.1) K46.1) E47.1) K48.1) f48_6 f48_8 (by decide) (by decide) hat54 f48_7 (by decide) f48_4
    obtain ⟨cq54, kq54, q54a, q54b, q54c⟩ := isOf hZ hh53 f48_4
    obtain ⟨_, _, ⟨T54, L54, k54, n54⟩, -, X54, ⟨Lc54, hQ54, l54, y54, z54⟩, st54⟩ := X53.interfaceBack hx (xi := (⟨"java/util/List", "get", "(I)Ljava/lang/Object;"⟩ : MethodName)) (y := (⟨"java/util/ArrayList", "get", "(I)Ljava/lang/Object;"⟩ : MethodName)) hown (mvT hZ (hw _ (List.mem_of_getElem? (i := 129) rfl))) (mvT hZ (hw _ (List.mem_of_getElem? (i := 130) rfl))) (mvT hZ (hw _ (List.mem_of_getElem? (i := 131) rfl))) (mvT hZ (hw _ (List.mem_of_getElem? (i := 132) rfl))) (mvT hZ (hw _ (List.mem_of_getElem? (i := 133) rfl))) (mvT hZ (hw _ (List.mem_of_getElem? (i := 134) rfl))) (mvT hZ (hw _ (List.mem_of_getElem? (i := 135) rfl))) (mvT hZ (hw _ (List.mem_of_getElem? (i := 119) rfl))) (by decide) (backOf (W := 0) (M54) hZ (hw _ (List.mem_of_getElem? (i := 136) rfl)) (hw _ (List.mem_of_getElem? (i := 36) rfl)) (by decide) (by decide)) q54a q54b q54c (g := (mkF m 162 #[.val (.int p1), .val (.int p2), .val (.int p3), .val (.int p4), .val (.int p5), .val (.int (4 : Int32)), .val (.ref s1), .val (.ref s2), .val (.ref s3), .val (.ref s4), .val (.ref b5), .val (.ref b47), .val (.ref b5), .val (.int (1 : Int32))] [(.int (1 : Int32)), (.ref b5)])) rfl (by rw [hml]; rfl) (Steps.refl _) (argsL := [(.int (1 : Int32))]) (rest := []) (lenOf pd_rm0_6 rfl) rfl (by show 2 * 0 + _ ≤ _; exact Nat.le_of_eq rfl) (hb hby at_162) (fun _ _ => ⟨rfl, hh53, (by decide : 15 + 0 ≤ _), (by decide : 48 + 0 ≤ _)⟩)
    dsimp only [Pt.U, Pt.locs, Pt.cells, Pt.slots] at X54 l54 y54 z54 st54 hQ54
    subst l54 y54 z54
    obtain ⟨rfl, N54q, hh54⟩ := hQ54
    have N54 := Fr.app N53 N54q
    obtain ⟨LL54, X54, N54⟩ := own_abs X54 N54
    refine own_go (fun t k => st54.trans k) ?_
    obtain ⟨T55, X55, e55, st55⟩ := castY X54 hx hZ hown (hw _ (List.mem_of_getElem? (i := 5) rfl)) hh54 (Ins.self f48_1) (g := (mkF m 167 #[.val (.int p1), .val (.int p2), .val (.int p3), .val (.int p4), .val (.int p5), .val (.int (4 : Int32)), .val (.ref s1), .val (.ref s2), .val (.ref s3), .val (.ref s4), .val (.ref b5), .val (.ref b47), .val (.ref b5), .val (.int (1 : Int32))] [(.ref s2)])) rfl rfl (hb hby at_167)
    refine own_go (fun t k => st55 t k) ?_
    refine own_go (B := T55.setTop (mkF m 172 #[.val (.int p1), .val (.int p2), .val (.int p3), .val (.int p4), .val (.int p5), .val (.int (4 : Int32)), .val (.ref s1), .val (.ref s2), .val (.ref s3), .val (.ref s4), .val (.ref b5), .val (.ref b47), .val (.ref b5), .val (.int (1 : Int32))] [(.ref s2), (.ref s2)])) (fun t k => ?_) ?_
    · show Steps p.tables e below (T55.setTop (mkF m 170 #[.val (.int p1), .val (.int p2), .val (.int p3), .val (.int p4), .val (.int p5), .val (.int (4 : Int32)), .val (.ref s1), .val (.ref s2), .val (.ref s3), .val (.ref s4), .val (.ref b5), .val (.ref b47), .val (.ref b5), .val (.int (1 : Int32))] [(.ref s2)])) t
      refine XS.aload X55.here hx rfl (hb hby at_170) rfl rfl ?_
      exact k
    have M56 := rm25 l Z a0 hw [] s2 T48.heap n0 (Nat.le_trans (Nat.le_trans (Nat.le_trans (Nat.le_trans (Nat.le_trans (Nat.le_trans (Nat.le_trans (Nat.le_trans (Nat.le_trans (Nat.le_trans (Nat.le_trans (Nat.le_trans Z0 K1.1) K2.1) K3.1) K4.1) E5.1) K6.1) K43.1) K44.1) K45.1) K46.1) E47.1) K48.1)
    obtain ⟨cq56, kq56, q56a, q56b, q56c⟩ := isOf hZ e55 f48_1
    obtain ⟨_, _, ⟨T56, L56, k56, n56⟩, -, X56, ⟨Lc56, hQ56, l56, y56, z56⟩, st56⟩ := X55.virtualBack hx (y := (⟨"java/lang/String", "equals", "(Ljava/lang/Object;)Z"⟩ : MethodName)) (z := (⟨"java/lang/String", "equals", "(Ljava/lang/Object;)Z"⟩ : MethodName)) hown (mvT hZ (hw _ (List.mem_of_getElem? (i := 150) rfl))) (mvT hZ (hw _ (List.mem_of_getElem? (i := 151) rfl))) (notFace_of_selects (args := #[]) (mvT hZ (hw _ (List.mem_of_getElem? (i := 153) rfl)))) (mvT hZ (hw _ (List.mem_of_getElem? (i := 153) rfl))) (mvT hZ (hw _ (List.mem_of_getElem? (i := 152) rfl))) (by decide) (backOf (W := 0) (M56) hZ (hw _ (List.mem_of_getElem? (i := 154) rfl)) (hw _ (List.mem_of_getElem? (i := 7) rfl)) (by decide) (by decide)) q56a q56c (g := (mkF m 172 #[.val (.int p1), .val (.int p2), .val (.int p3), .val (.int p4), .val (.int p5), .val (.int (4 : Int32)), .val (.ref s1), .val (.ref s2), .val (.ref s3), .val (.ref s4), .val (.ref b5), .val (.ref b47), .val (.ref b5), .val (.int (1 : Int32))] [(.ref s2), (.ref s2)])) rfl (by rw [hml]; rfl) (Steps.refl _) (argsL := [(.ref s2)]) (rest := []) (lenOf pd_rm0_2 rfl) rfl (by show 2 * 0 + _ ≤ _; exact Nat.le_of_eq rfl) (hb hby at_172) (fun _ _ => ⟨rfl, e55, (by decide : 15 + 0 ≤ _), (by decide : 48 + 0 ≤ _)⟩)
    dsimp only [Pt.U, Pt.locs, Pt.cells, Pt.slots] at X56 l56 y56 z56 st56 hQ56
    subst l56 y56 z56
    obtain ⟨rfl, N56q, hh56⟩ := hQ56
    have N56 := Fr.app N54 N56q
    obtain ⟨LL56, X56, N56⟩ := own_abs X56 N56
    refine own_go (fun t k => st56.trans k) ?_
    refine own_go (B := T56.setTop (mkF m 199 #[.val (.int p1), .val (.int p2), .val (.int p3), .val (.int p4), .val (.int p5), .val (.int (4 : Int32)), .val (.ref s1), .val (.ref s2), .val (.ref s3), .val (.ref s4), .val (.ref b5), .val (.ref b47), .val (.ref b5), .val (.int (1 : Int32))] [(.int (2 : Int32)), (.ref b5)])) (fun t k => ?_) ?_
    · show Steps p.tables e below (T56.setTop (mkF m 175 #[.val (.int p1), .val (.int p2), .val (.int p3), .val (.int p4), .val (.int p5), .val (.int (4 : Int32)), .val (.ref s1), .val (.ref s2), .val (.ref s3), .val (.ref s4), .val (.ref b5), .val (.ref b47), .val (.ref b5), .val (.int (1 : Int32))] [(.int (1 : Int32))])) t
      refine XS.ifNo X56.here hx rfl (hb hby at_175) rfl ((if0 _ _).trans (feq (by decide : ¬ ((1 : Int32) = (0 : Int32)))).1) ?_
      show Steps p.tables e below (T56.setTop (mkF m 178 #[.val (.int p1), .val (.int p2), .val (.int p3), .val (.int p4), .val (.int p5), .val (.int (4 : Int32)), .val (.ref s1), .val (.ref s2), .val (.ref s3), .val (.ref s4), .val (.ref b5), .val (.ref b47), .val (.ref b5), .val (.int (1 : Int32))] [])) t
      refine XS.iconst X56.here hx rfl (hb hby at_178) ?_
      show Steps p.tables e below (T56.setTop (mkF m 179 #[.val (.int p1), .val (.int p2), .val (.int p3), .val (.int p4), .val (.int p5), .val (.int (4 : Int32)), .val (.ref s1), .val (.ref s2), .val (.ref s3), .val (.ref s4), .val (.ref b5), .val (.ref b47), .val (.ref b5), .val (.int (1 : Int32))] [(.int (1 : Int32))])) t
      refine XS.goto X56.here hx rfl (pc0 := 179) (pc' := 183) rfl (hb hby at_179) (by decide) (by decide) ?_
      show Steps p.tables e below (T56.setTop (mkF m 183 #[.val (.int p1), .val (.int p2), .val (.int p3), .val (.int p4), .val (.int p5), .val (.int (4 : Int32)), .val (.ref s1), .val (.ref s2), .val (.ref s3), .val (.ref s4), .val (.ref b5), .val (.ref b47), .val (.ref b5), .val (.int (1 : Int32))] [(.int (1 : Int32))])) t
      refine XS.istore X56.here hx rfl (hb hby at_183) rfl (l' := #[.val (.int p1), .val (.int p2), .val (.int p3), .val (.int p4), .val (.int p5), .val (.int (4 : Int32)), .val (.ref s1), .val (.ref s2), .val (.ref s3), .val (.ref s4), .val (.ref b5), .val (.ref b47), .val (.ref b5), .val (.int (1 : Int32))]) rfl ?_
      show Steps p.tables e below (T56.setTop (mkF m 185 #[.val (.int p1), .val (.int p2), .val (.int p3), .val (.int p4), .val (.int p5), .val (.int (4 : Int32)), .val (.ref s1), .val (.ref s2), .val (.ref s3), .val (.ref s4), .val (.ref b5), .val (.ref b47), .val (.ref b5), .val (.int (1 : Int32))] [])) t
      refine XS.iload X56.here hx rfl (hb hby at_185) rfl ?_
      show Steps p.tables e below (T56.setTop (mkF m 187 #[.val (.int p1), .val (.int p2), .val (.int p3), .val (.int p4), .val (.int p5), .val (.int (4 : Int32)), .val (.ref s1), .val (.ref s2), .val (.ref s3), .val (.ref s4), .val (.ref b5), .val (.ref b47), .val (.ref b5), .val (.int (1 : Int32))] [(.int (4 : Int32))])) t
      refine XS.iconst X56.here hx rfl (hb hby at_187) ?_
      show Steps p.tables e below (T56.setTop (mkF m 188 #[.val (.int p1), .val (.int p2), .val (.int p3), .val (.int p4), .val (.int p5), .val (.int (4 : Int32)), .val (.ref s1), .val (.ref s2), .val (.ref s3), .val (.ref s4), .val (.ref b5), .val (.ref b47), .val (.ref b5), .val (.int (1 : Int32))] [(.int (2 : Int32)), (.int (4 : Int32))])) t
      refine XS.icmpNo X56.here hx rfl (hb hby at_188) rfl (tlt (by decide : (2 : Int32) < (4 : Int32))).2.2.2 ?_
      show Steps p.tables e below (T56.setTop (mkF m 191 #[.val (.int p1), .val (.int p2), .val (.int p3), .val (.int p4), .val (.int p5), .val (.int (4 : Int32)), .val (.ref s1), .val (.ref s2), .val (.ref s3), .val (.ref s4), .val (.ref b5), .val (.ref b47), .val (.ref b5), .val (.int (1 : Int32))] [])) t
      refine XS.iload X56.here hx rfl (hb hby at_191) rfl ?_
      show Steps p.tables e below (T56.setTop (mkF m 193 #[.val (.int p1), .val (.int p2), .val (.int p3), .val (.int p4), .val (.int p5), .val (.int (4 : Int32)), .val (.ref s1), .val (.ref s2), .val (.ref s3), .val (.ref s4), .val (.ref b5), .val (.ref b47), .val (.ref b5), .val (.int (1 : Int32))] [(.int (1 : Int32))])) t
      refine XS.ifNo X56.here hx rfl (hb hby at_193) rfl ((if0 _ _).trans (feq (by decide : ¬ ((1 : Int32) = (0 : Int32)))).1) ?_
      show Steps p.tables e below (T56.setTop (mkF m 196 #[.val (.int p1), .val (.int p2), .val (.int p3), .val (.int p4), .val (.int p5), .val (.int (4 : Int32)), .val (.ref s1), .val (.ref s2), .val (.ref s3), .val (.ref s4), .val (.ref b5), .val (.ref b47), .val (.ref b5), .val (.int (1 : Int32))] [])) t
      refine XS.aload X56.here hx rfl (hb hby at_196) rfl rfl ?_
      show Steps p.tables e below (T56.setTop (mkF m 198 #[.val (.int p1), .val (.int p2), .val (.int p3), .val (.int p4), .val (.int p5), .val (.int (4 : Int32)), .val (.ref s1), .val (.ref s2), .val (.ref s3), .val (.ref s4), .val (.ref b5), .val (.ref b47), .val (.ref b5), .val (.int (1 : Int32))] [(.ref b5)])) t
      refine XS.iconst X56.here hx rfl (hb hby at_198) ?_
      exact k
    have hat57 : (fun x => if x = 3 then (Value.ref s4) else (fun x => if x = 2 then (Value.ref s3) else (fun x => if x = 1 then (Value.ref s2) else (fun x => if x = 0 then (Value.ref s1) else (fun _ => Value.null) x) x) x) x) ((2 : Int32)).toNatClampNeg = Value.ref s3 := by rw [show ((2 : Int32)).toNatClampNeg = 2 from by decide]; rfl
    have M57 := rm21 l Z a0 hw [] b5 (2 : Int32) r43 kA43 (fun x => if x = 3 then (Value.ref s4) else (fun x => if x = 2 then (Value.ref s3) else (fun x => if x = 1 then (Value.ref s2) else (fun x => if x = 0 then (Value.ref s1) else (fun _ => Value.null) x) x) x) x) s3 (((((0 : Int32) + (1 : Int32)) + (1 : Int32)) + (1 : Int32)) + (1 : Int32)) T48.heap n0 (Nat.le_trans (Nat.le_trans (Nat.le_trans (Nat.le_trans (Nat.le_trans (Nat.le_trans (Nat.le_trans (Nat.le_trans (Nat.le_trans (Nat.le_trans (Nat.le_trans (Nat.le_trans Z0 K1.1) K2.1) K3.1) K4.1) E5.1) K6.1) K43.1) K44.1) K45.1) K46.1) E47.1) K48.1) f48_6 f48_8 (by decide) (by decide) hat57 f48_7 (by decide) f48_4
    obtain ⟨cq57, kq57, q57a, q57b, q57c⟩ := isOf hZ hh56 f48_4
    obtain ⟨_, _, ⟨T57, L57, k57, n57⟩, -, X57, ⟨Lc57, hQ57, l57, y57, z57⟩, st57⟩ := X56.interfaceBack hx (xi := (⟨"java/util/List", "get", "(I)Ljava/lang/Object;"⟩ : MethodName)) (y := (⟨"java/util/ArrayList", "get", "(I)Ljava/lang/Object;"⟩ : MethodName)) hown (mvT hZ (hw _ (List.mem_of_getElem? (i := 129) rfl))) (mvT hZ (hw _ (List.mem_of_getElem? (i := 130) rfl))) (mvT hZ (hw _ (List.mem_of_getElem? (i := 131) rfl))) (mvT hZ (hw _ (List.mem_of_getElem? (i := 132) rfl))) (mvT hZ (hw _ (List.mem_of_getElem? (i := 133) rfl))) (mvT hZ (hw _ (List.mem_of_getElem? (i := 134) rfl))) (mvT hZ (hw _ (List.mem_of_getElem? (i := 135) rfl))) (mvT hZ (hw _ (List.mem_of_getElem? (i := 119) rfl))) (by decide) (backOf (W := 0) (M57) hZ (hw _ (List.mem_of_getElem? (i := 136) rfl)) (hw _ (List.mem_of_getElem? (i := 36) rfl)) (by decide) (by decide)) q57a q57b q57c (g := (mkF m 199 #[.val (.int p1), .val (.int p2), .val (.int p3), .val (.int p4), .val (.int p5), .val (.int (4 : Int32)), .val (.ref s1), .val (.ref s2), .val (.ref s3), .val (.ref s4), .val (.ref b5), .val (.ref b47), .val (.ref b5), .val (.int (1 : Int32))] [(.int (2 : Int32)), (.ref b5)])) rfl (by rw [hml]; rfl) (Steps.refl _) (argsL := [(.int (2 : Int32))]) (rest := []) (lenOf pd_rm0_6 rfl) rfl (by show 2 * 0 + _ ≤ _; exact Nat.le_of_eq rfl) (hb hby at_199) (fun _ _ => ⟨rfl, hh56, (by decide : 15 + 0 ≤ _), (by decide : 48 + 0 ≤ _)⟩)
    dsimp only [Pt.U, Pt.locs, Pt.cells, Pt.slots] at X57 l57 y57 z57 st57 hQ57
    subst l57 y57 z57
    obtain ⟨rfl, N57q, hh57⟩ := hQ57
    have N57 := Fr.app N56 N57q
    obtain ⟨LL57, X57, N57⟩ := own_abs X57 N57
    refine own_go (fun t k => st57.trans k) ?_
    obtain ⟨T58, X58, e58, st58⟩ := castY X57 hx hZ hown (hw _ (List.mem_of_getElem? (i := 5) rfl)) hh57 (Ins.self f48_2) (g := (mkF m 204 #[.val (.int p1), .val (.int p2), .val (.int p3), .val (.int p4), .val (.int p5), .val (.int (4 : Int32)), .val (.ref s1), .val (.ref s2), .val (.ref s3), .val (.ref s4), .val (.ref b5), .val (.ref b47), .val (.ref b5), .val (.int (1 : Int32))] [(.ref s3)])) rfl rfl (hb hby at_204)
    refine own_go (fun t k => st58 t k) ?_
    refine own_go (B := T58.setTop (mkF m 209 #[.val (.int p1), .val (.int p2), .val (.int p3), .val (.int p4), .val (.int p5), .val (.int (4 : Int32)), .val (.ref s1), .val (.ref s2), .val (.ref s3), .val (.ref s4), .val (.ref b5), .val (.ref b47), .val (.ref b5), .val (.int (1 : Int32))] [(.ref s3), (.ref s3)])) (fun t k => ?_) ?_
    · show Steps p.tables e below (T58.setTop (mkF m 207 #[.val (.int p1), .val (.int p2), .val (.int p3), .val (.int p4), .val (.int p5), .val (.int (4 : Int32)), .val (.ref s1), .val (.ref s2), .val (.ref s3), .val (.ref s4), .val (.ref b5), .val (.ref b47), .val (.ref b5), .val (.int (1 : Int32))] [(.ref s3)])) t
      refine XS.aload X58.here hx rfl (hb hby at_207) rfl rfl ?_
      exact k
    have M59 := rm25 l Z a0 hw [] s3 T48.heap n0 (Nat.le_trans (Nat.le_trans (Nat.le_trans (Nat.le_trans (Nat.le_trans (Nat.le_trans (Nat.le_trans (Nat.le_trans (Nat.le_trans (Nat.le_trans (Nat.le_trans (Nat.le_trans Z0 K1.1) K2.1) K3.1) K4.1) E5.1) K6.1) K43.1) K44.1) K45.1) K46.1) E47.1) K48.1)
    obtain ⟨cq59, kq59, q59a, q59b, q59c⟩ := isOf hZ e58 f48_2
    obtain ⟨_, _, ⟨T59, L59, k59, n59⟩, -, X59, ⟨Lc59, hQ59, l59, y59, z59⟩, st59⟩ := X58.virtualBack hx (y := (⟨"java/lang/String", "equals", "(Ljava/lang/Object;)Z"⟩ : MethodName)) (z := (⟨"java/lang/String", "equals", "(Ljava/lang/Object;)Z"⟩ : MethodName)) hown (mvT hZ (hw _ (List.mem_of_getElem? (i := 150) rfl))) (mvT hZ (hw _ (List.mem_of_getElem? (i := 151) rfl))) (notFace_of_selects (args := #[]) (mvT hZ (hw _ (List.mem_of_getElem? (i := 153) rfl)))) (mvT hZ (hw _ (List.mem_of_getElem? (i := 153) rfl))) (mvT hZ (hw _ (List.mem_of_getElem? (i := 152) rfl))) (by decide) (backOf (W := 0) (M59) hZ (hw _ (List.mem_of_getElem? (i := 154) rfl)) (hw _ (List.mem_of_getElem? (i := 7) rfl)) (by decide) (by decide)) q59a q59c (g := (mkF m 209 #[.val (.int p1), .val (.int p2), .val (.int p3), .val (.int p4), .val (.int p5), .val (.int (4 : Int32)), .val (.ref s1), .val (.ref s2), .val (.ref s3), .val (.ref s4), .val (.ref b5), .val (.ref b47), .val (.ref b5), .val (.int (1 : Int32))] [(.ref s3), (.ref s3)])) rfl (by rw [hml]; rfl) (Steps.refl _) (argsL := [(.ref s3)]) (rest := []) (lenOf pd_rm0_2 rfl) rfl (by show 2 * 0 + _ ≤ _; exact Nat.le_of_eq rfl) (hb hby at_209) (fun _ _ => ⟨rfl, e58, (by decide : 15 + 0 ≤ _), (by decide : 48 + 0 ≤ _)⟩)
    dsimp only [Pt.U, Pt.locs, Pt.cells, Pt.slots] at X59 l59 y59 z59 st59 hQ59
    subst l59 y59 z59
    obtain ⟨rfl, N59q, hh59⟩ := hQ59
    have N59 := Fr.app N57 N59q
    obtain ⟨LL59, X59, N59⟩ := own_abs X59 N59
    refine own_go (fun t k => st59.trans k) ?_
    refine own_go (B := T59.setTop (mkF m 236 #[.val (.int p1), .val (.int p2), .val (.int p3), .val (.int p4), .val (.int p5), .val (.int (4 : Int32)), .val (.ref s1), .val (.ref s2), .val (.ref s3), .val (.ref s4), .val (.ref b5), .val (.ref b47), .val (.ref b5), .val (.int (1 : Int32))] [(.int (3 : Int32)), (.ref b5)])) (fun t k => ?_) ?_
    · show Steps p.tables e below (T59.setTop (mkF m 212 #[.val (.int p1), .val (.int p2), .val (.int p3), .val (.int p4), .val (.int p5), .val (.int (4 : Int32)), .val (.ref s1), .val (.ref s2), .val (.ref s3), .val (.ref s4), .val (.ref b5), .val (.ref b47), .val (.ref b5), .val (.int (1 : Int32))] [(.int (1 : Int32))])) t
      refine XS.ifNo X59.here hx rfl (hb hby at_212) rfl ((if0 _ _).trans (feq (by decide : ¬ ((1 : Int32) = (0 : Int32)))).1) ?_
      show Steps p.tables e below (T59.setTop (mkF m 215 #[.val (.int p1), .val (.int p2), .val (.int p3), .val (.int p4), .val (.int p5), .val (.int (4 : Int32)), .val (.ref s1), .val (.ref s2), .val (.ref s3), .val (.ref s4), .val (.ref b5), .val (.ref b47), .val (.ref b5), .val (.int (1 : Int32))] [])) t
      refine XS.iconst X59.here hx rfl (hb hby at_215) ?_
      show Steps p.tables e below (T59.setTop (mkF m 216 #[.val (.int p1), .val (.int p2), .val (.int p3), .val (.int p4), .val (.int p5), .val (.int (4 : Int32)), .val (.ref s1), .val (.ref s2), .val (.ref s3), .val (.ref s4), .val (.ref b5), .val (.ref b47), .val (.ref b5), .val (.int (1 : Int32))] [(.int (1 : Int32))])) t
      refine XS.goto X59.here hx rfl (pc0 := 216) (pc' := 220) rfl (hb hby at_216) (by decide) (by decide) ?_
      show Steps p.tables e below (T59.setTop (mkF m 220 #[.val (.int p1), .val (.int p2), .val (.int p3), .val (.int p4), .val (.int p5), .val (.int (4 : Int32)), .val (.ref s1), .val (.ref s2), .val (.ref s3), .val (.ref s4), .val (.ref b5), .val (.ref b47), .val (.ref b5), .val (.int (1 : Int32))] [(.int (1 : Int32))])) t
      refine XS.istore X59.here hx rfl (hb hby at_220) rfl (l' := #[.val (.int p1), .val (.int p2), .val (.int p3), .val (.int p4), .val (.int p5), .val (.int (4 : Int32)), .val (.ref s1), .val (.ref s2), .val (.ref s3), .val (.ref s4), .val (.ref b5), .val (.ref b47), .val (.ref b5), .val (.int (1 : Int32))]) rfl ?_
      show Steps p.tables e below (T59.setTop (mkF m 222 #[.val (.int p1), .val (.int p2), .val (.int p3), .val (.int p4), .val (.int p5), .val (.int (4 : Int32)), .val (.ref s1), .val (.ref s2), .val (.ref s3), .val (.ref s4), .val (.ref b5), .val (.ref b47), .val (.ref b5), .val (.int (1 : Int32))] [])) t
      refine XS.iload X59.here hx rfl (hb hby at_222) rfl ?_
      show Steps p.tables e below (T59.setTop (mkF m 224 #[.val (.int p1), .val (.int p2), .val (.int p3), .val (.int p4), .val (.int p5), .val (.int (4 : Int32)), .val (.ref s1), .val (.ref s2), .val (.ref s3), .val (.ref s4), .val (.ref b5), .val (.ref b47), .val (.ref b5), .val (.int (1 : Int32))] [(.int (4 : Int32))])) t
      refine XS.iconst X59.here hx rfl (hb hby at_224) ?_
      show Steps p.tables e below (T59.setTop (mkF m 225 #[.val (.int p1), .val (.int p2), .val (.int p3), .val (.int p4), .val (.int p5), .val (.int (4 : Int32)), .val (.ref s1), .val (.ref s2), .val (.ref s3), .val (.ref s4), .val (.ref b5), .val (.ref b47), .val (.ref b5), .val (.int (1 : Int32))] [(.int (3 : Int32)), (.int (4 : Int32))])) t
      refine XS.icmpNo X59.here hx rfl (hb hby at_225) rfl (tlt (by decide : (3 : Int32) < (4 : Int32))).2.2.2 ?_
      show Steps p.tables e below (T59.setTop (mkF m 228 #[.val (.int p1), .val (.int p2), .val (.int p3), .val (.int p4), .val (.int p5), .val (.int (4 : Int32)), .val (.ref s1), .val (.ref s2), .val (.ref s3), .val (.ref s4), .val (.ref b5), .val (.ref b47), .val (.ref b5), .val (.int (1 : Int32))] [])) t
      refine XS.iload X59.here hx rfl (hb hby at_228) rfl ?_
      show Steps p.tables e below (T59.setTop (mkF m 230 #[.val (.int p1), .val (.int p2), .val (.int p3), .val (.int p4), .val (.int p5), .val (.int (4 : Int32)), .val (.ref s1), .val (.ref s2), .val (.ref s3), .val (.ref s4), .val (.ref b5), .val (.ref b47), .val (.ref b5), .val (.int (1 : Int32))] [(.int (1 : Int32))])) t
      refine XS.ifNo X59.here hx rfl (hb hby at_230) rfl ((if0 _ _).trans (feq (by decide : ¬ ((1 : Int32) = (0 : Int32)))).1) ?_
      show Steps p.tables e below (T59.setTop (mkF m 233 #[.val (.int p1), .val (.int p2), .val (.int p3), .val (.int p4), .val (.int p5), .val (.int (4 : Int32)), .val (.ref s1), .val (.ref s2), .val (.ref s3), .val (.ref s4), .val (.ref b5), .val (.ref b47), .val (.ref b5), .val (.int (1 : Int32))] [])) t
      refine XS.aload X59.here hx rfl (hb hby at_233) rfl rfl ?_
      show Steps p.tables e below (T59.setTop (mkF m 235 #[.val (.int p1), .val (.int p2), .val (.int p3), .val (.int p4), .val (.int p5), .val (.int (4 : Int32)), .val (.ref s1), .val (.ref s2), .val (.ref s3), .val (.ref s4), .val (.ref b5), .val (.ref b47), .val (.ref b5), .val (.int (1 : Int32))] [(.ref b5)])) t
      refine XS.iconst X59.here hx rfl (hb hby at_235) ?_
      exact k
    have hat60 : (fun x => if x = 3 then (Value.ref s4) else (fun x => if x = 2 then (Value.ref s3) else (fun x => if x = 1 then (Value.ref s2) else (fun x => if x = 0 then (Value.ref s1) else (fun _ => Value.null) x) x) x) x) ((3 : Int32)).toNatClampNeg = Value.ref s4 := by rw [show ((3 : Int32)).toNatClampNeg = 3 from by decide]; rfl
    have M60 := rm21 l Z a0 hw [] b5 (3 : Int32) r43 kA43 (fun x => if x = 3 then (Value.ref s4) else (fun x => if x = 2 then (Value.ref s3) else (fun x => if x = 1 then (Value.ref s2) else (fun x => if x = 0 then (Value.ref s1) else (fun _ => Value.null) x) x) x) x) s4 (((((0 : Int32) + (1 : Int32)) + (1 : Int32)) + (1 : Int32)) + (1 : Int32)) T48.heap n0 (Nat.le_trans (Nat.le_trans (Nat.le_trans (Nat.le_trans (Nat.le_trans (Nat.le_trans (Nat.le_trans (Nat.le_trans (Nat.le_trans (Nat.le_trans (Nat.le_trans (Nat.le_trans Z0 K1.1) K2.1) K3.1) K4.1) E5.1) K6.1) K43.1) K44.1) K45.1) K46.1) E47.1) K48.1) f48_6 f48_8 (by decide) (by decide) hat60 f48_7 (by decide) f48_4
    obtain ⟨cq60, kq60, q60a, q60b, q60c⟩ := isOf hZ hh59 f48_4
    obtain ⟨_, _, ⟨T60, L60, k60, n60⟩, -, X60, ⟨Lc60, hQ60, l60, y60, z60⟩, st60⟩ := X59.interfaceBack hx (xi := (⟨"java/util/List", "get", "(I)Ljava/lang/Object;"⟩ : MethodName)) (y := (⟨"java/util/ArrayList", "get", "(I)Ljava/lang/Object;"⟩ : MethodName)) hown (mvT hZ (hw _ (List.mem_of_getElem? (i := 129) rfl))) (mvT hZ (hw _ (List.mem_of_getElem? (i := 130) rfl))) (mvT hZ (hw _ (List.mem_of_getElem? (i := 131) rfl))) (mvT hZ (hw _ (List.mem_of_getElem? (i := 132) rfl))) (mvT hZ (hw _ (List.mem_of_getElem? (i := 133) rfl))) (mvT hZ (hw _ (List.mem_of_getElem? (i := 134) rfl))) (mvT hZ (hw _ (List.mem_of_getElem? (i := 135) rfl))) (mvT hZ (hw _ (List.mem_of_getElem? (i := 119) rfl))) (by decide) (backOf (W := 0) (M60) hZ (hw _ (List.mem_of_getElem? (i := 136) rfl)) (hw _ (List.mem_of_getElem? (i := 36) rfl)) (by decide) (by decide)) q60a q60b q60c (g := (mkF m 236 #[.val (.int p1), .val (.int p2), .val (.int p3), .val (.int p4), .val (.int p5), .val (.int (4 : Int32)), .val (.ref s1), .val (.ref s2), .val (.ref s3), .val (.ref s4), .val (.ref b5), .val (.ref b47), .val (.ref b5), .val (.int (1 : Int32))] [(.int (3 : Int32)), (.ref b5)])) rfl (by rw [hml]; rfl) (Steps.refl _) (argsL := [(.int (3 : Int32))]) (rest := []) (lenOf pd_rm0_6 rfl) rfl (by show 2 * 0 + _ ≤ _; exact Nat.le_of_eq rfl) (hb hby at_236) (fun _ _ => ⟨rfl, hh59, (by decide : 15 + 0 ≤ _), (by decide : 48 + 0 ≤ _)⟩)
    dsimp only [Pt.U, Pt.locs, Pt.cells, Pt.slots] at X60 l60 y60 z60 st60 hQ60
    subst l60 y60 z60
    obtain ⟨rfl, N60q, hh60⟩ := hQ60
    have N60 := Fr.app N59 N60q
    obtain ⟨LL60, X60, N60⟩ := own_abs X60 N60
    refine own_go (fun t k => st60.trans k) ?_
    obtain ⟨T61, X61, e61, st61⟩ := castY X60 hx hZ hown (hw _ (List.mem_of_getElem? (i := 5) rfl)) hh60 (Ins.self f48_3) (g := (mkF m 241 #[.val (.int p1), .val (.int p2), .val (.int p3), .val (.int p4), .val (.int p5), .val (.int (4 : Int32)), .val (.ref s1), .val (.ref s2), .val (.ref s3), .val (.ref s4), .val (.ref b5), .val (.ref b47), .val (.ref b5), .val (.int (1 : Int32))] [(.ref s4)])) rfl rfl (hb hby at_241)
    refine own_go (fun t k => st61 t k) ?_
    refine own_go (B := T61.setTop (mkF m 246 #[.val (.int p1), .val (.int p2), .val (.int p3), .val (.int p4), .val (.int p5), .val (.int (4 : Int32)), .val (.ref s1), .val (.ref s2), .val (.ref s3), .val (.ref s4), .val (.ref b5), .val (.ref b47), .val (.ref b5), .val (.int (1 : Int32))] [(.ref s4), (.ref s4)])) (fun t k => ?_) ?_
    · show Steps p.tables e below (T61.setTop (mkF m 244 #[.val (.int p1), .val (.int p2), .val (.int p3), .val (.int p4), .val (.int p5), .val (.int (4 : Int32)), .val (.ref s1), .val (.ref s2), .val (.ref s3), .val (.ref s4), .val (.ref b5), .val (.ref b47), .val (.ref b5), .val (.int (1 : Int32))] [(.ref s4)])) t
      refine XS.aload X61.here hx rfl (hb hby at_244) rfl rfl ?_
      exact k
    have M62 := rm25 l Z a0 hw [] s4 T48.heap n0 (Nat.le_trans (Nat.le_trans (Nat.le_trans (Nat.le_trans (Nat.le_trans (Nat.le_trans (Nat.le_trans (Nat.le_trans (Nat.le_trans (Nat.le_trans (Nat.le_trans (Nat.le_trans Z0 K1.1) K2.1) K3.1) K4.1) E5.1) K6.1) K43.1) K44.1) K45.1) K46.1) E47.1) K48.1)
    obtain ⟨cq62, kq62, q62a, q62b, q62c⟩ := isOf hZ e61 f48_3
    obtain ⟨_, _, ⟨T62, L62, k62, n62⟩, -, X62, ⟨Lc62, hQ62, l62, y62, z62⟩, st62⟩ := X61.virtualBack hx (y := (⟨"java/lang/String", "equals", "(Ljava/lang/Object;)Z"⟩ : MethodName)) (z := (⟨"java/lang/String", "equals", "(Ljava/lang/Object;)Z"⟩ : MethodName)) hown (mvT hZ (hw _ (List.mem_of_getElem? (i := 150) rfl))) (mvT hZ (hw _ (List.mem_of_getElem? (i := 151) rfl))) (notFace_of_selects (args := #[]) (mvT hZ (hw _ (List.mem_of_getElem? (i := 153) rfl)))) (mvT hZ (hw _ (List.mem_of_getElem? (i := 153) rfl))) (mvT hZ (hw _ (List.mem_of_getElem? (i := 152) rfl))) (by decide) (backOf (W := 0) (M62) hZ (hw _ (List.mem_of_getElem? (i := 154) rfl)) (hw _ (List.mem_of_getElem? (i := 7) rfl)) (by decide) (by decide)) q62a q62c (g := (mkF m 246 #[.val (.int p1), .val (.int p2), .val (.int p3), .val (.int p4), .val (.int p5), .val (.int (4 : Int32)), .val (.ref s1), .val (.ref s2), .val (.ref s3), .val (.ref s4), .val (.ref b5), .val (.ref b47), .val (.ref b5), .val (.int (1 : Int32))] [(.ref s4), (.ref s4)])) rfl (by rw [hml]; rfl) (Steps.refl _) (argsL := [(.ref s4)]) (rest := []) (lenOf pd_rm0_2 rfl) rfl (by show 2 * 0 + _ ≤ _; exact Nat.le_of_eq rfl) (hb hby at_246) (fun _ _ => ⟨rfl, e61, (by decide : 15 + 0 ≤ _), (by decide : 48 + 0 ≤ _)⟩)
    dsimp only [Pt.U, Pt.locs, Pt.cells, Pt.slots] at X62 l62 y62 z62 st62 hQ62
    subst l62 y62 z62
    obtain ⟨rfl, N62q, hh62⟩ := hQ62
    have N62 := Fr.app N60 N62q
    obtain ⟨LL62, X62, N62⟩ := own_abs X62 N62
    refine own_go (fun t k => st62.trans k) ?_
    refine own_go (B := T62.setTop (mkF m 261 #[.val (.int p1), .val (.int p2), .val (.int p3), .val (.int p4), .val (.int p5), .val (.int (4 : Int32)), .val (.ref s1), .val (.ref s2), .val (.ref s3), .val (.ref s4), .val (.ref b5), .val (.ref b47), .val (.ref b5), .val (.int (1 : Int32))] [(.int (1 : Int32))])) (fun t k => ?_) ?_
    · show Steps p.tables e below (T62.setTop (mkF m 249 #[.val (.int p1), .val (.int p2), .val (.int p3), .val (.int p4), .val (.int p5), .val (.int (4 : Int32)), .val (.ref s1), .val (.ref s2), .val (.ref s3), .val (.ref s4), .val (.ref b5), .val (.ref b47), .val (.ref b5), .val (.int (1 : Int32))] [(.int (1 : Int32))])) t
      refine XS.ifNo X62.here hx rfl (hb hby at_249) rfl ((if0 _ _).trans (feq (by decide : ¬ ((1 : Int32) = (0 : Int32)))).1) ?_
      show Steps p.tables e below (T62.setTop (mkF m 252 #[.val (.int p1), .val (.int p2), .val (.int p3), .val (.int p4), .val (.int p5), .val (.int (4 : Int32)), .val (.ref s1), .val (.ref s2), .val (.ref s3), .val (.ref s4), .val (.ref b5), .val (.ref b47), .val (.ref b5), .val (.int (1 : Int32))] [])) t
      refine XS.iconst X62.here hx rfl (hb hby at_252) ?_
      show Steps p.tables e below (T62.setTop (mkF m 253 #[.val (.int p1), .val (.int p2), .val (.int p3), .val (.int p4), .val (.int p5), .val (.int (4 : Int32)), .val (.ref s1), .val (.ref s2), .val (.ref s3), .val (.ref s4), .val (.ref b5), .val (.ref b47), .val (.ref b5), .val (.int (1 : Int32))] [(.int (1 : Int32))])) t
      refine XS.goto X62.here hx rfl (pc0 := 253) (pc' := 257) rfl (hb hby at_253) (by decide) (by decide) ?_
      show Steps p.tables e below (T62.setTop (mkF m 257 #[.val (.int p1), .val (.int p2), .val (.int p3), .val (.int p4), .val (.int p5), .val (.int (4 : Int32)), .val (.ref s1), .val (.ref s2), .val (.ref s3), .val (.ref s4), .val (.ref b5), .val (.ref b47), .val (.ref b5), .val (.int (1 : Int32))] [(.int (1 : Int32))])) t
      refine XS.istore X62.here hx rfl (hb hby at_257) rfl (l' := #[.val (.int p1), .val (.int p2), .val (.int p3), .val (.int p4), .val (.int p5), .val (.int (4 : Int32)), .val (.ref s1), .val (.ref s2), .val (.ref s3), .val (.ref s4), .val (.ref b5), .val (.ref b47), .val (.ref b5), .val (.int (1 : Int32))]) rfl ?_
      show Steps p.tables e below (T62.setTop (mkF m 259 #[.val (.int p1), .val (.int p2), .val (.int p3), .val (.int p4), .val (.int p5), .val (.int (4 : Int32)), .val (.ref s1), .val (.ref s2), .val (.ref s3), .val (.ref s4), .val (.ref b5), .val (.ref b47), .val (.ref b5), .val (.int (1 : Int32))] [])) t
      refine XS.iload X62.here hx rfl (hb hby at_259) rfl ?_
      exact k
    obtain ⟨fs, hr, hrun, hended, hW, hsame⟩ := X62.leave (v := some (.int (1 : Int32))) (fun h => by rw [Bd.returns] at h; cases h)
    refine ⟨_, _, ?_, hrun, hended, _, _, rfl, ?_, ⟨_, rfl⟩, hW, hsame.mono (by decide) (by decide)⟩
    · show Steps p.tables e below (T62.setTop (mkF m 261 #[.val (.int p1), .val (.int p2), .val (.int p3), .val (.int p4), .val (.int p5), .val (.int (4 : Int32)), .val (.ref s1), .val (.ref s2), .val (.ref s3), .val (.ref s4), .val (.ref b5), .val (.ref b47), .val (.ref b5), .val (.int (1 : Int32))] [(.int (1 : Int32))])) _
      exact retN X62 hx (t := .boolean) Bd.returns (by simp) (hb hby at_261) hr
    · show Q0 Z p1 p2 p3 p4 p5 cz eD kD gD h0 n0 _ T62.heap _
      rw [hh62]
      exact ⟨rfl, N62⟩
theorem own_rg0 {s : State} {args : Array Value} {t : Jvm.Term} (hA : (Jvm.Cond.arrayOf t (.object "java/lang/Object")).value args s none s [] = some true) (hL : (Jvm.Cond.eq (Jvm.Term.length t) (Jvm.Term.int (0 : Int32))).value args s none s [] = some true) : ∃ (a : Addr) (k : ClassId) (g : Nat → Value), t.eval args s none [] s = some (.ref a) ∧ own_Rg s s.heap a k (0 : Int32) g := by
  have hl := eqv_i (Term.int_eval 0) hL
  obtain ⟨x, cl, ev, hat, hr⟩ := Term.length_spec hl
  obtain ⟨c, A⟩ := Arr.start ev hA
  have hc : s.heap[x]? = some cl := by
    simp only [State.arrayAt?, Option.bind_eq_bind, Option.bind_eq_some_iff] at hat
    obtain ⟨c', h1, k', h2, h3⟩ := hat
    split at h3
    · cases h3
    · split at h3
      · cases h3; exact h1
      · cases h3
  have e : cl = c := Option.some.inj (hc.symm.trans A.1)
  subst e
  have hb : cl.slots.size < 2 ^ 31 := by
    simp only [Term.eval, ev, Option.bind_eq_bind, Option.bind_some, hat] at hl
    split at hl
    · assumption
    · cases hl
  have hz : cl.slots.size = 0 := by
    have q : cl.slots.size.toInt32.toInt = 0 := by rw [← Value.int.inj hr]; decide
    have q2 : cl.slots.size.toInt32.toInt = cl.slots.size := Int32.toInt_ofNat_of_lt hb
    omega
  exact ⟨x, cl.cls, fun _ => .null, ev, cl, A, rfl, by rw [hz]; decide, by decide, fun i hi => by omega⟩
set_option maxRecDepth 65536 in
set_option maxHeartbeats 40000000 in
theorem comes_1 {Post : Tables → Env → Array Value → State → Outcome → State → Prop} (hpost : ∀ tb e args s v u, (limb_1_1.after args s (.returned v) u = true ∧ limb_1_2.after args s (.returned v) u = true ∧ True) → FrameEnd s (.returned v) u (Jvm.fieldLocs frame_1_writes args s ++ Jvm.arrayLocs frame_1_arrays args s ++ Jvm.staticLocs frame_1_statics s) 40 192 → Post tb e args s (.returned v) u) :
    ArmFor flags0 classFile x code maxLocals ret World_1 tables_1 room_1 Calls_1 rest_1 Pre_1 Post := by
  intro l hfl _ _ p e ha hc hk s m args below hf hA hF happ hP
  obtain ⟨hcalls, hrest, hpre⟩ := hP
  obtain ⟨-, -, -, hnamed, -, -, -, hat⟩ := (Spec.applies_iff hf).mp happ
  obtain ⟨hg, hn⟩ := and_e (Cond.before_iff.mp (show (Jvm.Cond.and given_1 narrow_1).before args s = true from hpre))
  obtain ⟨gc, g0⟩ := and_e hg
  obtain ⟨a0, g1⟩ := and_e g0
  obtain ⟨a1, g2⟩ := and_e g1
  obtain ⟨a2, g3⟩ := and_e g2
  obtain ⟨a3, g4⟩ := and_e g3
  have a4 := g4
  obtain ⟨w0, w1, w2, w3, w4, rfl⟩ : ∃ w0 w1 w2 w3 w4 : Value, args = #[w0, w1, w2, w3, w4] := by
    have hs : args.size = 5 := by simpa [Cond.value, given_1] using gc
    obtain ⟨L⟩ := args
    match L, hs with
    | [w0, w1, w2, w3, w4], _ => exact ⟨w0, w1, w2, w3, w4, rfl⟩
  have hw := fun d (hd : d ∈ tables_1) => atoms_spec (ws := Jvm.Cond.code x code maxLocals ret :: tables_1) hat d (List.mem_cons_of_mem _ hd)
  have hfit : Fit s := fun {y c} hc i hi => by
    obtain ⟨ha, rfl⟩ := Array.getElem?_eq_some_iff.mp hc
    have q := List.all_eq_true.mp ((Array.all_eq_true_iff_forall_mem.mp hF) _ (Array.getElem_mem ha)) i (List.mem_range.mpr hi)
    simpa [Array.getElem?_eq_getElem hi] using q
  obtain ⟨i0, ei0⟩ := is_v a0
  obtain rfl : w0 = (.int i0) := Option.some.inj ei0
  obtain ⟨i1, ei1⟩ := is_v a1
  obtain rfl : w1 = (.int i1) := Option.some.inj ei1
  obtain ⟨i2, ei2⟩ := is_v a2
  obtain rfl : w2 = (.int i2) := Option.some.inj ei2
  obtain ⟨i3, ei3⟩ := is_v a3
  obtain rfl : w3 = (.int i3) := Option.some.inj ei3
  obtain ⟨i4, ei4⟩ := is_v a4
  obtain rfl : w4 = (.int i4) := Option.some.inj ei4
  obtain ⟨hsets, hown0⟩ := atoms_of _ (rest_1_c_eq ▸ (show rest_1_c.before _ s = true from hrest))
  have n5 := not_v (Cond.before_iff.mp (hsets _ (List.mem_of_getElem? (i := 2) rfl)))
  obtain ⟨cz, ecz⟩ := is_v (Cond.before_iff.mp (hsets _ (List.mem_of_getElem? (i := 1) rfl)))
  have SC : Sta s s.heap "java/lang/String" "COMPACT_STRINGS" "Z" (.int cz) := Sta.start ecz (Or.inl (hsets _ (List.mem_of_getElem? (i := 0) rfl)))
  have hz : ¬ (cz = (0 : Int32)) := gotF (Cond.eq_ints ecz (Term.int_eval (0))) n5
  obtain ⟨eD, kD, gD, evD, RD⟩ := own_rg0 (Cond.before_iff.mp (hsets _ (List.mem_of_getElem? (i := 15) rfl))) (Cond.before_iff.mp (hsets _ (List.mem_of_getElem? (i := 17) rfl)))
  have SD := Sta.start evD (Or.inr ⟨(hw _ (List.mem_of_getElem? (i := 36) rfl)), (hsets _ (List.mem_of_getElem? (i := 11) rfl))⟩)
  obtain ⟨n, o, h1, h2, h3, _, L, rfl, ⟨rfl, N⟩, hq⟩ := rm0 l s _ hw tables_1 i0 i1 i2 i3 i4 cz eD kD gD s.heap s.heap.size (Nat.le_refl _) SC hz SD RD p e ha hc hk s m _ below hf ((Spec.applies_iff_loose hf).mp happ).1 ⟨rfl, State.Warmed39.refl s, rfl⟩ trivial
  refine ⟨n, _, h1, h2, h3, hpost _ _ _ _ _ _ ⟨Cond.after_iff.mpr rfl, Cond.after_iff.mpr (eq_i res_at (Term.int_eval (1)) rfl), trivial⟩ ⟨hq.1, hq.2.1, (hq.2.2.sift fun y hy => Or.inr (N y hy)).mono (by decide) (by decide)⟩⟩
theorem main_1_1 : Claimed_1_1 := comes_1 fun _ _ _ _ _ _ h hF => ⟨h.1, hF⟩
theorem main_1_2 : Claimed_1_2 := comes_1 fun _ _ _ _ _ _ h hF => ⟨h.2.1, hF⟩
end Jvm.Pilot.@@N@@
namespace Jvm.Pilot.@@N@@
open Jvm Jvm.ClassFile Sem Op Lib Jvm.Free Jvm.Stand Jvm.Pilot.@@N@@.Jvm.D
/-! MADE BY PROGRAM (witnessworld.py) out of the Statement's table words and the real class files: 32 classes; the members and pool entries that the words name. The judged class is class 1, her method 2. -/
namespace start1
open Jvm.ClassFile
def u (s : String) : CpInfo := .utf8 (stringToUtf16 s)
/-- a pool by its gaps: so many unusable entries, then the entry; so many at the end -/
def gap : Nat → List CpInfo → List CpInfo
  | 0, r => r
  | n + 1, r => .unusable :: gap n r
def poolList (es : List (Nat × CpInfo)) (last : Nat) : List CpInfo := es.foldr (fun e r => gap e.1 (e.2 :: r)) (gap last [])
def pool (es : List (Nat × CpInfo)) (last : Nat) : Array CpInfo := ⟨poolList es last⟩
def fileOf (pool : Array CpInfo) (this : Nat) (attrs : Array Attribute := #[]) (ms : Array MethodInfo := #[]) (fl : Nat := 33) (sup : Nat := 0) (ifs : Array Nat := #[]) (fds : Array FieldInfo := #[]) : ClassFile where
  minorVersion := 0
  majorVersion := 65
  constantPool := pool
  accessFlags := fl
  thisClass := this
  superClass := sup
  interfaces := ifs
  fields := fds
  methods := ms
  attributes := attrs
def plain (name : String) (sup : Option ClassId) : Class where
  name := name
  kind := .ordinary
  loader := none
  accessFlags := 33
  super := sup
  interfaces := #[]
  cf := none
  fields := #[]
  methods := #[]
  instanceTypes := #[]
  staticTypes := #[]
  resolved := #[]
  callSites := []
  init := .initialized
  statics := none
  mirror := none

def pool0 : Array CpInfo := pool [(5, u "<init>"), (0, u "()V"), (1, .class_ 10), (1, u "java/lang/Object")] 113

def k0c0 : Code := { maxStack := 0, maxLocals := 1, code := object_method_1_code, exceptionTable := #[], attributes := #[] }
def k0m0 : Method := { name := "<init>", desc := "()V", sig := { parameters := [], returnType := none }, accessFlags := 1, code := some k0c0 }
/-- java/lang/Object -/
def k0 : Class := { plain "java/lang/Object" none with
  accessFlags := 33
  interfaces := #[]
  cf := some (fileOf pool0 8 #[] #[{ accessFlags := 1, nameIndex := 5, descriptorIndex := 6, attributes := #[] }] 33 0 #[] #[])
  fields := #[]
  methods := #[k0m0]
  instanceTypes := #[]
  staticTypes := #[]
  resolved := Array.replicate 124 none
  statics := none }

def pool1 : Array CpInfo := pool [(2, .class_ 4), (0, .nameAndType 5 6), (0, u "java/lang/Object"), (0, u "<init>"), (0, u "()V"), (0, .class_ 8), (0, u "java/lang/String"), (0, .methodref 7 10), (0, .nameAndType 5 11), (0, u "([C)V"), (0, .methodref 13 14), (0, .class_ 15), (0, .nameAndType 16 17), (0, u "com/example/freshet/freshet/ArgumentsTraceFilesPinLaw"), (0, u "name"), (0, u "(I)Ljava/lang/String;"), (0, .class_ 19), (0, u "java/util/ArrayList"), (0, .methodref 18 3), (0, .methodref 18 22), (0, .nameAndType 23 24), (0, u "add"), (0, u "(Ljava/lang/Object;)Z"), (0, .class_ 26), (0, u "com/example/freshet/freshet/Command$Arguments"), (0, .methodref 25 28), (0, .nameAndType 5 29), (0, u "(Ljava/util/Map;Ljava/util/Set;Ljava/util/List;)V"), (0, .methodref 25 31), (0, .nameAndType 32 33), (0, u "traceFiles"), (0, u "()Ljava/util/List;"), (0, .interfaceMethodref 35 36), (0, .class_ 37), (0, .nameAndType 38 39), (0, u "java/util/List"), (0, u "size"), (0, u "()I"), (0, .interfaceMethodref 35 41), (0, .nameAndType 42 43), (0, u "get"), (0, u "(I)Ljava/lang/Object;"), (0, .methodref 7 45), (0, .nameAndType 46 24), (0, u "equals"), (2, u "law"), (0, u "(IIIII)Z")] 10

def k1m0 : Method := { name := "<init>", desc := "()V", sig := { parameters := [], returnType := none }, accessFlags := 1, code := none }
def k1c1 : Code := { maxStack := 4, maxLocals := 2, code := method_2_code, exceptionTable := #[], attributes := #[] }
def k1m1 : Method := { name := "name", desc := "(I)Ljava/lang/String;", sig := { parameters := [.int], returnType := some (.object "java/lang/String") }, accessFlags := 10, code := some k1c1 }
def k1c2 : Code := { maxStack := 5, maxLocals := 14, code := code, exceptionTable := #[], attributes := #[] }
def k1m2 : Method := { name := "law", desc := "(IIIII)Z", sig := { parameters := [.int, .int, .int, .int, .int], returnType := some .boolean }, accessFlags := 9, code := some k1c2 }
/-- com/example/freshet/freshet/ArgumentsTraceFilesPinLaw -/
def k1 : Class := { plain "com/example/freshet/freshet/ArgumentsTraceFilesPinLaw" (some 0) with
  accessFlags := 49
  interfaces := #[]
  cf := some (fileOf pool1 13 #[] #[{ accessFlags := 1, nameIndex := 5, descriptorIndex := 6, attributes := #[] }, { accessFlags := 10, nameIndex := 16, descriptorIndex := 17, attributes := #[] }, { accessFlags := 9, nameIndex := 49, descriptorIndex := 50, attributes := #[] }] 49 2 #[] #[])
  fields := #[]
  methods := #[k1m0, k1m1, k1m2]
  instanceTypes := #[]
  staticTypes := #[]
  resolved := Array.replicate 61 none
  statics := none }

def pool2 : Array CpInfo := pool [(1, .class_ 2), (0, u "java/io/Serializable"), (0, .class_ 4), (0, u "java/lang/Object")] 2

/-- java/io/Serializable -/
def k2 : Class := { plain "java/io/Serializable" (some 0) with
  accessFlags := 1537
  interfaces := #[]
  cf := some (fileOf pool2 1 #[] #[] 1537 3 #[] #[])
  fields := #[]
  methods := #[]
  instanceTypes := #[]
  staticTypes := #[]
  resolved := Array.replicate 7 none
  statics := none }

def pool3 : Array CpInfo := pool [(1, .class_ 2), (0, u "java/lang/Comparable"), (0, .class_ 4), (0, u "java/lang/Object")] 7

/-- java/lang/Comparable -/
def k3 : Class := { plain "java/lang/Comparable" (some 0) with
  accessFlags := 1537
  interfaces := #[]
  cf := some (fileOf pool3 1 #[] #[] 1537 3 #[] #[])
  fields := #[]
  methods := #[]
  instanceTypes := #[]
  staticTypes := #[]
  resolved := Array.replicate 12 none
  statics := none }

def pool4 : Array CpInfo := pool [(2, .class_ 4), (1, u "java/lang/CharSequence"), (42, .class_ 48), (0, u "java/lang/CharSequence$1CodePointIterator"), (10, .class_ 60), (0, u "java/lang/CharSequence$1CharIterator"), (5, .class_ 67), (0, u "java/lang/Object")] 63

/-- java/lang/CharSequence -/
def k4 : Class := { plain "java/lang/CharSequence" (some 0) with
  accessFlags := 1537
  interfaces := #[]
  cf := some (fileOf pool4 2 #[.nestMembers #[47, 59]] #[] 1537 66 #[] #[])
  fields := #[]
  methods := #[]
  instanceTypes := #[]
  staticTypes := #[]
  resolved := Array.replicate 131 none
  statics := none }

def pool5 : Array CpInfo := pool [(1, .class_ 2), (0, u "java/lang/constant/Constable"), (0, .class_ 4), (0, u "java/lang/Object")] 6

/-- java/lang/constant/Constable -/
def k5 : Class := { plain "java/lang/constant/Constable" (some 0) with
  accessFlags := 1537
  interfaces := #[]
  cf := some (fileOf pool5 1 #[] #[] 1537 3 #[] #[])
  fields := #[]
  methods := #[]
  instanceTypes := #[]
  staticTypes := #[]
  resolved := Array.replicate 11 none
  statics := none }

def pool6 : Array CpInfo := pool [(1, .class_ 2), (0, u "java/lang/constant/ConstantDesc"), (0, .class_ 4), (0, u "java/lang/Object")] 32

/-- java/lang/constant/ConstantDesc -/
def k6 : Class := { plain "java/lang/constant/ConstantDesc" (some 0) with
  accessFlags := 1537
  interfaces := #[]
  cf := some (fileOf pool6 1 #[] #[] 1537 3 #[] #[])
  fields := #[]
  methods := #[]
  instanceTypes := #[]
  staticTypes := #[]
  resolved := Array.replicate 37 none
  statics := none }

def pool7 : Array CpInfo := pool [(1, .methodref 2 3), (0, .class_ 4), (0, .nameAndType 5 6), (0, u "java/lang/Object"), (0, u "<init>"), (0, u "()V"), (2, .fieldref 10 11), (0, .class_ 12), (0, .nameAndType 13 14), (0, u "java/lang/String"), (0, u "value"), (0, u "[B"), (0, .fieldref 10 16), (0, .nameAndType 17 18), (0, u "coder"), (0, u "B"), (2, u "hash"), (0, u "I"), (2, u "hashIsZero"), (0, u "Z"), (0, .methodref 10 28), (0, .nameAndType 5 29), (0, u "([CIILjava/lang/Void;)V"), (8, .fieldref 10 39), (0, .nameAndType 40 26), (0, u "COMPACT_STRINGS"), (1, .class_ 44), (1, u "java/lang/StringUTF16"), (0, u "compress"), (1, .methodref 42 48), (0, .nameAndType 49 50), (0, u "coderFromArrayLen"), (0, u "([BI)B"), (126, .methodref 42 178), (0, .nameAndType 45 179), (0, u "([CII)[B"), (363, u "equals"), (29, u "(Ljava/lang/Object;)Z"), (1, .class_ 576), (0, u "java/lang/CharSequence"), (22, u "CASE_INSENSITIVE_ORDER"), (0, u "Ljava/util/Comparator;"), (409, u "([C)V"), (90, u "serialPersistentFields"), (0, u "[Ljava/io/ObjectStreamField;"), (0, .class_ 1104), (0, u "java/lang/String$CaseInsensitiveComparator"), (1, .class_ 1107), (0, u "java/io/Serializable"), (0, .class_ 1109), (0, u "java/lang/Comparable"), (0, .class_ 1111), (0, u "java/lang/constant/Constable"), (0, .class_ 1113), (0, u "java/lang/constant/ConstantDesc"), (2, u "serialVersionUID"), (0, u "J"), (3, u "REPL"), (0, u "C"), (2, u "LATIN1"), (1, u "UTF16")] 323

def k7m0 : Method := { name := "<init>", desc := "()V", sig := { parameters := [], returnType := none }, accessFlags := 1, code := none }
def k7c1 : Code := { maxStack := 5, maxLocals := 2, code := jdk_42_method_3_code, exceptionTable := #[], attributes := #[] }
def k7m1 : Method := { name := "<init>", desc := "([C)V", sig := { parameters := [(.array .char)], returnType := none }, accessFlags := 1, code := some k7c1 }
def k7c2 : Code := { maxStack := 2, maxLocals := 3, code := jdk_42_method_66_code, exceptionTable := #[], attributes := #[] }
def k7m2 : Method := { name := "equals", desc := "(Ljava/lang/Object;)Z", sig := { parameters := [(.object "java/lang/Object")], returnType := some .boolean }, accessFlags := 1, code := some k7c2 }
def k7c3 : Code := { maxStack := 4, maxLocals := 6, code := jdk_42_method_149_code, exceptionTable := #[], attributes := #[] }
def k7m3 : Method := { name := "<init>", desc := "([CIILjava/lang/Void;)V", sig := { parameters := [(.array .char), .int, .int, (.object "java/lang/Void")], returnType := none }, accessFlags := 2, code := some k7c3 }
/-- java/lang/String -/
def k7 : Class := { plain "java/lang/String" (some 0) with
  accessFlags := 49
  interfaces := #[2, 3, 4, 5, 6]
  cf := some (fileOf pool7 10 #[.nestMembers #[1103]] #[{ accessFlags := 1, nameIndex := 5, descriptorIndex := 6, attributes := #[] }, { accessFlags := 1, nameIndex := 5, descriptorIndex := 1010, attributes := #[] }, { accessFlags := 1, nameIndex := 543, descriptorIndex := 573, attributes := #[] }, { accessFlags := 2, nameIndex := 5, descriptorIndex := 29, attributes := #[] }] 49 2 #[1106, 1108, 575, 1110, 1112] #[{ accessFlags := 18, nameIndex := 13, descriptorIndex := 14, attributes := #[] }, { accessFlags := 18, nameIndex := 17, descriptorIndex := 18, attributes := #[] }, { accessFlags := 2, nameIndex := 21, descriptorIndex := 22, attributes := #[] }, { accessFlags := 2, nameIndex := 25, descriptorIndex := 26, attributes := #[] }, { accessFlags := 26, nameIndex := 1116, descriptorIndex := 1117, attributes := #[] }, { accessFlags := 24, nameIndex := 40, descriptorIndex := 26, attributes := #[] }, { accessFlags := 26, nameIndex := 1101, descriptorIndex := 1102, attributes := #[] }, { accessFlags := 26, nameIndex := 1121, descriptorIndex := 1122, attributes := #[] }, { accessFlags := 25, nameIndex := 599, descriptorIndex := 600, attributes := #[] }, { accessFlags := 24, nameIndex := 1125, descriptorIndex := 18, attributes := #[] }, { accessFlags := 24, nameIndex := 1127, descriptorIndex := 18, attributes := #[] }])
  fields := #[{ name := "value", type := (.array .byte), accessFlags := 18, slot := 0, constantValue := 0 }, { name := "coder", type := .byte, accessFlags := 18, slot := 1, constantValue := 0 }, { name := "hash", type := .int, accessFlags := 2, slot := 2, constantValue := 0 }, { name := "hashIsZero", type := .boolean, accessFlags := 2, slot := 3, constantValue := 0 }, { name := "serialVersionUID", type := .long, accessFlags := 26, slot := 0, constantValue := 0 }, { name := "COMPACT_STRINGS", type := .boolean, accessFlags := 24, slot := 1, constantValue := 0 }, { name := "serialPersistentFields", type := (.array (.object "java/io/ObjectStreamField")), accessFlags := 26, slot := 2, constantValue := 0 }, { name := "REPL", type := .char, accessFlags := 26, slot := 3, constantValue := 0 }, { name := "CASE_INSENSITIVE_ORDER", type := (.object "java/util/Comparator"), accessFlags := 25, slot := 4, constantValue := 0 }, { name := "LATIN1", type := .byte, accessFlags := 24, slot := 5, constantValue := 0 }, { name := "UTF16", type := .byte, accessFlags := 24, slot := 6, constantValue := 0 }]
  methods := #[k7m0, k7m1, k7m2, k7m3]
  instanceTypes := #[(.array .byte), .byte, .int, .boolean]
  staticTypes := #[.long, .boolean, (.array (.object "java/io/ObjectStreamField")), .char, (.object "java/util/Comparator"), .byte, .byte]
  resolved := Array.replicate 1451 none
  statics := some 0 }

def pool8 : Array CpInfo := pool [(6, .class_ 8), (1, u "java/lang/Object"), (0, u "<init>"), (0, u "()V"), (1, .class_ 14), (1, u "java/lang/StringUTF16"), (31, u "$assertionsDisabled"), (0, u "Z"), (13, u "HI_BYTE_SHIFT"), (0, u "I"), (2, u "LO_BYTE_SHIFT"), (49, .methodref 12 116), (0, .nameAndType 117 118), (0, u "compress"), (0, u "([CI[BII)I"), (3, u "([CII)[B"), (138, u "coderFromArrayLen"), (0, u "([BI)B"), (106, .class_ 371), (1, u "java/lang/StringUTF16$LinesSpliterator"), (58, u "MAX_LENGTH"), (196, .class_ 628), (0, u "java/lang/StringUTF16$CodePointsSpliterator"), (0, .class_ 630), (0, u "java/lang/StringUTF16$CharsSpliterator")] 4

def k8m0 : Method := { name := "<init>", desc := "()V", sig := { parameters := [], returnType := none }, accessFlags := 0, code := none }
def k8c1 : Code := { maxStack := 2, maxLocals := 2, code := jdk_52_method_15_code, exceptionTable := #[], attributes := #[] }
def k8m1 : Method := { name := "coderFromArrayLen", desc := "([BI)B", sig := { parameters := [(.array .byte), .int], returnType := some .byte }, accessFlags := 8, code := some k8c1 }
def k8c2 : Code := { maxStack := 5, maxLocals := 6, code := jdk_52_method_16_code, exceptionTable := #[], attributes := #[] }
def k8m2 : Method := { name := "compress", desc := "([CII)[B", sig := { parameters := [(.array .char), .int, .int], returnType := some (.array .byte) }, accessFlags := 9, code := some k8c2 }
def k8c3 : Code := { maxStack := 3, maxLocals := 7, code := jdk_52_method_21_code, exceptionTable := #[], attributes := #[] }
def k8m3 : Method := { name := "compress", desc := "([CI[BII)I", sig := { parameters := [(.array .char), .int, (.array .byte), .int, .int], returnType := some .int }, accessFlags := 9, code := some k8c3 }
/-- java/lang/StringUTF16 -/
def k8 : Class := { plain "java/lang/StringUTF16" (some 0) with
  accessFlags := 48
  interfaces := #[]
  cf := some (fileOf pool8 12 #[.nestMembers #[627, 629, 369]] #[{ accessFlags := 0, nameIndex := 9, descriptorIndex := 10, attributes := #[] }, { accessFlags := 8, nameIndex := 261, descriptorIndex := 262, attributes := #[] }, { accessFlags := 9, nameIndex := 117, descriptorIndex := 122, attributes := #[] }, { accessFlags := 9, nameIndex := 117, descriptorIndex := 118, attributes := #[] }] 48 6 #[] #[{ accessFlags := 26, nameIndex := 61, descriptorIndex := 62, attributes := #[] }, { accessFlags := 26, nameIndex := 65, descriptorIndex := 62, attributes := #[] }, { accessFlags := 24, nameIndex := 430, descriptorIndex := 62, attributes := #[] }, { accessFlags := 4120, nameIndex := 46, descriptorIndex := 47, attributes := #[] }])
  fields := #[{ name := "HI_BYTE_SHIFT", type := .int, accessFlags := 26, slot := 0, constantValue := 0 }, { name := "LO_BYTE_SHIFT", type := .int, accessFlags := 26, slot := 1, constantValue := 0 }, { name := "MAX_LENGTH", type := .int, accessFlags := 24, slot := 2, constantValue := 0 }, { name := "$assertionsDisabled", type := .boolean, accessFlags := 4120, slot := 3, constantValue := 0 }]
  methods := #[k8m0, k8m1, k8m2, k8m3]
  instanceTypes := #[]
  staticTypes := #[.int, .int, .int, .boolean]
  resolved := Array.replicate 635 none
  statics := none }

def pool9 : Array CpInfo := pool [(8, .class_ 10), (1, u "java/lang/Iterable"), (24, .class_ 36), (0, u "java/lang/Object")] 25

/-- java/lang/Iterable -/
def k9 : Class := { plain "java/lang/Iterable" (some 0) with
  accessFlags := 1537
  interfaces := #[]
  cf := some (fileOf pool9 8 #[] #[] 1537 35 #[] #[])
  fields := #[]
  methods := #[]
  instanceTypes := #[]
  staticTypes := #[]
  resolved := Array.replicate 62 none
  statics := none }

def pool10 : Array CpInfo := pool [(10, .class_ 12), (1, u "java/util/Collection"), (47, .class_ 61), (0, u "java/lang/Object"), (0, .class_ 63), (0, u "java/lang/Iterable")] 51

/-- java/util/Collection -/
def k10 : Class := { plain "java/util/Collection" (some 0) with
  accessFlags := 1537
  interfaces := #[9]
  cf := some (fileOf pool10 10 #[] #[] 1537 60 #[62] #[])
  fields := #[]
  methods := #[]
  instanceTypes := #[]
  staticTypes := #[]
  resolved := Array.replicate 115 none
  statics := none }

def pool11 : Array CpInfo := pool [(1, .methodref 2 3), (0, .class_ 4), (0, .nameAndType 5 6), (0, u "java/lang/Object"), (0, u "<init>"), (0, u "()V"), (1, .class_ 10), (1, u "java/util/AbstractCollection"), (66, .class_ 78), (0, u "java/util/Collection")] 81

def k11c0 : Code := { maxStack := 1, maxLocals := 1, code := jdk_22_method_1_code, exceptionTable := #[], attributes := #[] }
def k11m0 : Method := { name := "<init>", desc := "()V", sig := { parameters := [], returnType := none }, accessFlags := 4, code := some k11c0 }
/-- java/util/AbstractCollection -/
def k11 : Class := { plain "java/util/AbstractCollection" (some 0) with
  accessFlags := 1057
  interfaces := #[10]
  cf := some (fileOf pool11 8 #[] #[{ accessFlags := 4, nameIndex := 5, descriptorIndex := 6, attributes := #[] }] 1057 2 #[77] #[])
  fields := #[]
  methods := #[k11m0]
  instanceTypes := #[]
  staticTypes := #[]
  resolved := Array.replicate 160 none
  statics := none }

def pool12 : Array CpInfo := pool [(8, .class_ 10), (1, u "java/util/SequencedCollection"), (15, .class_ 27), (0, u "java/lang/Object"), (0, .class_ 29), (0, u "java/util/Collection")] 27

/-- java/util/SequencedCollection -/
def k12 : Class := { plain "java/util/SequencedCollection" (some 0) with
  accessFlags := 1537
  interfaces := #[10]
  cf := some (fileOf pool12 8 #[] #[] 1537 26 #[28] #[])
  fields := #[]
  methods := #[]
  instanceTypes := #[]
  staticTypes := #[]
  resolved := Array.replicate 57 none
  statics := none }

def pool13 : Array CpInfo := pool [(8, .class_ 10), (1, u "java/util/List"), (7, u "()Z"), (48, u "isEmpty"), (7, u "get"), (0, u "(I)Ljava/lang/Object;"), (2, u "size"), (0, u "()I"), (22, .class_ 104), (0, u "java/lang/Object"), (15, .class_ 121), (0, u "java/util/SequencedCollection")] 129

def k13m0 : Method := { name := "size", desc := "()I", sig := { parameters := [], returnType := some .int }, accessFlags := 1025, code := none }
def k13m1 : Method := { name := "isEmpty", desc := "()Z", sig := { parameters := [], returnType := some .boolean }, accessFlags := 1025, code := none }
def k13m2 : Method := { name := "get", desc := "(I)Ljava/lang/Object;", sig := { parameters := [.int], returnType := some (.object "java/lang/Object") }, accessFlags := 1025, code := none }
/-- java/util/List -/
def k13 : Class := { plain "java/util/List" (some 0) with
  accessFlags := 1537
  interfaces := #[12]
  cf := some (fileOf pool13 8 #[] #[{ accessFlags := 1025, nameIndex := 79, descriptorIndex := 80, attributes := #[] }, { accessFlags := 1025, nameIndex := 67, descriptorIndex := 18, attributes := #[] }, { accessFlags := 1025, nameIndex := 75, descriptorIndex := 76, attributes := #[] }] 1537 103 #[120] #[])
  fields := #[]
  methods := #[k13m0, k13m1, k13m2]
  instanceTypes := #[]
  staticTypes := #[]
  resolved := Array.replicate 251 none
  statics := none }

def pool14 : Array CpInfo := pool [(1, .methodref 2 3), (0, .class_ 4), (0, .nameAndType 5 6), (0, u "java/util/AbstractCollection"), (0, u "<init>"), (0, u "()V"), (0, .fieldref 8 9), (0, .class_ 10), (0, .nameAndType 11 12), (0, u "java/util/AbstractList"), (0, u "modCount"), (0, u "I"), (64, .class_ 78), (0, u "java/util/AbstractList$Itr"), (3, .class_ 83), (0, u "java/util/AbstractList$ListItr"), (9, .class_ 94), (0, u "java/util/AbstractList$RandomAccessSubList"), (3, .class_ 99), (0, u "java/util/AbstractList$SubList"), (33, .class_ 134), (0, u "java/util/List"), (73, .class_ 209), (0, u "java/util/AbstractList$SubList$1"), (0, .class_ 211), (0, u "java/util/AbstractList$RandomAccessSpliterator")] 6

def k14c0 : Code := { maxStack := 2, maxLocals := 1, code := jdk_39_method_1_code, exceptionTable := #[], attributes := #[] }
def k14m0 : Method := { name := "<init>", desc := "()V", sig := { parameters := [], returnType := none }, accessFlags := 4, code := some k14c0 }
/-- java/util/AbstractList -/
def k14 : Class := { plain "java/util/AbstractList" (some 11) with
  accessFlags := 1057
  interfaces := #[13]
  cf := some (fileOf pool14 8 #[.nestMembers #[93, 98, 208, 210, 82, 77]] #[{ accessFlags := 4, nameIndex := 5, descriptorIndex := 6, attributes := #[] }] 1057 2 #[133] #[{ accessFlags := 132, nameIndex := 11, descriptorIndex := 12, attributes := #[] }])
  fields := #[{ name := "modCount", type := .int, accessFlags := 132, slot := 0, constantValue := 0 }]
  methods := #[k14m0]
  instanceTypes := #[.int]
  staticTypes := #[]
  resolved := Array.replicate 218 none
  statics := none }

def pool15 : Array CpInfo := pool [(1, .class_ 2), (0, u "java/util/RandomAccess"), (0, .class_ 4), (0, u "java/lang/Object")] 2

/-- java/util/RandomAccess -/
def k15 : Class := { plain "java/util/RandomAccess" (some 0) with
  accessFlags := 1537
  interfaces := #[]
  cf := some (fileOf pool15 1 #[] #[] 1537 3 #[] #[])
  fields := #[]
  methods := #[]
  instanceTypes := #[]
  staticTypes := #[]
  resolved := Array.replicate 7 none
  statics := none }

def pool16 : Array CpInfo := pool [(1, .class_ 2), (0, u "java/lang/Cloneable"), (0, .class_ 4), (0, u "java/lang/Object")] 2

/-- java/lang/Cloneable -/
def k16 : Class := { plain "java/lang/Cloneable" (some 0) with
  accessFlags := 1537
  interfaces := #[]
  cf := some (fileOf pool16 1 #[] #[] 1537 3 #[] #[])
  fields := #[]
  methods := #[]
  instanceTypes := #[]
  staticTypes := #[]
  resolved := Array.replicate 7 none
  statics := none }

def pool17 : Array CpInfo := pool [(1, .methodref 2 3), (0, .class_ 4), (0, .nameAndType 5 6), (0, u "java/util/AbstractList"), (0, u "<init>"), (0, u "()V"), (0, .class_ 8), (0, u "java/lang/Object"), (0, .fieldref 10 11), (0, .class_ 12), (0, .nameAndType 13 14), (0, u "java/util/ArrayList"), (0, u "elementData"), (0, u "[Ljava/lang/Object;"), (2, u "EMPTY_ELEMENTDATA"), (21, .fieldref 10 40), (0, .nameAndType 41 14), (0, u "DEFAULTCAPACITY_EMPTY_ELEMENTDATA"), (5, u "()[Ljava/lang/Object;"), (0, .fieldref 10 49), (0, .nameAndType 50 51), (0, u "size"), (0, u "I"), (11, .fieldref 10 64), (0, .nameAndType 65 51), (0, u "modCount"), (3, .methodref 10 70), (0, .nameAndType 71 72), (0, u "grow"), (0, u "(I)[Ljava/lang/Object;"), (6, .methodref 80 81), (0, .class_ 82), (0, .nameAndType 83 84), (0, u "java/lang/Math"), (0, u "max"), (0, u "(II)I"), (11, u "(Ljava/lang/Object;)Z"), (21, .methodref 119 120), (0, .class_ 121), (0, .nameAndType 122 84), (0, u "java/util/Objects"), (0, u "checkIndex"), (0, .methodref 10 124), (0, .nameAndType 13 125), (0, u "(I)Ljava/lang/Object;"), (3, .methodref 10 130), (0, .nameAndType 71 47), (0, .methodref 10 132), (0, .nameAndType 133 134), (0, u "add"), (0, u "(Ljava/lang/Object;[Ljava/lang/Object;I)V"), (13, .class_ 149), (0, u "java/util/List"), (23, u "()Z"), (12, u "()I"), (75, .class_ 263), (0, u "java/util/ArrayList$ListItr"), (3, .class_ 268), (0, u "java/util/ArrayList$Itr"), (7, .class_ 277), (0, u "java/util/ArrayList$SubList"), (12, .class_ 291), (0, u "java/util/ArrayList$ArrayListSpliterator"), (37, .class_ 330), (0, u "java/util/RandomAccess"), (0, .class_ 332), (0, u "java/lang/Cloneable"), (0, .class_ 334), (0, u "java/io/Serializable"), (0, u "serialVersionUID"), (0, u "J"), (3, u "DEFAULT_CAPACITY"), (22, u "isEmpty"), (17, u "get"), (118, .class_ 501), (0, u "java/util/ArrayList$SubList$2"), (0, .class_ 503), (0, u "java/util/ArrayList$SubList$1")] 5

def k17c0 : Code := { maxStack := 2, maxLocals := 1, code := jdk_38_method_2_code, exceptionTable := #[], attributes := #[] }
def k17m0 : Method := { name := "<init>", desc := "()V", sig := { parameters := [], returnType := none }, accessFlags := 1, code := some k17c0 }
def k17c1 : Code := { maxStack := 4, maxLocals := 4, code := jdk_38_method_6_code, exceptionTable := #[], attributes := #[] }
def k17m1 : Method := { name := "grow", desc := "(I)[Ljava/lang/Object;", sig := { parameters := [.int], returnType := some (.array (.object "java/lang/Object")) }, accessFlags := 2, code := some k17c1 }
def k17c2 : Code := { maxStack := 3, maxLocals := 1, code := jdk_38_method_7_code, exceptionTable := #[], attributes := #[] }
def k17m2 : Method := { name := "grow", desc := "()[Ljava/lang/Object;", sig := { parameters := [], returnType := some (.array (.object "java/lang/Object")) }, accessFlags := 2, code := some k17c2 }
def k17c3 : Code := { maxStack := 1, maxLocals := 1, code := jdk_38_method_8_code, exceptionTable := #[], attributes := #[] }
def k17m3 : Method := { name := "size", desc := "()I", sig := { parameters := [], returnType := some .int }, accessFlags := 1, code := some k17c3 }
def k17c4 : Code := { maxStack := 1, maxLocals := 1, code := jdk_38_method_9_code, exceptionTable := #[], attributes := #[] }
def k17m4 : Method := { name := "isEmpty", desc := "()Z", sig := { parameters := [], returnType := some .boolean }, accessFlags := 1, code := some k17c4 }
def k17c5 : Code := { maxStack := 2, maxLocals := 2, code := jdk_38_method_18_code, exceptionTable := #[], attributes := #[] }
def k17m5 : Method := { name := "elementData", desc := "(I)Ljava/lang/Object;", sig := { parameters := [.int], returnType := some (.object "java/lang/Object") }, accessFlags := 0, code := some k17c5 }
def k17c6 : Code := { maxStack := 2, maxLocals := 2, code := jdk_38_method_20_code, exceptionTable := #[], attributes := #[] }
def k17m6 : Method := { name := "get", desc := "(I)Ljava/lang/Object;", sig := { parameters := [.int], returnType := some (.object "java/lang/Object") }, accessFlags := 1, code := some k17c6 }
def k17c7 : Code := { maxStack := 3, maxLocals := 4, code := jdk_38_method_24_code, exceptionTable := #[], attributes := #[] }
def k17m7 : Method := { name := "add", desc := "(Ljava/lang/Object;[Ljava/lang/Object;I)V", sig := { parameters := [(.object "java/lang/Object"), (.array (.object "java/lang/Object")), .int], returnType := none }, accessFlags := 2, code := some k17c7 }
def k17c8 : Code := { maxStack := 4, maxLocals := 2, code := jdk_38_method_25_code, exceptionTable := #[], attributes := #[] }
def k17m8 : Method := { name := "add", desc := "(Ljava/lang/Object;)Z", sig := { parameters := [(.object "java/lang/Object")], returnType := some .boolean }, accessFlags := 1, code := some k17c8 }
/-- java/util/ArrayList -/
def k17 : Class := { plain "java/util/ArrayList" (some 14) with
  accessFlags := 33
  interfaces := #[13, 15, 16, 2]
  cf := some (fileOf pool17 10 #[.nestMembers #[290, 276, 500, 502, 262, 267]] #[{ accessFlags := 1, nameIndex := 5, descriptorIndex := 6, attributes := #[] }, { accessFlags := 2, nameIndex := 71, descriptorIndex := 72, attributes := #[] }, { accessFlags := 2, nameIndex := 71, descriptorIndex := 47, attributes := #[] }, { accessFlags := 1, nameIndex := 50, descriptorIndex := 186, attributes := #[] }, { accessFlags := 1, nameIndex := 363, descriptorIndex := 173, attributes := #[] }, { accessFlags := 0, nameIndex := 13, descriptorIndex := 125, attributes := #[] }, { accessFlags := 1, nameIndex := 381, descriptorIndex := 125, attributes := #[] }, { accessFlags := 2, nameIndex := 133, descriptorIndex := 134, attributes := #[] }, { accessFlags := 1, nameIndex := 133, descriptorIndex := 96, attributes := #[] }] 33 2 #[148, 329, 331, 333] #[{ accessFlags := 26, nameIndex := 335, descriptorIndex := 336, attributes := #[] }, { accessFlags := 26, nameIndex := 340, descriptorIndex := 51, attributes := #[] }, { accessFlags := 26, nameIndex := 17, descriptorIndex := 14, attributes := #[] }, { accessFlags := 26, nameIndex := 41, descriptorIndex := 14, attributes := #[] }, { accessFlags := 128, nameIndex := 13, descriptorIndex := 14, attributes := #[] }, { accessFlags := 2, nameIndex := 50, descriptorIndex := 51, attributes := #[] }])
  fields := #[{ name := "serialVersionUID", type := .long, accessFlags := 26, slot := 0, constantValue := 0 }, { name := "DEFAULT_CAPACITY", type := .int, accessFlags := 26, slot := 1, constantValue := 0 }, { name := "EMPTY_ELEMENTDATA", type := (.array (.object "java/lang/Object")), accessFlags := 26, slot := 2, constantValue := 0 }, { name := "DEFAULTCAPACITY_EMPTY_ELEMENTDATA", type := (.array (.object "java/lang/Object")), accessFlags := 26, slot := 3, constantValue := 0 }, { name := "elementData", type := (.array (.object "java/lang/Object")), accessFlags := 128, slot := 1, constantValue := 0 }, { name := "size", type := .int, accessFlags := 2, slot := 2, constantValue := 0 }]
  methods := #[k17m0, k17m1, k17m2, k17m3, k17m4, k17m5, k17m6, k17m7, k17m8]
  instanceTypes := #[.int, (.array (.object "java/lang/Object")), .int]
  staticTypes := #[.long, .int, (.array (.object "java/lang/Object")), (.array (.object "java/lang/Object"))]
  resolved := Array.replicate 509 none
  statics := some 1 }

def pool18 : Array CpInfo := pool [(1, .class_ 2), (0, u "java/lang/Math"), (1, .class_ 6), (1, u "java/lang/Object"), (0, u "<init>"), (0, u "()V"), (89, .class_ 100), (1, u "java/lang/Math$RandomNumberGeneratorHolder"), (71, u "negativeZeroFloatBits"), (0, u "J"), (2, u "negativeZeroDoubleBits"), (21, u "max"), (46, u "$assertionsDisabled"), (0, u "Z"), (88, u "(II)I"), (2, u "twoToTheDoubleScaleDown"), (0, u "D"), (4, u "twoToTheDoubleScaleUp"), (9, u "E"), (3, u "PI"), (2, u "TAU"), (2, u "DEGREES_TO_RADIANS"), (0, u "RADIANS_TO_DEGREES")] 94

def k18m0 : Method := { name := "<init>", desc := "()V", sig := { parameters := [], returnType := none }, accessFlags := 2, code := none }
def k18c1 : Code := { maxStack := 2, maxLocals := 2, code := jdk_29_method_65_code, exceptionTable := #[], attributes := #[] }
def k18m1 : Method := { name := "max", desc := "(II)I", sig := { parameters := [.int, .int], returnType := some .int }, accessFlags := 9, code := some k18c1 }
/-- java/lang/Math -/
def k18 : Class := { plain "java/lang/Math" (some 0) with
  accessFlags := 49
  interfaces := #[]
  cf := some (fileOf pool18 1 #[.nestMembers #[98]] #[{ accessFlags := 2, nameIndex := 7, descriptorIndex := 8, attributes := #[] }, { accessFlags := 9, nameIndex := 198, descriptorIndex := 335, attributes := #[] }] 49 4 #[] #[{ accessFlags := 25, nameIndex := 354, descriptorIndex := 339, attributes := #[] }, { accessFlags := 25, nameIndex := 358, descriptorIndex := 339, attributes := #[] }, { accessFlags := 25, nameIndex := 361, descriptorIndex := 339, attributes := #[] }, { accessFlags := 26, nameIndex := 364, descriptorIndex := 339, attributes := #[] }, { accessFlags := 26, nameIndex := 365, descriptorIndex := 339, attributes := #[] }, { accessFlags := 26, nameIndex := 172, descriptorIndex := 173, attributes := #[] }, { accessFlags := 26, nameIndex := 176, descriptorIndex := 173, attributes := #[] }, { accessFlags := 8, nameIndex := 344, descriptorIndex := 339, attributes := #[] }, { accessFlags := 8, nameIndex := 338, descriptorIndex := 339, attributes := #[] }, { accessFlags := 4120, nameIndex := 245, descriptorIndex := 246, attributes := #[] }])
  fields := #[{ name := "E", type := .double, accessFlags := 25, slot := 0, constantValue := 0 }, { name := "PI", type := .double, accessFlags := 25, slot := 1, constantValue := 0 }, { name := "TAU", type := .double, accessFlags := 25, slot := 2, constantValue := 0 }, { name := "DEGREES_TO_RADIANS", type := .double, accessFlags := 26, slot := 3, constantValue := 0 }, { name := "RADIANS_TO_DEGREES", type := .double, accessFlags := 26, slot := 4, constantValue := 0 }, { name := "negativeZeroFloatBits", type := .long, accessFlags := 26, slot := 5, constantValue := 0 }, { name := "negativeZeroDoubleBits", type := .long, accessFlags := 26, slot := 6, constantValue := 0 }, { name := "twoToTheDoubleScaleUp", type := .double, accessFlags := 8, slot := 7, constantValue := 0 }, { name := "twoToTheDoubleScaleDown", type := .double, accessFlags := 8, slot := 8, constantValue := 0 }, { name := "$assertionsDisabled", type := .boolean, accessFlags := 4120, slot := 9, constantValue := 0 }]
  methods := #[k18m0, k18m1]
  instanceTypes := #[]
  staticTypes := #[.double, .double, .double, .double, .double, .long, .long, .double, .double, .boolean]
  resolved := Array.replicate 460 none
  statics := none }

def pool19 : Array CpInfo := pool [(1, .methodref 2 3), (0, .class_ 4), (0, .nameAndType 5 6), (0, u "java/lang/Object"), (0, u "<init>"), (0, u "()V"), (0, .class_ 8), (0, u "java/lang/Record")] 13

def k19c0 : Code := { maxStack := 1, maxLocals := 1, code := jdk_30_method_1_code, exceptionTable := #[], attributes := #[] }
def k19m0 : Method := { name := "<init>", desc := "()V", sig := { parameters := [], returnType := none }, accessFlags := 4, code := some k19c0 }
/-- java/lang/Record -/
def k19 : Class := { plain "java/lang/Record" (some 0) with
  accessFlags := 1057
  interfaces := #[]
  cf := some (fileOf pool19 7 #[] #[{ accessFlags := 4, nameIndex := 5, descriptorIndex := 6, attributes := #[] }] 1057 2 #[] #[])
  fields := #[]
  methods := #[k19m0]
  instanceTypes := #[]
  staticTypes := #[]
  resolved := Array.replicate 22 none
  statics := none }

def pool20 : Array CpInfo := pool [(1, .methodref 2 3), (0, .class_ 4), (0, .nameAndType 5 6), (0, u "java/lang/Record"), (0, u "<init>"), (0, u "()V"), (0, .fieldref 8 9), (0, .class_ 10), (0, .nameAndType 11 12), (0, u "com/example/freshet/freshet/Command$Arguments"), (0, u "options"), (0, u "Ljava/util/Map;"), (0, .fieldref 8 14), (0, .nameAndType 15 16), (0, u "flags"), (0, u "Ljava/util/Set;"), (0, .fieldref 8 18), (0, .nameAndType 19 20), (0, u "files"), (0, u "Ljava/util/List;"), (17, .interfaceMethodref 39 40), (0, .class_ 41), (0, .nameAndType 42 43), (0, u "java/util/List"), (0, u "isEmpty"), (0, u "()Z"), (32, u "(Ljava/util/Map;Ljava/util/Set;Ljava/util/List;)V"), (7, u "traceFiles"), (0, u "()Ljava/util/List;"), (11, .class_ 98), (0, u "com/example/freshet/freshet/Command")] 32

def k20c0 : Code := { maxStack := 2, maxLocals := 4, code := prog_9_method_1_code, exceptionTable := #[], attributes := #[] }
def k20m0 : Method := { name := "<init>", desc := "(Ljava/util/Map;Ljava/util/Set;Ljava/util/List;)V", sig := { parameters := [(.object "java/util/Map"), (.object "java/util/Set"), (.object "java/util/List")], returnType := none }, accessFlags := 0, code := some k20c0 }
def k20c1 : Code := { maxStack := 3, maxLocals := 1, code := prog_9_method_3_code, exceptionTable := #[], attributes := #[] }
def k20m1 : Method := { name := "traceFiles", desc := "()Ljava/util/List;", sig := { parameters := [], returnType := some (.object "java/util/List") }, accessFlags := 0, code := some k20c1 }
/-- com/example/freshet/freshet/Command$Arguments -/
def k20 : Class := { plain "com/example/freshet/freshet/Command$Arguments" (some 19) with
  accessFlags := 48
  interfaces := #[]
  cf := some (fileOf pool20 8 #[.nestHost 97] #[{ accessFlags := 0, nameIndex := 5, descriptorIndex := 76, attributes := #[] }, { accessFlags := 0, nameIndex := 84, descriptorIndex := 85, attributes := #[] }] 48 2 #[] #[{ accessFlags := 18, nameIndex := 11, descriptorIndex := 12, attributes := #[] }, { accessFlags := 18, nameIndex := 15, descriptorIndex := 16, attributes := #[] }, { accessFlags := 18, nameIndex := 19, descriptorIndex := 20, attributes := #[] }])
  fields := #[{ name := "options", type := (.object "java/util/Map"), accessFlags := 18, slot := 0, constantValue := 0 }, { name := "flags", type := (.object "java/util/Set"), accessFlags := 18, slot := 1, constantValue := 0 }, { name := "files", type := (.object "java/util/List"), accessFlags := 18, slot := 2, constantValue := 0 }]
  methods := #[k20m0, k20m1]
  instanceTypes := #[(.object "java/util/Map"), (.object "java/util/Set"), (.object "java/util/List")]
  staticTypes := #[]
  resolved := Array.replicate 131 none
  statics := none }

def pool21 : Array CpInfo := pool [(2, .class_ 4), (1, u "java/lang/Object"), (0, u "<init>"), (0, u "()V"), (35, .class_ 44), (1, u "java/util/Objects"), (60, .methodref 106 107), (0, .class_ 108), (0, .nameAndType 109 110), (0, u "jdk/internal/util/Preconditions"), (0, u "checkIndex"), (0, u "(IILjava/util/function/BiFunction;)I"), (60, u "(II)I")] 12

def k21m0 : Method := { name := "<init>", desc := "()V", sig := { parameters := [], returnType := none }, accessFlags := 2, code := none }
def k21c1 : Code := { maxStack := 3, maxLocals := 2, code := jdk_31_method_17_code, exceptionTable := #[], attributes := #[] }
def k21m1 : Method := { name := "checkIndex", desc := "(II)I", sig := { parameters := [.int, .int], returnType := some .int }, accessFlags := 9, code := some k21c1 }
/-- java/util/Objects -/
def k21 : Class := { plain "java/util/Objects" (some 0) with
  accessFlags := 49
  interfaces := #[]
  cf := some (fileOf pool21 42 #[] #[{ accessFlags := 2, nameIndex := 5, descriptorIndex := 6, attributes := #[] }, { accessFlags := 9, nameIndex := 109, descriptorIndex := 171, attributes := #[] }] 49 2 #[] #[])
  fields := #[]
  methods := #[k21m0, k21m1]
  instanceTypes := #[]
  staticTypes := #[]
  resolved := Array.replicate 184 none
  statics := none }

def pool22 : Array CpInfo := pool [(2, .class_ 4), (1, u "java/lang/Object"), (0, u "<init>"), (0, u "()V"), (17, .class_ 26), (1, u "jdk/internal/util/Preconditions"), (6, u "checkIndex"), (21, .class_ 56), (0, u "jdk/internal/util/Preconditions$4"), (57, .class_ 115), (0, u "jdk/internal/util/Preconditions$1"), (7, u "SIOOBE_FORMATTER"), (0, u "Ljava/util/function/BiFunction;"), (0, .class_ 126), (0, u "jdk/internal/util/Preconditions$2"), (3, u "AIOOBE_FORMATTER"), (0, .class_ 132), (0, u "jdk/internal/util/Preconditions$3"), (3, u "IOOBE_FORMATTER"), (41, u "(IILjava/util/function/BiFunction;)I")] 15

def k22m0 : Method := { name := "<init>", desc := "()V", sig := { parameters := [], returnType := none }, accessFlags := 1, code := none }
def k22c1 : Code := { maxStack := 3, maxLocals := 3, code := jdk_41_method_11_code, exceptionTable := #[], attributes := #[] }
def k22m1 : Method := { name := "checkIndex", desc := "(IILjava/util/function/BiFunction;)I", sig := { parameters := [.int, .int, (.object "java/util/function/BiFunction")], returnType := some .int }, accessFlags := 9, code := some k22c1 }
/-- jdk/internal/util/Preconditions -/
def k22 : Class := { plain "jdk/internal/util/Preconditions" (some 0) with
  accessFlags := 33
  interfaces := #[]
  cf := some (fileOf pool22 24 #[.nestMembers #[55, 131, 125, 114]] #[{ accessFlags := 1, nameIndex := 5, descriptorIndex := 6, attributes := #[] }, { accessFlags := 9, nameIndex := 33, descriptorIndex := 178, attributes := #[] }] 33 2 #[] #[{ accessFlags := 25, nameIndex := 123, descriptorIndex := 124, attributes := #[] }, { accessFlags := 25, nameIndex := 130, descriptorIndex := 124, attributes := #[] }, { accessFlags := 25, nameIndex := 136, descriptorIndex := 124, attributes := #[] }])
  fields := #[{ name := "SIOOBE_FORMATTER", type := (.object "java/util/function/BiFunction"), accessFlags := 25, slot := 0, constantValue := 0 }, { name := "AIOOBE_FORMATTER", type := (.object "java/util/function/BiFunction"), accessFlags := 25, slot := 1, constantValue := 0 }, { name := "IOOBE_FORMATTER", type := (.object "java/util/function/BiFunction"), accessFlags := 25, slot := 2, constantValue := 0 }]
  methods := #[k22m0, k22m1]
  instanceTypes := #[]
  staticTypes := #[(.object "java/util/function/BiFunction"), (.object "java/util/function/BiFunction"), (.object "java/util/function/BiFunction")]
  resolved := Array.replicate 194 none
  statics := some 2 }

def pool23 : Array CpInfo := pool [(4, .class_ 6), (1, u "java/lang/Object"), (0, u "<init>"), (0, u "()V"), (5, .class_ 16), (1, u "java/lang/StringLatin1"), (104, u "$assertionsDisabled"), (0, u "Z"), (98, .class_ 223), (1, u "java/lang/StringLatin1$LinesSpliterator"), (166, .class_ 391), (0, u "java/lang/StringLatin1$CharsSpliterator")] 3

def k23m0 : Method := { name := "<init>", desc := "()V", sig := { parameters := [], returnType := none }, accessFlags := 0, code := none }
/-- java/lang/StringLatin1 -/
def k23 : Class := { plain "java/lang/StringLatin1" (some 0) with
  accessFlags := 48
  interfaces := #[]
  cf := some (fileOf pool23 14 #[.nestMembers #[390, 221]] #[{ accessFlags := 0, nameIndex := 7, descriptorIndex := 8, attributes := #[] }] 48 4 #[] #[{ accessFlags := 4120, nameIndex := 121, descriptorIndex := 122, attributes := #[] }])
  fields := #[{ name := "$assertionsDisabled", type := .boolean, accessFlags := 4120, slot := 0, constantValue := 0 }]
  methods := #[k23m0]
  instanceTypes := #[]
  staticTypes := #[.boolean]
  resolved := Array.replicate 395 none
  statics := none }

def pool24 : Array CpInfo := pool [(9, u "<init>"), (6, .class_ 18), (1, u "java/lang/Object"), (0, u "()V"), (1, .class_ 23), (1, u "jdk/internal/util/ArraysSupport"), (0, u "LOG2_ARRAY_LONG_INDEX_SCALE"), (0, u "I"), (2, u "U"), (0, u "Ljdk/internal/misc/Unsafe;"), (8, u "BIG_ENDIAN"), (0, u "Z"), (8, u "LOG2_BYTE_BIT_SIZE"), (4, u "LOG2_ARRAY_INT_INDEX_SCALE"), (54, u "JLA"), (0, u "Ljdk/internal/access/JavaLangAccess;"), (11, u "LOG2_ARRAY_BOOLEAN_INDEX_SCALE"), (9, u "LOG2_ARRAY_BYTE_INDEX_SCALE"), (5, u "LOG2_ARRAY_CHAR_INDEX_SCALE"), (5, u "LOG2_ARRAY_SHORT_INDEX_SCALE"), (18, u "LOG2_ARRAY_FLOAT_INDEX_SCALE"), (24, u "LOG2_ARRAY_DOUBLE_INDEX_SCALE"), (89, u "T_BOOLEAN"), (2, u "T_CHAR"), (1, u "T_FLOAT"), (1, u "T_DOUBLE"), (1, u "T_BYTE"), (1, u "T_SHORT"), (1, u "T_INT"), (1, u "T_LONG"), (1, u "SOFT_MAX_ARRAY_LENGTH")] 83

def k24m0 : Method := { name := "<init>", desc := "()V", sig := { parameters := [], returnType := none }, accessFlags := 2, code := none }
/-- jdk/internal/util/ArraysSupport -/
def k24 : Class := { plain "jdk/internal/util/ArraysSupport" (some 0) with
  accessFlags := 33
  interfaces := #[]
  cf := some (fileOf pool24 21 #[] #[{ accessFlags := 2, nameIndex := 9, descriptorIndex := 19, attributes := #[] }] 33 16 #[] #[{ accessFlags := 24, nameIndex := 28, descriptorIndex := 29, attributes := #[] }, { accessFlags := 26, nameIndex := 38, descriptorIndex := 39, attributes := #[] }, { accessFlags := 25, nameIndex := 121, descriptorIndex := 25, attributes := #[] }, { accessFlags := 25, nameIndex := 131, descriptorIndex := 25, attributes := #[] }, { accessFlags := 25, nameIndex := 137, descriptorIndex := 25, attributes := #[] }, { accessFlags := 25, nameIndex := 143, descriptorIndex := 25, attributes := #[] }, { accessFlags := 25, nameIndex := 53, descriptorIndex := 25, attributes := #[] }, { accessFlags := 25, nameIndex := 24, descriptorIndex := 25, attributes := #[] }, { accessFlags := 25, nameIndex := 162, descriptorIndex := 25, attributes := #[] }, { accessFlags := 25, nameIndex := 187, descriptorIndex := 25, attributes := #[] }, { accessFlags := 26, nameIndex := 48, descriptorIndex := 25, attributes := #[] }, { accessFlags := 25, nameIndex := 277, descriptorIndex := 25, attributes := #[] }, { accessFlags := 25, nameIndex := 280, descriptorIndex := 25, attributes := #[] }, { accessFlags := 25, nameIndex := 282, descriptorIndex := 25, attributes := #[] }, { accessFlags := 25, nameIndex := 284, descriptorIndex := 25, attributes := #[] }, { accessFlags := 25, nameIndex := 286, descriptorIndex := 25, attributes := #[] }, { accessFlags := 25, nameIndex := 288, descriptorIndex := 25, attributes := #[] }, { accessFlags := 25, nameIndex := 290, descriptorIndex := 25, attributes := #[] }, { accessFlags := 25, nameIndex := 292, descriptorIndex := 25, attributes := #[] }, { accessFlags := 26, nameIndex := 108, descriptorIndex := 109, attributes := #[] }, { accessFlags := 25, nameIndex := 294, descriptorIndex := 25, attributes := #[] }])
  fields := #[{ name := "U", type := (.object "jdk/internal/misc/Unsafe"), accessFlags := 24, slot := 0, constantValue := 0 }, { name := "BIG_ENDIAN", type := .boolean, accessFlags := 26, slot := 1, constantValue := 0 }, { name := "LOG2_ARRAY_BOOLEAN_INDEX_SCALE", type := .int, accessFlags := 25, slot := 2, constantValue := 0 }, { name := "LOG2_ARRAY_BYTE_INDEX_SCALE", type := .int, accessFlags := 25, slot := 3, constantValue := 0 }, { name := "LOG2_ARRAY_CHAR_INDEX_SCALE", type := .int, accessFlags := 25, slot := 4, constantValue := 0 }, { name := "LOG2_ARRAY_SHORT_INDEX_SCALE", type := .int, accessFlags := 25, slot := 5, constantValue := 0 }, { name := "LOG2_ARRAY_INT_INDEX_SCALE", type := .int, accessFlags := 25, slot := 6, constantValue := 0 }, { name := "LOG2_ARRAY_LONG_INDEX_SCALE", type := .int, accessFlags := 25, slot := 7, constantValue := 0 }, { name := "LOG2_ARRAY_FLOAT_INDEX_SCALE", type := .int, accessFlags := 25, slot := 8, constantValue := 0 }, { name := "LOG2_ARRAY_DOUBLE_INDEX_SCALE", type := .int, accessFlags := 25, slot := 9, constantValue := 0 }, { name := "LOG2_BYTE_BIT_SIZE", type := .int, accessFlags := 26, slot := 10, constantValue := 0 }, { name := "T_BOOLEAN", type := .int, accessFlags := 25, slot := 11, constantValue := 0 }, { name := "T_CHAR", type := .int, accessFlags := 25, slot := 12, constantValue := 0 }, { name := "T_FLOAT", type := .int, accessFlags := 25, slot := 13, constantValue := 0 }, { name := "T_DOUBLE", type := .int, accessFlags := 25, slot := 14, constantValue := 0 }, { name := "T_BYTE", type := .int, accessFlags := 25, slot := 15, constantValue := 0 }, { name := "T_SHORT", type := .int, accessFlags := 25, slot := 16, constantValue := 0 }, { name := "T_INT", type := .int, accessFlags := 25, slot := 17, constantValue := 0 }, { name := "T_LONG", type := .int, accessFlags := 25, slot := 18, constantValue := 0 }, { name := "JLA", type := (.object "jdk/internal/access/JavaLangAccess"), accessFlags := 26, slot := 19, constantValue := 0 }, { name := "SOFT_MAX_ARRAY_LENGTH", type := .int, accessFlags := 25, slot := 20, constantValue := 0 }]
  methods := #[k24m0]
  instanceTypes := #[]
  staticTypes := #[(.object "jdk/internal/misc/Unsafe"), .boolean, .int, .int, .int, .int, .int, .int, .int, .int, .int, .int, .int, .int, .int, .int, .int, .int, .int, (.object "jdk/internal/access/JavaLangAccess"), .int]
  resolved := Array.replicate 378 none
  statics := none }

/-- the primitive byte -/
def k25 : Class := { plain "byte" none with kind := .primitive 'B', accessFlags := 0x411 }
/-- [B -/
def k26 : Class := { plain "[B" (some 0) with kind := .array 25 .byte, interfaces := #[16, 2], accessFlags := 1041 }

/-- the primitive char -/
def k27 : Class := { plain "char" none with kind := .primitive 'C', accessFlags := 0x411 }
/-- [C -/
def k28 : Class := { plain "[C" (some 0) with kind := .array 27 .char, interfaces := #[16, 2], accessFlags := 1041 }

/-- the primitive int -/
def k29 : Class := { plain "int" none with kind := .primitive 'I', accessFlags := 0x411 }
/-- [I -/
def k30 : Class := { plain "[I" (some 0) with kind := .array 29 .int, interfaces := #[16, 2], accessFlags := 1041 }

/-- [Ljava/lang/Object; -/
def k31 : Class := { plain "[Ljava/lang/Object;" (some 0) with kind := .array 0 (.object "java/lang/Object"), interfaces := #[16, 2], accessFlags := 1041 }

def heap : Heap := #[{ cls := 7, slots := #[.long 0, .int 1, .null, .int 0, .null, .int 0, .int 0], vm := .statics 7 },
  { cls := 17, slots := #[.long 0, .int 0, .ref 3, .ref 4], vm := .statics 17 },
  { cls := 22, slots := #[.null, .null, .null], vm := .statics 22 },
  { cls := 31, slots := #[], vm := .none },
  { cls := 31, slots := #[], vm := .none }]
def classes : Array Class := #[k0, k1, k2, k3, k4, k5, k6, k7, k8, k9, k10, k11, k12, k13, k14, k15, k16, k17, k18, k19, k20, k21, k22, k23, k24, k25, k26, k27, k28, k29, k30, k31]
def interned : List (Array UInt16 × Addr) := []
def slotsUsed : Nat := 14
def theMethod : MethodId := ⟨1, 2⟩
def args0 : Array Value := #[.int 5, .int 7, .int 1, .int 2, .int 3]
def aboutOver (below : List Frame) : State where
  vm := { classes := classes, interned := interned.toArray }
  heap := heap
  slotsUsed := slotsUsed
  threads := #[{ frames := .invoking theMethod args0 :: below }]
def below0 : List Frame := [.native { method := ⟨0, 0⟩, args := #[] }]
def about1 : State := aboutOver below0
def p0 : Program := .bare "" "" ""
def e0 : Env := launch0.env 0 0 0
theorem w_frames : about1.frames = Frame.invoking theMethod args0 :: below0 := rfl
set_option maxRecDepth 65536 in
theorem w_args : argsFit about1.vm theMethod args0 = true := by decide +kernel
set_option maxRecDepth 65536 in
theorem w_heap : heapFits about1 = true := by decide +kernel
set_option maxRecDepth 65536 in
theorem w_runnable : about1.curStatus? = some .runnable := by decide +kernel
set_option maxRecDepth 65536 in
theorem w_alone : about1.alone = true := by decide +kernel
set_option maxRecDepth 65536 in
theorem w_named : about1.methodNamed? x = some theMethod := by decide +kernel
set_option maxRecDepth 65536 in
theorem w_hears : about1.hears theMethod below0 = true := by decide +kernel
set_option maxRecDepth 65536 in
theorem w_ripe : about1.ripe theMethod args0 below0 = true := by decide +kernel
theorem w_running : about1.status = .running := rfl
set_option maxRecDepth 65536 in
theorem w_room : about1.hasRoom e0.platform room_1 = true :=
  launch0.hasRoom_least _ room_1 (by decide +kernel) (by decide +kernel) (by decide +kernel) (by decide +kernel) (by decide +kernel) (by decide +kernel)
theorem allAtoms_all (ts : List Jvm.Cond) (a : Array Jvm.Value) (st : Jvm.State) : (allAtoms ts).before a st = ts.all (fun c => c.before a st) := by
  induction ts with
  | nil => rfl
  | cons c t ih =>
    show (Jvm.Cond.and c (allAtoms t)).before a st = _
    rw [Jvm.Cond.before_and, ih, List.all_cons]
def words1 : List Jvm.Cond := Jvm.Cond.code x code maxLocals ret :: tables_1
/-- a 'code' word, met by the world's own term for the bytes: nothing is compared byte by byte -/
theorem code_word {y : MethodName} {bytes : ByteArray} {mx : Nat} {rt : Option FieldType} {a : Array Value} {s : State} {m : MethodId} {meth : Method} {c : Code} (h1 : s.methodNamed? y = some m) (h2 : s.vm.method? m = some meth) (h3 : meth.code = some c) (h4 : c.code = bytes)
    (h5 : (c.maxLocals == mx && c.exceptionTable.isEmpty && decide (c.maxStack ≤ mostOperands) && decide (meth.sig.returnType = rt) && !meth.locks && decide (parseMethodDescriptor y.desc = some meth.sig)) = true) : (Jvm.Cond.code y bytes mx rt).before a s = true := by
  simp only [Bool.and_eq_true, beq_iff_eq, Bool.not_eq_true', decide_eq_true_eq] at h5
  obtain ⟨⟨⟨⟨⟨g1, g2⟩, g3⟩, g4⟩, g5⟩, g6⟩ := h5
  simp [Cond.before, Cond.holds, Cond.value, h1, h2, h3, h4, g1, g2, g3, g4, g5, g6]
def isCode : Jvm.Cond → Bool
  | .code _ _ _ _ => true
  | _ => false
theorem all_split {L : List Jvm.Cond} {P : Jvm.Cond → Bool} (h1 : L.all (fun c => isCode c || P c) = true) (h2 : ∀ c ∈ L.filter isCode, P c = true) : L.all P = true := by
  refine List.all_eq_true.mpr fun c hc => ?_
  have h := List.all_eq_true.mp h1 c hc
  rcases Bool.eq_false_or_eq_true (isCode c) with hi | hi
  · exact h2 c (List.mem_filter.mpr ⟨hc, hi⟩)
  · simpa [hi] using h
set_option maxRecDepth 65536 in
theorem w_c0 : (Jvm.Cond.code x code maxLocals ret).before args0 about1 = true := code_word (m := ⟨1, 2⟩) (meth := k1m2) (c := k1c2) (by decide +kernel) rfl rfl rfl (by decide +kernel)
set_option maxRecDepth 65536 in
theorem w_c1 : (Jvm.Cond.code ({ cls := "com/example/freshet/freshet/ArgumentsTraceFilesPinLaw", name := "name", desc := "(I)Ljava/lang/String;" } : Jvm.MethodName) method_2_code (2 : Nat) (Option.some (Jvm.ClassFile.FieldType.object "java/lang/String"))).before args0 about1 = true := code_word (m := ⟨1, 1⟩) (meth := k1m1) (c := k1c1) (by decide +kernel) rfl rfl rfl (by decide +kernel)
set_option maxRecDepth 65536 in
theorem w_c2 : (Jvm.Cond.code ({ cls := "java/lang/String", name := "<init>", desc := "([C)V" } : Jvm.MethodName) jdk_42_method_3_code (2 : Nat) (Option.none : Option Jvm.ClassFile.FieldType)).before args0 about1 = true := code_word (m := ⟨7, 1⟩) (meth := k7m1) (c := k7c1) (by decide +kernel) rfl rfl rfl (by decide +kernel)
set_option maxRecDepth 65536 in
theorem w_c3 : (Jvm.Cond.code ({ cls := "java/lang/String", name := "<init>", desc := "([CIILjava/lang/Void;)V" } : Jvm.MethodName) jdk_42_method_149_code (6 : Nat) (Option.none : Option Jvm.ClassFile.FieldType)).before args0 about1 = true := code_word (m := ⟨7, 3⟩) (meth := k7m3) (c := k7c3) (by decide +kernel) rfl rfl rfl (by decide +kernel)
set_option maxRecDepth 65536 in
theorem w_c4 : (Jvm.Cond.code ({ cls := "java/lang/Object", name := "<init>", desc := "()V" } : Jvm.MethodName) object_method_1_code (1 : Nat) (Option.none : Option Jvm.ClassFile.FieldType)).before args0 about1 = true := code_word (m := ⟨0, 0⟩) (meth := k0m0) (c := k0c0) (by decide +kernel) rfl rfl rfl (by decide +kernel)
set_option maxRecDepth 65536 in
theorem w_c5 : (Jvm.Cond.code ({ cls := "java/lang/StringUTF16", name := "compress", desc := "([CII)[B" } : Jvm.MethodName) jdk_52_method_16_code (6 : Nat) (Option.some (Jvm.ClassFile.FieldType.array Jvm.ClassFile.FieldType.byte))).before args0 about1 = true := code_word (m := ⟨8, 2⟩) (meth := k8m2) (c := k8c2) (by decide +kernel) rfl rfl rfl (by decide +kernel)
set_option maxRecDepth 65536 in
theorem w_c6 : (Jvm.Cond.code ({ cls := "java/lang/StringUTF16", name := "compress", desc := "([CI[BII)I" } : Jvm.MethodName) jdk_52_method_21_code (7 : Nat) (Option.some Jvm.ClassFile.FieldType.int)).before args0 about1 = true := code_word (m := ⟨8, 3⟩) (meth := k8m3) (c := k8c3) (by decide +kernel) rfl rfl rfl (by decide +kernel)
set_option maxRecDepth 65536 in
theorem w_c7 : (Jvm.Cond.code ({ cls := "java/lang/StringUTF16", name := "coderFromArrayLen", desc := "([BI)B" } : Jvm.MethodName) jdk_52_method_15_code (2 : Nat) (Option.some Jvm.ClassFile.FieldType.byte)).before args0 about1 = true := code_word (m := ⟨8, 1⟩) (meth := k8m1) (c := k8c1) (by decide +kernel) rfl rfl rfl (by decide +kernel)
set_option maxRecDepth 65536 in
theorem w_c8 : (Jvm.Cond.code ({ cls := "java/util/ArrayList", name := "<init>", desc := "()V" } : Jvm.MethodName) jdk_38_method_2_code (1 : Nat) (Option.none : Option Jvm.ClassFile.FieldType)).before args0 about1 = true := code_word (m := ⟨17, 0⟩) (meth := k17m0) (c := k17c0) (by decide +kernel) rfl rfl rfl (by decide +kernel)
set_option maxRecDepth 65536 in
theorem w_c9 : (Jvm.Cond.code ({ cls := "java/util/AbstractList", name := "<init>", desc := "()V" } : Jvm.MethodName) jdk_39_method_1_code (1 : Nat) (Option.none : Option Jvm.ClassFile.FieldType)).before args0 about1 = true := code_word (m := ⟨14, 0⟩) (meth := k14m0) (c := k14c0) (by decide +kernel) rfl rfl rfl (by decide +kernel)
set_option maxRecDepth 65536 in
theorem w_c10 : (Jvm.Cond.code ({ cls := "java/util/AbstractCollection", name := "<init>", desc := "()V" } : Jvm.MethodName) jdk_22_method_1_code (1 : Nat) (Option.none : Option Jvm.ClassFile.FieldType)).before args0 about1 = true := code_word (m := ⟨11, 0⟩) (meth := k11m0) (c := k11c0) (by decide +kernel) rfl rfl rfl (by decide +kernel)
set_option maxRecDepth 65536 in
theorem w_c11 : (Jvm.Cond.code ({ cls := "java/util/ArrayList", name := "add", desc := "(Ljava/lang/Object;)Z" } : Jvm.MethodName) jdk_38_method_25_code (2 : Nat) (Option.some Jvm.ClassFile.FieldType.boolean)).before args0 about1 = true := code_word (m := ⟨17, 8⟩) (meth := k17m8) (c := k17c8) (by decide +kernel) rfl rfl rfl (by decide +kernel)
set_option maxRecDepth 65536 in
theorem w_c12 : (Jvm.Cond.code ({ cls := "java/util/ArrayList", name := "add", desc := "(Ljava/lang/Object;[Ljava/lang/Object;I)V" } : Jvm.MethodName) jdk_38_method_24_code (4 : Nat) (Option.none : Option Jvm.ClassFile.FieldType)).before args0 about1 = true := code_word (m := ⟨17, 7⟩) (meth := k17m7) (c := k17c7) (by decide +kernel) rfl rfl rfl (by decide +kernel)
set_option maxRecDepth 65536 in
theorem w_c13 : (Jvm.Cond.code ({ cls := "java/util/ArrayList", name := "grow", desc := "()[Ljava/lang/Object;" } : Jvm.MethodName) jdk_38_method_7_code (1 : Nat) (Option.some (Jvm.ClassFile.FieldType.array (Jvm.ClassFile.FieldType.object "java/lang/Object")))).before args0 about1 = true := code_word (m := ⟨17, 2⟩) (meth := k17m2) (c := k17c2) (by decide +kernel) rfl rfl rfl (by decide +kernel)
set_option maxRecDepth 65536 in
theorem w_c14 : (Jvm.Cond.code ({ cls := "java/util/ArrayList", name := "grow", desc := "(I)[Ljava/lang/Object;" } : Jvm.MethodName) jdk_38_method_6_code (4 : Nat) (Option.some (Jvm.ClassFile.FieldType.array (Jvm.ClassFile.FieldType.object "java/lang/Object")))).before args0 about1 = true := code_word (m := ⟨17, 1⟩) (meth := k17m1) (c := k17c1) (by decide +kernel) rfl rfl rfl (by decide +kernel)
set_option maxRecDepth 65536 in
theorem w_c15 : (Jvm.Cond.code ({ cls := "java/lang/Math", name := "max", desc := "(II)I" } : Jvm.MethodName) jdk_29_method_65_code (2 : Nat) (Option.some Jvm.ClassFile.FieldType.int)).before args0 about1 = true := code_word (m := ⟨18, 1⟩) (meth := k18m1) (c := k18c1) (by decide +kernel) rfl rfl rfl (by decide +kernel)
set_option maxRecDepth 65536 in
theorem w_c16 : (Jvm.Cond.code ({ cls := "com/example/freshet/freshet/Command$Arguments", name := "<init>", desc := "(Ljava/util/Map;Ljava/util/Set;Ljava/util/List;)V" } : Jvm.MethodName) prog_9_method_1_code (4 : Nat) (Option.none : Option Jvm.ClassFile.FieldType)).before args0 about1 = true := code_word (m := ⟨20, 0⟩) (meth := k20m0) (c := k20c0) (by decide +kernel) rfl rfl rfl (by decide +kernel)
set_option maxRecDepth 65536 in
theorem w_c17 : (Jvm.Cond.code ({ cls := "java/lang/Record", name := "<init>", desc := "()V" } : Jvm.MethodName) jdk_30_method_1_code (1 : Nat) (Option.none : Option Jvm.ClassFile.FieldType)).before args0 about1 = true := code_word (m := ⟨19, 0⟩) (meth := k19m0) (c := k19c0) (by decide +kernel) rfl rfl rfl (by decide +kernel)
set_option maxRecDepth 65536 in
theorem w_c18 : (Jvm.Cond.code ({ cls := "com/example/freshet/freshet/Command$Arguments", name := "traceFiles", desc := "()Ljava/util/List;" } : Jvm.MethodName) prog_9_method_3_code (1 : Nat) (Option.some (Jvm.ClassFile.FieldType.object "java/util/List"))).before args0 about1 = true := code_word (m := ⟨20, 1⟩) (meth := k20m1) (c := k20c1) (by decide +kernel) rfl rfl rfl (by decide +kernel)
set_option maxRecDepth 65536 in
theorem w_c19 : (Jvm.Cond.code ({ cls := "java/util/ArrayList", name := "isEmpty", desc := "()Z" } : Jvm.MethodName) jdk_38_method_9_code (1 : Nat) (Option.some Jvm.ClassFile.FieldType.boolean)).before args0 about1 = true := code_word (m := ⟨17, 4⟩) (meth := k17m4) (c := k17c4) (by decide +kernel) rfl rfl rfl (by decide +kernel)
set_option maxRecDepth 65536 in
theorem w_c20 : (Jvm.Cond.code ({ cls := "java/util/ArrayList", name := "size", desc := "()I" } : Jvm.MethodName) jdk_38_method_8_code (1 : Nat) (Option.some Jvm.ClassFile.FieldType.int)).before args0 about1 = true := code_word (m := ⟨17, 3⟩) (meth := k17m3) (c := k17c3) (by decide +kernel) rfl rfl rfl (by decide +kernel)
set_option maxRecDepth 65536 in
theorem w_c21 : (Jvm.Cond.code ({ cls := "java/util/ArrayList", name := "get", desc := "(I)Ljava/lang/Object;" } : Jvm.MethodName) jdk_38_method_20_code (2 : Nat) (Option.some (Jvm.ClassFile.FieldType.object "java/lang/Object"))).before args0 about1 = true := code_word (m := ⟨17, 6⟩) (meth := k17m6) (c := k17c6) (by decide +kernel) rfl rfl rfl (by decide +kernel)
set_option maxRecDepth 65536 in
theorem w_c22 : (Jvm.Cond.code ({ cls := "java/util/Objects", name := "checkIndex", desc := "(II)I" } : Jvm.MethodName) jdk_31_method_17_code (2 : Nat) (Option.some Jvm.ClassFile.FieldType.int)).before args0 about1 = true := code_word (m := ⟨21, 1⟩) (meth := k21m1) (c := k21c1) (by decide +kernel) rfl rfl rfl (by decide +kernel)
set_option maxRecDepth 65536 in
theorem w_c23 : (Jvm.Cond.code ({ cls := "jdk/internal/util/Preconditions", name := "checkIndex", desc := "(IILjava/util/function/BiFunction;)I" } : Jvm.MethodName) jdk_41_method_11_code (3 : Nat) (Option.some Jvm.ClassFile.FieldType.int)).before args0 about1 = true := code_word (m := ⟨22, 1⟩) (meth := k22m1) (c := k22c1) (by decide +kernel) rfl rfl rfl (by decide +kernel)
set_option maxRecDepth 65536 in
theorem w_c24 : (Jvm.Cond.code ({ cls := "java/util/ArrayList", name := "elementData", desc := "(I)Ljava/lang/Object;" } : Jvm.MethodName) jdk_38_method_18_code (2 : Nat) (Option.some (Jvm.ClassFile.FieldType.object "java/lang/Object"))).before args0 about1 = true := code_word (m := ⟨17, 5⟩) (meth := k17m5) (c := k17c5) (by decide +kernel) rfl rfl rfl (by decide +kernel)
set_option maxRecDepth 65536 in
theorem w_c25 : (Jvm.Cond.code ({ cls := "java/lang/String", name := "equals", desc := "(Ljava/lang/Object;)Z" } : Jvm.MethodName) jdk_42_method_66_code (3 : Nat) (Option.some Jvm.ClassFile.FieldType.boolean)).before args0 about1 = true := code_word (m := ⟨7, 2⟩) (meth := k7m2) (c := k7c2) (by decide +kernel) rfl rfl rfl (by decide +kernel)
def codes1 : List Jvm.Cond := [Jvm.Cond.code x code maxLocals ret, Jvm.Cond.code ({ cls := "com/example/freshet/freshet/ArgumentsTraceFilesPinLaw", name := "name", desc := "(I)Ljava/lang/String;" } : Jvm.MethodName) method_2_code (2 : Nat) (Option.some (Jvm.ClassFile.FieldType.object "java/lang/String")), Jvm.Cond.code ({ cls := "java/lang/String", name := "<init>", desc := "([C)V" } : Jvm.MethodName) jdk_42_method_3_code (2 : Nat) (Option.none : Option Jvm.ClassFile.FieldType), Jvm.Cond.code ({ cls := "java/lang/String", name := "<init>", desc := "([CIILjava/lang/Void;)V" } : Jvm.MethodName) jdk_42_method_149_code (6 : Nat) (Option.none : Option Jvm.ClassFile.FieldType), Jvm.Cond.code ({ cls := "java/lang/Object", name := "<init>", desc := "()V" } : Jvm.MethodName) object_method_1_code (1 : Nat) (Option.none : Option Jvm.ClassFile.FieldType), Jvm.Cond.code ({ cls := "java/lang/StringUTF16", name := "compress", desc := "([CII)[B" } : Jvm.MethodName) jdk_52_method_16_code (6 : Nat) (Option.some (Jvm.ClassFile.FieldType.array Jvm.ClassFile.FieldType.byte)), Jvm.Cond.code ({ cls := "java/lang/StringUTF16", name := "compress", desc := "([CI[BII)I" } : Jvm.MethodName) jdk_52_method_21_code (7 : Nat) (Option.some Jvm.ClassFile.FieldType.int), Jvm.Cond.code ({ cls := "java/lang/StringUTF16", name := "coderFromArrayLen", desc := "([BI)B" } : Jvm.MethodName) jdk_52_method_15_code (2 : Nat) (Option.some Jvm.ClassFile.FieldType.byte), Jvm.Cond.code ({ cls := "java/util/ArrayList", name := "<init>", desc := "()V" } : Jvm.MethodName) jdk_38_method_2_code (1 : Nat) (Option.none : Option Jvm.ClassFile.FieldType), Jvm.Cond.code ({ cls := "java/util/AbstractList", name := "<init>", desc := "()V" } : Jvm.MethodName) jdk_39_method_1_code (1 : Nat) (Option.none : Option Jvm.ClassFile.FieldType), Jvm.Cond.code ({ cls := "java/util/AbstractCollection", name := "<init>", desc := "()V" } : Jvm.MethodName) jdk_22_method_1_code (1 : Nat) (Option.none : Option Jvm.ClassFile.FieldType), Jvm.Cond.code ({ cls := "java/util/ArrayList", name := "add", desc := "(Ljava/lang/Object;)Z" } : Jvm.MethodName) jdk_38_method_25_code (2 : Nat) (Option.some Jvm.ClassFile.FieldType.boolean), Jvm.Cond.code ({ cls := "java/util/ArrayList", name := "add", desc := "(Ljava/lang/Object;[Ljava/lang/Object;I)V" } : Jvm.MethodName) jdk_38_method_24_code (4 : Nat) (Option.none : Option Jvm.ClassFile.FieldType), Jvm.Cond.code ({ cls := "java/util/ArrayList", name := "grow", desc := "()[Ljava/lang/Object;" } : Jvm.MethodName) jdk_38_method_7_code (1 : Nat) (Option.some (Jvm.ClassFile.FieldType.array (Jvm.ClassFile.FieldType.object "java/lang/Object"))), Jvm.Cond.code ({ cls := "java/util/ArrayList", name := "grow", desc := "(I)[Ljava/lang/Object;" } : Jvm.MethodName) jdk_38_method_6_code (4 : Nat) (Option.some (Jvm.ClassFile.FieldType.array (Jvm.ClassFile.FieldType.object "java/lang/Object"))), Jvm.Cond.code ({ cls := "java/lang/Math", name := "max", desc := "(II)I" } : Jvm.MethodName) jdk_29_method_65_code (2 : Nat) (Option.some Jvm.ClassFile.FieldType.int), Jvm.Cond.code ({ cls := "com/example/freshet/freshet/Command$Arguments", name := "<init>", desc := "(Ljava/util/Map;Ljava/util/Set;Ljava/util/List;)V" } : Jvm.MethodName) prog_9_method_1_code (4 : Nat) (Option.none : Option Jvm.ClassFile.FieldType), Jvm.Cond.code ({ cls := "java/lang/Record", name := "<init>", desc := "()V" } : Jvm.MethodName) jdk_30_method_1_code (1 : Nat) (Option.none : Option Jvm.ClassFile.FieldType), Jvm.Cond.code ({ cls := "com/example/freshet/freshet/Command$Arguments", name := "traceFiles", desc := "()Ljava/util/List;" } : Jvm.MethodName) prog_9_method_3_code (1 : Nat) (Option.some (Jvm.ClassFile.FieldType.object "java/util/List")), Jvm.Cond.code ({ cls := "java/util/ArrayList", name := "isEmpty", desc := "()Z" } : Jvm.MethodName) jdk_38_method_9_code (1 : Nat) (Option.some Jvm.ClassFile.FieldType.boolean), Jvm.Cond.code ({ cls := "java/util/ArrayList", name := "size", desc := "()I" } : Jvm.MethodName) jdk_38_method_8_code (1 : Nat) (Option.some Jvm.ClassFile.FieldType.int), Jvm.Cond.code ({ cls := "java/util/ArrayList", name := "get", desc := "(I)Ljava/lang/Object;" } : Jvm.MethodName) jdk_38_method_20_code (2 : Nat) (Option.some (Jvm.ClassFile.FieldType.object "java/lang/Object")), Jvm.Cond.code ({ cls := "java/util/Objects", name := "checkIndex", desc := "(II)I" } : Jvm.MethodName) jdk_31_method_17_code (2 : Nat) (Option.some Jvm.ClassFile.FieldType.int), Jvm.Cond.code ({ cls := "jdk/internal/util/Preconditions", name := "checkIndex", desc := "(IILjava/util/function/BiFunction;)I" } : Jvm.MethodName) jdk_41_method_11_code (3 : Nat) (Option.some Jvm.ClassFile.FieldType.int), Jvm.Cond.code ({ cls := "java/util/ArrayList", name := "elementData", desc := "(I)Ljava/lang/Object;" } : Jvm.MethodName) jdk_38_method_18_code (2 : Nat) (Option.some (Jvm.ClassFile.FieldType.object "java/lang/Object")), Jvm.Cond.code ({ cls := "java/lang/String", name := "equals", desc := "(Ljava/lang/Object;)Z" } : Jvm.MethodName) jdk_42_method_66_code (3 : Nat) (Option.some Jvm.ClassFile.FieldType.boolean)]
set_option maxRecDepth 65536 in
theorem codes_eq : words1.filter isCode = codes1 := rfl
theorem w_codes : ∀ c ∈ words1.filter isCode, c.before args0 about1 = true := by
  rw [codes_eq]
  intro c hc
  simp only [codes1, List.mem_cons, List.not_mem_nil, or_false] at hc
  rcases hc with rfl | rfl | rfl | rfl | rfl | rfl | rfl | rfl | rfl | rfl | rfl | rfl | rfl | rfl | rfl | rfl | rfl | rfl | rfl | rfl | rfl | rfl | rfl | rfl | rfl | rfl
  · exact w_c0
  · exact w_c1
  · exact w_c2
  · exact w_c3
  · exact w_c4
  · exact w_c5
  · exact w_c6
  · exact w_c7
  · exact w_c8
  · exact w_c9
  · exact w_c10
  · exact w_c11
  · exact w_c12
  · exact w_c13
  · exact w_c14
  · exact w_c15
  · exact w_c16
  · exact w_c17
  · exact w_c18
  · exact w_c19
  · exact w_c20
  · exact w_c21
  · exact w_c22
  · exact w_c23
  · exact w_c24
  · exact w_c25
set_option maxRecDepth 65536 in
theorem w_t1 : (words1.take 24).all (fun c => isCode c || c.before args0 about1) = true := by decide +kernel
set_option maxRecDepth 65536 in
theorem w_t2 : ((words1.drop 24).take 24).all (fun c => isCode c || c.before args0 about1) = true := by decide +kernel
set_option maxRecDepth 65536 in
theorem w_t3 : (((words1.drop 24).drop 24).take 24).all (fun c => isCode c || c.before args0 about1) = true := by decide +kernel
set_option maxRecDepth 65536 in
theorem w_t4 : ((((words1.drop 24).drop 24).drop 24).take 24).all (fun c => isCode c || c.before args0 about1) = true := by decide +kernel
set_option maxRecDepth 65536 in
theorem w_t5 : (((((words1.drop 24).drop 24).drop 24).drop 24).take 24).all (fun c => isCode c || c.before args0 about1) = true := by decide +kernel
set_option maxRecDepth 65536 in
theorem w_t6 : ((((((words1.drop 24).drop 24).drop 24).drop 24).drop 24).take 24).all (fun c => isCode c || c.before args0 about1) = true := by decide +kernel
set_option maxRecDepth 65536 in
theorem w_t7 : ((((((words1.drop 24).drop 24).drop 24).drop 24).drop 24).drop 24).all (fun c => isCode c || c.before args0 about1) = true := by decide +kernel
theorem w_tables : (allAtoms (Jvm.Cond.code x code maxLocals ret :: tables_1)).before args0 about1 = true := by
  rw [allAtoms_all]
  show words1.all (fun c => c.before args0 about1) = true
  refine all_split ?_ w_codes
  rw [← List.take_append_drop 24 words1, List.all_append, w_t1, ← List.take_append_drop 24 (words1.drop 24), List.all_append, w_t2, ← List.take_append_drop 24 ((words1.drop 24).drop 24), List.all_append, w_t3, ← List.take_append_drop 24 (((words1.drop 24).drop 24).drop 24), List.all_append, w_t4, ← List.take_append_drop 24 ((((words1.drop 24).drop 24).drop 24).drop 24), List.all_append, w_t5, ← List.take_append_drop 24 (((((words1.drop 24).drop 24).drop 24).drop 24).drop 24), List.all_append, w_t6, w_t7]
  rfl
set_option maxRecDepth 65536 in
theorem w_rest : rest_1_c.before args0 about1 = true := by decide +kernel
set_option maxRecDepth 65536 in
theorem w_case : (Jvm.Cond.and given_1 narrow_1).before args0 about1 = true := by decide +kernel
theorem w_applies : (headSpec (Jvm.Cond.code x code maxLocals ret :: tables_1) room_1).applies x e0.platform about1 = true :=
  (Spec.applies_iff w_frames).mpr ⟨w_running, w_runnable, w_alone, w_named, w_hears, w_ripe, w_room, w_tables⟩
theorem atStart : AtStart classFile x code maxLocals ret World_1 tables_1 room_1 Calls_1 rest_1 Pre_1 launch0 p0 e0 about1 theMethod args0 below0 :=
  ⟨lists_1, trivial, launch0.admits_env _ _ _, launch0.least_env, fairChoices_fair.cas, fairChoices_fair.clock, w_frames, w_args, w_heap, w_applies, trivial, w_rest, w_case⟩
end start1
theorem witness_1 : WitnessClaimed_1 := ⟨start1.p0, start1.e0, start1.about1, start1.theMethod, start1.args0, start1.below0, start1.atStart⟩
end Jvm.Pilot.@@N@@
