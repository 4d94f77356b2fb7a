import JvmDerived
import JvmDerived.Pilot.@@N@@Statement
import JvmDerived.Pilot.@@N@@Code
set_option linter.unusedVariables false
set_option linter.unusedSimpArgs false
namespace Jvm.RoadKit
open Sem ClassFile Op Lib Jvm.Stand Jvm.Free Jvm.LawKit
section New
variable {p : Program} {l : Launch} {e : Env} {R : Room} {s : State} {m : MethodId} {args : Array Value} {below : List Frame} {meth : Method} {c : Code} {T : State} {locs : List Loc} {cells slots : Nat}
theorem retI (X : Stand p l e R s m args below meth c T locs cells slots) (hx : p.tables.exec = Jvm.exec) {pc : Nat} {Ls : Array Slot} {z : Int32} {rest : List Value} (hret : meth.sig.returnType = some .int) (hd : decode c.code pc = .ok (.ireturn, 1)) {fs : List Frame}
    (hl : ∀ (f : JFrame) (acts : List Action), f.method = m → f.locked = none → f.entered = [] → (doReturn e (T.setTop f) acts (some (.int z))).1 = T.setFrames fs) : Steps p.tables e below (T.setTop (mkF m pc Ls (.int z :: rest))) (T.setFrames fs) := by
  have hm' : T.vm.method? m = some meth := X.method'
  have hn : narrow .int (.int z) = .int z := rfl
  show Steps p.tables e below (T.setTop { method := m, pc := pc, locals := Ls, stack := _ :: rest, locked := none }) _
  jvm_step X.here [X.here.top, hx, hd, hm', hret, hn]
  first | (intro acts; rw [hl _ acts rfl rfl rfl]) | rw [hl _ _ rfl rfl rfl]
  exact Steps.refl _
/-- from A the run ends as K says -/
abbrev own_Fin (p : Program) (e : Env) (below : List Frame) (K : Outcome → State → Prop) (A : State) : Prop := ∃ s₂ o, Steps p.tables e below A s₂ ∧ s₂.status = .running ∧ Ended s₂ below o ∧ K o s₂
theorem own_go {K : Outcome → State → Prop} {A B : State} (h : ∀ t, Steps p.tables e below B t → Steps p.tables e below A t) (k : own_Fin p e below K B) : own_Fin p e below K A := by
  obtain ⟨s₂, o, hs, r⟩ := k
  exact ⟨s₂, o, h _ hs, r⟩
end New
end Jvm.RoadKit

namespace Jvm.RoadKit
open Sem ClassFile Op Lib Jvm.Stand Jvm.Free Jvm.LawKit
/-- an array of known length whose components are what g says -/
def own_Ag {α : Type} (mk : α → Value) (Z : State) (h : Heap) (a : Addr) (ty : FieldType) (n : Int32) (g : Nat → α) : Prop := ∃ c : Cell, Arr Z h a c ty ∧ c.slots.size = n.toNatClampNeg ∧ ¬ n < 0 ∧ ∀ i, i < c.slots.size → c.slots[i]? = some (mk (g i))
section Ag
variable {α : Type} {mk : α → Value} {Z : State} {h h' : Heap} {a b : Addr} {ty : FieldType} {n : Int32} {g : Nat → α} {sl : Nat} {v : Value} {ws : List Addr}
theorem own_Ag.lt (F : own_Ag mk Z h a ty n g) : a < h.size := by obtain ⟨c, A, -⟩ := F; exact A.lt
theorem own_Ag.ext (F : own_Ag mk Z h a ty n g) (E : Ext h h') : own_Ag mk Z h' a ty n g := by obtain ⟨c, A, r⟩ := F; exact ⟨c, A.ext E, r⟩
theorem own_Ag.other (F : own_Ag mk Z h b ty n g) (W : Wr h h' a sl v) (q : b ≠ a) : own_Ag mk Z h' b ty n g := by obtain ⟨c, A, r⟩ := F; exact ⟨c, A.other W q, r⟩
theorem own_Ag.keep (F : own_Ag mk Z h a ty n g) (K : Keep h h' ws) (q : a ∉ ws) : own_Ag mk Z h' a ty n g := by obtain ⟨c, A, r⟩ := F; exact ⟨c, ⟨K.2.1 a c A.1 q, A.2⟩, r⟩
theorem own_Ag.set {x : α} (F : own_Ag mk Z h a ty n g) (W : Wr h h' a sl (mk x)) : own_Ag mk Z h' a ty n (fun i => if i = sl then x else g i) := by
  obtain ⟨c, A, S, q, H⟩ := F
  obtain ⟨cw, w1, w2, w3, w4⟩ := id W
  have hc : cw = c := Option.some.inj (w1.symm.trans A.1)
  subst hc
  have hs : (cw.setSlot sl (mk x)).slots.size = cw.slots.size := by simp [Cell.setSlot]
  refine ⟨cw.setSlot sl (mk x), A.same W, hs.trans S, q, fun i hi => ?_⟩
  by_cases e : i = sl
  · subst e; simp [Cell.setSlot, w3]
  · simp only [if_neg e]
    rw [← H i (hs ▸ hi)]
    exact Array.getElem?_setIfInBounds_ne (Ne.symm e)
theorem own_Ag.setk {x : α} {j : Int32} (F : own_Ag mk Z h a ty n g) (W : Wr h h' a j.toNatClampNeg (mk x)) (k : Nat) (e : j.toNatClampNeg = k) : own_Ag mk Z h' a ty n (fun i => if i = k then x else g i) := by subst e; exact F.set W
theorem own_Ag.get (F : own_Ag mk Z h a ty n g) {j : Int32} (h1 : ¬ j < 0) (h2 : j < n) : ∃ cl : Cell, Arr Z h a cl ty ∧ ¬ (j < 0 ∨ cl.slots.size ≤ j.toNatClampNeg) ∧ cl.slots[j.toNatClampNeg]? = some (mk (g j.toNatClampNeg)) ∧ cl.slots.size = n.toNatClampNeg ∧ ¬ n < 0 := by
  obtain ⟨c, A, S, q, H⟩ := F
  have i := inb_of S ⟨h1, h2⟩
  exact ⟨c, A, i, H _ (Nat.lt_of_not_le fun y => i (Or.inr y)), S, q⟩
theorem own_Ag.len (F : own_Ag mk Z h a ty n g) : ∃ cl : Cell, Arr Z h a cl ty ∧ cl.slots.size = n.toNatClampNeg ∧ ¬ n < 0 := by
  obtain ⟨c, A, S, q, H⟩ := F
  exact ⟨c, A, S, q⟩
theorem own_Ag.new {k : ClassId} {d : α} (F : Arv Z h a k ty n [] (mk d)) : own_Ag mk Z h a ty n (fun _ => d) := by
  obtain ⟨c, A, -, S, q, H, -⟩ := F
  exact ⟨c, A, S, q, fun i hi => by simpa using H i hi⟩
theorem own_Ag.eqv {g' : Nat → α} (F : own_Ag mk Z h a ty n g) (e : ∀ i, i < n.toNatClampNeg → g' i = g i) : own_Ag mk Z h a ty n g' := by
  obtain ⟨c, A, S, q, H⟩ := F
  exact ⟨c, A, S, q, fun i hi => by rw [e i (S ▸ hi)]; exact H i hi⟩
theorem own_Ag.nestat (F : own_Ag mk Z h a ty n g) : ∀ cell : Cell, h[a]? = some cell → cell.vm.isStatics = false := by obtain ⟨c, A, -⟩ := F; exact A.nostat
end Ag
end Jvm.RoadKit

namespace Jvm.Pilot.@@N@@
open Jvm Jvm.ClassFile Sem Op Lib Jvm.Free Jvm.Stand Jvm.LawKit Jvm.RoadKit Bundle Jvm.Pilot.@@N@@.Jvm.D

theorem own_z0 : (0 : Int32).toInt = 0 := by decide
theorem own_getD {S : List Int32} {t : Nat} (h : t < S.length) : S.getD t 0 = S[t] := by simp [List.getD_eq_getElem?_getD, List.getElem?_eq_getElem h]
theorem own_sh (r : Int32) (h : 0 ≤ r.toInt) : ((r.toUInt32 >>> ((6 : Int32) &&& 31).toUInt32).toInt32).toInt = r.toInt / 64 ∧ ¬ ((r.toUInt32 >>> ((6 : Int32) &&& 31).toUInt32).toInt32) < 0 ∧ (((r.toUInt32 >>> ((6 : Int32) &&& 31).toUInt32).toInt32)).toNatClampNeg = (r.toInt / 64).toNat := by
  have h1 := c_iushr r 6 6 (by decide) (by decide)
  have h2 := rng32 r
  have k0 : (0 : Int32).toInt = 0 := by decide
  have e : ((r.toUInt32 >>> ((6 : Int32) &&& 31).toUInt32).toInt32).toInt = r.toInt / 64 := by omega
  have n : ¬ ((r.toUInt32 >>> ((6 : Int32) &&& 31).toUInt32).toInt32) < 0 := by rw [Int32.lt_iff_toInt_lt]; omega
  refine ⟨e, n, ?_⟩
  have h3 := nat_of n
  omega
theorem own_and63 (r : Int32) : r &&& 0x3f = Int32.ofInt (r.toInt % 64) &&& 0x3f := by
  refine Int32.toInt_inj.mp ?_
  have h1 := c_mask r 0x3f 6 (by decide) (by decide)
  have h2 := c_mask (Int32.ofInt (r.toInt % 64)) 0x3f 6 (by decide) (by decide)
  have h3 : (Int32.ofInt (r.toInt % 64)).toInt = r.toInt % 64 := Int32.toInt_ofInt_of_le (by omega) (by omega)
  rw [h1, h2, h3]
  omega
theorem own_mk0 : ∀ a : Fin 64, ((1 : Int64) <<< ((Int32.ofInt (a.1 : Int)) &&& 0x3f).toInt64) ≠ 0 := by decide +kernel
theorem own_mk1 : ∀ a b : Fin 64, a ≠ b → ((1 : Int64) <<< ((Int32.ofInt (a.1 : Int)) &&& 0x3f).toInt64) &&& ((1 : Int64) <<< ((Int32.ofInt (b.1 : Int)) &&& 0x3f).toInt64) = 0 := by decide +kernel
theorem own_mkn (r : Int32) : ((1 : Int64) <<< (r &&& 0x3f).toInt64) ≠ 0 := by
  rw [own_and63]
  have h := own_mk0 ⟨(r.toInt % 64).toNat, by omega⟩
  rwa [show (((r.toInt % 64).toNat : Nat) : Int) = r.toInt % 64 by omega] at h
theorem own_mkd (r s : Int32) (h : r.toInt % 64 ≠ s.toInt % 64) : ((1 : Int64) <<< (r &&& 0x3f).toInt64) &&& ((1 : Int64) <<< (s &&& 0x3f).toInt64) = 0 := by
  rw [own_and63 r, own_and63 s]
  have q := own_mk1 ⟨(r.toInt % 64).toNat, by omega⟩ ⟨(s.toInt % 64).toNat, by omega⟩ (fun e => h (by have := congrArg Fin.val e; simp only at this; omega))
  rwa [show (((r.toInt % 64).toNat : Nat) : Int) = r.toInt % 64 by omega, show (((s.toInt % 64).toNat : Nat) : Int) = s.toInt % 64 by omega] at q
theorem own_oran (w p r : Int64) (h : p &&& r = 0) : (w ||| p) &&& r = w &&& r := by
  refine Int64.toBitVec_inj.mp ?_
  have h' := congrArg Int64.toBitVec h
  simp only [Int64.toBitVec_and, Int64.toBitVec_or] at h' ⊢
  rw [BitVec.and_comm, BitVec.and_or_distrib_left, BitVec.and_comm _ p.toBitVec, h', BitVec.and_comm]
  exact BitVec.or_zero
theorem own_orse (w p : Int64) : (w ||| p) &&& p = p := by
  refine Int64.toBitVec_inj.mp ?_
  simp only [Int64.toBitVec_and, Int64.toBitVec_or]
  ext i hi
  simp only [BitVec.getElem_and, BitVec.getElem_or]
  cases w.toBitVec[i] <;> cases p.toBitVec[i] <;> rfl
theorem own_zan (r : Int64) : (0 : Int64) &&& r = 0 := Int64.zero_and
def own_Rep (n : Int32) (S : List Int32) (cn : Int32) (gM : Nat → Int32) (gB : Nat → Int64) : Prop :=
  cn.toInt = S.length ∧ (∀ i, i < S.length → gM i = S.getD i 0) ∧ (∀ r, r ∈ S → 0 ≤ r.toInt ∧ r.toInt < n.toInt) ∧ ∀ r : Int32, 0 ≤ r.toInt → r.toInt < n.toInt → (gB ((((r.toUInt32 >>> ((6 : Int32) &&& 31).toUInt32).toInt32)).toNatClampNeg) &&& ((1 : Int64) <<< (r &&& 0x3f).toInt64) = 0 ↔ r ∉ S)
theorem own_rep_nil (n : Int32) (gM : Nat → Int32) : own_Rep n [] 0 gM (fun _ => 0) :=
  ⟨by decide, fun i hi => absurd hi (Nat.not_lt_zero _), (fun r hr => nomatch hr), fun r _ _ => ⟨fun _ => List.not_mem_nil, fun _ => own_zan _⟩⟩
theorem own_rep_add {n : Int32} {S : List Int32} {cn : Int32} {gM : Nat → Int32} {gB : Nat → Int64} (R : own_Rep n S cn gM gB) {p : Int32} (h0 : 0 ≤ p.toInt) (hn : p.toInt < n.toInt) (hp : p ∉ S) (hl : S.length < 64) :
    own_Rep n (S ++ [p]) (cn + (1 : Int32)) (fun i => if i = cn.toNatClampNeg then p else gM i) (fun i => if i = (((p.toUInt32 >>> ((6 : Int32) &&& 31).toUInt32).toInt32)).toNatClampNeg then (gB ((((p.toUInt32 >>> ((6 : Int32) &&& 31).toUInt32).toInt32)).toNatClampNeg) ||| ((1 : Int64) <<< (p &&& 0x3f).toInt64)) else gB i) := by
  obtain ⟨r1, r2, r3, r4⟩ := R
  have k1 : (1 : Int32).toInt = 1 := by decide
  have hc0 : ¬ cn < 0 := by rw [Int32.lt_iff_toInt_lt]; have := own_z0; omega
  have hcn : cn.toNatClampNeg = S.length := by have := nat_of hc0; omega
  refine ⟨?_, ?_, ?_, ?_⟩
  · have a := c_iadd cn 1
    have b := rng32 (cn + 1)
    rw [List.length_append, List.length_singleton]
    omega
  · intro i hi
    rw [List.length_append, List.length_singleton] at hi
    by_cases e : i = S.length
    · simp only [hcn, if_pos e]
      subst e
      simp
    · have hi' : i < S.length := by omega
      simp only [hcn, if_neg e]
      rw [r2 i hi']; simp [List.getD_eq_getElem?_getD, List.getElem?_append_left hi']
  · intro r hr
    rcases List.mem_append.mp hr with q | q
    · exact r3 r q
    · cases List.mem_singleton.mp q; exact ⟨h0, hn⟩
  · intro r g0 gn
    by_cases e : r = p
    · subst e
      simp only [if_pos]
      rw [own_orse]
      exact ⟨fun q => absurd q (own_mkn r), fun q => absurd (List.mem_append.mpr (Or.inr (List.mem_singleton.mpr rfl))) q⟩
    · have hm : (r ∉ S ++ [p]) ↔ r ∉ S := by simp [e]
      rw [hm, ← r4 r g0 gn]
      by_cases i : (((r.toUInt32 >>> ((6 : Int32) &&& 31).toUInt32).toInt32)).toNatClampNeg = (((p.toUInt32 >>> ((6 : Int32) &&& 31).toUInt32).toInt32)).toNatClampNeg
      · simp only [if_pos i]
        rw [own_oran _ _ _ (own_mkd p r (by
          have a := (own_sh r g0).2.2
          have b := (own_sh p h0).2.2
          intro z
          refine e (Int32.toInt_inj.mp ?_)
          omega)), i]
      · simp only [if_neg i]
theorem own_rep_clear {n : Int32} {S : List Int32} {cn : Int32} {gM gM' : Nat → Int32} {gB gB' : Nat → Int64} (R : own_Rep n S cn gM gB) (h1 : ∀ j, (∃ t, t < S.length ∧ ((((S.getD t 0).toUInt32 >>> ((6 : Int32) &&& 31).toUInt32).toInt32)).toNatClampNeg = j) → gB' j = 0) (h2 : ∀ j, gB' j = 0 ∨ gB' j = gB j) : own_Rep n [] 0 gM' gB' := by
  obtain ⟨r1, r2, r3, r4⟩ := R
  refine ⟨by decide, fun i hi => absurd hi (Nat.not_lt_zero _), (fun r hr => nomatch hr), fun r g0 gn => ⟨fun _ => List.not_mem_nil, fun _ => ?_⟩⟩
  rcases h2 ((((r.toUInt32 >>> ((6 : Int32) &&& 31).toUInt32).toInt32)).toNatClampNeg) with q | q
  · rw [q]; exact own_zan _
  · by_cases m : r ∈ S
    · obtain ⟨t, ht, e⟩ := List.mem_iff_getElem.mp m
      rw [h1 _ ⟨t, ht, by rw [own_getD ht, e]⟩]
      exact own_zan _
    · rw [q]; exact (r4 r g0 gn).mpr m
def own_OK (Z : State) (h : Heap) (a aM aB : Addr) (mm n : Int32) (S : List Int32) : Prop :=
  ∃ (cn : Int32) (gM : Nat → Int32) (gB : Nat → Int64), Exa Z h a "com/example/eager_recall/eagerrecall/vectors/HnswGraph$VisitedRows" ∧ Fld Z h a "com/example/eager_recall/eagerrecall/vectors/HnswGraph$VisitedRows" "marked" "[I" (.ref aM) ∧ Fld Z h a "com/example/eager_recall/eagerrecall/vectors/HnswGraph$VisitedRows" "bits" "[J" (.ref aB) ∧ Fld Z h a "com/example/eager_recall/eagerrecall/vectors/HnswGraph$VisitedRows" "count" "I" (.int cn) ∧ own_Ag Value.int Z h aM .int 64 gM ∧ own_Ag Value.long Z h aB .long mm gB ∧
    aM ≠ aB ∧ a ≠ aM ∧ a ≠ aB ∧ own_Rep n S cn gM gB ∧ mm.toInt = (n.toInt + 63) / 64 ∧ 1 ≤ n.toInt ∧ n.toInt ≤ 512
theorem own_OK.exa {Z : State} {h : Heap} {a aM aB : Addr} {mm n : Int32} {S : List Int32} (F : own_OK Z h a aM aB mm n S) : Exa Z h a "com/example/eager_recall/eagerrecall/vectors/HnswGraph$VisitedRows" := by obtain ⟨_, _, _, E, -⟩ := F; exact E
theorem own_mm (n : Int32) (h1 : 1 ≤ n.toInt) (h2 : n.toInt ≤ 512) : ¬ (((n + (63 : Int32)).toUInt32 >>> ((6 : Int32) &&& 31).toUInt32).toInt32) < 0 ∧ ((((n + (63 : Int32)).toUInt32 >>> ((6 : Int32) &&& 31).toUInt32).toInt32)).toNatClampNeg ≤ 8 ∧ (((n + (63 : Int32)).toUInt32 >>> ((6 : Int32) &&& 31).toUInt32).toInt32).toInt = (n.toInt + 63) / 64 := by
  have k : (63 : Int32).toInt = 63 := by decide
  have a := c_iadd n 63
  have b := rng32 (n + 63)
  have e : (n + 63).toInt = n.toInt + 63 := by omega
  obtain ⟨p, q, r⟩ := own_sh (n + 63) (by omega)
  refine ⟨q, ?_, ?_⟩
  · rw [r]; omega
  · rw [p, e]
theorem own_n {x : Int32} {n : Int32} (h : n = (1 : Int32) + (x &&& (511 : Int32))) : 1 ≤ n.toInt ∧ n.toInt ≤ 512 := by
  subst h
  have k : (1 : Int32).toInt = 1 := by decide
  have a := c_mask x 511 9 (by decide) (by decide)
  have b := c_iadd 1 (x &&& 511)
  have c := rng32 (1 + (x &&& 511))
  omega
theorem own_ne0 {n : Int32} (h : 1 ≤ n.toInt ∧ n.toInt ≤ 512) : n ≠ 0 := fun e => by subst e; exact absurd h.1 (by decide)
theorem own_row {x n r : Int32} (h : 1 ≤ n.toInt ∧ n.toInt ≤ 512) (e : r = (x &&& (2147483647 : Int32)) % n) : 0 ≤ r.toInt ∧ r.toInt < n.toInt := by
  subst e
  have a := c_mask x 2147483647 31 (by decide) (by decide)
  have b := (c_iremV (x &&& 2147483647) n).1 (by omega) (by omega)
  exact ⟨b.1, b.2.1⟩
theorem own_lt {r n mm : Int32} (h0 : 0 ≤ r.toInt) (hn : r.toInt < n.toInt) (hm : mm.toInt = (n.toInt + 63) / 64) : ((r.toUInt32 >>> ((6 : Int32) &&& 31).toUInt32).toInt32) < mm := by
  rw [Int32.lt_iff_toInt_lt, (own_sh r h0).1]; omega
theorem own_new {a : Int32} {r : Int32} (hr : r = (if a ∈ ([] : List Int32) then (0 : Int32) else (1 : Int32))) : ¬ r = (0 : Int32) := by rw [hr, if_neg List.not_mem_nil]; decide
theorem own_old {a : Int32} {S : List Int32} {r : Int32} (hm : ∀ x, x ∈ S ↔ x = a ∨ x ∈ ([] : List Int32)) (hr : r = (if a ∈ S then (0 : Int32) else (1 : Int32))) : r = (0 : Int32) := by rw [hr, if_pos ((hm a).mpr (Or.inl rfl))]
theorem own_r1 {a b r v : Int32} {S1 : List Int32} (m1 : ∀ x, x ∈ S1 ↔ x = a ∨ x ∈ ([] : List Int32)) (hr : r = (if b ∈ S1 then (0 : Int32) else (1 : Int32))) (hv : v = (if b = a then (0 : Int32) else (1 : Int32))) : r = v := by
  rw [hr, hv]; simp [m1]
theorem own_r2 {a b c r v : Int32} {S1 S2 : List Int32} (m1 : ∀ x, x ∈ S1 ↔ x = a ∨ x ∈ ([] : List Int32)) (m2 : ∀ x, x ∈ S2 ↔ x = b ∨ x ∈ S1) (hr : r = (if c ∈ S2 then (0 : Int32) else (1 : Int32))) (hv : v = (if c = a then (0 : Int32) else (if c = b then (0 : Int32) else (1 : Int32)))) : r = v := by
  rw [hr, hv]
  by_cases p : c = a
  · rw [if_pos p, if_pos ((m2 c).mpr (Or.inr ((m1 c).mpr (Or.inl p))))]
  · by_cases q : c = b
    · rw [if_neg p, if_pos q, if_pos ((m2 c).mpr (Or.inl q))]
    · rw [if_neg p, if_neg q, if_neg (by simp [m1, m2, p, q])]
theorem own_r3 {a b c d r v : Int32} {S1 S2 S3 : List Int32} (m1 : ∀ x, x ∈ S1 ↔ x = a ∨ x ∈ ([] : List Int32)) (m2 : ∀ x, x ∈ S2 ↔ x = b ∨ x ∈ S1) (m3 : ∀ x, x ∈ S3 ↔ x = c ∨ x ∈ S2) (hr : r = (if d ∈ S3 then (0 : Int32) else (1 : Int32)))
    (hv : v = (if d = a then (0 : Int32) else (if d = b then (0 : Int32) else (if d = c then (0 : Int32) else (1 : Int32))))) : r = v := by
  rw [hr, hv]
  by_cases p : d = a
  · rw [if_pos p, if_pos (by simp [m1, m2, m3, p])]
  · by_cases q : d = b
    · rw [if_neg p, if_pos q, if_pos (by simp [m1, m2, m3, q])]
    · by_cases u : d = c
      · rw [if_neg p, if_neg q, if_pos u, if_pos (by simp [m3, u])]
      · rw [if_neg p, if_neg q, if_neg u, if_neg (by simp [m1, m2, m3, p, q, u])]
theorem own_k1 {k : Int32} (h : k < (1 : Int32)) : k < (2 : Int32) := by rw [Int32.lt_iff_toInt_lt] at h ⊢; exact Int.lt_trans h (by decide)
theorem own_k2 {k : Int32} (h : k < (2 : Int32)) : k < (3 : Int32) := by rw [Int32.lt_iff_toInt_lt] at h ⊢; exact Int.lt_trans h (by decide)
theorem own_cn {n : Int32} {S : List Int32} {cn : Int32} {gM : Nat → Int32} {gB : Nat → Int64} (R : own_Rep n S cn gM gB) (hl : S.length < 64) : ¬ cn < 0 ∧ cn < 64 ∧ ¬ cn = (64 : Int32) ∧ cn.toNatClampNeg = S.length := by
  have r1 := R.1
  have k0 : (0 : Int32).toInt = 0 := by decide
  have k64 : (64 : Int32).toInt = 64 := by decide
  have h : ¬ cn < 0 := by rw [Int32.lt_iff_toInt_lt]; omega
  refine ⟨h, by rw [Int32.lt_iff_toInt_lt]; omega, fun e => ?_, ?_⟩
  · subst e; omega
  · have := nat_of h; omega

theorem d1_0 : decode prog_101_method_1_code 0 = .ok (.aload_n 0, 1) := by decide +kernel
theorem d1_1 : decode prog_101_method_1_code 1 = .ok (.invokespecial 1, 3) := by decide +kernel
theorem d1_4 : decode prog_101_method_1_code 4 = .ok (.aload_n 0, 1) := by decide +kernel
theorem d1_5 : decode prog_101_method_1_code 5 = .ok (.bipush 64, 2) := by decide +kernel
theorem d1_7 : decode prog_101_method_1_code 7 = .ok (.newarray .int, 2) := by decide +kernel
theorem d1_9 : decode prog_101_method_1_code 9 = .ok (.putfield 7, 3) := by decide +kernel
theorem d1_12 : decode prog_101_method_1_code 12 = .ok (.aload_n 0, 1) := by decide +kernel
theorem d1_13 : decode prog_101_method_1_code 13 = .ok (.iload_n 1, 1) := by decide +kernel
theorem d1_14 : decode prog_101_method_1_code 14 = .ok (.bipush 63, 2) := by decide +kernel
theorem d1_16 : decode prog_101_method_1_code 16 = .ok (.iadd, 1) := by decide +kernel
theorem d1_17 : decode prog_101_method_1_code 17 = .ok (.bipush 6, 2) := by decide +kernel
theorem d1_19 : decode prog_101_method_1_code 19 = .ok (.iushr, 1) := by decide +kernel
theorem d1_20 : decode prog_101_method_1_code 20 = .ok (.newarray .long, 2) := by decide +kernel
theorem d1_22 : decode prog_101_method_1_code 22 = .ok (.putfield 13, 3) := by decide +kernel
theorem d1_25 : decode prog_101_method_1_code 25 = .ok (.return_, 1) := by decide +kernel
theorem pn_rm1 : plainName "com/example/eager_recall/eagerrecall/vectors/HnswGraph$VisitedRows" = true := by first | (simp [plainName, overriddenIn]; done) | decide +kernel
theorem ef_rm1 (m : MethodId) (x0 : Addr) (x1 : Int32) : entryFrame m #[(.ref x0), (.int x1)] 2 = mkF m 0 #[.val (.ref x0), .val (.int x1)] [] := by first | (simp [entryFrame, mkF, argsToLocals, Value.category]; done) | rfl
def Q1 (Z : State) (a1 : Addr) (p2 : Int32) (u1 : Value) (u2 : Value) (h0 : Heap) (n0 : Nat) (v : Option Value) (h : Heap) (L : List Loc) : Prop := ∃ (aM aB : Addr) (mm : Int32), v = none ∧ Fr n0 L ∧ Keep h0 h [a1] ∧ own_OK Z h a1 aM aB mm p2 [] ∧ n0 ≤ aM ∧ n0 ≤ aB ∧ h0.size ≤ aM ∧ h0.size ≤ aB
set_option maxRecDepth 65536 in
set_option maxHeartbeats 40000000 in
theorem rm1 (l : Launch) (Z : State) (a0 : Array Value) (hw : ∀ d ∈ tables_1, d.before a0 Z = true) (ws : List Jvm.Cond) (a1 : Addr) (p2 : Int32) (u1 : Value) (u2 : Value) (h0 : Heap) (n0 : Nat) (Z0 : n0 ≤ h0.size) (E_a1 : Exa Z h0 a1 "com/example/eager_recall/eagerrecall/vectors/HnswGraph$VisitedRows") (F1 : Fld Z h0 a1 "com/example/eager_recall/eagerrecall/vectors/HnswGraph$VisitedRows" "marked" "[I" u1) (F2 : Fld Z h0 a1 "com/example/eager_recall/eagerrecall/vectors/HnswGraph$VisitedRows" "bits" "[J" u2) (F3 : Fld Z h0 a1 "com/example/eager_recall/eagerrecall/vectors/HnswGraph$VisitedRows" "count" "I" (.int (0 : Int32))) (g_a1 : n0 ≤ a1) (c1 : 1 ≤ p2.toInt) (c2 : p2.toInt ≤ 512) :
    MetFree l (⟨"com/example/eager_recall/eagerrecall/vectors/HnswGraph$VisitedRows", "<init>", "(I)V"⟩ : MethodName) (head1 (Jvm.Cond.code (⟨"com/example/eager_recall/eagerrecall/vectors/HnswGraph$VisitedRows", "<init>", "(I)V"⟩ : MethodName) prog_101_method_1_code 2 none :: ws) ({ frames := 1, cells := 2, slots := 72, locals := 12 } : Room)) (fun a U => a = #[(.ref a1), (.int p2)] ∧ Z.Warmed39 U.vm ∧ U.heap = h0) (fun _ _ _ _ _ => True) (fun _ U o U' => ∃ v L, o = .returned v ∧ Q1 Z a1 p2 u1 u2 h0 n0 v U'.heap L ∧ FrameEnd U o U' L ({ frames := 1, cells := 2, slots := 72, locals := 12 } : Room).cells ({ frames := 1, cells := 2, slots := 72, locals := 12 } : Room).slots) := by
  refine MetFree.of_bodySF (plainFor_of_name pn_rm1) hisR ?_
  intro p e s m args below meth c s₁ Bd hml0 hP hK
  obtain ⟨rfl, hZ, hh⟩ := hP
  have hx := Bd.exec
  have hby := Bd.bytes
  have hml : c.maxLocals = 2 := hml0
  have hown : s.vm.findClass "com/example/eager_recall/eagerrecall/vectors/HnswGraph$VisitedRows" = some m.cls := findClass_of_methodNamed Bd.named
  have hnm := (name_of_methodNamed Bd.named Bd.method).1
  have X0 : Stand p l e ({ frames := 1, cells := 2, slots := 72, locals := 12 } : Room) s m #[(.ref a1), (.int p2)] below meth c s₁ [] 0 0 := Stand.of_body Bd
  have e0 : s₁.heap = h0 := by rw [← hh, Bd.state]; rfl
  have N0 := Fr.nil n0
  have pre0 : ∀ t, Steps p.tables e below (s₁.setTop (mkF m 0 #[.val (.ref a1), .val (.int p2)] [])) t → Steps p.tables e below (s₁.setTop (entryFrame m #[(.ref a1), (.int p2)] 2)) t := fun t k => castTop (ef_rm1 m a1 p2) k
  show own_Fin p e below _ _
  refine own_go pre0 ?_
  have hmm := own_mm p2 c1 c2
  refine own_go (B := s₁.setTop (mkF m 1 #[.val (.ref a1), .val (.int p2)] [(.ref a1)])) (fun t k => ?_) ?_
  · show Steps p.tables e below (s₁.setTop (mkF m 0 #[.val (.ref a1), .val (.int p2)] [])) t
    refine XS.aloadN X0.here hx rfl (hb hby d1_0) rfl rfl ?_
    exact k
  obtain ⟨T1, X1, e1, st1⟩ := initO X0 hx hZ hown (hw _ (List.mem_of_getElem? (i := 7) rfl)) (hw _ (List.mem_of_getElem? (i := 8) rfl)) (hw _ (List.mem_of_getElem? (i := 9) rfl)) e0 (g := (mkF m 1 #[.val (.ref a1), .val (.int p2)] [(.ref a1)])) rfl (by rw [hml]; rfl) rfl (hb hby d1_1) (by decide) (W := 0) (by show 2 * 0 + _ ≤ _; exact Nat.le_of_eq rfl) (by decide)
  refine own_go (fun t k => st1 t k) ?_
  refine own_go (B := T1.setTop (mkF m 7 #[.val (.ref a1), .val (.int p2)] [(.int (64 : Int32)), (.ref a1)])) (fun t k => ?_) ?_
  · show Steps p.tables e below (T1.setTop (mkF m 4 #[.val (.ref a1), .val (.int p2)] [])) t
    refine XS.aloadN X1.here hx rfl (hb hby d1_4) rfl rfl ?_
    show Steps p.tables e below (T1.setTop (mkF m 5 #[.val (.ref a1), .val (.int p2)] [(.ref a1)])) t
    refine XS.bipush X1.here hx rfl (hb hby d1_5) ?_
    exact k
  obtain ⟨T2, h2, k2, X2, e2, E2, A2, st2⟩ := newP X1 hx hZ (hw _ (List.mem_of_getElem? (i := 10) rfl)) e1 (g := (mkF m 7 #[.val (.ref a1), .val (.int p2)] [(.int (64 : Int32)), (.ref a1)])) rfl (hb hby d1_7) rfl (by decide) (cap := 64) (by decide) (by decide) (by decide) (by decide)
  obtain ⟨b2, g2⟩ : ∃ z, z = h0.size := ⟨_, rfl⟩
  rw [← g2] at A2 st2
  refine own_go (fun t k => st2 t k) ?_
  have g_b2 : n0 ≤ b2 := Nat.le_trans Z0 (Nat.le_of_eq g2.symm)
  have sz_b2 : h0.size ≤ b2 := Nat.le_trans (Keep.refl h0 [a1]).1 (Nat.le_of_eq g2.symm)
  have ne2_a1 : a1 ≠ b2 := Nat.ne_of_lt (Nat.lt_of_lt_of_le E_a1.lt (Nat.le_of_eq g2.symm))
  have K2 : Keep h0 h2 [a1] := (Keep.refl h0 [a1]).ext E2
  have f2_0 := E_a1.ext E2
  have f2_1 := F1.ext E2
  have f2_2 := F2.ext E2
  have f2_3 := F3.ext E2
  have V2 : own_Ag Value.int Z h2 b2 .int (64 : Int32) (fun _ => (0 : Int32)) := own_Ag.new (Arv.new A2 (by decide))
  obtain ⟨T3, h3, X3, e3, W3, st3⟩ := putF X2 hx hZ hown (host := "") (Or.inl (hw _ (List.mem_of_getElem? (i := 11) rfl))) Via.refl e2 f2_1 f2_0 (Or.inl (hw _ (List.mem_of_getElem? (i := 12) rfl))) (hw _ (List.mem_of_getElem? (i := 2) rfl)) (ty := (.array .int)) (by decide) rfl rfl (g := (mkF m 9 #[.val (.ref a1), .val (.int p2)] [(.ref b2), (.ref a1)])) rfl rfl (hb hby d1_9)
  refine own_go (fun t k => st3 t k) ?_
  have N3 := Fr.snoc X3 N0 g_a1
  have K3 : Keep h0 h3 [a1] := K2.wr W3 (Or.inl (List.mem_of_getElem? (i := 0) rfl))
  have f3_0 := f2_0.wr W3
  have f3_1 := f2_1.same W3
  have f3_2 := f2_2.other W3 (Or.inr (slot_ne (Or.inr (hw _ (List.mem_of_getElem? (i := 15) rfl))) (Or.inl (hw _ (List.mem_of_getElem? (i := 12) rfl))) (by decide) (t := (.array .long)) (t' := (.array .int)) (by decide) (by decide)))
  have f3_3 := f2_3.other W3 (Or.inr (slot_ne (Or.inl (hw _ (List.mem_of_getElem? (i := 22) rfl))) (Or.inl (hw _ (List.mem_of_getElem? (i := 12) rfl))) (by decide) (t := .int) (t' := (.array .int)) (by decide) (by decide)))
  have f3_4 := V2.other W3 (Ne.symm ne2_a1)
  refine own_go (B := T3.setTop (mkF m 20 #[.val (.ref a1), .val (.int p2)] [(.int (((p2 + (63 : Int32)).toUInt32 >>> ((6 : Int32) &&& 31).toUInt32).toInt32)), (.ref a1)])) (fun t k => ?_) ?_
  · show Steps p.tables e below (T3.setTop (mkF m 12 #[.val (.ref a1), .val (.int p2)] [])) t
    refine XS.aloadN X3.here hx rfl (hb hby d1_12) rfl rfl ?_
    show Steps p.tables e below (T3.setTop (mkF m 13 #[.val (.ref a1), .val (.int p2)] [(.ref a1)])) t
    refine XS.iloadN X3.here hx rfl (hb hby d1_13) rfl ?_
    show Steps p.tables e below (T3.setTop (mkF m 14 #[.val (.ref a1), .val (.int p2)] [(.int p2), (.ref a1)])) t
    refine XS.bipush X3.here hx rfl (hb hby d1_14) ?_
    show Steps p.tables e below (T3.setTop (mkF m 16 #[.val (.ref a1), .val (.int p2)] [(.int (63 : Int32)), (.int p2), (.ref a1)])) t
    refine XS.iadd X3.here hx rfl (hb hby d1_16) rfl ?_
    show Steps p.tables e below (T3.setTop (mkF m 17 #[.val (.ref a1), .val (.int p2)] [(.int (p2 + (63 : Int32))), (.ref a1)])) t
    refine XS.bipush X3.here hx rfl (hb hby d1_17) ?_
    show Steps p.tables e below (T3.setTop (mkF m 19 #[.val (.ref a1), .val (.int p2)] [(.int (6 : Int32)), (.int (p2 + (63 : Int32))), (.ref a1)])) t
    refine XS.iushr X3.here hx rfl (hb hby d1_19) rfl ?_
    exact k
  obtain ⟨T4, h4, k4, X4, e4, E4, A4, st4⟩ := newP X3 hx hZ (hw _ (List.mem_of_getElem? (i := 13) rfl)) e3 (g := (mkF m 20 #[.val (.ref a1), .val (.int p2)] [(.int (((p2 + (63 : Int32)).toUInt32 >>> ((6 : Int32) &&& 31).toUInt32).toInt32)), (.ref a1)])) rfl (hb hby d1_20) rfl hmm.1 (cap := 8) hmm.2.1 (by decide) (by decide) (by decide)
  obtain ⟨b4, g4⟩ : ∃ z, z = h3.size := ⟨_, rfl⟩
  rw [← g4] at A4 st4
  refine own_go (fun t k => st4 t k) ?_
  have g_b4 : n0 ≤ b4 := Nat.le_trans (Nat.le_trans (Nat.le_trans Z0 E2.1) (Keep.of_wr W3).1) (Nat.le_of_eq g4.symm)
  have sz_b4 : h0.size ≤ b4 := Nat.le_trans K3.1 (Nat.le_of_eq g4.symm)
  have ne4_a1 : a1 ≠ b4 := Nat.ne_of_lt (Nat.lt_of_lt_of_le f3_0.lt (Nat.le_of_eq g4.symm))
  have ne4_b2 : b2 ≠ b4 := Nat.ne_of_lt (Nat.lt_of_lt_of_le f3_4.lt (Nat.le_of_eq g4.symm))
  have K4 : Keep h0 h4 [a1] := K3.ext E4
  have f4_0 := f3_0.ext E4
  have f4_1 := f3_1.ext E4
  have f4_2 := f3_2.ext E4
  have f4_3 := f3_3.ext E4
  have f4_4 := f3_4.ext E4
  have V4 : own_Ag Value.long Z h4 b4 .long (((p2 + (63 : Int32)).toUInt32 >>> ((6 : Int32) &&& 31).toUInt32).toInt32) (fun _ => (0 : Int64)) := own_Ag.new (Arv.new A4 hmm.1)
  obtain ⟨T5, h5, X5, e5, W5, st5⟩ := putF X4 hx hZ hown (host := "") (Or.inl (hw _ (List.mem_of_getElem? (i := 14) rfl))) Via.refl e4 f4_2 f4_0 (Or.inr ⟨(hw _ (List.mem_of_getElem? (i := 15) rfl)), rfl, hnm⟩) (hw _ (List.mem_of_getElem? (i := 2) rfl)) (ty := (.array .long)) (by decide) rfl rfl (g := (mkF m 22 #[.val (.ref a1), .val (.int p2)] [(.ref b4), (.ref a1)])) rfl rfl (hb hby d1_22)
  refine own_go (fun t k => st5 t k) ?_
  have N5 := Fr.snoc X5 N3 g_a1
  have K5 : Keep h0 h5 [a1] := K4.wr W5 (Or.inl (List.mem_of_getElem? (i := 0) rfl))
  have f5_0 := f4_0.wr W5
  have f5_1 := f4_1.other W5 (Or.inr (slot_ne (Or.inl (hw _ (List.mem_of_getElem? (i := 12) rfl))) (Or.inr (hw _ (List.mem_of_getElem? (i := 15) rfl))) (by decide) (t := (.array .int)) (t' := (.array .long)) (by decide) (by decide)))
  have f5_2 := f4_2.same W5
  have f5_3 := f4_3.other W5 (Or.inr (slot_ne (Or.inl (hw _ (List.mem_of_getElem? (i := 22) rfl))) (Or.inr (hw _ (List.mem_of_getElem? (i := 15) rfl))) (by decide) (t := .int) (t' := (.array .long)) (by decide) (by decide)))
  have f5_4 := f4_4.other W5 (Ne.symm ne2_a1)
  have f5_5 := V4.other W5 (Ne.symm ne4_a1)
  obtain ⟨fs, hr, hrun, hended, hW, hsame⟩ := X5.leave (v := none) (fun _ => rfl)
  refine ⟨_, _, ?_, hrun, hended, _, _, rfl, ?_, ⟨_, rfl⟩, hW, hsame.mono (by decide) (by decide)⟩
  · show Steps p.tables e below (T5.setTop (mkF m 25 #[.val (.ref a1), .val (.int p2)] [])) _
    exact X5.returnOut hx Bd.returns (hb hby d1_25) hr
  · show Q1 Z a1 p2 u1 u2 h0 n0 _ T5.heap _
    rw [e5]
    exact ⟨b2, b4, _, rfl, N5, K5, ⟨0, _, _, f5_0, f5_1, f5_2, f5_3, f5_4, f5_5, ne4_b2, ne2_a1, ne4_a1, own_rep_nil _ _, hmm.2.2, c1, c2⟩, g_b2, g_b4, sz_b2, sz_b4⟩
theorem d3_0 : decode prog_101_method_2_code 0 = .ok (.lconst 1, 1) := by decide +kernel
theorem d3_1 : decode prog_101_method_2_code 1 = .ok (.iload_n 1, 1) := by decide +kernel
theorem d3_2 : decode prog_101_method_2_code 2 = .ok (.lshl, 1) := by decide +kernel
theorem d3_3 : decode prog_101_method_2_code 3 = .ok (.lstore_n 2, 1) := by decide +kernel
theorem d3_4 : decode prog_101_method_2_code 4 = .ok (.aload_n 0, 1) := by decide +kernel
theorem d3_5 : decode prog_101_method_2_code 5 = .ok (.getfield 13, 3) := by decide +kernel
theorem d3_8 : decode prog_101_method_2_code 8 = .ok (.iload_n 1, 1) := by decide +kernel
theorem d3_9 : decode prog_101_method_2_code 9 = .ok (.bipush 6, 2) := by decide +kernel
theorem d3_11 : decode prog_101_method_2_code 11 = .ok (.iushr, 1) := by decide +kernel
theorem d3_12 : decode prog_101_method_2_code 12 = .ok (.laload, 1) := by decide +kernel
theorem d3_13 : decode prog_101_method_2_code 13 = .ok (.lload_n 2, 1) := by decide +kernel
theorem d3_14 : decode prog_101_method_2_code 14 = .ok (.land, 1) := by decide +kernel
theorem d3_15 : decode prog_101_method_2_code 15 = .ok (.lconst 0, 1) := by decide +kernel
theorem d3_16 : decode prog_101_method_2_code 16 = .ok (.lcmp, 1) := by decide +kernel
theorem d3_17 : decode prog_101_method_2_code 17 = .ok (.ifCond .ne 7, 3) := by decide +kernel
theorem d3_20 : decode prog_101_method_2_code 20 = .ok (.iconst 1, 1) := by decide +kernel
theorem d3_21 : decode prog_101_method_2_code 21 = .ok (.goto 4, 3) := by decide +kernel
theorem d3_24 : decode prog_101_method_2_code 24 = .ok (.iconst 0, 1) := by decide +kernel
theorem d3_25 : decode prog_101_method_2_code 25 = .ok (.istore 4, 2) := by decide +kernel
theorem d3_27 : decode prog_101_method_2_code 27 = .ok (.iload 4, 2) := by decide +kernel
theorem d3_29 : decode prog_101_method_2_code 29 = .ok (.ifCond .eq 62, 3) := by decide +kernel
theorem d3_32 : decode prog_101_method_2_code 32 = .ok (.aload_n 0, 1) := by decide +kernel
theorem d3_33 : decode prog_101_method_2_code 33 = .ok (.getfield 13, 3) := by decide +kernel
theorem d3_36 : decode prog_101_method_2_code 36 = .ok (.iload_n 1, 1) := by decide +kernel
theorem d3_37 : decode prog_101_method_2_code 37 = .ok (.bipush 6, 2) := by decide +kernel
theorem d3_39 : decode prog_101_method_2_code 39 = .ok (.iushr, 1) := by decide +kernel
theorem d3_40 : decode prog_101_method_2_code 40 = .ok (.dup2, 1) := by decide +kernel
theorem d3_41 : decode prog_101_method_2_code 41 = .ok (.laload, 1) := by decide +kernel
theorem d3_42 : decode prog_101_method_2_code 42 = .ok (.lload_n 2, 1) := by decide +kernel
theorem d3_43 : decode prog_101_method_2_code 43 = .ok (.lor, 1) := by decide +kernel
theorem d3_44 : decode prog_101_method_2_code 44 = .ok (.lastore, 1) := by decide +kernel
theorem d3_45 : decode prog_101_method_2_code 45 = .ok (.aload_n 0, 1) := by decide +kernel
theorem d3_46 : decode prog_101_method_2_code 46 = .ok (.getfield 17, 3) := by decide +kernel
theorem d3_49 : decode prog_101_method_2_code 49 = .ok (.aload_n 0, 1) := by decide +kernel
theorem d3_50 : decode prog_101_method_2_code 50 = .ok (.getfield 7, 3) := by decide +kernel
theorem d3_53 : decode prog_101_method_2_code 53 = .ok (.arraylength, 1) := by decide +kernel
theorem d3_54 : decode prog_101_method_2_code 54 = .ok (.if_icmp .ne 20, 3) := by decide +kernel
theorem d3_74 : decode prog_101_method_2_code 74 = .ok (.aload_n 0, 1) := by decide +kernel
theorem d3_75 : decode prog_101_method_2_code 75 = .ok (.getfield 7, 3) := by decide +kernel
theorem d3_78 : decode prog_101_method_2_code 78 = .ok (.aload_n 0, 1) := by decide +kernel
theorem d3_79 : decode prog_101_method_2_code 79 = .ok (.dup, 1) := by decide +kernel
theorem d3_80 : decode prog_101_method_2_code 80 = .ok (.getfield 17, 3) := by decide +kernel
theorem d3_83 : decode prog_101_method_2_code 83 = .ok (.dup_x1, 1) := by decide +kernel
theorem d3_84 : decode prog_101_method_2_code 84 = .ok (.iconst 1, 1) := by decide +kernel
theorem d3_85 : decode prog_101_method_2_code 85 = .ok (.iadd, 1) := by decide +kernel
theorem d3_86 : decode prog_101_method_2_code 86 = .ok (.putfield 17, 3) := by decide +kernel
theorem d3_89 : decode prog_101_method_2_code 89 = .ok (.iload_n 1, 1) := by decide +kernel
theorem d3_90 : decode prog_101_method_2_code 90 = .ok (.iastore, 1) := by decide +kernel
theorem d3_91 : decode prog_101_method_2_code 91 = .ok (.iload 4, 2) := by decide +kernel
theorem d3_93 : decode prog_101_method_2_code 93 = .ok (.ireturn, 1) := by decide +kernel
theorem pn_rm3 : plainName "com/example/eager_recall/eagerrecall/vectors/HnswGraph$VisitedRows" = true := by first | (simp [plainName, overriddenIn]; done) | decide +kernel
theorem ef_rm3 (m : MethodId) (x0 : Addr) (x1 : Int32) : entryFrame m #[(.ref x0), (.int x1)] 5 = mkF m 0 #[.val (.ref x0), .val (.int x1), .unset, .unset, .unset] [] := by first | (simp [entryFrame, mkF, argsToLocals, Value.category]; done) | rfl
def Q3 (Z : State) (a1 : Addr) (p2 : Int32) (aM : Addr) (aB : Addr) (mm : Int32) (n : Int32) (S : List Int32) (h0 : Heap) (n0 : Nat) (v : Option Value) (h : Heap) (L : List Loc) : Prop := ∃ (r : Int32) (S' : List Int32), v = some (.int r) ∧ Fr n0 L ∧ Keep h0 h [a1, aM, aB] ∧ r = (if p2 ∈ S then (0 : Int32) else (1 : Int32)) ∧ own_OK Z h a1 aM aB mm n S' ∧ (∀ x, x ∈ S' ↔ x = p2 ∨ x ∈ S) ∧ S'.length ≤ S.length + 1
set_option maxRecDepth 65536 in
set_option maxHeartbeats 40000000 in
theorem rm3 (l : Launch) (Z : State) (a0 : Array Value) (hw : ∀ d ∈ tables_1, d.before a0 Z = true) (ws : List Jvm.Cond) (a1 : Addr) (p2 : Int32) (aM : Addr) (aB : Addr) (mm : Int32) (n : Int32) (S : List Int32) (h0 : Heap) (n0 : Nat) (Z0 : n0 ≤ h0.size) (OK : own_OK Z h0 a1 aM aB mm n S) (g_a1 : n0 ≤ a1) (g_aM : n0 ≤ aM) (g_aB : n0 ≤ aB) (hl : S.length < 64) (hp0 : 0 ≤ p2.toInt) (hpn : p2.toInt < n.toInt) :
    MetFree l (⟨"com/example/eager_recall/eagerrecall/vectors/HnswGraph$VisitedRows", "visit", "(I)Z"⟩ : MethodName) (head1 (Jvm.Cond.code (⟨"com/example/eager_recall/eagerrecall/vectors/HnswGraph$VisitedRows", "visit", "(I)Z"⟩ : MethodName) prog_101_method_2_code 5 (some .boolean) :: ws) ({ frames := 0, cells := 0, slots := 0, locals := 0 } : Room)) (fun a U => a = #[(.ref a1), (.int p2)] ∧ Z.Warmed39 U.vm ∧ U.heap = h0) (fun _ _ _ _ _ => True) (fun _ U o U' => ∃ v L, o = .returned v ∧ Q3 Z a1 p2 aM aB mm n S h0 n0 v U'.heap L ∧ FrameEnd U o U' L ({ frames := 0, cells := 0, slots := 0, locals := 0 } : Room).cells ({ frames := 0, cells := 0, slots := 0, locals := 0 } : Room).slots) := by
  refine MetFree.of_bodySF (plainFor_of_name pn_rm3) hisR ?_
  intro p e s m args below meth c s₁ Bd hml0 hP hK
  obtain ⟨rfl, hZ, hh⟩ := hP
  have hx := Bd.exec
  have hby := Bd.bytes
  have hml : c.maxLocals = 5 := hml0
  have hown : s.vm.findClass "com/example/eager_recall/eagerrecall/vectors/HnswGraph$VisitedRows" = some m.cls := findClass_of_methodNamed Bd.named
  have hnm := (name_of_methodNamed Bd.named Bd.method).1
  have X0 : Stand p l e ({ frames := 0, cells := 0, slots := 0, locals := 0 } : Room) s m #[(.ref a1), (.int p2)] below meth c s₁ [] 0 0 := Stand.of_body Bd
  have e0 : s₁.heap = h0 := by rw [← hh, Bd.state]; rfl
  have N0 := Fr.nil n0
  have pre0 : ∀ t, Steps p.tables e below (s₁.setTop (mkF m 0 #[.val (.ref a1), .val (.int p2), .unset, .unset, .unset] [])) t → Steps p.tables e below (s₁.setTop (entryFrame m #[(.ref a1), (.int p2)] 5)) t := fun t k => castTop (ef_rm3 m a1 p2) k
  show own_Fin p e below _ _
  refine own_go pre0 ?_
  obtain ⟨cn, gM, gB, E1, F1, F2, F3, A1, A2, ne1, ne2, ne3, R, hmm, hn1, hn2⟩ := OK
  obtain ⟨cn0, cn1, cn2, cn3⟩ := own_cn R hl
  refine own_go (B := s₁.setTop (mkF m 5 #[.val (.ref a1), .val (.int p2), .val (.long ((1 : Int64) <<< (p2 &&& 0x3f).toInt64)), .second, .unset] [(.ref a1)])) (fun t k => ?_) ?_
  · show Steps p.tables e below (s₁.setTop (mkF m 0 #[.val (.ref a1), .val (.int p2), .unset, .unset, .unset] [])) t
    refine XS.lconst X0.here hx rfl (hb hby d3_0) ?_
    show Steps p.tables e below (s₁.setTop (mkF m 1 #[.val (.ref a1), .val (.int p2), .unset, .unset, .unset] [(.long (1 : Int64))])) t
    refine XS.iloadN X0.here hx rfl (hb hby d3_1) rfl ?_
    show Steps p.tables e below (s₁.setTop (mkF m 2 #[.val (.ref a1), .val (.int p2), .unset, .unset, .unset] [(.int p2), (.long (1 : Int64))])) t
    refine XS.lshl X0.here hx rfl (hb hby d3_2) rfl ?_
    show Steps p.tables e below (s₁.setTop (mkF m 3 #[.val (.ref a1), .val (.int p2), .unset, .unset, .unset] [(.long ((1 : Int64) <<< (p2 &&& 0x3f).toInt64))])) t
    refine XS.lstoreN X0.here hx rfl (hb hby d3_3) rfl (l' := #[.val (.ref a1), .val (.int p2), .val (.long ((1 : Int64) <<< (p2 &&& 0x3f).toInt64)), .second, .unset]) rfl ?_
    show Steps p.tables e below (s₁.setTop (mkF m 4 #[.val (.ref a1), .val (.int p2), .val (.long ((1 : Int64) <<< (p2 &&& 0x3f).toInt64)), .second, .unset] [])) t
    refine XS.aloadN X0.here hx rfl (hb hby d3_4) rfl rfl ?_
    exact k
  obtain ⟨T1, X1, e1, st1⟩ := getF X0 hx hZ hown (host := "") (Or.inl (hw _ (List.mem_of_getElem? (i := 14) rfl))) Via.refl e0 F2 (g := (mkF m 5 #[.val (.ref a1), .val (.int p2), .val (.long ((1 : Int64) <<< (p2 &&& 0x3f).toInt64)), .second, .unset] [(.ref a1)])) rfl rfl (hb hby d3_5)
  refine own_go (fun t k => st1 t k) ?_
  refine own_go (B := T1.setTop (mkF m 12 #[.val (.ref a1), .val (.int p2), .val (.long ((1 : Int64) <<< (p2 &&& 0x3f).toInt64)), .second, .unset] [(.int ((p2.toUInt32 >>> ((6 : Int32) &&& 31).toUInt32).toInt32)), (.ref aB)])) (fun t k => ?_) ?_
  · show Steps p.tables e below (T1.setTop (mkF m 8 #[.val (.ref a1), .val (.int p2), .val (.long ((1 : Int64) <<< (p2 &&& 0x3f).toInt64)), .second, .unset] [(.ref aB)])) t
    refine XS.iloadN X1.here hx rfl (hb hby d3_8) rfl ?_
    show Steps p.tables e below (T1.setTop (mkF m 9 #[.val (.ref a1), .val (.int p2), .val (.long ((1 : Int64) <<< (p2 &&& 0x3f).toInt64)), .second, .unset] [(.int p2), (.ref aB)])) t
    refine XS.bipush X1.here hx rfl (hb hby d3_9) ?_
    show Steps p.tables e below (T1.setTop (mkF m 11 #[.val (.ref a1), .val (.int p2), .val (.long ((1 : Int64) <<< (p2 &&& 0x3f).toInt64)), .second, .unset] [(.int (6 : Int32)), (.int p2), (.ref aB)])) t
    refine XS.iushr X1.here hx rfl (hb hby d3_11) rfl ?_
    exact k
  obtain ⟨cl2, Ar2, hin2, hat2, -, -⟩ := A2.get (j := ((p2.toUInt32 >>> ((6 : Int32) &&& 31).toUInt32).toInt32)) (own_sh p2 hp0).2.1 (own_lt hp0 hpn hmm)
  refine own_go (X1.laload hx (j := ((p2.toUInt32 >>> ((6 : Int32) &&& 31).toUInt32).toInt32)) (v := (.long (gB (((p2.toUInt32 >>> ((6 : Int32) &&& 31).toUInt32).toInt32)).toNatClampNeg))) (by rw [e1]; exact Ar2.1) (State.isArrayOf_alike hZ.alike Ar2.2.1) Ar2.2.2 hin2 hat2 (g := (mkF m 12 #[.val (.ref a1), .val (.int p2), .val (.long ((1 : Int64) <<< (p2 &&& 0x3f).toInt64)), .second, .unset] [(.int ((p2.toUInt32 >>> ((6 : Int32) &&& 31).toUInt32).toInt32)), (.ref aB)])) rfl rfl (hb hby d3_12)) ?_
  refine own_go (B := T1.setTop (mkF m 17 #[.val (.ref a1), .val (.int p2), .val (.long ((1 : Int64) <<< (p2 &&& 0x3f).toInt64)), .second, .unset] [(.int (lcmpW ((gB (((p2.toUInt32 >>> ((6 : Int32) &&& 31).toUInt32).toInt32)).toNatClampNeg) &&& ((1 : Int64) <<< (p2 &&& 0x3f).toInt64)) (0 : Int64)))])) (fun t k => ?_) ?_
  · show Steps p.tables e below (T1.setTop (mkF m 13 #[.val (.ref a1), .val (.int p2), .val (.long ((1 : Int64) <<< (p2 &&& 0x3f).toInt64)), .second, .unset] [(.long (gB (((p2.toUInt32 >>> ((6 : Int32) &&& 31).toUInt32).toInt32)).toNatClampNeg))])) t
    refine XS.lloadN X1.here hx rfl (hb hby d3_13) rfl ?_
    show Steps p.tables e below (T1.setTop (mkF m 14 #[.val (.ref a1), .val (.int p2), .val (.long ((1 : Int64) <<< (p2 &&& 0x3f).toInt64)), .second, .unset] [(.long ((1 : Int64) <<< (p2 &&& 0x3f).toInt64)), (.long (gB (((p2.toUInt32 >>> ((6 : Int32) &&& 31).toUInt32).toInt32)).toNatClampNeg))])) t
    refine XS.land X1.here hx rfl (hb hby d3_14) rfl ?_
    show Steps p.tables e below (T1.setTop (mkF m 15 #[.val (.ref a1), .val (.int p2), .val (.long ((1 : Int64) <<< (p2 &&& 0x3f).toInt64)), .second, .unset] [(.long ((gB (((p2.toUInt32 >>> ((6 : Int32) &&& 31).toUInt32).toInt32)).toNatClampNeg) &&& ((1 : Int64) <<< (p2 &&& 0x3f).toInt64)))])) t
    refine XS.lconst X1.here hx rfl (hb hby d3_15) ?_
    show Steps p.tables e below (T1.setTop (mkF m 16 #[.val (.ref a1), .val (.int p2), .val (.long ((1 : Int64) <<< (p2 &&& 0x3f).toInt64)), .second, .unset] [(.long (0 : Int64)), (.long ((gB (((p2.toUInt32 >>> ((6 : Int32) &&& 31).toUInt32).toInt32)).toNatClampNeg) &&& ((1 : Int64) <<< (p2 &&& 0x3f).toInt64)))])) t
    refine XS.lcmp X1.here hx rfl (hb hby d3_16) rfl ?_
    exact k
  by_cases hc17_3 : ((gB (((p2.toUInt32 >>> ((6 : Int32) &&& 31).toUInt32).toInt32)).toNatClampNeg) &&& ((1 : Int64) <<< (p2 &&& 0x3f).toInt64)) = (0 : Int64)
  · refine own_go (B := T1.setTop (mkF m 20 #[.val (.ref a1), .val (.int p2), .val (.long ((1 : Int64) <<< (p2 &&& 0x3f).toInt64)), .second, .unset] [])) (fun t k => ?_) ?_
    · show Steps p.tables e below (T1.setTop (mkF m 17 #[.val (.ref a1), .val (.int p2), .val (.long ((1 : Int64) <<< (p2 &&& 0x3f).toInt64)), .second, .unset] [(.int (lcmpW ((gB (((p2.toUInt32 >>> ((6 : Int32) &&& 31).toUInt32).toInt32)).toNatClampNeg) &&& ((1 : Int64) <<< (p2 &&& 0x3f).toInt64)) (0 : Int64)))])) t
      refine XS.ifNo X1.here hx rfl (hb hby d3_17) rfl ((if0 _ _).trans (teq ((lw_eq ((gB (((p2.toUInt32 >>> ((6 : Int32) &&& 31).toUInt32).toInt32)).toNatClampNeg) &&& ((1 : Int64) <<< (p2 &&& 0x3f).toInt64)) (0 : Int64)).mpr hc17_3)).2) ?_
      exact k
    refine own_go (B := T1.setTop (mkF m 33 #[.val (.ref a1), .val (.int p2), .val (.long ((1 : Int64) <<< (p2 &&& 0x3f).toInt64)), .second, .val (.int (1 : Int32))] [(.ref a1)])) (fun t k => ?_) ?_
    · show Steps p.tables e below (T1.setTop (mkF m 20 #[.val (.ref a1), .val (.int p2), .val (.long ((1 : Int64) <<< (p2 &&& 0x3f).toInt64)), .second, .unset] [])) t
      refine XS.iconst X1.here hx rfl (hb hby d3_20) ?_
      show Steps p.tables e below (T1.setTop (mkF m 21 #[.val (.ref a1), .val (.int p2), .val (.long ((1 : Int64) <<< (p2 &&& 0x3f).toInt64)), .second, .unset] [(.int (1 : Int32))])) t
      refine XS.goto X1.here hx rfl (pc0 := 21) (pc' := 25) rfl (hb hby d3_21) (by decide) (by decide) ?_
      show Steps p.tables e below (T1.setTop (mkF m 25 #[.val (.ref a1), .val (.int p2), .val (.long ((1 : Int64) <<< (p2 &&& 0x3f).toInt64)), .second, .unset] [(.int (1 : Int32))])) t
      refine XS.istore X1.here hx rfl (hb hby d3_25) rfl (l' := #[.val (.ref a1), .val (.int p2), .val (.long ((1 : Int64) <<< (p2 &&& 0x3f).toInt64)), .second, .val (.int (1 : Int32))]) rfl ?_
      show Steps p.tables e below (T1.setTop (mkF m 27 #[.val (.ref a1), .val (.int p2), .val (.long ((1 : Int64) <<< (p2 &&& 0x3f).toInt64)), .second, .val (.int (1 : Int32))] [])) t
      refine XS.iload X1.here hx rfl (hb hby d3_27) rfl ?_
      show Steps p.tables e below (T1.setTop (mkF m 29 #[.val (.ref a1), .val (.int p2), .val (.long ((1 : Int64) <<< (p2 &&& 0x3f).toInt64)), .second, .val (.int (1 : Int32))] [(.int (1 : Int32))])) t
      refine XS.ifNo X1.here hx rfl (hb hby d3_29) rfl ((if0 _ _).trans (feq (by decide : ¬ ((1 : Int32) = (0 : Int32)))).1) ?_
      show Steps p.tables e below (T1.setTop (mkF m 32 #[.val (.ref a1), .val (.int p2), .val (.long ((1 : Int64) <<< (p2 &&& 0x3f).toInt64)), .second, .val (.int (1 : Int32))] [])) t
      refine XS.aloadN X1.here hx rfl (hb hby d3_32) rfl rfl ?_
      exact k
    obtain ⟨T4, X4, e4, st4⟩ := getF X1 hx hZ hown (host := "") (Or.inl (hw _ (List.mem_of_getElem? (i := 14) rfl))) Via.refl e1 F2 (g := (mkF m 33 #[.val (.ref a1), .val (.int p2), .val (.long ((1 : Int64) <<< (p2 &&& 0x3f).toInt64)), .second, .val (.int (1 : Int32))] [(.ref a1)])) rfl rfl (hb hby d3_33)
    refine own_go (fun t k => st4 t k) ?_
    refine own_go (B := T4.setTop (mkF m 41 #[.val (.ref a1), .val (.int p2), .val (.long ((1 : Int64) <<< (p2 &&& 0x3f).toInt64)), .second, .val (.int (1 : Int32))] [(.int ((p2.toUInt32 >>> ((6 : Int32) &&& 31).toUInt32).toInt32)), (.ref aB), (.int ((p2.toUInt32 >>> ((6 : Int32) &&& 31).toUInt32).toInt32)), (.ref aB)])) (fun t k => ?_) ?_
    · show Steps p.tables e below (T4.setTop (mkF m 36 #[.val (.ref a1), .val (.int p2), .val (.long ((1 : Int64) <<< (p2 &&& 0x3f).toInt64)), .second, .val (.int (1 : Int32))] [(.ref aB)])) t
      refine XS.iloadN X4.here hx rfl (hb hby d3_36) rfl ?_
      show Steps p.tables e below (T4.setTop (mkF m 37 #[.val (.ref a1), .val (.int p2), .val (.long ((1 : Int64) <<< (p2 &&& 0x3f).toInt64)), .second, .val (.int (1 : Int32))] [(.int p2), (.ref aB)])) t
      refine XS.bipush X4.here hx rfl (hb hby d3_37) ?_
      show Steps p.tables e below (T4.setTop (mkF m 39 #[.val (.ref a1), .val (.int p2), .val (.long ((1 : Int64) <<< (p2 &&& 0x3f).toInt64)), .second, .val (.int (1 : Int32))] [(.int (6 : Int32)), (.int p2), (.ref aB)])) t
      refine XS.iushr X4.here hx rfl (hb hby d3_39) rfl ?_
      show Steps p.tables e below (T4.setTop (mkF m 40 #[.val (.ref a1), .val (.int p2), .val (.long ((1 : Int64) <<< (p2 &&& 0x3f).toInt64)), .second, .val (.int (1 : Int32))] [(.int ((p2.toUInt32 >>> ((6 : Int32) &&& 31).toUInt32).toInt32)), (.ref aB)])) t
      refine XT.dup2 X4.here hx rfl (hb hby d3_40) rfl rfl rfl ?_
      exact k
    obtain ⟨cl5, Ar5, hin5, hat5, -, -⟩ := A2.get (j := ((p2.toUInt32 >>> ((6 : Int32) &&& 31).toUInt32).toInt32)) (own_sh p2 hp0).2.1 (own_lt hp0 hpn hmm)
    refine own_go (X4.laload hx (j := ((p2.toUInt32 >>> ((6 : Int32) &&& 31).toUInt32).toInt32)) (v := (.long (gB (((p2.toUInt32 >>> ((6 : Int32) &&& 31).toUInt32).toInt32)).toNatClampNeg))) (by rw [e4]; exact Ar5.1) (State.isArrayOf_alike hZ.alike Ar5.2.1) Ar5.2.2 hin5 hat5 (g := (mkF m 41 #[.val (.ref a1), .val (.int p2), .val (.long ((1 : Int64) <<< (p2 &&& 0x3f).toInt64)), .second, .val (.int (1 : Int32))] [(.int ((p2.toUInt32 >>> ((6 : Int32) &&& 31).toUInt32).toInt32)), (.ref aB), (.int ((p2.toUInt32 >>> ((6 : Int32) &&& 31).toUInt32).toInt32)), (.ref aB)])) rfl rfl (hb hby d3_41)) ?_
    refine own_go (B := T4.setTop (mkF m 44 #[.val (.ref a1), .val (.int p2), .val (.long ((1 : Int64) <<< (p2 &&& 0x3f).toInt64)), .second, .val (.int (1 : Int32))] [(.long ((gB (((p2.toUInt32 >>> ((6 : Int32) &&& 31).toUInt32).toInt32)).toNatClampNeg) ||| ((1 : Int64) <<< (p2 &&& 0x3f).toInt64))), (.int ((p2.toUInt32 >>> ((6 : Int32) &&& 31).toUInt32).toInt32)), (.ref aB)])) (fun t k => ?_) ?_
    · show Steps p.tables e below (T4.setTop (mkF m 42 #[.val (.ref a1), .val (.int p2), .val (.long ((1 : Int64) <<< (p2 &&& 0x3f).toInt64)), .second, .val (.int (1 : Int32))] [(.long (gB (((p2.toUInt32 >>> ((6 : Int32) &&& 31).toUInt32).toInt32)).toNatClampNeg)), (.int ((p2.toUInt32 >>> ((6 : Int32) &&& 31).toUInt32).toInt32)), (.ref aB)])) t
      refine XS.lloadN X4.here hx rfl (hb hby d3_42) rfl ?_
      show Steps p.tables e below (T4.setTop (mkF m 43 #[.val (.ref a1), .val (.int p2), .val (.long ((1 : Int64) <<< (p2 &&& 0x3f).toInt64)), .second, .val (.int (1 : Int32))] [(.long ((1 : Int64) <<< (p2 &&& 0x3f).toInt64)), (.long (gB (((p2.toUInt32 >>> ((6 : Int32) &&& 31).toUInt32).toInt32)).toNatClampNeg)), (.int ((p2.toUInt32 >>> ((6 : Int32) &&& 31).toUInt32).toInt32)), (.ref aB)])) t
      refine XS.lor X4.here hx rfl (hb hby d3_43) rfl ?_
      exact k
    obtain ⟨cl6, Ar6, hin6, -, -, -⟩ := A2.get (j := ((p2.toUInt32 >>> ((6 : Int32) &&& 31).toUInt32).toInt32)) (own_sh p2 hp0).2.1 (own_lt hp0 hpn hmm)
    obtain ⟨T6, h6, X6, e6, W6, st6⟩ := stJ X4 hx hZ e4 Ar6 (j := ((p2.toUInt32 >>> ((6 : Int32) &&& 31).toUInt32).toInt32)) hin6 (g := (mkF m 44 #[.val (.ref a1), .val (.int p2), .val (.long ((1 : Int64) <<< (p2 &&& 0x3f).toInt64)), .second, .val (.int (1 : Int32))] [(.long ((gB (((p2.toUInt32 >>> ((6 : Int32) &&& 31).toUInt32).toInt32)).toNatClampNeg) ||| ((1 : Int64) <<< (p2 &&& 0x3f).toInt64))), (.int ((p2.toUInt32 >>> ((6 : Int32) &&& 31).toUInt32).toInt32)), (.ref aB)])) rfl rfl (hb hby d3_44)
    refine own_go (fun t k => st6 t k) ?_
    have N6 := Fr.snoc X6 N0 g_aB
    have K6 : Keep h0 h6 [a1, aM, aB] := (Keep.refl h0 [a1, aM, aB]).wr W6 (Or.inl (List.mem_of_getElem? (i := 2) rfl))
    have f6_0 := E1.wr W6
    have f6_1 := F1.other W6 (Or.inl ne3)
    have f6_2 := F2.other W6 (Or.inl ne3)
    have f6_3 := F3.other W6 (Or.inl ne3)
    have f6_4 := A1.other W6 ne1
    have f6_5 := A2.set W6
    refine own_go (B := T6.setTop (mkF m 46 #[.val (.ref a1), .val (.int p2), .val (.long ((1 : Int64) <<< (p2 &&& 0x3f).toInt64)), .second, .val (.int (1 : Int32))] [(.ref a1)])) (fun t k => ?_) ?_
    · show Steps p.tables e below (T6.setTop (mkF m 45 #[.val (.ref a1), .val (.int p2), .val (.long ((1 : Int64) <<< (p2 &&& 0x3f).toInt64)), .second, .val (.int (1 : Int32))] [])) t
      refine XS.aloadN X6.here hx rfl (hb hby d3_45) rfl rfl ?_
      exact k
    obtain ⟨T7, X7, e7, st7⟩ := getF X6 hx hZ hown (host := "") (Or.inl (hw _ (List.mem_of_getElem? (i := 21) rfl))) Via.refl e6 f6_3 (g := (mkF m 46 #[.val (.ref a1), .val (.int p2), .val (.long ((1 : Int64) <<< (p2 &&& 0x3f).toInt64)), .second, .val (.int (1 : Int32))] [(.ref a1)])) rfl rfl (hb hby d3_46)
    refine own_go (fun t k => st7 t k) ?_
    refine own_go (B := T7.setTop (mkF m 50 #[.val (.ref a1), .val (.int p2), .val (.long ((1 : Int64) <<< (p2 &&& 0x3f).toInt64)), .second, .val (.int (1 : Int32))] [(.ref a1), (.int cn)])) (fun t k => ?_) ?_
    · show Steps p.tables e below (T7.setTop (mkF m 49 #[.val (.ref a1), .val (.int p2), .val (.long ((1 : Int64) <<< (p2 &&& 0x3f).toInt64)), .second, .val (.int (1 : Int32))] [(.int cn)])) t
      refine XS.aloadN X7.here hx rfl (hb hby d3_49) rfl rfl ?_
      exact k
    obtain ⟨T8, X8, e8, st8⟩ := getF X7 hx hZ hown (host := "") (Or.inl (hw _ (List.mem_of_getElem? (i := 11) rfl))) Via.refl e7 f6_1 (g := (mkF m 50 #[.val (.ref a1), .val (.int p2), .val (.long ((1 : Int64) <<< (p2 &&& 0x3f).toInt64)), .second, .val (.int (1 : Int32))] [(.ref a1), (.int cn)])) rfl rfl (hb hby d3_50)
    refine own_go (fun t k => st8 t k) ?_
    obtain ⟨cl9, Ar9, S9, q9⟩ := f6_4.len
    refine own_go (X8.arraylength hx (by rw [e8]; exact Ar9.1) (State.isArrayOf_alike hZ.alike Ar9.2.1) (g := (mkF m 53 #[.val (.ref a1), .val (.int p2), .val (.long ((1 : Int64) <<< (p2 &&& 0x3f).toInt64)), .second, .val (.int (1 : Int32))] [(.ref aM), (.int cn)])) rfl rfl (hb hby d3_53)) ?_
    rw [len_of S9 q9]
    refine own_go (B := T8.setTop (mkF m 75 #[.val (.ref a1), .val (.int p2), .val (.long ((1 : Int64) <<< (p2 &&& 0x3f).toInt64)), .second, .val (.int (1 : Int32))] [(.ref a1)])) (fun t k => ?_) ?_
    · show Steps p.tables e below (T8.setTop (mkF m 54 #[.val (.ref a1), .val (.int p2), .val (.long ((1 : Int64) <<< (p2 &&& 0x3f).toInt64)), .second, .val (.int (1 : Int32))] [(.int (64 : Int32)), (.int cn)])) t
      refine XS.icmpYes X8.here hx rfl (pc0 := 54) (pc' := 74) rfl (hb hby d3_54) rfl (feq (cn2 : ¬ (cn = (64 : Int32)))).2 (by decide) (by decide) ?_
      show Steps p.tables e below (T8.setTop (mkF m 74 #[.val (.ref a1), .val (.int p2), .val (.long ((1 : Int64) <<< (p2 &&& 0x3f).toInt64)), .second, .val (.int (1 : Int32))] [])) t
      refine XS.aloadN X8.here hx rfl (hb hby d3_74) rfl rfl ?_
      exact k
    obtain ⟨T10, X10, e10, st10⟩ := getF X8 hx hZ hown (host := "") (Or.inl (hw _ (List.mem_of_getElem? (i := 11) rfl))) Via.refl e8 f6_1 (g := (mkF m 75 #[.val (.ref a1), .val (.int p2), .val (.long ((1 : Int64) <<< (p2 &&& 0x3f).toInt64)), .second, .val (.int (1 : Int32))] [(.ref a1)])) rfl rfl (hb hby d3_75)
    refine own_go (fun t k => st10 t k) ?_
    refine own_go (B := T10.setTop (mkF m 80 #[.val (.ref a1), .val (.int p2), .val (.long ((1 : Int64) <<< (p2 &&& 0x3f).toInt64)), .second, .val (.int (1 : Int32))] [(.ref a1), (.ref a1), (.ref aM)])) (fun t k => ?_) ?_
    · show Steps p.tables e below (T10.setTop (mkF m 78 #[.val (.ref a1), .val (.int p2), .val (.long ((1 : Int64) <<< (p2 &&& 0x3f).toInt64)), .second, .val (.int (1 : Int32))] [(.ref aM)])) t
      refine XS.aloadN X10.here hx rfl (hb hby d3_78) rfl rfl ?_
      show Steps p.tables e below (T10.setTop (mkF m 79 #[.val (.ref a1), .val (.int p2), .val (.long ((1 : Int64) <<< (p2 &&& 0x3f).toInt64)), .second, .val (.int (1 : Int32))] [(.ref a1), (.ref aM)])) t
      refine XS.dup X10.here hx rfl (hb hby d3_79) rfl rfl ?_
      exact k
    obtain ⟨T11, X11, e11, st11⟩ := getF X10 hx hZ hown (host := "") (Or.inl (hw _ (List.mem_of_getElem? (i := 21) rfl))) Via.refl e10 f6_3 (g := (mkF m 80 #[.val (.ref a1), .val (.int p2), .val (.long ((1 : Int64) <<< (p2 &&& 0x3f).toInt64)), .second, .val (.int (1 : Int32))] [(.ref a1), (.ref a1), (.ref aM)])) rfl rfl (hb hby d3_80)
    refine own_go (fun t k => st11 t k) ?_
    refine own_go (B := T11.setTop (mkF m 86 #[.val (.ref a1), .val (.int p2), .val (.long ((1 : Int64) <<< (p2 &&& 0x3f).toInt64)), .second, .val (.int (1 : Int32))] [(.int (cn + (1 : Int32))), (.ref a1), (.int cn), (.ref aM)])) (fun t k => ?_) ?_
    · show Steps p.tables e below (T11.setTop (mkF m 83 #[.val (.ref a1), .val (.int p2), .val (.long ((1 : Int64) <<< (p2 &&& 0x3f).toInt64)), .second, .val (.int (1 : Int32))] [(.int cn), (.ref a1), (.ref aM)])) t
      refine XS.dupX1 X11.here hx rfl (hb hby d3_83) rfl rfl rfl ?_
      show Steps p.tables e below (T11.setTop (mkF m 84 #[.val (.ref a1), .val (.int p2), .val (.long ((1 : Int64) <<< (p2 &&& 0x3f).toInt64)), .second, .val (.int (1 : Int32))] [(.int cn), (.ref a1), (.int cn), (.ref aM)])) t
      refine XS.iconst X11.here hx rfl (hb hby d3_84) ?_
      show Steps p.tables e below (T11.setTop (mkF m 85 #[.val (.ref a1), .val (.int p2), .val (.long ((1 : Int64) <<< (p2 &&& 0x3f).toInt64)), .second, .val (.int (1 : Int32))] [(.int (1 : Int32)), (.int cn), (.ref a1), (.int cn), (.ref aM)])) t
      refine XS.iadd X11.here hx rfl (hb hby d3_85) rfl ?_
      exact k
    obtain ⟨T12, h12, X12, e12, W12, st12⟩ := putF X11 hx hZ hown (host := "") (Or.inl (hw _ (List.mem_of_getElem? (i := 21) rfl))) Via.refl e11 f6_3 f6_0 (Or.inl (hw _ (List.mem_of_getElem? (i := 22) rfl))) (hw _ (List.mem_of_getElem? (i := 2) rfl)) (ty := .int) (by decide) rfl rfl (g := (mkF m 86 #[.val (.ref a1), .val (.int p2), .val (.long ((1 : Int64) <<< (p2 &&& 0x3f).toInt64)), .second, .val (.int (1 : Int32))] [(.int (cn + (1 : Int32))), (.ref a1), (.int cn), (.ref aM)])) rfl rfl (hb hby d3_86)
    refine own_go (fun t k => st12 t k) ?_
    have N12 := Fr.snoc X12 N6 g_a1
    have K12 : Keep h0 h12 [a1, aM, aB] := K6.wr W12 (Or.inl (List.mem_of_getElem? (i := 0) rfl))
    have f12_0 := f6_0.wr W12
    have f12_1 := f6_1.other W12 (Or.inr (slot_ne (Or.inl (hw _ (List.mem_of_getElem? (i := 12) rfl))) (Or.inl (hw _ (List.mem_of_getElem? (i := 22) rfl))) (by decide) (t := (.array .int)) (t' := .int) (by decide) (by decide)))
    have f12_2 := f6_2.other W12 (Or.inr (slot_ne (Or.inr (hw _ (List.mem_of_getElem? (i := 15) rfl))) (Or.inl (hw _ (List.mem_of_getElem? (i := 22) rfl))) (by decide) (t := (.array .long)) (t' := .int) (by decide) (by decide)))
    have f12_3 := f6_3.same W12
    have f12_4 := f6_4.other W12 (Ne.symm ne2)
    have f12_5 := f6_5.other W12 (Ne.symm ne3)
    refine own_go (B := T12.setTop (mkF m 90 #[.val (.ref a1), .val (.int p2), .val (.long ((1 : Int64) <<< (p2 &&& 0x3f).toInt64)), .second, .val (.int (1 : Int32))] [(.int p2), (.int cn), (.ref aM)])) (fun t k => ?_) ?_
    · show Steps p.tables e below (T12.setTop (mkF m 89 #[.val (.ref a1), .val (.int p2), .val (.long ((1 : Int64) <<< (p2 &&& 0x3f).toInt64)), .second, .val (.int (1 : Int32))] [(.int cn), (.ref aM)])) t
      refine XS.iloadN X12.here hx rfl (hb hby d3_89) rfl ?_
      exact k
    obtain ⟨cl13, Ar13, hin13, -, -, -⟩ := f12_4.get (j := cn) cn0 cn1
    obtain ⟨T13, h13, X13, e13, W13, st13⟩ := stI X12 hx hZ e12 Ar13 (j := cn) hin13 (g := (mkF m 90 #[.val (.ref a1), .val (.int p2), .val (.long ((1 : Int64) <<< (p2 &&& 0x3f).toInt64)), .second, .val (.int (1 : Int32))] [(.int p2), (.int cn), (.ref aM)])) rfl rfl (hb hby d3_90)
    refine own_go (fun t k => st13 t k) ?_
    have N13 := Fr.snoc X13 N12 g_aM
    have K13 : Keep h0 h13 [a1, aM, aB] := K12.wr W13 (Or.inl (List.mem_of_getElem? (i := 1) rfl))
    have f13_0 := f12_0.wr W13
    have f13_1 := f12_1.other W13 (Or.inl ne2)
    have f13_2 := f12_2.other W13 (Or.inl ne2)
    have f13_3 := f12_3.other W13 (Or.inl ne2)
    have f13_4 := f12_4.set W13
    have f13_5 := f12_5.other W13 (Ne.symm ne1)
    refine own_go (B := T13.setTop (mkF m 93 #[.val (.ref a1), .val (.int p2), .val (.long ((1 : Int64) <<< (p2 &&& 0x3f).toInt64)), .second, .val (.int (1 : Int32))] [(.int (1 : Int32))])) (fun t k => ?_) ?_
    · show Steps p.tables e below (T13.setTop (mkF m 91 #[.val (.ref a1), .val (.int p2), .val (.long ((1 : Int64) <<< (p2 &&& 0x3f).toInt64)), .second, .val (.int (1 : Int32))] [])) t
      refine XS.iload X13.here hx rfl (hb hby d3_91) rfl ?_
      exact k
    obtain ⟨fs, hr, hrun, hended, hW, hsame⟩ := X13.leave (v := some (.int (1 : Int32))) (fun h => by rw [Bd.returns] at h; cases h)
    refine ⟨_, _, ?_, hrun, hended, _, _, rfl, ?_, ⟨_, rfl⟩, hW, hsame.mono (by decide) (by decide)⟩
    · show Steps p.tables e below (T13.setTop (mkF m 93 #[.val (.ref a1), .val (.int p2), .val (.long ((1 : Int64) <<< (p2 &&& 0x3f).toInt64)), .second, .val (.int (1 : Int32))] [(.int (1 : Int32))])) _
      exact retN X13 hx (t := .boolean) Bd.returns (by simp) (hb hby d3_93) hr
    · show Q3 Z a1 p2 aM aB mm n S h0 n0 _ T13.heap _
      rw [e13]
      have hp : p2 ∉ S := (R.2.2.2 p2 hp0 hpn).mp hc17_3
      exact ⟨_, S ++ [p2], rfl, N13, K13, (if_neg hp).symm, ⟨_, _, _, f13_0, f13_1, f13_2, f13_3, f13_4, f13_5, ne1, ne2, ne3, own_rep_add R hp0 hpn hp hl, hmm, hn1, hn2⟩, fun x => by simp [or_comm], by simp⟩
  · refine own_go (B := T1.setTop (mkF m 24 #[.val (.ref a1), .val (.int p2), .val (.long ((1 : Int64) <<< (p2 &&& 0x3f).toInt64)), .second, .unset] [])) (fun t k => ?_) ?_
    · show Steps p.tables e below (T1.setTop (mkF m 17 #[.val (.ref a1), .val (.int p2), .val (.long ((1 : Int64) <<< (p2 &&& 0x3f).toInt64)), .second, .unset] [(.int (lcmpW ((gB (((p2.toUInt32 >>> ((6 : Int32) &&& 31).toUInt32).toInt32)).toNatClampNeg) &&& ((1 : Int64) <<< (p2 &&& 0x3f).toInt64)) (0 : Int64)))])) t
      refine XS.ifYes X1.here hx rfl (pc0 := 17) (pc' := 24) rfl (hb hby d3_17) rfl ((if0 _ _).trans (feq (fun q => hc17_3 ((lw_eq ((gB (((p2.toUInt32 >>> ((6 : Int32) &&& 31).toUInt32).toInt32)).toNatClampNeg) &&& ((1 : Int64) <<< (p2 &&& 0x3f).toInt64)) (0 : Int64)).mp q))).2) (by decide) (by decide) ?_
      exact k
    refine own_go (B := T1.setTop (mkF m 93 #[.val (.ref a1), .val (.int p2), .val (.long ((1 : Int64) <<< (p2 &&& 0x3f).toInt64)), .second, .val (.int (0 : Int32))] [(.int (0 : Int32))])) (fun t k => ?_) ?_
    · show Steps p.tables e below (T1.setTop (mkF m 24 #[.val (.ref a1), .val (.int p2), .val (.long ((1 : Int64) <<< (p2 &&& 0x3f).toInt64)), .second, .unset] [])) t
      refine XS.iconst X1.here hx rfl (hb hby d3_24) ?_
      show Steps p.tables e below (T1.setTop (mkF m 25 #[.val (.ref a1), .val (.int p2), .val (.long ((1 : Int64) <<< (p2 &&& 0x3f).toInt64)), .second, .unset] [(.int (0 : Int32))])) t
      refine XS.istore X1.here hx rfl (hb hby d3_25) rfl (l' := #[.val (.ref a1), .val (.int p2), .val (.long ((1 : Int64) <<< (p2 &&& 0x3f).toInt64)), .second, .val (.int (0 : Int32))]) rfl ?_
      show Steps p.tables e below (T1.setTop (mkF m 27 #[.val (.ref a1), .val (.int p2), .val (.long ((1 : Int64) <<< (p2 &&& 0x3f).toInt64)), .second, .val (.int (0 : Int32))] [])) t
      refine XS.iload X1.here hx rfl (hb hby d3_27) rfl ?_
      show Steps p.tables e below (T1.setTop (mkF m 29 #[.val (.ref a1), .val (.int p2), .val (.long ((1 : Int64) <<< (p2 &&& 0x3f).toInt64)), .second, .val (.int (0 : Int32))] [(.int (0 : Int32))])) t
      refine XS.ifYes X1.here hx rfl (pc0 := 29) (pc' := 91) rfl (hb hby d3_29) rfl ((if0 _ _).trans (teq (rfl : (0 : Int32) = (0 : Int32))).1) (by decide) (by decide) ?_
      show Steps p.tables e below (T1.setTop (mkF m 91 #[.val (.ref a1), .val (.int p2), .val (.long ((1 : Int64) <<< (p2 &&& 0x3f).toInt64)), .second, .val (.int (0 : Int32))] [])) t
      refine XS.iload X1.here hx rfl (hb hby d3_91) rfl ?_
      exact k
    obtain ⟨fs, hr, hrun, hended, hW, hsame⟩ := X1.leave (v := some (.int (0 : Int32))) (fun h => by rw [Bd.returns] at h; cases h)
    refine ⟨_, _, ?_, hrun, hended, _, _, rfl, ?_, ⟨_, rfl⟩, hW, hsame.mono (by decide) (by decide)⟩
    · show Steps p.tables e below (T1.setTop (mkF m 93 #[.val (.ref a1), .val (.int p2), .val (.long ((1 : Int64) <<< (p2 &&& 0x3f).toInt64)), .second, .val (.int (0 : Int32))] [(.int (0 : Int32))])) _
      exact retN X1 hx (t := .boolean) Bd.returns (by simp) (hb hby d3_93) hr
    · show Q3 Z a1 p2 aM aB mm n S h0 n0 _ T1.heap _
      rw [e1]
      have hp : p2 ∈ S := Classical.not_not.mp fun q => hc17_3 ((R.2.2.2 p2 hp0 hpn).mpr q)
      exact ⟨_, S, rfl, N0, (Keep.refl h0 [a1, aM, aB]), (if_pos hp).symm, ⟨_, _, _, E1, F1, F2, F3, A1, A2, ne1, ne2, ne3, R, hmm, hn1, hn2⟩, fun x => ⟨Or.inr, fun q => q.elim (fun e => e ▸ hp) id⟩, Nat.le_succ _⟩
theorem d4_0 : decode prog_101_method_3_code 0 = .ok (.iconst 0, 1) := by decide +kernel
theorem d4_1 : decode prog_101_method_3_code 1 = .ok (.istore_n 1, 1) := by decide +kernel
theorem d4_2 : decode prog_101_method_3_code 2 = .ok (.iload_n 1, 1) := by decide +kernel
theorem d4_3 : decode prog_101_method_3_code 3 = .ok (.aload_n 0, 1) := by decide +kernel
theorem d4_4 : decode prog_101_method_3_code 4 = .ok (.getfield 17, 3) := by decide +kernel
theorem d4_7 : decode prog_101_method_3_code 7 = .ok (.if_icmp .ge 24, 3) := by decide +kernel
theorem d4_10 : decode prog_101_method_3_code 10 = .ok (.aload_n 0, 1) := by decide +kernel
theorem d4_11 : decode prog_101_method_3_code 11 = .ok (.getfield 13, 3) := by decide +kernel
theorem d4_14 : decode prog_101_method_3_code 14 = .ok (.aload_n 0, 1) := by decide +kernel
theorem d4_15 : decode prog_101_method_3_code 15 = .ok (.getfield 7, 3) := by decide +kernel
theorem d4_18 : decode prog_101_method_3_code 18 = .ok (.iload_n 1, 1) := by decide +kernel
theorem d4_19 : decode prog_101_method_3_code 19 = .ok (.iaload, 1) := by decide +kernel
theorem d4_20 : decode prog_101_method_3_code 20 = .ok (.bipush 6, 2) := by decide +kernel
theorem d4_22 : decode prog_101_method_3_code 22 = .ok (.iushr, 1) := by decide +kernel
theorem d4_23 : decode prog_101_method_3_code 23 = .ok (.lconst 0, 1) := by decide +kernel
theorem d4_24 : decode prog_101_method_3_code 24 = .ok (.lastore, 1) := by decide +kernel
theorem d4_25 : decode prog_101_method_3_code 25 = .ok (.iinc 1 1, 3) := by decide +kernel
theorem d4_28 : decode prog_101_method_3_code 28 = .ok (.goto (-26), 3) := by decide +kernel
theorem d4_31 : decode prog_101_method_3_code 31 = .ok (.aload_n 0, 1) := by decide +kernel
theorem d4_32 : decode prog_101_method_3_code 32 = .ok (.iconst 0, 1) := by decide +kernel
theorem d4_33 : decode prog_101_method_3_code 33 = .ok (.putfield 17, 3) := by decide +kernel
theorem d4_36 : decode prog_101_method_3_code 36 = .ok (.return_, 1) := by decide +kernel
theorem pn_rm4 : plainName "com/example/eager_recall/eagerrecall/vectors/HnswGraph$VisitedRows" = true := by first | (simp [plainName, overriddenIn]; done) | decide +kernel
theorem ef_rm4 (m : MethodId) (x0 : Addr) : entryFrame m #[(.ref x0)] 2 = mkF m 0 #[.val (.ref x0), .unset] [] := by first | (simp [entryFrame, mkF, argsToLocals, Value.category]; done) | rfl
def Q4 (Z : State) (a1 : Addr) (aM : Addr) (aB : Addr) (mm : Int32) (n : Int32) (S : List Int32) (h0 : Heap) (n0 : Nat) (v : Option Value) (h : Heap) (L : List Loc) : Prop := v = none ∧ Fr n0 L ∧ Keep h0 h [a1, aM, aB] ∧ own_OK Z h a1 aM aB mm n []
set_option maxRecDepth 65536 in
set_option maxHeartbeats 40000000 in
theorem rm4 (l : Launch) (Z : State) (a0 : Array Value) (hw : ∀ d ∈ tables_1, d.before a0 Z = true) (ws : List Jvm.Cond) (a1 : Addr) (aM : Addr) (aB : Addr) (mm : Int32) (n : Int32) (S : List Int32) (h0 : Heap) (n0 : Nat) (Z0 : n0 ≤ h0.size) (OK : own_OK Z h0 a1 aM aB mm n S) (g_a1 : n0 ≤ a1) (g_aM : n0 ≤ aM) (g_aB : n0 ≤ aB) (hl : S.length < 64) :
    MetFree l (⟨"com/example/eager_recall/eagerrecall/vectors/HnswGraph$VisitedRows", "clear", "()V"⟩ : MethodName) (head1 (Jvm.Cond.code (⟨"com/example/eager_recall/eagerrecall/vectors/HnswGraph$VisitedRows", "clear", "()V"⟩ : MethodName) prog_101_method_3_code 2 none :: ws) ({ frames := 0, cells := 0, slots := 0, locals := 0 } : Room)) (fun a U => a = #[(.ref a1)] ∧ Z.Warmed39 U.vm ∧ U.heap = h0) (fun _ _ _ _ _ => True) (fun _ U o U' => ∃ v L, o = .returned v ∧ Q4 Z a1 aM aB mm n S h0 n0 v U'.heap L ∧ FrameEnd U o U' L ({ frames := 0, cells := 0, slots := 0, locals := 0 } : Room).cells ({ frames := 0, cells := 0, slots := 0, locals := 0 } : Room).slots) := by
  refine MetFree.of_bodySF (plainFor_of_name pn_rm4) hisR ?_
  intro p e s m args below meth c s₁ Bd hml0 hP hK
  obtain ⟨rfl, hZ, hh⟩ := hP
  have hx := Bd.exec
  have hby := Bd.bytes
  have hml : c.maxLocals = 2 := hml0
  have hown : s.vm.findClass "com/example/eager_recall/eagerrecall/vectors/HnswGraph$VisitedRows" = some m.cls := findClass_of_methodNamed Bd.named
  have hnm := (name_of_methodNamed Bd.named Bd.method).1
  have X0 : Stand p l e ({ frames := 0, cells := 0, slots := 0, locals := 0 } : Room) s m #[(.ref a1)] below meth c s₁ [] 0 0 := Stand.of_body Bd
  have e0 : s₁.heap = h0 := by rw [← hh, Bd.state]; rfl
  have N0 := Fr.nil n0
  have pre0 : ∀ t, Steps p.tables e below (s₁.setTop (mkF m 0 #[.val (.ref a1), .unset] [])) t → Steps p.tables e below (s₁.setTop (entryFrame m #[(.ref a1)] 2)) t := fun t k => castTop (ef_rm4 m a1) k
  show own_Fin p e below _ _
  refine own_go pre0 ?_
  obtain ⟨cn, gM, gB, E1, F1, F2, F3, A1, A2, ne1, ne2, ne3, R, hmm, hn1, hn2⟩ := OK
  obtain ⟨cn0, cn1, cn2, cn3⟩ := own_cn R hl
  have loop : ∀ (k : Nat) (i : Int32) (T : State) (locs : List Loc) (hp : Heap) (gi : Nat → Int64), i.toInt + k = cn.toInt → 0 ≤ i.toInt → Stand p l e ({ frames := 0, cells := 0, slots := 0, locals := 0 } : Room) s m #[(.ref a1)] below meth c T locs 0 0 → T.heap = hp → Fr n0 locs → n0 ≤ hp.size → Keep h0 hp [a1, aM, aB] → Exa Z hp a1 "com/example/eager_recall/eagerrecall/vectors/HnswGraph$VisitedRows" → Fld Z hp a1 "com/example/eager_recall/eagerrecall/vectors/HnswGraph$VisitedRows" "marked" "[I" (.ref aM) → Fld Z hp a1 "com/example/eager_recall/eagerrecall/vectors/HnswGraph$VisitedRows" "bits" "[J" (.ref aB) → Fld Z hp a1 "com/example/eager_recall/eagerrecall/vectors/HnswGraph$VisitedRows" "count" "I" (.int cn) → own_Ag Value.int Z hp aM .int 64 gM → own_Ag Value.long Z hp aB .long mm gi → (∀ j, (∃ t, t < i.toNatClampNeg ∧ ((((S.getD t 0).toUInt32 >>> ((6 : Int32) &&& 31).toUInt32).toInt32)).toNatClampNeg = j) → gi j = 0) → (∀ j, gi j = 0 ∨ gi j = gB j) → own_Fin p e below (fun o U' => ∃ v L, o = .returned v ∧ Q4 Z a1 aM aB mm n S h0 n0 v U'.heap L ∧ FrameEnd s o U' L ({ frames := 0, cells := 0, slots := 0, locals := 0 } : Room).cells ({ frames := 0, cells := 0, slots := 0, locals := 0 } : Room).slots) (T.setTop (mkF m 2 #[.val (.ref a1), .val (.int i)] [])) := by
    intro k
    induction k with
    | zero =>
      intro i T locs hp gi hk hi X eT N Zs Kp E G1 G2 G3 B1 B2 I1 I2
      have hic : i = cn := Int32.toInt_inj.mp (by omega)
      refine own_go (B := T.setTop (mkF m 4 #[.val (.ref a1), .val (.int i)] [(.ref a1), (.int i)])) (fun t k => ?_) ?_
      · show Steps p.tables e below (T.setTop (mkF m 2 #[.val (.ref a1), .val (.int i)] [])) t
        refine XS.iloadN X.here hx rfl (hb hby d4_2) rfl ?_
        show Steps p.tables e below (T.setTop (mkF m 3 #[.val (.ref a1), .val (.int i)] [(.int i)])) t
        refine XS.aloadN X.here hx rfl (hb hby d4_3) rfl rfl ?_
        exact k
      obtain ⟨T1, X1, e1, st1⟩ := getF X hx hZ hown (host := "") (Or.inl (hw _ (List.mem_of_getElem? (i := 21) rfl))) Via.refl eT G3 (g := (mkF m 4 #[.val (.ref a1), .val (.int i)] [(.ref a1), (.int i)])) rfl rfl (hb hby d4_4)
      refine own_go (fun t k => st1 t k) ?_
      refine own_go (B := T1.setTop (mkF m 33 #[.val (.ref a1), .val (.int i)] [(.int (0 : Int32)), (.ref a1)])) (fun t k => ?_) ?_
      · show Steps p.tables e below (T1.setTop (mkF m 7 #[.val (.ref a1), .val (.int i)] [(.int cn), (.int i)])) t
        refine XS.icmpYes X1.here hx rfl (pc0 := 7) (pc' := 31) rfl (hb hby d4_7) rfl (flt (by rw [hic]; exact Int32.lt_irrefl : ¬ (i < cn))).2.1 (by decide) (by decide) ?_
        show Steps p.tables e below (T1.setTop (mkF m 31 #[.val (.ref a1), .val (.int i)] [])) t
        refine XS.aloadN X1.here hx rfl (hb hby d4_31) rfl rfl ?_
        show Steps p.tables e below (T1.setTop (mkF m 32 #[.val (.ref a1), .val (.int i)] [(.ref a1)])) t
        refine XS.iconst X1.here hx rfl (hb hby d4_32) ?_
        exact k
      obtain ⟨T2, h2, X2, e2, W2, st2⟩ := putF X1 hx hZ hown (host := "") (Or.inl (hw _ (List.mem_of_getElem? (i := 21) rfl))) Via.refl e1 G3 E (Or.inl (hw _ (List.mem_of_getElem? (i := 22) rfl))) (hw _ (List.mem_of_getElem? (i := 2) rfl)) (ty := .int) (by decide) rfl rfl (g := (mkF m 33 #[.val (.ref a1), .val (.int i)] [(.int (0 : Int32)), (.ref a1)])) rfl rfl (hb hby d4_33)
      refine own_go (fun t k => st2 t k) ?_
      have N2 := Fr.snoc X2 N g_a1
      have K2 : Keep h0 h2 [a1, aM, aB] := Kp.wr W2 (Or.inl (List.mem_of_getElem? (i := 0) rfl))
      have f2_0 := E.wr W2
      have f2_1 := G1.other W2 (Or.inr (slot_ne (Or.inl (hw _ (List.mem_of_getElem? (i := 12) rfl))) (Or.inl (hw _ (List.mem_of_getElem? (i := 22) rfl))) (by decide) (t := (.array .int)) (t' := .int) (by decide) (by decide)))
      have f2_2 := G2.other W2 (Or.inr (slot_ne (Or.inr (hw _ (List.mem_of_getElem? (i := 15) rfl))) (Or.inl (hw _ (List.mem_of_getElem? (i := 22) rfl))) (by decide) (t := (.array .long)) (t' := .int) (by decide) (by decide)))
      have f2_3 := G3.same W2
      have f2_4 := B1.other W2 (Ne.symm ne2)
      have f2_5 := B2.other W2 (Ne.symm ne3)
      obtain ⟨fs, hr, hrun, hended, hW, hsame⟩ := X2.leave (v := none) (fun _ => rfl)
      refine ⟨_, _, ?_, hrun, hended, _, _, rfl, ?_, ⟨_, rfl⟩, hW, hsame.mono (by decide) (by decide)⟩
      · show Steps p.tables e below (T2.setTop (mkF m 36 #[.val (.ref a1), .val (.int i)] [])) _
        exact X2.returnOut hx Bd.returns (hb hby d4_36) hr
      · show Q4 Z a1 aM aB mm n S h0 n0 _ T2.heap _
        rw [e2]
        exact ⟨rfl, N2, K2, ⟨_, _, _, f2_0, f2_1, f2_2, f2_3, f2_4, f2_5, ne1, ne2, ne3, own_rep_clear R (fun j ⟨t, ht, e⟩ => I1 j ⟨t, by rw [hic, cn3]; exact ht, e⟩) I2, hmm, hn1, hn2⟩⟩
    | succ k ih =>
      intro i T locs hp gi hk hi X eT N Zs Kp E G1 G2 G3 B1 B2 I1 I2
      have hlt : i < cn := by rw [Int32.lt_iff_toInt_lt]; omega
      have hin0 : ¬ i < 0 := by rw [Int32.lt_iff_toInt_lt]; have := own_z0; omega
      have hnat := nat_of hin0
      have hi64 : i < 64 := by rw [Int32.lt_iff_toInt_lt] at cn1 hlt ⊢; omega
      have hiS : i.toNatClampNeg < S.length := by have := R.1; omega
      have hg := R.2.1 _ hiS
      have hmem : S.getD i.toNatClampNeg 0 ∈ S := by rw [own_getD hiS]; exact List.getElem_mem hiS
      obtain ⟨hr0, hrn⟩ := R.2.2.1 _ hmem
      rw [← hg] at hr0 hrn
      refine own_go (B := T.setTop (mkF m 4 #[.val (.ref a1), .val (.int i)] [(.ref a1), (.int i)])) (fun t k => ?_) ?_
      · show Steps p.tables e below (T.setTop (mkF m 2 #[.val (.ref a1), .val (.int i)] [])) t
        refine XS.iloadN X.here hx rfl (hb hby d4_2) rfl ?_
        show Steps p.tables e below (T.setTop (mkF m 3 #[.val (.ref a1), .val (.int i)] [(.int i)])) t
        refine XS.aloadN X.here hx rfl (hb hby d4_3) rfl rfl ?_
        exact k
      obtain ⟨T3, X3, e3, st3⟩ := getF X hx hZ hown (host := "") (Or.inl (hw _ (List.mem_of_getElem? (i := 21) rfl))) Via.refl eT G3 (g := (mkF m 4 #[.val (.ref a1), .val (.int i)] [(.ref a1), (.int i)])) rfl rfl (hb hby d4_4)
      refine own_go (fun t k => st3 t k) ?_
      refine own_go (B := T3.setTop (mkF m 11 #[.val (.ref a1), .val (.int i)] [(.ref a1)])) (fun t k => ?_) ?_
      · show Steps p.tables e below (T3.setTop (mkF m 7 #[.val (.ref a1), .val (.int i)] [(.int cn), (.int i)])) t
        refine XS.icmpNo X3.here hx rfl (hb hby d4_7) rfl (tlt (hlt : i < cn)).2.1 ?_
        show Steps p.tables e below (T3.setTop (mkF m 10 #[.val (.ref a1), .val (.int i)] [])) t
        refine XS.aloadN X3.here hx rfl (hb hby d4_10) rfl rfl ?_
        exact k
      obtain ⟨T4, X4, e4, st4⟩ := getF X3 hx hZ hown (host := "") (Or.inl (hw _ (List.mem_of_getElem? (i := 14) rfl))) Via.refl e3 G2 (g := (mkF m 11 #[.val (.ref a1), .val (.int i)] [(.ref a1)])) rfl rfl (hb hby d4_11)
      refine own_go (fun t k => st4 t k) ?_
      refine own_go (B := T4.setTop (mkF m 15 #[.val (.ref a1), .val (.int i)] [(.ref a1), (.ref aB)])) (fun t k => ?_) ?_
      · show Steps p.tables e below (T4.setTop (mkF m 14 #[.val (.ref a1), .val (.int i)] [(.ref aB)])) t
        refine XS.aloadN X4.here hx rfl (hb hby d4_14) rfl rfl ?_
        exact k
      obtain ⟨T5, X5, e5, st5⟩ := getF X4 hx hZ hown (host := "") (Or.inl (hw _ (List.mem_of_getElem? (i := 11) rfl))) Via.refl e4 G1 (g := (mkF m 15 #[.val (.ref a1), .val (.int i)] [(.ref a1), (.ref aB)])) rfl rfl (hb hby d4_15)
      refine own_go (fun t k => st5 t k) ?_
      refine own_go (B := T5.setTop (mkF m 19 #[.val (.ref a1), .val (.int i)] [(.int i), (.ref aM), (.ref aB)])) (fun t k => ?_) ?_
      · show Steps p.tables e below (T5.setTop (mkF m 18 #[.val (.ref a1), .val (.int i)] [(.ref aM), (.ref aB)])) t
        refine XS.iloadN X5.here hx rfl (hb hby d4_18) rfl ?_
        exact k
      obtain ⟨cl6, Ar6, hin6, hat6, -, -⟩ := B1.get (j := i) hin0 hi64
      refine own_go (X5.iaload hx (j := i) (v := (.int (gM (i).toNatClampNeg))) (by rw [e5]; exact Ar6.1) (State.isArrayOf_alike hZ.alike Ar6.2.1) Ar6.2.2 hin6 hat6 (g := (mkF m 19 #[.val (.ref a1), .val (.int i)] [(.int i), (.ref aM), (.ref aB)])) rfl rfl (hb hby d4_19)) ?_
      refine own_go (B := T5.setTop (mkF m 24 #[.val (.ref a1), .val (.int i)] [(.long (0 : Int64)), (.int (((gM (i).toNatClampNeg).toUInt32 >>> ((6 : Int32) &&& 31).toUInt32).toInt32)), (.ref aB)])) (fun t k => ?_) ?_
      · show Steps p.tables e below (T5.setTop (mkF m 20 #[.val (.ref a1), .val (.int i)] [(.int (gM (i).toNatClampNeg)), (.ref aB)])) t
        refine XS.bipush X5.here hx rfl (hb hby d4_20) ?_
        show Steps p.tables e below (T5.setTop (mkF m 22 #[.val (.ref a1), .val (.int i)] [(.int (6 : Int32)), (.int (gM (i).toNatClampNeg)), (.ref aB)])) t
        refine XS.iushr X5.here hx rfl (hb hby d4_22) rfl ?_
        show Steps p.tables e below (T5.setTop (mkF m 23 #[.val (.ref a1), .val (.int i)] [(.int (((gM (i).toNatClampNeg).toUInt32 >>> ((6 : Int32) &&& 31).toUInt32).toInt32)), (.ref aB)])) t
        refine XS.lconst X5.here hx rfl (hb hby d4_23) ?_
        exact k
      obtain ⟨cl7, Ar7, hin7, -, -, -⟩ := B2.get (j := (((gM (i).toNatClampNeg).toUInt32 >>> ((6 : Int32) &&& 31).toUInt32).toInt32)) (own_sh _ hr0).2.1 (own_lt hr0 hrn hmm)
      obtain ⟨T7, h7, X7, e7, W7, st7⟩ := stJ X5 hx hZ e5 Ar7 (j := (((gM (i).toNatClampNeg).toUInt32 >>> ((6 : Int32) &&& 31).toUInt32).toInt32)) hin7 (g := (mkF m 24 #[.val (.ref a1), .val (.int i)] [(.long (0 : Int64)), (.int (((gM (i).toNatClampNeg).toUInt32 >>> ((6 : Int32) &&& 31).toUInt32).toInt32)), (.ref aB)])) rfl rfl (hb hby d4_24)
      refine own_go (fun t k => st7 t k) ?_
      have N7 := Fr.snoc X7 N g_aB
      have K7 : Keep h0 h7 [a1, aM, aB] := Kp.wr W7 (Or.inl (List.mem_of_getElem? (i := 2) rfl))
      have f7_0 := E.wr W7
      have f7_1 := G1.other W7 (Or.inl ne3)
      have f7_2 := G2.other W7 (Or.inl ne3)
      have f7_3 := G3.other W7 (Or.inl ne3)
      have f7_4 := B1.other W7 ne1
      have f7_5 := B2.set W7
      refine own_go (B := T7.setTop (mkF m 2 #[.val (.ref a1), .val (.int (i + (1 : Int32)))] [])) (fun t k => ?_) ?_
      · show Steps p.tables e below (T7.setTop (mkF m 25 #[.val (.ref a1), .val (.int i)] [])) t
        refine XS.iinc X7.here hx rfl (hb hby d4_25) rfl (l' := #[.val (.ref a1), .val (.int (i + (1 : Int32)))]) rfl ?_
        show Steps p.tables e below (T7.setTop (mkF m 28 #[.val (.ref a1), .val (.int (i + (1 : Int32)))] [])) t
        refine XS.goto X7.here hx rfl (pc0 := 28) (pc' := 2) rfl (hb hby d4_28) (by decide) (by decide) ?_
        exact k
      have k1 : (1 : Int32).toInt = 1 := by decide
      have ha := c_iadd i 1
      have hb := rng32 (i + 1)
      have hrc := rng32 cn
      have hi1 : (i + 1).toInt = i.toInt + 1 := by omega
      have hn1' : (i + 1).toNatClampNeg = i.toNatClampNeg + 1 := by
        have q : ¬ (i + 1) < 0 := by rw [Int32.lt_iff_toInt_lt]; have := own_z0; omega
        have := nat_of q
        omega
      refine ih _ _ _ _ _ (by omega) (by omega) X7 e7 N7 (Nat.le_trans Zs (Keep.of_wr W7).1) K7 f7_0 f7_1 f7_2 f7_3 f7_4 f7_5 ?_ ?_
      · rintro j ⟨t, ht, e⟩
        rw [hn1'] at ht
        by_cases q : t = i.toNatClampNeg
        · rw [q, ← hg] at e
          simp only [if_pos e.symm]
        · have z := I1 j ⟨t, by omega, e⟩
          simp only [z, ite_self]
      · intro j
        by_cases q : j = ((((gM i.toNatClampNeg).toUInt32 >>> ((6 : Int32) &&& 31).toUInt32).toInt32)).toNatClampNeg
        · simp only [if_pos q, true_or]
        · simp only [if_neg q]; exact I2 j
  refine own_go (B := s₁.setTop (mkF m 2 #[.val (.ref a1), .val (.int (0 : Int32))] [])) (fun t k => ?_) ?_
  · show Steps p.tables e below (s₁.setTop (mkF m 0 #[.val (.ref a1), .unset] [])) t
    refine XS.iconst X0.here hx rfl (hb hby d4_0) ?_
    show Steps p.tables e below (s₁.setTop (mkF m 1 #[.val (.ref a1), .unset] [(.int (0 : Int32))])) t
    refine XS.istoreN X0.here hx rfl (hb hby d4_1) rfl (l' := #[.val (.ref a1), .val (.int (0 : Int32))]) rfl ?_
    exact k
  exact loop cn.toNatClampNeg 0 _ _ _ _ (by have := nat_of cn0; have z := own_z0; omega) (by decide) X0 e0 N0 Z0 (Keep.refl h0 [a1, aM, aB]) E1 F1 F2 F3 A1 A2 (fun j ⟨t, ht, _⟩ => absurd ht (by rw [show (0 : Int32).toNatClampNeg = 0 by decide]; exact Nat.not_lt_zero _)) (fun j => Or.inr rfl)
theorem pn_rm0 : plainName "com/example/eager_recall/eagerrecall/vectors/VisitedRowsClearPinLaw" = true := by first | (simp [plainName, overriddenIn]; done) | decide +kernel
theorem pd_rm0_0 : parseMethodDescriptor "(I)Z" = some ⟨[.int], some .boolean⟩ := by decide +kernel
theorem pd_rm0_1 : parseMethodDescriptor "()V" = some ⟨[], none⟩ := by decide +kernel
theorem pd_rm0_2 : parseMethodDescriptor "(I)V" = some ⟨[.int], none⟩ := by decide +kernel
theorem ef_rm0 (m : MethodId) (x0 : Int32) (x1 : Int32) (x2 : Int32) (x3 : Int32) (x4 : Int32) (x5 : Int32) : entryFrame m #[(.int x0), (.int x1), (.int x2), (.int x3), (.int x4), (.int x5)] maxLocals = mkF m 0 #[.val (.int x0), .val (.int x1), .val (.int x2), .val (.int x3), .val (.int x4), .val (.int x5), .unset, .unset, .unset, .unset, .unset, .unset, .unset, .unset, .unset, .unset, .unset, .unset, .unset, .unset] [] := by first | (simp [entryFrame, mkF, argsToLocals, Value.category, maxLocals]; done) | rfl
def Q0 (Z : State) (p1 : Int32) (p2 : Int32) (p3 : Int32) (p4 : Int32) (p5 : Int32) (p6 : Int32) (h0 : Heap) (n0 : Nat) (v : Option Value) (h : Heap) (L : List Loc) : Prop := v = some (.int (1 : Int32)) ∧ Fr n0 L
set_option maxRecDepth 65536 in
set_option maxHeartbeats 40000000 in
theorem rm0 (l : Launch) (Z : State) (a0 : Array Value) (hw : ∀ d ∈ tables_1, d.before a0 Z = true) (ws : List Jvm.Cond) (p1 : Int32) (p2 : Int32) (p3 : Int32) (p4 : Int32) (p5 : Int32) (p6 : Int32) (h0 : Heap) (n0 : Nat) (Z0 : n0 ≤ h0.size) :
    MetFree l x (head1 (Jvm.Cond.code x code maxLocals ret :: ws) room_1) (fun a U => a = #[(.int p1), (.int p2), (.int p3), (.int p4), (.int p5), (.int p6)] ∧ Z.Warmed39 U.vm ∧ U.heap = h0) (fun _ _ _ _ _ => True) (fun _ U o U' => ∃ v L, o = .returned v ∧ Q0 Z p1 p2 p3 p4 p5 p6 h0 n0 v U'.heap L ∧ FrameEnd U o U' L room_1.cells room_1.slots) := by
  refine MetFree.of_bodySF (plainFor_of_name pn_rm0) hisR ?_
  intro p e s m args below meth c s₁ Bd hml0 hP hK
  obtain ⟨rfl, hZ, hh⟩ := hP
  have hx := Bd.exec
  have hby := Bd.bytes
  have hml : c.maxLocals = 20 := hml0
  have hown : s.vm.findClass "com/example/eager_recall/eagerrecall/vectors/VisitedRowsClearPinLaw" = some m.cls := findClass_of_methodNamed Bd.named
  have hnm := (name_of_methodNamed Bd.named Bd.method).1
  have X0 : Stand p l e room_1 s m #[(.int p1), (.int p2), (.int p3), (.int p4), (.int p5), (.int p6)] below meth c s₁ [] 0 0 := Stand.of_body Bd
  have e0 : s₁.heap = h0 := by rw [← hh, Bd.state]; rfl
  have N0 := Fr.nil n0
  have pre0 : ∀ t, Steps p.tables e below (s₁.setTop (mkF m 0 #[.val (.int p1), .val (.int p2), .val (.int p3), .val (.int p4), .val (.int p5), .val (.int p6), .unset, .unset, .unset, .unset, .unset, .unset, .unset, .unset, .unset, .unset, .unset, .unset, .unset, .unset] [])) t → Steps p.tables e below (s₁.setTop (entryFrame m #[(.int p1), (.int p2), (.int p3), (.int p4), (.int p5), (.int p6)] maxLocals)) t := fun t k => castTop (ef_rm0 m p1 p2 p3 p4 p5 p6) k
  show own_Fin p e below _ _
  refine own_go pre0 ?_
  have tail2 : ∀ (nn ra rb rc rd : Int32) (bv aM aB : Addr) (mm : Int32) (T : State) (locs : List Loc) (hp : Heap) (s14 : Slot), (s14 = .unset ∨ ∃ z : Int32, s14 = .val (.int z)) → Stand p l e room_1 s m #[(.int p1), (.int p2), (.int p3), (.int p4), (.int p5), (.int p6)] below meth c T locs 3 75 → T.heap = hp → Fr n0 locs → n0 ≤ hp.size → own_OK Z hp bv aM aB mm nn [] → n0 ≤ bv → n0 ≤ aM → n0 ≤ aB → (0 ≤ ra.toInt ∧ ra.toInt < nn.toInt) → (0 ≤ rb.toInt ∧ rb.toInt < nn.toInt) → (0 ≤ rc.toInt ∧ rc.toInt < nn.toInt) → (0 ≤ rd.toInt ∧ rd.toInt < nn.toInt) → own_Fin p e below (fun o U' => ∃ v L, o = .returned v ∧ Q0 Z p1 p2 p3 p4 p5 p6 h0 n0 v U'.heap L ∧ FrameEnd s o U' L room_1.cells room_1.slots) (T.setTop (mkF m 210 #[.val (.int p1), .val (.int p2), .val (.int p3), .val (.int p4), .val (.int p5), .val (.int p6), .val (.int nn), .val (.int ra), .val (.int rb), .val (.int rc), .val (.int rd), .val (.ref bv), .val (.int (p6 &&& (3 : Int32))), .val (.int (1 : Int32)), s14, .unset, .unset, .unset, .unset, .unset] [])) := by
    intro nn ra rb rc rd bv aM aB mm T locs hp s14 hs14 X eT N Zs OK g_b g_aM g_aB hra' hrb' hrc' hrd'
    refine own_go (B := T.setTop (mkF m 214 #[.val (.int p1), .val (.int p2), .val (.int p3), .val (.int p4), .val (.int p5), .val (.int p6), .val (.int nn), .val (.int ra), .val (.int rb), .val (.int rc), .val (.int rd), .val (.ref bv), .val (.int (p6 &&& (3 : Int32))), .val (.int (1 : Int32)), s14, .unset, .unset, .unset, .unset, .unset] [(.int ra), (.ref bv)])) (fun t k => ?_) ?_
    · show Steps p.tables e below (T.setTop (mkF m 210 #[.val (.int p1), .val (.int p2), .val (.int p3), .val (.int p4), .val (.int p5), .val (.int p6), .val (.int nn), .val (.int ra), .val (.int rb), .val (.int rc), .val (.int rd), .val (.ref bv), .val (.int (p6 &&& (3 : Int32))), .val (.int (1 : Int32)), s14, .unset, .unset, .unset, .unset, .unset] [])) t
      refine XS.aload X.here hx rfl (hb hby at_210) rfl rfl ?_
      show Steps p.tables e below (T.setTop (mkF m 212 #[.val (.int p1), .val (.int p2), .val (.int p3), .val (.int p4), .val (.int p5), .val (.int p6), .val (.int nn), .val (.int ra), .val (.int rb), .val (.int rc), .val (.int rd), .val (.ref bv), .val (.int (p6 &&& (3 : Int32))), .val (.int (1 : Int32)), s14, .unset, .unset, .unset, .unset, .unset] [(.ref bv)])) t
      refine XS.iload X.here hx rfl (hb hby at_212) rfl ?_
      exact k
    obtain ⟨cq1, kq1, q1a, q1b, q1c⟩ := isOf hZ eT OK.exa
    obtain ⟨_, _, ⟨T1, L1, k1, n1⟩, -, X1, ⟨Lc1, hQ1, l1, y1, z1⟩, st1⟩ := X.virtualBack hx (y := (⟨"com/example/eager_recall/eagerrecall/vectors/HnswGraph$VisitedRows", "visit", "(I)Z"⟩ : MethodName)) (z := (⟨"com/example/eager_recall/eagerrecall/vectors/HnswGraph$VisitedRows", "visit", "(I)Z"⟩ : MethodName)) hown (mvT hZ (hw _ (List.mem_of_getElem? (i := 16) rfl))) (mvT hZ (hw _ (List.mem_of_getElem? (i := 17) rfl))) (notFace_of_selects (args := #[]) (mvT hZ (hw _ (List.mem_of_getElem? (i := 19) rfl)))) (mvT hZ (hw _ (List.mem_of_getElem? (i := 19) rfl))) (mvT hZ (hw _ (List.mem_of_getElem? (i := 18) rfl))) (by decide) (backOf (W := 0) (rm3 l Z a0 hw [] bv ra aM aB mm nn [] hp n0 Zs OK g_b g_aM g_aB (by decide) hra'.1 hra'.2) hZ (hw _ (List.mem_of_getElem? (i := 20) rfl)) (hw _ (List.mem_of_getElem? (i := 3) rfl)) (by decide) (by decide)) q1a q1c (g := (mkF m 214 #[.val (.int p1), .val (.int p2), .val (.int p3), .val (.int p4), .val (.int p5), .val (.int p6), .val (.int nn), .val (.int ra), .val (.int rb), .val (.int rc), .val (.int rd), .val (.ref bv), .val (.int (p6 &&& (3 : Int32))), .val (.int (1 : Int32)), s14, .unset, .unset, .unset, .unset, .unset] [(.int ra), (.ref bv)])) rfl (by rw [hml]; rfl) (Steps.refl _) (argsL := [(.int ra)]) (rest := []) (lenOf pd_rm0_0 rfl) rfl (by show 2 * 0 + _ ≤ _; exact Nat.le_of_eq rfl) (hb hby at_214) (fun _ _ => ⟨rfl, eT, (by decide : 3 + 0 ≤ _), (by decide : 75 + 0 ≤ _)⟩)
    dsimp only [Pt.U, Pt.locs, Pt.cells, Pt.slots] at X1 l1 y1 z1 st1 hQ1
    subst l1 y1 z1
    obtain ⟨r1, S1, rfl, N1q, K1, hr1, OK1, hm1, hl1⟩ := hQ1
    have N1 := Fr.app N N1q
    refine own_go (fun t k => st1.trans k) ?_
    have f1_0 := OK.exa.keep K1
    have hq1 : S1.length ≤ 1 := hl1
    refine own_go (B := T1.setTop (mkF m 223 #[.val (.int p1), .val (.int p2), .val (.int p3), .val (.int p4), .val (.int p5), .val (.int p6), .val (.int nn), .val (.int ra), .val (.int rb), .val (.int rc), .val (.int rd), .val (.ref bv), .val (.int (p6 &&& (3 : Int32))), .val (.int (1 : Int32)), .val (.int r1), .unset, .unset, .unset, .unset, .unset] [(.int rb), (.ref bv)])) (fun t k => ?_) ?_
    · show Steps p.tables e below (T1.setTop (mkF m 217 #[.val (.int p1), .val (.int p2), .val (.int p3), .val (.int p4), .val (.int p5), .val (.int p6), .val (.int nn), .val (.int ra), .val (.int rb), .val (.int rc), .val (.int rd), .val (.ref bv), .val (.int (p6 &&& (3 : Int32))), .val (.int (1 : Int32)), s14, .unset, .unset, .unset, .unset, .unset] [(.int r1)])) t
      refine XS.istore X1.here hx rfl (hb hby at_217) rfl (l' := #[.val (.int p1), .val (.int p2), .val (.int p3), .val (.int p4), .val (.int p5), .val (.int p6), .val (.int nn), .val (.int ra), .val (.int rb), .val (.int rc), .val (.int rd), .val (.ref bv), .val (.int (p6 &&& (3 : Int32))), .val (.int (1 : Int32)), .val (.int r1), .unset, .unset, .unset, .unset, .unset]) (by rcases hs14 with rfl | ⟨z, rfl⟩ <;> rfl) ?_
      show Steps p.tables e below (T1.setTop (mkF m 219 #[.val (.int p1), .val (.int p2), .val (.int p3), .val (.int p4), .val (.int p5), .val (.int p6), .val (.int nn), .val (.int ra), .val (.int rb), .val (.int rc), .val (.int rd), .val (.ref bv), .val (.int (p6 &&& (3 : Int32))), .val (.int (1 : Int32)), .val (.int r1), .unset, .unset, .unset, .unset, .unset] [])) t
      refine XS.aload X1.here hx rfl (hb hby at_219) rfl rfl ?_
      show Steps p.tables e below (T1.setTop (mkF m 221 #[.val (.int p1), .val (.int p2), .val (.int p3), .val (.int p4), .val (.int p5), .val (.int p6), .val (.int nn), .val (.int ra), .val (.int rb), .val (.int rc), .val (.int rd), .val (.ref bv), .val (.int (p6 &&& (3 : Int32))), .val (.int (1 : Int32)), .val (.int r1), .unset, .unset, .unset, .unset, .unset] [(.ref bv)])) t
      refine XS.iload X1.here hx rfl (hb hby at_221) rfl ?_
      exact k
    obtain ⟨cq2, kq2, q2a, q2b, q2c⟩ := isOf hZ rfl f1_0
    obtain ⟨_, _, ⟨T2, L2, k2, n2⟩, -, X2, ⟨Lc2, hQ2, l2, y2, z2⟩, st2⟩ := X1.virtualBack hx (y := (⟨"com/example/eager_recall/eagerrecall/vectors/HnswGraph$VisitedRows", "visit", "(I)Z"⟩ : MethodName)) (z := (⟨"com/example/eager_recall/eagerrecall/vectors/HnswGraph$VisitedRows", "visit", "(I)Z"⟩ : MethodName)) hown (mvT hZ (hw _ (List.mem_of_getElem? (i := 16) rfl))) (mvT hZ (hw _ (List.mem_of_getElem? (i := 17) rfl))) (notFace_of_selects (args := #[]) (mvT hZ (hw _ (List.mem_of_getElem? (i := 19) rfl)))) (mvT hZ (hw _ (List.mem_of_getElem? (i := 19) rfl))) (mvT hZ (hw _ (List.mem_of_getElem? (i := 18) rfl))) (by decide) (backOf (W := 0) (rm3 l Z a0 hw [] bv rb aM aB mm nn S1 T1.heap n0 (Nat.le_trans Zs K1.1) OK1 g_b g_aM g_aB (Nat.lt_of_le_of_lt hq1 (by decide)) hrb'.1 hrb'.2) hZ (hw _ (List.mem_of_getElem? (i := 20) rfl)) (hw _ (List.mem_of_getElem? (i := 3) rfl)) (by decide) (by decide)) q2a q2c (g := (mkF m 223 #[.val (.int p1), .val (.int p2), .val (.int p3), .val (.int p4), .val (.int p5), .val (.int p6), .val (.int nn), .val (.int ra), .val (.int rb), .val (.int rc), .val (.int rd), .val (.ref bv), .val (.int (p6 &&& (3 : Int32))), .val (.int (1 : Int32)), .val (.int r1), .unset, .unset, .unset, .unset, .unset] [(.int rb), (.ref bv)])) rfl (by rw [hml]; rfl) (Steps.refl _) (argsL := [(.int rb)]) (rest := []) (lenOf pd_rm0_0 rfl) rfl (by show 2 * 0 + _ ≤ _; exact Nat.le_of_eq rfl) (hb hby at_223) (fun _ _ => ⟨rfl, rfl, (by decide : 3 + 0 ≤ _), (by decide : 75 + 0 ≤ _)⟩)
    dsimp only [Pt.U, Pt.locs, Pt.cells, Pt.slots] at X2 l2 y2 z2 st2 hQ2
    subst l2 y2 z2
    obtain ⟨r2, S2, rfl, N2q, K2, hr2, OK2, hm2, hl2⟩ := hQ2
    have N2 := Fr.app N1 N2q
    refine own_go (fun t k => st2.trans k) ?_
    have f2_0 := f1_0.keep K2
    have hq2 : S2.length ≤ 2 := Nat.le_trans hl2 (Nat.succ_le_succ hq1)
    refine own_go (B := T2.setTop (mkF m 232 #[.val (.int p1), .val (.int p2), .val (.int p3), .val (.int p4), .val (.int p5), .val (.int p6), .val (.int nn), .val (.int ra), .val (.int rb), .val (.int rc), .val (.int rd), .val (.ref bv), .val (.int (p6 &&& (3 : Int32))), .val (.int (1 : Int32)), .val (.int r1), .val (.int r2), .unset, .unset, .unset, .unset] [(.int rc), (.ref bv)])) (fun t k => ?_) ?_
    · show Steps p.tables e below (T2.setTop (mkF m 226 #[.val (.int p1), .val (.int p2), .val (.int p3), .val (.int p4), .val (.int p5), .val (.int p6), .val (.int nn), .val (.int ra), .val (.int rb), .val (.int rc), .val (.int rd), .val (.ref bv), .val (.int (p6 &&& (3 : Int32))), .val (.int (1 : Int32)), .val (.int r1), .unset, .unset, .unset, .unset, .unset] [(.int r2)])) t
      refine XS.istore X2.here hx rfl (hb hby at_226) rfl (l' := #[.val (.int p1), .val (.int p2), .val (.int p3), .val (.int p4), .val (.int p5), .val (.int p6), .val (.int nn), .val (.int ra), .val (.int rb), .val (.int rc), .val (.int rd), .val (.ref bv), .val (.int (p6 &&& (3 : Int32))), .val (.int (1 : Int32)), .val (.int r1), .val (.int r2), .unset, .unset, .unset, .unset]) rfl ?_
      show Steps p.tables e below (T2.setTop (mkF m 228 #[.val (.int p1), .val (.int p2), .val (.int p3), .val (.int p4), .val (.int p5), .val (.int p6), .val (.int nn), .val (.int ra), .val (.int rb), .val (.int rc), .val (.int rd), .val (.ref bv), .val (.int (p6 &&& (3 : Int32))), .val (.int (1 : Int32)), .val (.int r1), .val (.int r2), .unset, .unset, .unset, .unset] [])) t
      refine XS.aload X2.here hx rfl (hb hby at_228) rfl rfl ?_
      show Steps p.tables e below (T2.setTop (mkF m 230 #[.val (.int p1), .val (.int p2), .val (.int p3), .val (.int p4), .val (.int p5), .val (.int p6), .val (.int nn), .val (.int ra), .val (.int rb), .val (.int rc), .val (.int rd), .val (.ref bv), .val (.int (p6 &&& (3 : Int32))), .val (.int (1 : Int32)), .val (.int r1), .val (.int r2), .unset, .unset, .unset, .unset] [(.ref bv)])) t
      refine XS.iload X2.here hx rfl (hb hby at_230) rfl ?_
      exact k
    obtain ⟨cq3, kq3, q3a, q3b, q3c⟩ := isOf hZ rfl f2_0
    obtain ⟨_, _, ⟨T3, L3, k3, n3⟩, -, X3, ⟨Lc3, hQ3, l3, y3, z3⟩, st3⟩ := X2.virtualBack hx (y := (⟨"com/example/eager_recall/eagerrecall/vectors/HnswGraph$VisitedRows", "visit", "(I)Z"⟩ : MethodName)) (z := (⟨"com/example/eager_recall/eagerrecall/vectors/HnswGraph$VisitedRows", "visit", "(I)Z"⟩ : MethodName)) hown (mvT hZ (hw _ (List.mem_of_getElem? (i := 16) rfl))) (mvT hZ (hw _ (List.mem_of_getElem? (i := 17) rfl))) (notFace_of_selects (args := #[]) (mvT hZ (hw _ (List.mem_of_getElem? (i := 19) rfl)))) (mvT hZ (hw _ (List.mem_of_getElem? (i := 19) rfl))) (mvT hZ (hw _ (List.mem_of_getElem? (i := 18) rfl))) (by decide) (backOf (W := 0) (rm3 l Z a0 hw [] bv rc aM aB mm nn S2 T2.heap n0 (Nat.le_trans (Nat.le_trans Zs K1.1) K2.1) OK2 g_b g_aM g_aB (Nat.lt_of_le_of_lt hq2 (by decide)) hrc'.1 hrc'.2) hZ (hw _ (List.mem_of_getElem? (i := 20) rfl)) (hw _ (List.mem_of_getElem? (i := 3) rfl)) (by decide) (by decide)) q3a q3c (g := (mkF m 232 #[.val (.int p1), .val (.int p2), .val (.int p3), .val (.int p4), .val (.int p5), .val (.int p6), .val (.int nn), .val (.int ra), .val (.int rb), .val (.int rc), .val (.int rd), .val (.ref bv), .val (.int (p6 &&& (3 : Int32))), .val (.int (1 : Int32)), .val (.int r1), .val (.int r2), .unset, .unset, .unset, .unset] [(.int rc), (.ref bv)])) rfl (by rw [hml]; rfl) (Steps.refl _) (argsL := [(.int rc)]) (rest := []) (lenOf pd_rm0_0 rfl) rfl (by show 2 * 0 + _ ≤ _; exact Nat.le_of_eq rfl) (hb hby at_232) (fun _ _ => ⟨rfl, rfl, (by decide : 3 + 0 ≤ _), (by decide : 75 + 0 ≤ _)⟩)
    dsimp only [Pt.U, Pt.locs, Pt.cells, Pt.slots] at X3 l3 y3 z3 st3 hQ3
    subst l3 y3 z3
    obtain ⟨r3, S3, rfl, N3q, K3, hr3, OK3, hm3, hl3⟩ := hQ3
    have N3 := Fr.app N2 N3q
    refine own_go (fun t k => st3.trans k) ?_
    have f3_0 := f2_0.keep K3
    have hq3 : S3.length ≤ 3 := Nat.le_trans hl3 (Nat.succ_le_succ hq2)
    refine own_go (B := T3.setTop (mkF m 241 #[.val (.int p1), .val (.int p2), .val (.int p3), .val (.int p4), .val (.int p5), .val (.int p6), .val (.int nn), .val (.int ra), .val (.int rb), .val (.int rc), .val (.int rd), .val (.ref bv), .val (.int (p6 &&& (3 : Int32))), .val (.int (1 : Int32)), .val (.int r1), .val (.int r2), .val (.int r3), .unset, .unset, .unset] [(.int rd), (.ref bv)])) (fun t k => ?_) ?_
    · show Steps p.tables e below (T3.setTop (mkF m 235 #[.val (.int p1), .val (.int p2), .val (.int p3), .val (.int p4), .val (.int p5), .val (.int p6), .val (.int nn), .val (.int ra), .val (.int rb), .val (.int rc), .val (.int rd), .val (.ref bv), .val (.int (p6 &&& (3 : Int32))), .val (.int (1 : Int32)), .val (.int r1), .val (.int r2), .unset, .unset, .unset, .unset] [(.int r3)])) t
      refine XS.istore X3.here hx rfl (hb hby at_235) rfl (l' := #[.val (.int p1), .val (.int p2), .val (.int p3), .val (.int p4), .val (.int p5), .val (.int p6), .val (.int nn), .val (.int ra), .val (.int rb), .val (.int rc), .val (.int rd), .val (.ref bv), .val (.int (p6 &&& (3 : Int32))), .val (.int (1 : Int32)), .val (.int r1), .val (.int r2), .val (.int r3), .unset, .unset, .unset]) rfl ?_
      show Steps p.tables e below (T3.setTop (mkF m 237 #[.val (.int p1), .val (.int p2), .val (.int p3), .val (.int p4), .val (.int p5), .val (.int p6), .val (.int nn), .val (.int ra), .val (.int rb), .val (.int rc), .val (.int rd), .val (.ref bv), .val (.int (p6 &&& (3 : Int32))), .val (.int (1 : Int32)), .val (.int r1), .val (.int r2), .val (.int r3), .unset, .unset, .unset] [])) t
      refine XS.aload X3.here hx rfl (hb hby at_237) rfl rfl ?_
      show Steps p.tables e below (T3.setTop (mkF m 239 #[.val (.int p1), .val (.int p2), .val (.int p3), .val (.int p4), .val (.int p5), .val (.int p6), .val (.int nn), .val (.int ra), .val (.int rb), .val (.int rc), .val (.int rd), .val (.ref bv), .val (.int (p6 &&& (3 : Int32))), .val (.int (1 : Int32)), .val (.int r1), .val (.int r2), .val (.int r3), .unset, .unset, .unset] [(.ref bv)])) t
      refine XS.iload X3.here hx rfl (hb hby at_239) rfl ?_
      exact k
    obtain ⟨cq4, kq4, q4a, q4b, q4c⟩ := isOf hZ rfl f3_0
    obtain ⟨_, _, ⟨T4, L4, k4, n4⟩, -, X4, ⟨Lc4, hQ4, l4, y4, z4⟩, st4⟩ := X3.virtualBack hx (y := (⟨"com/example/eager_recall/eagerrecall/vectors/HnswGraph$VisitedRows", "visit", "(I)Z"⟩ : MethodName)) (z := (⟨"com/example/eager_recall/eagerrecall/vectors/HnswGraph$VisitedRows", "visit", "(I)Z"⟩ : MethodName)) hown (mvT hZ (hw _ (List.mem_of_getElem? (i := 16) rfl))) (mvT hZ (hw _ (List.mem_of_getElem? (i := 17) rfl))) (notFace_of_selects (args := #[]) (mvT hZ (hw _ (List.mem_of_getElem? (i := 19) rfl)))) (mvT hZ (hw _ (List.mem_of_getElem? (i := 19) rfl))) (mvT hZ (hw _ (List.mem_of_getElem? (i := 18) rfl))) (by decide) (backOf (W := 0) (rm3 l Z a0 hw [] bv rd aM aB mm nn S3 T3.heap n0 (Nat.le_trans (Nat.le_trans (Nat.le_trans Zs K1.1) K2.1) K3.1) OK3 g_b g_aM g_aB (Nat.lt_of_le_of_lt hq3 (by decide)) hrd'.1 hrd'.2) hZ (hw _ (List.mem_of_getElem? (i := 20) rfl)) (hw _ (List.mem_of_getElem? (i := 3) rfl)) (by decide) (by decide)) q4a q4c (g := (mkF m 241 #[.val (.int p1), .val (.int p2), .val (.int p3), .val (.int p4), .val (.int p5), .val (.int p6), .val (.int nn), .val (.int ra), .val (.int rb), .val (.int rc), .val (.int rd), .val (.ref bv), .val (.int (p6 &&& (3 : Int32))), .val (.int (1 : Int32)), .val (.int r1), .val (.int r2), .val (.int r3), .unset, .unset, .unset] [(.int rd), (.ref bv)])) rfl (by rw [hml]; rfl) (Steps.refl _) (argsL := [(.int rd)]) (rest := []) (lenOf pd_rm0_0 rfl) rfl (by show 2 * 0 + _ ≤ _; exact Nat.le_of_eq rfl) (hb hby at_241) (fun _ _ => ⟨rfl, rfl, (by decide : 3 + 0 ≤ _), (by decide : 75 + 0 ≤ _)⟩)
    dsimp only [Pt.U, Pt.locs, Pt.cells, Pt.slots] at X4 l4 y4 z4 st4 hQ4
    subst l4 y4 z4
    obtain ⟨r4, S4, rfl, N4q, K4, hr4, OK4, hm4, hl4⟩ := hQ4
    have N4 := Fr.app N3 N4q
    refine own_go (fun t k => st4.trans k) ?_
    have f4_0 := f3_0.keep K4
    have hq4 : S4.length ≤ 4 := Nat.le_trans hl4 (Nat.succ_le_succ hq3)
    refine own_go (B := T4.setTop (mkF m 248 #[.val (.int p1), .val (.int p2), .val (.int p3), .val (.int p4), .val (.int p5), .val (.int p6), .val (.int nn), .val (.int ra), .val (.int rb), .val (.int rc), .val (.int rd), .val (.ref bv), .val (.int (p6 &&& (3 : Int32))), .val (.int (1 : Int32)), .val (.int r1), .val (.int r2), .val (.int r3), .val (.int r4), .unset, .unset] [(.ref bv)])) (fun t k => ?_) ?_
    · show Steps p.tables e below (T4.setTop (mkF m 244 #[.val (.int p1), .val (.int p2), .val (.int p3), .val (.int p4), .val (.int p5), .val (.int p6), .val (.int nn), .val (.int ra), .val (.int rb), .val (.int rc), .val (.int rd), .val (.ref bv), .val (.int (p6 &&& (3 : Int32))), .val (.int (1 : Int32)), .val (.int r1), .val (.int r2), .val (.int r3), .unset, .unset, .unset] [(.int r4)])) t
      refine XS.istore X4.here hx rfl (hb hby at_244) rfl (l' := #[.val (.int p1), .val (.int p2), .val (.int p3), .val (.int p4), .val (.int p5), .val (.int p6), .val (.int nn), .val (.int ra), .val (.int rb), .val (.int rc), .val (.int rd), .val (.ref bv), .val (.int (p6 &&& (3 : Int32))), .val (.int (1 : Int32)), .val (.int r1), .val (.int r2), .val (.int r3), .val (.int r4), .unset, .unset]) rfl ?_
      show Steps p.tables e below (T4.setTop (mkF m 246 #[.val (.int p1), .val (.int p2), .val (.int p3), .val (.int p4), .val (.int p5), .val (.int p6), .val (.int nn), .val (.int ra), .val (.int rb), .val (.int rc), .val (.int rd), .val (.ref bv), .val (.int (p6 &&& (3 : Int32))), .val (.int (1 : Int32)), .val (.int r1), .val (.int r2), .val (.int r3), .val (.int r4), .unset, .unset] [])) t
      refine XS.aload X4.here hx rfl (hb hby at_246) rfl rfl ?_
      exact k
    obtain ⟨cq5, kq5, q5a, q5b, q5c⟩ := isOf hZ rfl f4_0
    obtain ⟨_, _, ⟨T5, L5, k5, n5⟩, -, X5, ⟨Lc5, hQ5, l5, y5, z5⟩, st5⟩ := X4.virtualBack hx (y := (⟨"com/example/eager_recall/eagerrecall/vectors/HnswGraph$VisitedRows", "clear", "()V"⟩ : MethodName)) (z := (⟨"com/example/eager_recall/eagerrecall/vectors/HnswGraph$VisitedRows", "clear", "()V"⟩ : MethodName)) hown (mvT hZ (hw _ (List.mem_of_getElem? (i := 23) rfl))) (mvT hZ (hw _ (List.mem_of_getElem? (i := 24) rfl))) (notFace_of_selects (args := #[]) (mvT hZ (hw _ (List.mem_of_getElem? (i := 26) rfl)))) (mvT hZ (hw _ (List.mem_of_getElem? (i := 26) rfl))) (mvT hZ (hw _ (List.mem_of_getElem? (i := 25) rfl))) (by decide) (backOf (W := 0) (rm4 l Z a0 hw [] bv aM aB mm nn S4 T4.heap n0 (Nat.le_trans (Nat.le_trans (Nat.le_trans (Nat.le_trans Zs K1.1) K2.1) K3.1) K4.1) OK4 g_b g_aM g_aB (Nat.lt_of_le_of_lt hq4 (by decide))) hZ (hw _ (List.mem_of_getElem? (i := 27) rfl)) (hw _ (List.mem_of_getElem? (i := 3) rfl)) (by decide) (by decide)) q5a q5c (g := (mkF m 248 #[.val (.int p1), .val (.int p2), .val (.int p3), .val (.int p4), .val (.int p5), .val (.int p6), .val (.int nn), .val (.int ra), .val (.int rb), .val (.int rc), .val (.int rd), .val (.ref bv), .val (.int (p6 &&& (3 : Int32))), .val (.int (1 : Int32)), .val (.int r1), .val (.int r2), .val (.int r3), .val (.int r4), .unset, .unset] [(.ref bv)])) rfl (by rw [hml]; rfl) (Steps.refl _) (argsL := []) (rest := []) (lenOf pd_rm0_1 rfl) rfl (by show 2 * 0 + _ ≤ _; exact Nat.le_of_eq rfl) (hb hby at_248) (fun _ _ => ⟨rfl, rfl, (by decide : 3 + 0 ≤ _), (by decide : 75 + 0 ≤ _)⟩)
    dsimp only [Pt.U, Pt.locs, Pt.cells, Pt.slots] at X5 l5 y5 z5 st5 hQ5
    subst l5 y5 z5
    obtain ⟨rfl, N5q, K5, OK5⟩ := hQ5
    have N5 := Fr.app N4 N5q
    refine own_go (fun t k => st5.trans k) ?_
    have f5_0 := f4_0.keep K5
    refine own_go (B := T5.setTop (mkF m 255 #[.val (.int p1), .val (.int p2), .val (.int p3), .val (.int p4), .val (.int p5), .val (.int p6), .val (.int nn), .val (.int ra), .val (.int rb), .val (.int rc), .val (.int rd), .val (.ref bv), .val (.int (p6 &&& (3 : Int32))), .val (.int (1 : Int32)), .val (.int r1), .val (.int r2), .val (.int r3), .val (.int r4), .unset, .unset] [(.int rd), (.ref bv)])) (fun t k => ?_) ?_
    · show Steps p.tables e below (T5.setTop (mkF m 251 #[.val (.int p1), .val (.int p2), .val (.int p3), .val (.int p4), .val (.int p5), .val (.int p6), .val (.int nn), .val (.int ra), .val (.int rb), .val (.int rc), .val (.int rd), .val (.ref bv), .val (.int (p6 &&& (3 : Int32))), .val (.int (1 : Int32)), .val (.int r1), .val (.int r2), .val (.int r3), .val (.int r4), .unset, .unset] [])) t
      refine XS.aload X5.here hx rfl (hb hby at_251) rfl rfl ?_
      show Steps p.tables e below (T5.setTop (mkF m 253 #[.val (.int p1), .val (.int p2), .val (.int p3), .val (.int p4), .val (.int p5), .val (.int p6), .val (.int nn), .val (.int ra), .val (.int rb), .val (.int rc), .val (.int rd), .val (.ref bv), .val (.int (p6 &&& (3 : Int32))), .val (.int (1 : Int32)), .val (.int r1), .val (.int r2), .val (.int r3), .val (.int r4), .unset, .unset] [(.ref bv)])) t
      refine XS.iload X5.here hx rfl (hb hby at_253) rfl ?_
      exact k
    obtain ⟨cq6, kq6, q6a, q6b, q6c⟩ := isOf hZ rfl f5_0
    obtain ⟨_, _, ⟨T6, L6, k6, n6⟩, -, X6, ⟨Lc6, hQ6, l6, y6, z6⟩, st6⟩ := X5.virtualBack hx (y := (⟨"com/example/eager_recall/eagerrecall/vectors/HnswGraph$VisitedRows", "visit", "(I)Z"⟩ : MethodName)) (z := (⟨"com/example/eager_recall/eagerrecall/vectors/HnswGraph$VisitedRows", "visit", "(I)Z"⟩ : MethodName)) hown (mvT hZ (hw _ (List.mem_of_getElem? (i := 16) rfl))) (mvT hZ (hw _ (List.mem_of_getElem? (i := 17) rfl))) (notFace_of_selects (args := #[]) (mvT hZ (hw _ (List.mem_of_getElem? (i := 19) rfl)))) (mvT hZ (hw _ (List.mem_of_getElem? (i := 19) rfl))) (mvT hZ (hw _ (List.mem_of_getElem? (i := 18) rfl))) (by decide) (backOf (W := 0) (rm3 l Z a0 hw [] bv rd aM aB mm nn [] T5.heap n0 (Nat.le_trans (Nat.le_trans (Nat.le_trans (Nat.le_trans (Nat.le_trans Zs K1.1) K2.1) K3.1) K4.1) K5.1) OK5 g_b g_aM g_aB (by decide) hrd'.1 hrd'.2) hZ (hw _ (List.mem_of_getElem? (i := 20) rfl)) (hw _ (List.mem_of_getElem? (i := 3) rfl)) (by decide) (by decide)) q6a q6c (g := (mkF m 255 #[.val (.int p1), .val (.int p2), .val (.int p3), .val (.int p4), .val (.int p5), .val (.int p6), .val (.int nn), .val (.int ra), .val (.int rb), .val (.int rc), .val (.int rd), .val (.ref bv), .val (.int (p6 &&& (3 : Int32))), .val (.int (1 : Int32)), .val (.int r1), .val (.int r2), .val (.int r3), .val (.int r4), .unset, .unset] [(.int rd), (.ref bv)])) rfl (by rw [hml]; rfl) (Steps.refl _) (argsL := [(.int rd)]) (rest := []) (lenOf pd_rm0_0 rfl) rfl (by show 2 * 0 + _ ≤ _; exact Nat.le_of_eq rfl) (hb hby at_255) (fun _ _ => ⟨rfl, rfl, (by decide : 3 + 0 ≤ _), (by decide : 75 + 0 ≤ _)⟩)
    dsimp only [Pt.U, Pt.locs, Pt.cells, Pt.slots] at X6 l6 y6 z6 st6 hQ6
    subst l6 y6 z6
    obtain ⟨r6, S6, rfl, N6q, K6, hr6, OK6, hm6, hl6⟩ := hQ6
    have N6 := Fr.app N5 N6q
    refine own_go (fun t k => st6.trans k) ?_
    have f6_0 := f5_0.keep K6
    have hq6 : S6.length ≤ 1 := hl6
    refine own_go (B := T6.setTop (mkF m 264 #[.val (.int p1), .val (.int p2), .val (.int p3), .val (.int p4), .val (.int p5), .val (.int p6), .val (.int nn), .val (.int ra), .val (.int rb), .val (.int rc), .val (.int rd), .val (.ref bv), .val (.int (p6 &&& (3 : Int32))), .val (.int (1 : Int32)), .val (.int r1), .val (.int r2), .val (.int r3), .val (.int r4), .val (.int r6), .unset] [(.int rd), (.ref bv)])) (fun t k => ?_) ?_
    · show Steps p.tables e below (T6.setTop (mkF m 258 #[.val (.int p1), .val (.int p2), .val (.int p3), .val (.int p4), .val (.int p5), .val (.int p6), .val (.int nn), .val (.int ra), .val (.int rb), .val (.int rc), .val (.int rd), .val (.ref bv), .val (.int (p6 &&& (3 : Int32))), .val (.int (1 : Int32)), .val (.int r1), .val (.int r2), .val (.int r3), .val (.int r4), .unset, .unset] [(.int r6)])) t
      refine XS.istore X6.here hx rfl (hb hby at_258) rfl (l' := #[.val (.int p1), .val (.int p2), .val (.int p3), .val (.int p4), .val (.int p5), .val (.int p6), .val (.int nn), .val (.int ra), .val (.int rb), .val (.int rc), .val (.int rd), .val (.ref bv), .val (.int (p6 &&& (3 : Int32))), .val (.int (1 : Int32)), .val (.int r1), .val (.int r2), .val (.int r3), .val (.int r4), .val (.int r6), .unset]) rfl ?_
      show Steps p.tables e below (T6.setTop (mkF m 260 #[.val (.int p1), .val (.int p2), .val (.int p3), .val (.int p4), .val (.int p5), .val (.int p6), .val (.int nn), .val (.int ra), .val (.int rb), .val (.int rc), .val (.int rd), .val (.ref bv), .val (.int (p6 &&& (3 : Int32))), .val (.int (1 : Int32)), .val (.int r1), .val (.int r2), .val (.int r3), .val (.int r4), .val (.int r6), .unset] [])) t
      refine XS.aload X6.here hx rfl (hb hby at_260) rfl rfl ?_
      show Steps p.tables e below (T6.setTop (mkF m 262 #[.val (.int p1), .val (.int p2), .val (.int p3), .val (.int p4), .val (.int p5), .val (.int p6), .val (.int nn), .val (.int ra), .val (.int rb), .val (.int rc), .val (.int rd), .val (.ref bv), .val (.int (p6 &&& (3 : Int32))), .val (.int (1 : Int32)), .val (.int r1), .val (.int r2), .val (.int r3), .val (.int r4), .val (.int r6), .unset] [(.ref bv)])) t
      refine XS.iload X6.here hx rfl (hb hby at_262) rfl ?_
      exact k
    obtain ⟨cq7, kq7, q7a, q7b, q7c⟩ := isOf hZ rfl f6_0
    obtain ⟨_, _, ⟨T7, L7, k7, n7⟩, -, X7, ⟨Lc7, hQ7, l7, y7, z7⟩, st7⟩ := X6.virtualBack hx (y := (⟨"com/example/eager_recall/eagerrecall/vectors/HnswGraph$VisitedRows", "visit", "(I)Z"⟩ : MethodName)) (z := (⟨"com/example/eager_recall/eagerrecall/vectors/HnswGraph$VisitedRows", "visit", "(I)Z"⟩ : MethodName)) hown (mvT hZ (hw _ (List.mem_of_getElem? (i := 16) rfl))) (mvT hZ (hw _ (List.mem_of_getElem? (i := 17) rfl))) (notFace_of_selects (args := #[]) (mvT hZ (hw _ (List.mem_of_getElem? (i := 19) rfl)))) (mvT hZ (hw _ (List.mem_of_getElem? (i := 19) rfl))) (mvT hZ (hw _ (List.mem_of_getElem? (i := 18) rfl))) (by decide) (backOf (W := 0) (rm3 l Z a0 hw [] bv rd aM aB mm nn S6 T6.heap n0 (Nat.le_trans (Nat.le_trans (Nat.le_trans (Nat.le_trans (Nat.le_trans (Nat.le_trans Zs K1.1) K2.1) K3.1) K4.1) K5.1) K6.1) OK6 g_b g_aM g_aB (Nat.lt_of_le_of_lt hq6 (by decide)) hrd'.1 hrd'.2) hZ (hw _ (List.mem_of_getElem? (i := 20) rfl)) (hw _ (List.mem_of_getElem? (i := 3) rfl)) (by decide) (by decide)) q7a q7c (g := (mkF m 264 #[.val (.int p1), .val (.int p2), .val (.int p3), .val (.int p4), .val (.int p5), .val (.int p6), .val (.int nn), .val (.int ra), .val (.int rb), .val (.int rc), .val (.int rd), .val (.ref bv), .val (.int (p6 &&& (3 : Int32))), .val (.int (1 : Int32)), .val (.int r1), .val (.int r2), .val (.int r3), .val (.int r4), .val (.int r6), .unset] [(.int rd), (.ref bv)])) rfl (by rw [hml]; rfl) (Steps.refl _) (argsL := [(.int rd)]) (rest := []) (lenOf pd_rm0_0 rfl) rfl (by show 2 * 0 + _ ≤ _; exact Nat.le_of_eq rfl) (hb hby at_264) (fun _ _ => ⟨rfl, rfl, (by decide : 3 + 0 ≤ _), (by decide : 75 + 0 ≤ _)⟩)
    dsimp only [Pt.U, Pt.locs, Pt.cells, Pt.slots] at X7 l7 y7 z7 st7 hQ7
    subst l7 y7 z7
    obtain ⟨r7, S7, rfl, N7q, K7, hr7, OK7, hm7, hl7⟩ := hQ7
    have N7 := Fr.app N6 N7q
    refine own_go (fun t k => st7.trans k) ?_
    have f7_0 := f6_0.keep K7
    have hq7 : S7.length ≤ 2 := Nat.le_trans hl7 (Nat.succ_le_succ hq6)
    refine own_go (B := T7.setTop (mkF m 285 #[.val (.int p1), .val (.int p2), .val (.int p3), .val (.int p4), .val (.int p5), .val (.int p6), .val (.int nn), .val (.int ra), .val (.int rb), .val (.int rc), .val (.int rd), .val (.ref bv), .val (.int (p6 &&& (3 : Int32))), .val (.int (1 : Int32)), .val (.int r1), .val (.int r2), .val (.int r3), .val (.int r4), .val (.int r6), .val (.int r7)] [(.int ra), (.int rb), (.int r2)])) (fun t k => ?_) ?_
    · show Steps p.tables e below (T7.setTop (mkF m 267 #[.val (.int p1), .val (.int p2), .val (.int p3), .val (.int p4), .val (.int p5), .val (.int p6), .val (.int nn), .val (.int ra), .val (.int rb), .val (.int rc), .val (.int rd), .val (.ref bv), .val (.int (p6 &&& (3 : Int32))), .val (.int (1 : Int32)), .val (.int r1), .val (.int r2), .val (.int r3), .val (.int r4), .val (.int r6), .unset] [(.int r7)])) t
      refine XS.istore X7.here hx rfl (hb hby at_267) rfl (l' := #[.val (.int p1), .val (.int p2), .val (.int p3), .val (.int p4), .val (.int p5), .val (.int p6), .val (.int nn), .val (.int ra), .val (.int rb), .val (.int rc), .val (.int rd), .val (.ref bv), .val (.int (p6 &&& (3 : Int32))), .val (.int (1 : Int32)), .val (.int r1), .val (.int r2), .val (.int r3), .val (.int r4), .val (.int r6), .val (.int r7)]) rfl ?_
      show Steps p.tables e below (T7.setTop (mkF m 269 #[.val (.int p1), .val (.int p2), .val (.int p3), .val (.int p4), .val (.int p5), .val (.int p6), .val (.int nn), .val (.int ra), .val (.int rb), .val (.int rc), .val (.int rd), .val (.ref bv), .val (.int (p6 &&& (3 : Int32))), .val (.int (1 : Int32)), .val (.int r1), .val (.int r2), .val (.int r3), .val (.int r4), .val (.int r6), .val (.int r7)] [])) t
      refine XS.iload X7.here hx rfl (hb hby at_269) rfl ?_
      show Steps p.tables e below (T7.setTop (mkF m 271 #[.val (.int p1), .val (.int p2), .val (.int p3), .val (.int p4), .val (.int p5), .val (.int p6), .val (.int nn), .val (.int ra), .val (.int rb), .val (.int rc), .val (.int rd), .val (.ref bv), .val (.int (p6 &&& (3 : Int32))), .val (.int (1 : Int32)), .val (.int r1), .val (.int r2), .val (.int r3), .val (.int r4), .val (.int r6), .val (.int r7)] [(.int (1 : Int32))])) t
      refine XS.ifNo X7.here hx rfl (hb hby at_271) rfl ((if0 _ _).trans (feq (by decide : ¬ ((1 : Int32) = (0 : Int32)))).1) ?_
      show Steps p.tables e below (T7.setTop (mkF m 274 #[.val (.int p1), .val (.int p2), .val (.int p3), .val (.int p4), .val (.int p5), .val (.int p6), .val (.int nn), .val (.int ra), .val (.int rb), .val (.int rc), .val (.int rd), .val (.ref bv), .val (.int (p6 &&& (3 : Int32))), .val (.int (1 : Int32)), .val (.int r1), .val (.int r2), .val (.int r3), .val (.int r4), .val (.int r6), .val (.int r7)] [])) t
      refine XS.iload X7.here hx rfl (hb hby at_274) rfl ?_
      show Steps p.tables e below (T7.setTop (mkF m 276 #[.val (.int p1), .val (.int p2), .val (.int p3), .val (.int p4), .val (.int p5), .val (.int p6), .val (.int nn), .val (.int ra), .val (.int rb), .val (.int rc), .val (.int rd), .val (.ref bv), .val (.int (p6 &&& (3 : Int32))), .val (.int (1 : Int32)), .val (.int r1), .val (.int r2), .val (.int r3), .val (.int r4), .val (.int r6), .val (.int r7)] [(.int r1)])) t
      refine XS.ifNo X7.here hx rfl (hb hby at_276) rfl ((if0 _ _).trans (feq (own_new hr1 : ¬ (r1 = (0 : Int32)))).1) ?_
      show Steps p.tables e below (T7.setTop (mkF m 279 #[.val (.int p1), .val (.int p2), .val (.int p3), .val (.int p4), .val (.int p5), .val (.int p6), .val (.int nn), .val (.int ra), .val (.int rb), .val (.int rc), .val (.int rd), .val (.ref bv), .val (.int (p6 &&& (3 : Int32))), .val (.int (1 : Int32)), .val (.int r1), .val (.int r2), .val (.int r3), .val (.int r4), .val (.int r6), .val (.int r7)] [])) t
      refine XS.iload X7.here hx rfl (hb hby at_279) rfl ?_
      show Steps p.tables e below (T7.setTop (mkF m 281 #[.val (.int p1), .val (.int p2), .val (.int p3), .val (.int p4), .val (.int p5), .val (.int p6), .val (.int nn), .val (.int ra), .val (.int rb), .val (.int rc), .val (.int rd), .val (.ref bv), .val (.int (p6 &&& (3 : Int32))), .val (.int (1 : Int32)), .val (.int r1), .val (.int r2), .val (.int r3), .val (.int r4), .val (.int r6), .val (.int r7)] [(.int r2)])) t
      refine XS.iload X7.here hx rfl (hb hby at_281) rfl ?_
      show Steps p.tables e below (T7.setTop (mkF m 283 #[.val (.int p1), .val (.int p2), .val (.int p3), .val (.int p4), .val (.int p5), .val (.int p6), .val (.int nn), .val (.int ra), .val (.int rb), .val (.int rc), .val (.int rd), .val (.ref bv), .val (.int (p6 &&& (3 : Int32))), .val (.int (1 : Int32)), .val (.int r1), .val (.int r2), .val (.int r3), .val (.int r4), .val (.int r6), .val (.int r7)] [(.int rb), (.int r2)])) t
      refine XS.iload X7.here hx rfl (hb hby at_283) rfl ?_
      exact k
    obtain ⟨v9, hv9⟩ : ∃ z : Int32, z = (if rb = ra then (0 : Int32) else (1 : Int32)) := ⟨_, rfl⟩
    refine own_go (B := T7.setTop (mkF m 293 #[.val (.int p1), .val (.int p2), .val (.int p3), .val (.int p4), .val (.int p5), .val (.int p6), .val (.int nn), .val (.int ra), .val (.int rb), .val (.int rc), .val (.int rd), .val (.ref bv), .val (.int (p6 &&& (3 : Int32))), .val (.int (1 : Int32)), .val (.int r1), .val (.int r2), .val (.int r3), .val (.int r4), .val (.int r6), .val (.int r7)] [(.int v9), (.int r2)])) (fun t k => ?_) ?_
    · show Steps p.tables e below (T7.setTop (mkF m 285 #[.val (.int p1), .val (.int p2), .val (.int p3), .val (.int p4), .val (.int p5), .val (.int p6), .val (.int nn), .val (.int ra), .val (.int rb), .val (.int rc), .val (.int rd), .val (.ref bv), .val (.int (p6 &&& (3 : Int32))), .val (.int (1 : Int32)), .val (.int r1), .val (.int r2), .val (.int r3), .val (.int r4), .val (.int r6), .val (.int r7)] [(.int ra), (.int rb), (.int r2)])) t
      by_cases hc285_8 : rb = ra
      · refine XS.icmpYes X7.here hx rfl (pc0 := 285) (pc' := 292) rfl (hb hby at_285) rfl (teq hc285_8).1 (by decide) (by decide) ?_
        show Steps p.tables e below (T7.setTop (mkF m 292 #[.val (.int p1), .val (.int p2), .val (.int p3), .val (.int p4), .val (.int p5), .val (.int p6), .val (.int nn), .val (.int ra), .val (.int rb), .val (.int rc), .val (.int rd), .val (.ref bv), .val (.int (p6 &&& (3 : Int32))), .val (.int (1 : Int32)), .val (.int r1), .val (.int r2), .val (.int r3), .val (.int r4), .val (.int r6), .val (.int r7)] [(.int r2)])) t
        refine XS.iconst X7.here hx rfl (hb hby at_292) ?_
        rw [show v9 = (0 : Int32) from (hv9.trans (if_pos hc285_8))] at k
        exact k
      · refine XS.icmpNo X7.here hx rfl (hb hby at_285) rfl (feq hc285_8).1 ?_
        show Steps p.tables e below (T7.setTop (mkF m 288 #[.val (.int p1), .val (.int p2), .val (.int p3), .val (.int p4), .val (.int p5), .val (.int p6), .val (.int nn), .val (.int ra), .val (.int rb), .val (.int rc), .val (.int rd), .val (.ref bv), .val (.int (p6 &&& (3 : Int32))), .val (.int (1 : Int32)), .val (.int r1), .val (.int r2), .val (.int r3), .val (.int r4), .val (.int r6), .val (.int r7)] [(.int r2)])) t
        refine XS.iconst X7.here hx rfl (hb hby at_288) ?_
        show Steps p.tables e below (T7.setTop (mkF m 289 #[.val (.int p1), .val (.int p2), .val (.int p3), .val (.int p4), .val (.int p5), .val (.int p6), .val (.int nn), .val (.int ra), .val (.int rb), .val (.int rc), .val (.int rd), .val (.ref bv), .val (.int (p6 &&& (3 : Int32))), .val (.int (1 : Int32)), .val (.int r1), .val (.int r2), .val (.int r3), .val (.int r4), .val (.int r6), .val (.int r7)] [(.int (1 : Int32)), (.int r2)])) t
        refine XS.goto X7.here hx rfl (pc0 := 289) (pc' := 293) rfl (hb hby at_289) (by decide) (by decide) ?_
        rw [show v9 = (1 : Int32) from (hv9.trans (if_neg hc285_8))] at k
        exact k
    refine own_go (B := T7.setTop (mkF m 302 #[.val (.int p1), .val (.int p2), .val (.int p3), .val (.int p4), .val (.int p5), .val (.int p6), .val (.int nn), .val (.int ra), .val (.int rb), .val (.int rc), .val (.int rd), .val (.ref bv), .val (.int (p6 &&& (3 : Int32))), .val (.int (1 : Int32)), .val (.int r1), .val (.int r2), .val (.int r3), .val (.int r4), .val (.int r6), .val (.int r7)] [(.int ra), (.int rc), (.int r3)])) (fun t k => ?_) ?_
    · show Steps p.tables e below (T7.setTop (mkF m 293 #[.val (.int p1), .val (.int p2), .val (.int p3), .val (.int p4), .val (.int p5), .val (.int p6), .val (.int nn), .val (.int ra), .val (.int rb), .val (.int rc), .val (.int rd), .val (.ref bv), .val (.int (p6 &&& (3 : Int32))), .val (.int (1 : Int32)), .val (.int r1), .val (.int r2), .val (.int r3), .val (.int r4), .val (.int r6), .val (.int r7)] [(.int v9), (.int r2)])) t
      refine XS.icmpNo X7.here hx rfl (hb hby at_293) rfl (teq (own_r1 hm1 hr2 hv9 : r2 = v9)).2 ?_
      show Steps p.tables e below (T7.setTop (mkF m 296 #[.val (.int p1), .val (.int p2), .val (.int p3), .val (.int p4), .val (.int p5), .val (.int p6), .val (.int nn), .val (.int ra), .val (.int rb), .val (.int rc), .val (.int rd), .val (.ref bv), .val (.int (p6 &&& (3 : Int32))), .val (.int (1 : Int32)), .val (.int r1), .val (.int r2), .val (.int r3), .val (.int r4), .val (.int r6), .val (.int r7)] [])) t
      refine XS.iload X7.here hx rfl (hb hby at_296) rfl ?_
      show Steps p.tables e below (T7.setTop (mkF m 298 #[.val (.int p1), .val (.int p2), .val (.int p3), .val (.int p4), .val (.int p5), .val (.int p6), .val (.int nn), .val (.int ra), .val (.int rb), .val (.int rc), .val (.int rd), .val (.ref bv), .val (.int (p6 &&& (3 : Int32))), .val (.int (1 : Int32)), .val (.int r1), .val (.int r2), .val (.int r3), .val (.int r4), .val (.int r6), .val (.int r7)] [(.int r3)])) t
      refine XS.iload X7.here hx rfl (hb hby at_298) rfl ?_
      show Steps p.tables e below (T7.setTop (mkF m 300 #[.val (.int p1), .val (.int p2), .val (.int p3), .val (.int p4), .val (.int p5), .val (.int p6), .val (.int nn), .val (.int ra), .val (.int rb), .val (.int rc), .val (.int rd), .val (.ref bv), .val (.int (p6 &&& (3 : Int32))), .val (.int (1 : Int32)), .val (.int r1), .val (.int r2), .val (.int r3), .val (.int r4), .val (.int r6), .val (.int r7)] [(.int rc), (.int r3)])) t
      refine XS.iload X7.here hx rfl (hb hby at_300) rfl ?_
      exact k
    obtain ⟨v12, hv12⟩ : ∃ z : Int32, z = (if rc = ra then (0 : Int32) else (if rc = rb then (0 : Int32) else (1 : Int32))) := ⟨_, rfl⟩
    refine own_go (B := T7.setTop (mkF m 317 #[.val (.int p1), .val (.int p2), .val (.int p3), .val (.int p4), .val (.int p5), .val (.int p6), .val (.int nn), .val (.int ra), .val (.int rb), .val (.int rc), .val (.int rd), .val (.ref bv), .val (.int (p6 &&& (3 : Int32))), .val (.int (1 : Int32)), .val (.int r1), .val (.int r2), .val (.int r3), .val (.int r4), .val (.int r6), .val (.int r7)] [(.int v12), (.int r3)])) (fun t k => ?_) ?_
    · show Steps p.tables e below (T7.setTop (mkF m 302 #[.val (.int p1), .val (.int p2), .val (.int p3), .val (.int p4), .val (.int p5), .val (.int p6), .val (.int nn), .val (.int ra), .val (.int rb), .val (.int rc), .val (.int rd), .val (.ref bv), .val (.int (p6 &&& (3 : Int32))), .val (.int (1 : Int32)), .val (.int r1), .val (.int r2), .val (.int r3), .val (.int r4), .val (.int r6), .val (.int r7)] [(.int ra), (.int rc), (.int r3)])) t
      by_cases hc302_10 : rc = ra
      · refine XS.icmpYes X7.here hx rfl (pc0 := 302) (pc' := 316) rfl (hb hby at_302) rfl (teq hc302_10).1 (by decide) (by decide) ?_
        show Steps p.tables e below (T7.setTop (mkF m 316 #[.val (.int p1), .val (.int p2), .val (.int p3), .val (.int p4), .val (.int p5), .val (.int p6), .val (.int nn), .val (.int ra), .val (.int rb), .val (.int rc), .val (.int rd), .val (.ref bv), .val (.int (p6 &&& (3 : Int32))), .val (.int (1 : Int32)), .val (.int r1), .val (.int r2), .val (.int r3), .val (.int r4), .val (.int r6), .val (.int r7)] [(.int r3)])) t
        refine XS.iconst X7.here hx rfl (hb hby at_316) ?_
        rw [show v12 = (0 : Int32) from (hv12.trans (if_pos hc302_10))] at k
        exact k
      · refine XS.icmpNo X7.here hx rfl (hb hby at_302) rfl (feq hc302_10).1 ?_
        show Steps p.tables e below (T7.setTop (mkF m 305 #[.val (.int p1), .val (.int p2), .val (.int p3), .val (.int p4), .val (.int p5), .val (.int p6), .val (.int nn), .val (.int ra), .val (.int rb), .val (.int rc), .val (.int rd), .val (.ref bv), .val (.int (p6 &&& (3 : Int32))), .val (.int (1 : Int32)), .val (.int r1), .val (.int r2), .val (.int r3), .val (.int r4), .val (.int r6), .val (.int r7)] [(.int r3)])) t
        refine XS.iload X7.here hx rfl (hb hby at_305) rfl ?_
        show Steps p.tables e below (T7.setTop (mkF m 307 #[.val (.int p1), .val (.int p2), .val (.int p3), .val (.int p4), .val (.int p5), .val (.int p6), .val (.int nn), .val (.int ra), .val (.int rb), .val (.int rc), .val (.int rd), .val (.ref bv), .val (.int (p6 &&& (3 : Int32))), .val (.int (1 : Int32)), .val (.int r1), .val (.int r2), .val (.int r3), .val (.int r4), .val (.int r6), .val (.int r7)] [(.int rc), (.int r3)])) t
        refine XS.iload X7.here hx rfl (hb hby at_307) rfl ?_
        show Steps p.tables e below (T7.setTop (mkF m 309 #[.val (.int p1), .val (.int p2), .val (.int p3), .val (.int p4), .val (.int p5), .val (.int p6), .val (.int nn), .val (.int ra), .val (.int rb), .val (.int rc), .val (.int rd), .val (.ref bv), .val (.int (p6 &&& (3 : Int32))), .val (.int (1 : Int32)), .val (.int r1), .val (.int r2), .val (.int r3), .val (.int r4), .val (.int r6), .val (.int r7)] [(.int rb), (.int rc), (.int r3)])) t
        by_cases hc309_11 : rc = rb
        · refine XS.icmpYes X7.here hx rfl (pc0 := 309) (pc' := 316) rfl (hb hby at_309) rfl (teq hc309_11).1 (by decide) (by decide) ?_
          show Steps p.tables e below (T7.setTop (mkF m 316 #[.val (.int p1), .val (.int p2), .val (.int p3), .val (.int p4), .val (.int p5), .val (.int p6), .val (.int nn), .val (.int ra), .val (.int rb), .val (.int rc), .val (.int rd), .val (.ref bv), .val (.int (p6 &&& (3 : Int32))), .val (.int (1 : Int32)), .val (.int r1), .val (.int r2), .val (.int r3), .val (.int r4), .val (.int r6), .val (.int r7)] [(.int r3)])) t
          refine XS.iconst X7.here hx rfl (hb hby at_316) ?_
          rw [show v12 = (0 : Int32) from ((hv12.trans (if_neg hc302_10)).trans (if_pos hc309_11))] at k
          exact k
        · refine XS.icmpNo X7.here hx rfl (hb hby at_309) rfl (feq hc309_11).1 ?_
          show Steps p.tables e below (T7.setTop (mkF m 312 #[.val (.int p1), .val (.int p2), .val (.int p3), .val (.int p4), .val (.int p5), .val (.int p6), .val (.int nn), .val (.int ra), .val (.int rb), .val (.int rc), .val (.int rd), .val (.ref bv), .val (.int (p6 &&& (3 : Int32))), .val (.int (1 : Int32)), .val (.int r1), .val (.int r2), .val (.int r3), .val (.int r4), .val (.int r6), .val (.int r7)] [(.int r3)])) t
          refine XS.iconst X7.here hx rfl (hb hby at_312) ?_
          show Steps p.tables e below (T7.setTop (mkF m 313 #[.val (.int p1), .val (.int p2), .val (.int p3), .val (.int p4), .val (.int p5), .val (.int p6), .val (.int nn), .val (.int ra), .val (.int rb), .val (.int rc), .val (.int rd), .val (.ref bv), .val (.int (p6 &&& (3 : Int32))), .val (.int (1 : Int32)), .val (.int r1), .val (.int r2), .val (.int r3), .val (.int r4), .val (.int r6), .val (.int r7)] [(.int (1 : Int32)), (.int r3)])) t
          refine XS.goto X7.here hx rfl (pc0 := 313) (pc' := 317) rfl (hb hby at_313) (by decide) (by decide) ?_
          rw [show v12 = (1 : Int32) from ((hv12.trans (if_neg hc302_10)).trans (if_neg hc309_11))] at k
          exact k
    refine own_go (B := T7.setTop (mkF m 326 #[.val (.int p1), .val (.int p2), .val (.int p3), .val (.int p4), .val (.int p5), .val (.int p6), .val (.int nn), .val (.int ra), .val (.int rb), .val (.int rc), .val (.int rd), .val (.ref bv), .val (.int (p6 &&& (3 : Int32))), .val (.int (1 : Int32)), .val (.int r1), .val (.int r2), .val (.int r3), .val (.int r4), .val (.int r6), .val (.int r7)] [(.int ra), (.int rd), (.int r4)])) (fun t k => ?_) ?_
    · show Steps p.tables e below (T7.setTop (mkF m 317 #[.val (.int p1), .val (.int p2), .val (.int p3), .val (.int p4), .val (.int p5), .val (.int p6), .val (.int nn), .val (.int ra), .val (.int rb), .val (.int rc), .val (.int rd), .val (.ref bv), .val (.int (p6 &&& (3 : Int32))), .val (.int (1 : Int32)), .val (.int r1), .val (.int r2), .val (.int r3), .val (.int r4), .val (.int r6), .val (.int r7)] [(.int v12), (.int r3)])) t
      refine XS.icmpNo X7.here hx rfl (hb hby at_317) rfl (teq (own_r2 hm1 hm2 hr3 hv12 : r3 = v12)).2 ?_
      show Steps p.tables e below (T7.setTop (mkF m 320 #[.val (.int p1), .val (.int p2), .val (.int p3), .val (.int p4), .val (.int p5), .val (.int p6), .val (.int nn), .val (.int ra), .val (.int rb), .val (.int rc), .val (.int rd), .val (.ref bv), .val (.int (p6 &&& (3 : Int32))), .val (.int (1 : Int32)), .val (.int r1), .val (.int r2), .val (.int r3), .val (.int r4), .val (.int r6), .val (.int r7)] [])) t
      refine XS.iload X7.here hx rfl (hb hby at_320) rfl ?_
      show Steps p.tables e below (T7.setTop (mkF m 322 #[.val (.int p1), .val (.int p2), .val (.int p3), .val (.int p4), .val (.int p5), .val (.int p6), .val (.int nn), .val (.int ra), .val (.int rb), .val (.int rc), .val (.int rd), .val (.ref bv), .val (.int (p6 &&& (3 : Int32))), .val (.int (1 : Int32)), .val (.int r1), .val (.int r2), .val (.int r3), .val (.int r4), .val (.int r6), .val (.int r7)] [(.int r4)])) t
      refine XS.iload X7.here hx rfl (hb hby at_322) rfl ?_
      show Steps p.tables e below (T7.setTop (mkF m 324 #[.val (.int p1), .val (.int p2), .val (.int p3), .val (.int p4), .val (.int p5), .val (.int p6), .val (.int nn), .val (.int ra), .val (.int rb), .val (.int rc), .val (.int rd), .val (.ref bv), .val (.int (p6 &&& (3 : Int32))), .val (.int (1 : Int32)), .val (.int r1), .val (.int r2), .val (.int r3), .val (.int r4), .val (.int r6), .val (.int r7)] [(.int rd), (.int r4)])) t
      refine XS.iload X7.here hx rfl (hb hby at_324) rfl ?_
      exact k
    obtain ⟨v16, hv16⟩ : ∃ z : Int32, z = (if rd = ra then (0 : Int32) else (if rd = rb then (0 : Int32) else (if rd = rc then (0 : Int32) else (1 : Int32)))) := ⟨_, rfl⟩
    refine own_go (B := T7.setTop (mkF m 348 #[.val (.int p1), .val (.int p2), .val (.int p3), .val (.int p4), .val (.int p5), .val (.int p6), .val (.int nn), .val (.int ra), .val (.int rb), .val (.int rc), .val (.int rd), .val (.ref bv), .val (.int (p6 &&& (3 : Int32))), .val (.int (1 : Int32)), .val (.int r1), .val (.int r2), .val (.int r3), .val (.int r4), .val (.int r6), .val (.int r7)] [(.int v16), (.int r4)])) (fun t k => ?_) ?_
    · show Steps p.tables e below (T7.setTop (mkF m 326 #[.val (.int p1), .val (.int p2), .val (.int p3), .val (.int p4), .val (.int p5), .val (.int p6), .val (.int nn), .val (.int ra), .val (.int rb), .val (.int rc), .val (.int rd), .val (.ref bv), .val (.int (p6 &&& (3 : Int32))), .val (.int (1 : Int32)), .val (.int r1), .val (.int r2), .val (.int r3), .val (.int r4), .val (.int r6), .val (.int r7)] [(.int ra), (.int rd), (.int r4)])) t
      by_cases hc326_13 : rd = ra
      · refine XS.icmpYes X7.here hx rfl (pc0 := 326) (pc' := 347) rfl (hb hby at_326) rfl (teq hc326_13).1 (by decide) (by decide) ?_
        show Steps p.tables e below (T7.setTop (mkF m 347 #[.val (.int p1), .val (.int p2), .val (.int p3), .val (.int p4), .val (.int p5), .val (.int p6), .val (.int nn), .val (.int ra), .val (.int rb), .val (.int rc), .val (.int rd), .val (.ref bv), .val (.int (p6 &&& (3 : Int32))), .val (.int (1 : Int32)), .val (.int r1), .val (.int r2), .val (.int r3), .val (.int r4), .val (.int r6), .val (.int r7)] [(.int r4)])) t
        refine XS.iconst X7.here hx rfl (hb hby at_347) ?_
        rw [show v16 = (0 : Int32) from (hv16.trans (if_pos hc326_13))] at k
        exact k
      · refine XS.icmpNo X7.here hx rfl (hb hby at_326) rfl (feq hc326_13).1 ?_
        show Steps p.tables e below (T7.setTop (mkF m 329 #[.val (.int p1), .val (.int p2), .val (.int p3), .val (.int p4), .val (.int p5), .val (.int p6), .val (.int nn), .val (.int ra), .val (.int rb), .val (.int rc), .val (.int rd), .val (.ref bv), .val (.int (p6 &&& (3 : Int32))), .val (.int (1 : Int32)), .val (.int r1), .val (.int r2), .val (.int r3), .val (.int r4), .val (.int r6), .val (.int r7)] [(.int r4)])) t
        refine XS.iload X7.here hx rfl (hb hby at_329) rfl ?_
        show Steps p.tables e below (T7.setTop (mkF m 331 #[.val (.int p1), .val (.int p2), .val (.int p3), .val (.int p4), .val (.int p5), .val (.int p6), .val (.int nn), .val (.int ra), .val (.int rb), .val (.int rc), .val (.int rd), .val (.ref bv), .val (.int (p6 &&& (3 : Int32))), .val (.int (1 : Int32)), .val (.int r1), .val (.int r2), .val (.int r3), .val (.int r4), .val (.int r6), .val (.int r7)] [(.int rd), (.int r4)])) t
        refine XS.iload X7.here hx rfl (hb hby at_331) rfl ?_
        show Steps p.tables e below (T7.setTop (mkF m 333 #[.val (.int p1), .val (.int p2), .val (.int p3), .val (.int p4), .val (.int p5), .val (.int p6), .val (.int nn), .val (.int ra), .val (.int rb), .val (.int rc), .val (.int rd), .val (.ref bv), .val (.int (p6 &&& (3 : Int32))), .val (.int (1 : Int32)), .val (.int r1), .val (.int r2), .val (.int r3), .val (.int r4), .val (.int r6), .val (.int r7)] [(.int rb), (.int rd), (.int r4)])) t
        by_cases hc333_14 : rd = rb
        · refine XS.icmpYes X7.here hx rfl (pc0 := 333) (pc' := 347) rfl (hb hby at_333) rfl (teq hc333_14).1 (by decide) (by decide) ?_
          show Steps p.tables e below (T7.setTop (mkF m 347 #[.val (.int p1), .val (.int p2), .val (.int p3), .val (.int p4), .val (.int p5), .val (.int p6), .val (.int nn), .val (.int ra), .val (.int rb), .val (.int rc), .val (.int rd), .val (.ref bv), .val (.int (p6 &&& (3 : Int32))), .val (.int (1 : Int32)), .val (.int r1), .val (.int r2), .val (.int r3), .val (.int r4), .val (.int r6), .val (.int r7)] [(.int r4)])) t
          refine XS.iconst X7.here hx rfl (hb hby at_347) ?_
          rw [show v16 = (0 : Int32) from ((hv16.trans (if_neg hc326_13)).trans (if_pos hc333_14))] at k
          exact k
        · refine XS.icmpNo X7.here hx rfl (hb hby at_333) rfl (feq hc333_14).1 ?_
          show Steps p.tables e below (T7.setTop (mkF m 336 #[.val (.int p1), .val (.int p2), .val (.int p3), .val (.int p4), .val (.int p5), .val (.int p6), .val (.int nn), .val (.int ra), .val (.int rb), .val (.int rc), .val (.int rd), .val (.ref bv), .val (.int (p6 &&& (3 : Int32))), .val (.int (1 : Int32)), .val (.int r1), .val (.int r2), .val (.int r3), .val (.int r4), .val (.int r6), .val (.int r7)] [(.int r4)])) t
          refine XS.iload X7.here hx rfl (hb hby at_336) rfl ?_
          show Steps p.tables e below (T7.setTop (mkF m 338 #[.val (.int p1), .val (.int p2), .val (.int p3), .val (.int p4), .val (.int p5), .val (.int p6), .val (.int nn), .val (.int ra), .val (.int rb), .val (.int rc), .val (.int rd), .val (.ref bv), .val (.int (p6 &&& (3 : Int32))), .val (.int (1 : Int32)), .val (.int r1), .val (.int r2), .val (.int r3), .val (.int r4), .val (.int r6), .val (.int r7)] [(.int rd), (.int r4)])) t
          refine XS.iload X7.here hx rfl (hb hby at_338) rfl ?_
          show Steps p.tables e below (T7.setTop (mkF m 340 #[.val (.int p1), .val (.int p2), .val (.int p3), .val (.int p4), .val (.int p5), .val (.int p6), .val (.int nn), .val (.int ra), .val (.int rb), .val (.int rc), .val (.int rd), .val (.ref bv), .val (.int (p6 &&& (3 : Int32))), .val (.int (1 : Int32)), .val (.int r1), .val (.int r2), .val (.int r3), .val (.int r4), .val (.int r6), .val (.int r7)] [(.int rc), (.int rd), (.int r4)])) t
          by_cases hc340_15 : rd = rc
          · refine XS.icmpYes X7.here hx rfl (pc0 := 340) (pc' := 347) rfl (hb hby at_340) rfl (teq hc340_15).1 (by decide) (by decide) ?_
            show Steps p.tables e below (T7.setTop (mkF m 347 #[.val (.int p1), .val (.int p2), .val (.int p3), .val (.int p4), .val (.int p5), .val (.int p6), .val (.int nn), .val (.int ra), .val (.int rb), .val (.int rc), .val (.int rd), .val (.ref bv), .val (.int (p6 &&& (3 : Int32))), .val (.int (1 : Int32)), .val (.int r1), .val (.int r2), .val (.int r3), .val (.int r4), .val (.int r6), .val (.int r7)] [(.int r4)])) t
            refine XS.iconst X7.here hx rfl (hb hby at_347) ?_
            rw [show v16 = (0 : Int32) from (((hv16.trans (if_neg hc326_13)).trans (if_neg hc333_14)).trans (if_pos hc340_15))] at k
            exact k
          · refine XS.icmpNo X7.here hx rfl (hb hby at_340) rfl (feq hc340_15).1 ?_
            show Steps p.tables e below (T7.setTop (mkF m 343 #[.val (.int p1), .val (.int p2), .val (.int p3), .val (.int p4), .val (.int p5), .val (.int p6), .val (.int nn), .val (.int ra), .val (.int rb), .val (.int rc), .val (.int rd), .val (.ref bv), .val (.int (p6 &&& (3 : Int32))), .val (.int (1 : Int32)), .val (.int r1), .val (.int r2), .val (.int r3), .val (.int r4), .val (.int r6), .val (.int r7)] [(.int r4)])) t
            refine XS.iconst X7.here hx rfl (hb hby at_343) ?_
            show Steps p.tables e below (T7.setTop (mkF m 344 #[.val (.int p1), .val (.int p2), .val (.int p3), .val (.int p4), .val (.int p5), .val (.int p6), .val (.int nn), .val (.int ra), .val (.int rb), .val (.int rc), .val (.int rd), .val (.ref bv), .val (.int (p6 &&& (3 : Int32))), .val (.int (1 : Int32)), .val (.int r1), .val (.int r2), .val (.int r3), .val (.int r4), .val (.int r6), .val (.int r7)] [(.int (1 : Int32)), (.int r4)])) t
            refine XS.goto X7.here hx rfl (pc0 := 344) (pc' := 348) rfl (hb hby at_344) (by decide) (by decide) ?_
            rw [show v16 = (1 : Int32) from (((hv16.trans (if_neg hc326_13)).trans (if_neg hc333_14)).trans (if_neg hc340_15))] at k
            exact k
    refine own_go (B := T7.setTop (mkF m 366 #[.val (.int p1), .val (.int p2), .val (.int p3), .val (.int p4), .val (.int p5), .val (.int p6), .val (.int nn), .val (.int ra), .val (.int rb), .val (.int rc), .val (.int rd), .val (.ref bv), .val (.int (p6 &&& (3 : Int32))), .val (.int (1 : Int32)), .val (.int r1), .val (.int r2), .val (.int r3), .val (.int r4), .val (.int r6), .val (.int r7)] [(.int (1 : Int32))])) (fun t k => ?_) ?_
    · show Steps p.tables e below (T7.setTop (mkF m 348 #[.val (.int p1), .val (.int p2), .val (.int p3), .val (.int p4), .val (.int p5), .val (.int p6), .val (.int nn), .val (.int ra), .val (.int rb), .val (.int rc), .val (.int rd), .val (.ref bv), .val (.int (p6 &&& (3 : Int32))), .val (.int (1 : Int32)), .val (.int r1), .val (.int r2), .val (.int r3), .val (.int r4), .val (.int r6), .val (.int r7)] [(.int v16), (.int r4)])) t
      refine XS.icmpNo X7.here hx rfl (hb hby at_348) rfl (teq (own_r3 hm1 hm2 hm3 hr4 hv16 : r4 = v16)).2 ?_
      show Steps p.tables e below (T7.setTop (mkF m 351 #[.val (.int p1), .val (.int p2), .val (.int p3), .val (.int p4), .val (.int p5), .val (.int p6), .val (.int nn), .val (.int ra), .val (.int rb), .val (.int rc), .val (.int rd), .val (.ref bv), .val (.int (p6 &&& (3 : Int32))), .val (.int (1 : Int32)), .val (.int r1), .val (.int r2), .val (.int r3), .val (.int r4), .val (.int r6), .val (.int r7)] [])) t
      refine XS.iload X7.here hx rfl (hb hby at_351) rfl ?_
      show Steps p.tables e below (T7.setTop (mkF m 353 #[.val (.int p1), .val (.int p2), .val (.int p3), .val (.int p4), .val (.int p5), .val (.int p6), .val (.int nn), .val (.int ra), .val (.int rb), .val (.int rc), .val (.int rd), .val (.ref bv), .val (.int (p6 &&& (3 : Int32))), .val (.int (1 : Int32)), .val (.int r1), .val (.int r2), .val (.int r3), .val (.int r4), .val (.int r6), .val (.int r7)] [(.int r6)])) t
      refine XS.ifNo X7.here hx rfl (hb hby at_353) rfl ((if0 _ _).trans (feq (own_new hr6 : ¬ (r6 = (0 : Int32)))).1) ?_
      show Steps p.tables e below (T7.setTop (mkF m 356 #[.val (.int p1), .val (.int p2), .val (.int p3), .val (.int p4), .val (.int p5), .val (.int p6), .val (.int nn), .val (.int ra), .val (.int rb), .val (.int rc), .val (.int rd), .val (.ref bv), .val (.int (p6 &&& (3 : Int32))), .val (.int (1 : Int32)), .val (.int r1), .val (.int r2), .val (.int r3), .val (.int r4), .val (.int r6), .val (.int r7)] [])) t
      refine XS.iload X7.here hx rfl (hb hby at_356) rfl ?_
      show Steps p.tables e below (T7.setTop (mkF m 358 #[.val (.int p1), .val (.int p2), .val (.int p3), .val (.int p4), .val (.int p5), .val (.int p6), .val (.int nn), .val (.int ra), .val (.int rb), .val (.int rc), .val (.int rd), .val (.ref bv), .val (.int (p6 &&& (3 : Int32))), .val (.int (1 : Int32)), .val (.int r1), .val (.int r2), .val (.int r3), .val (.int r4), .val (.int r6), .val (.int r7)] [(.int r7)])) t
      refine XS.ifNo X7.here hx rfl (hb hby at_358) rfl ((if0 _ _).trans (teq (own_old hm6 hr7 : r7 = (0 : Int32))).2) ?_
      show Steps p.tables e below (T7.setTop (mkF m 361 #[.val (.int p1), .val (.int p2), .val (.int p3), .val (.int p4), .val (.int p5), .val (.int p6), .val (.int nn), .val (.int ra), .val (.int rb), .val (.int rc), .val (.int rd), .val (.ref bv), .val (.int (p6 &&& (3 : Int32))), .val (.int (1 : Int32)), .val (.int r1), .val (.int r2), .val (.int r3), .val (.int r4), .val (.int r6), .val (.int r7)] [])) t
      refine XS.iconst X7.here hx rfl (hb hby at_361) ?_
      show Steps p.tables e below (T7.setTop (mkF m 362 #[.val (.int p1), .val (.int p2), .val (.int p3), .val (.int p4), .val (.int p5), .val (.int p6), .val (.int nn), .val (.int ra), .val (.int rb), .val (.int rc), .val (.int rd), .val (.ref bv), .val (.int (p6 &&& (3 : Int32))), .val (.int (1 : Int32)), .val (.int r1), .val (.int r2), .val (.int r3), .val (.int r4), .val (.int r6), .val (.int r7)] [(.int (1 : Int32))])) t
      refine XS.goto X7.here hx rfl (pc0 := 362) (pc' := 366) rfl (hb hby at_362) (by decide) (by decide) ?_
      exact k
    obtain ⟨fs, hr, hrun, hended, hW, hsame⟩ := X7.leave (v := some (.int (1 : Int32))) (fun h => by rw [Bd.returns] at h; cases h)
    refine ⟨_, _, ?_, hrun, hended, _, _, rfl, ?_, ⟨_, rfl⟩, hW, hsame.mono (by decide) (by decide)⟩
    · show Steps p.tables e below (T7.setTop (mkF m 366 #[.val (.int p1), .val (.int p2), .val (.int p3), .val (.int p4), .val (.int p5), .val (.int p6), .val (.int nn), .val (.int ra), .val (.int rb), .val (.int rc), .val (.int rd), .val (.ref bv), .val (.int (p6 &&& (3 : Int32))), .val (.int (1 : Int32)), .val (.int r1), .val (.int r2), .val (.int r3), .val (.int r4), .val (.int r6), .val (.int r7)] [(.int (1 : Int32))])) _
      exact retN X7 hx (t := .boolean) Bd.returns (by simp) (hb hby at_366) hr
    · show Q0 Z p1 p2 p3 p4 p5 p6 h0 n0 _ T7.heap _
      exact ⟨rfl, N7⟩
  have tail1 : ∀ (nn ra rb rc rd : Int32) (bv aM aB : Addr) (mm : Int32) (T : State) (locs : List Loc) (hp : Heap) (s14 : Slot) (S : List Int32), (s14 = .unset ∨ ∃ z : Int32, s14 = .val (.int z)) → Stand p l e room_1 s m #[(.int p1), (.int p2), (.int p3), (.int p4), (.int p5), (.int p6)] below meth c T locs 3 75 → T.heap = hp → Fr n0 locs → n0 ≤ hp.size → own_OK Z hp bv aM aB mm nn S → n0 ≤ bv → n0 ≤ aM → n0 ≤ aB → (0 ≤ ra.toInt ∧ ra.toInt < nn.toInt) → (0 ≤ rb.toInt ∧ rb.toInt < nn.toInt) → (0 ≤ rc.toInt ∧ rc.toInt < nn.toInt) → (0 ≤ rd.toInt ∧ rd.toInt < nn.toInt) → S.length < 64 → own_Fin p e below (fun o U' => ∃ v L, o = .returned v ∧ Q0 Z p1 p2 p3 p4 p5 p6 h0 n0 v U'.heap L ∧ FrameEnd s o U' L room_1.cells room_1.slots) (T.setTop (mkF m 193 #[.val (.int p1), .val (.int p2), .val (.int p3), .val (.int p4), .val (.int p5), .val (.int p6), .val (.int nn), .val (.int ra), .val (.int rb), .val (.int rc), .val (.int rd), .val (.ref bv), .val (.int (p6 &&& (3 : Int32))), .val (.int (1 : Int32)), s14, .unset, .unset, .unset, .unset, .unset] [])) := by
    intro nn ra rb rc rd bv aM aB mm T locs hp s14 S hs14 X eT N Zs OK g_b g_aM g_aB hra' hrb' hrc' hrd' hlen
    refine own_go (B := T.setTop (mkF m 195 #[.val (.int p1), .val (.int p2), .val (.int p3), .val (.int p4), .val (.int p5), .val (.int p6), .val (.int nn), .val (.int ra), .val (.int rb), .val (.int rc), .val (.int rd), .val (.ref bv), .val (.int (p6 &&& (3 : Int32))), .val (.int (1 : Int32)), s14, .unset, .unset, .unset, .unset, .unset] [(.ref bv)])) (fun t k => ?_) ?_
    · show Steps p.tables e below (T.setTop (mkF m 193 #[.val (.int p1), .val (.int p2), .val (.int p3), .val (.int p4), .val (.int p5), .val (.int p6), .val (.int nn), .val (.int ra), .val (.int rb), .val (.int rc), .val (.int rd), .val (.ref bv), .val (.int (p6 &&& (3 : Int32))), .val (.int (1 : Int32)), s14, .unset, .unset, .unset, .unset, .unset] [])) t
      refine XS.aload X.here hx rfl (hb hby at_193) rfl rfl ?_
      exact k
    obtain ⟨cq17, kq17, q17a, q17b, q17c⟩ := isOf hZ eT OK.exa
    obtain ⟨_, _, ⟨T17, L17, k17, n17⟩, -, X17, ⟨Lc17, hQ17, l17, y17, z17⟩, st17⟩ := X.virtualBack hx (y := (⟨"com/example/eager_recall/eagerrecall/vectors/HnswGraph$VisitedRows", "clear", "()V"⟩ : MethodName)) (z := (⟨"com/example/eager_recall/eagerrecall/vectors/HnswGraph$VisitedRows", "clear", "()V"⟩ : MethodName)) hown (mvT hZ (hw _ (List.mem_of_getElem? (i := 23) rfl))) (mvT hZ (hw _ (List.mem_of_getElem? (i := 24) rfl))) (notFace_of_selects (args := #[]) (mvT hZ (hw _ (List.mem_of_getElem? (i := 26) rfl)))) (mvT hZ (hw _ (List.mem_of_getElem? (i := 26) rfl))) (mvT hZ (hw _ (List.mem_of_getElem? (i := 25) rfl))) (by decide) (backOf (W := 0) (rm4 l Z a0 hw [] bv aM aB mm nn S hp n0 Zs OK g_b g_aM g_aB hlen) hZ (hw _ (List.mem_of_getElem? (i := 27) rfl)) (hw _ (List.mem_of_getElem? (i := 3) rfl)) (by decide) (by decide)) q17a q17c (g := (mkF m 195 #[.val (.int p1), .val (.int p2), .val (.int p3), .val (.int p4), .val (.int p5), .val (.int p6), .val (.int nn), .val (.int ra), .val (.int rb), .val (.int rc), .val (.int rd), .val (.ref bv), .val (.int (p6 &&& (3 : Int32))), .val (.int (1 : Int32)), s14, .unset, .unset, .unset, .unset, .unset] [(.ref bv)])) rfl (by rw [hml]; rfl) (Steps.refl _) (argsL := []) (rest := []) (lenOf pd_rm0_1 rfl) rfl (by show 2 * 0 + _ ≤ _; exact Nat.le_of_eq rfl) (hb hby at_195) (fun _ _ => ⟨rfl, eT, (by decide : 3 + 0 ≤ _), (by decide : 75 + 0 ≤ _)⟩)
    dsimp only [Pt.U, Pt.locs, Pt.cells, Pt.slots] at X17 l17 y17 z17 st17 hQ17
    subst l17 y17 z17
    obtain ⟨rfl, N17q, K17, OK17⟩ := hQ17
    have N17 := Fr.app N N17q
    refine own_go (fun t k => st17.trans k) ?_
    have f17_0 := OK.exa.keep K17
    refine own_go (B := T17.setTop (mkF m 202 #[.val (.int p1), .val (.int p2), .val (.int p3), .val (.int p4), .val (.int p5), .val (.int p6), .val (.int nn), .val (.int ra), .val (.int rb), .val (.int rc), .val (.int rd), .val (.ref bv), .val (.int (p6 &&& (3 : Int32))), .val (.int (1 : Int32)), s14, .unset, .unset, .unset, .unset, .unset] [(.int (p6 &&& (4 : Int32)))])) (fun t k => ?_) ?_
    · show Steps p.tables e below (T17.setTop (mkF m 198 #[.val (.int p1), .val (.int p2), .val (.int p3), .val (.int p4), .val (.int p5), .val (.int p6), .val (.int nn), .val (.int ra), .val (.int rb), .val (.int rc), .val (.int rd), .val (.ref bv), .val (.int (p6 &&& (3 : Int32))), .val (.int (1 : Int32)), s14, .unset, .unset, .unset, .unset, .unset] [])) t
      refine XS.iload X17.here hx rfl (hb hby at_198) rfl ?_
      show Steps p.tables e below (T17.setTop (mkF m 200 #[.val (.int p1), .val (.int p2), .val (.int p3), .val (.int p4), .val (.int p5), .val (.int p6), .val (.int nn), .val (.int ra), .val (.int rb), .val (.int rc), .val (.int rd), .val (.ref bv), .val (.int (p6 &&& (3 : Int32))), .val (.int (1 : Int32)), s14, .unset, .unset, .unset, .unset, .unset] [(.int p6)])) t
      refine XS.iconst X17.here hx rfl (hb hby at_200) ?_
      show Steps p.tables e below (T17.setTop (mkF m 201 #[.val (.int p1), .val (.int p2), .val (.int p3), .val (.int p4), .val (.int p5), .val (.int p6), .val (.int nn), .val (.int ra), .val (.int rb), .val (.int rc), .val (.int rd), .val (.ref bv), .val (.int (p6 &&& (3 : Int32))), .val (.int (1 : Int32)), s14, .unset, .unset, .unset, .unset, .unset] [(.int (4 : Int32)), (.int p6)])) t
      refine XS.iand X17.here hx rfl (hb hby at_201) rfl ?_
      exact k
    by_cases hc202_18 : (p6 &&& (4 : Int32)) = (0 : Int32)
    · refine own_go (B := T17.setTop (mkF m 210 #[.val (.int p1), .val (.int p2), .val (.int p3), .val (.int p4), .val (.int p5), .val (.int p6), .val (.int nn), .val (.int ra), .val (.int rb), .val (.int rc), .val (.int rd), .val (.ref bv), .val (.int (p6 &&& (3 : Int32))), .val (.int (1 : Int32)), s14, .unset, .unset, .unset, .unset, .unset] [])) (fun t k => ?_) ?_
      · show Steps p.tables e below (T17.setTop (mkF m 202 #[.val (.int p1), .val (.int p2), .val (.int p3), .val (.int p4), .val (.int p5), .val (.int p6), .val (.int nn), .val (.int ra), .val (.int rb), .val (.int rc), .val (.int rd), .val (.ref bv), .val (.int (p6 &&& (3 : Int32))), .val (.int (1 : Int32)), s14, .unset, .unset, .unset, .unset, .unset] [(.int (p6 &&& (4 : Int32)))])) t
        refine XS.ifYes X17.here hx rfl (pc0 := 202) (pc' := 210) rfl (hb hby at_202) rfl ((if0 _ _).trans (teq hc202_18).1) (by decide) (by decide) ?_
        exact k
      exact tail2 _ _ _ _ _ _ _ _ _ _ _ _ _ hs14 X17 rfl N17 (Nat.le_trans Zs K17.1) OK17 g_b g_aM g_aB hra' hrb' hrc' hrd'
    · refine own_go (B := T17.setTop (mkF m 205 #[.val (.int p1), .val (.int p2), .val (.int p3), .val (.int p4), .val (.int p5), .val (.int p6), .val (.int nn), .val (.int ra), .val (.int rb), .val (.int rc), .val (.int rd), .val (.ref bv), .val (.int (p6 &&& (3 : Int32))), .val (.int (1 : Int32)), s14, .unset, .unset, .unset, .unset, .unset] [])) (fun t k => ?_) ?_
      · show Steps p.tables e below (T17.setTop (mkF m 202 #[.val (.int p1), .val (.int p2), .val (.int p3), .val (.int p4), .val (.int p5), .val (.int p6), .val (.int nn), .val (.int ra), .val (.int rb), .val (.int rc), .val (.int rd), .val (.ref bv), .val (.int (p6 &&& (3 : Int32))), .val (.int (1 : Int32)), s14, .unset, .unset, .unset, .unset, .unset] [(.int (p6 &&& (4 : Int32)))])) t
        refine XS.ifNo X17.here hx rfl (hb hby at_202) rfl ((if0 _ _).trans (feq hc202_18).1) ?_
        exact k
      refine own_go (B := T17.setTop (mkF m 207 #[.val (.int p1), .val (.int p2), .val (.int p3), .val (.int p4), .val (.int p5), .val (.int p6), .val (.int nn), .val (.int ra), .val (.int rb), .val (.int rc), .val (.int rd), .val (.ref bv), .val (.int (p6 &&& (3 : Int32))), .val (.int (1 : Int32)), s14, .unset, .unset, .unset, .unset, .unset] [(.ref bv)])) (fun t k => ?_) ?_
      · show Steps p.tables e below (T17.setTop (mkF m 205 #[.val (.int p1), .val (.int p2), .val (.int p3), .val (.int p4), .val (.int p5), .val (.int p6), .val (.int nn), .val (.int ra), .val (.int rb), .val (.int rc), .val (.int rd), .val (.ref bv), .val (.int (p6 &&& (3 : Int32))), .val (.int (1 : Int32)), s14, .unset, .unset, .unset, .unset, .unset] [])) t
        refine XS.aload X17.here hx rfl (hb hby at_205) rfl rfl ?_
        exact k
      obtain ⟨cq19, kq19, q19a, q19b, q19c⟩ := isOf hZ rfl f17_0
      obtain ⟨_, _, ⟨T19, L19, k19, n19⟩, -, X19, ⟨Lc19, hQ19, l19, y19, z19⟩, st19⟩ := X17.virtualBack hx (y := (⟨"com/example/eager_recall/eagerrecall/vectors/HnswGraph$VisitedRows", "clear", "()V"⟩ : MethodName)) (z := (⟨"com/example/eager_recall/eagerrecall/vectors/HnswGraph$VisitedRows", "clear", "()V"⟩ : MethodName)) hown (mvT hZ (hw _ (List.mem_of_getElem? (i := 23) rfl))) (mvT hZ (hw _ (List.mem_of_getElem? (i := 24) rfl))) (notFace_of_selects (args := #[]) (mvT hZ (hw _ (List.mem_of_getElem? (i := 26) rfl)))) (mvT hZ (hw _ (List.mem_of_getElem? (i := 26) rfl))) (mvT hZ (hw _ (List.mem_of_getElem? (i := 25) rfl))) (by decide) (backOf (W := 0) (rm4 l Z a0 hw [] bv aM aB mm nn [] T17.heap n0 (Nat.le_trans Zs K17.1) OK17 g_b g_aM g_aB (by decide)) hZ (hw _ (List.mem_of_getElem? (i := 27) rfl)) (hw _ (List.mem_of_getElem? (i := 3) rfl)) (by decide) (by decide)) q19a q19c (g := (mkF m 207 #[.val (.int p1), .val (.int p2), .val (.int p3), .val (.int p4), .val (.int p5), .val (.int p6), .val (.int nn), .val (.int ra), .val (.int rb), .val (.int rc), .val (.int rd), .val (.ref bv), .val (.int (p6 &&& (3 : Int32))), .val (.int (1 : Int32)), s14, .unset, .unset, .unset, .unset, .unset] [(.ref bv)])) rfl (by rw [hml]; rfl) (Steps.refl _) (argsL := []) (rest := []) (lenOf pd_rm0_1 rfl) rfl (by show 2 * 0 + _ ≤ _; exact Nat.le_of_eq rfl) (hb hby at_207) (fun _ _ => ⟨rfl, rfl, (by decide : 3 + 0 ≤ _), (by decide : 75 + 0 ≤ _)⟩)
      dsimp only [Pt.U, Pt.locs, Pt.cells, Pt.slots] at X19 l19 y19 z19 st19 hQ19
      subst l19 y19 z19
      obtain ⟨rfl, N19q, K19, OK19⟩ := hQ19
      have N19 := Fr.app N17 N19q
      refine own_go (fun t k => st19.trans k) ?_
      have f19_0 := f17_0.keep K19
      exact tail2 _ _ _ _ _ _ _ _ _ _ _ _ _ hs14 X19 rfl N19 (Nat.le_trans (Nat.le_trans Zs K17.1) K19.1) OK19 g_b g_aM g_aB hra' hrb' hrc' hrd'
  refine own_go (B := s₁.setTop (mkF m 9 #[.val (.int p1), .val (.int p2), .val (.int p3), .val (.int p4), .val (.int p5), .val (.int p6), .val (.int ((1 : Int32) + (p1 &&& (511 : Int32)))), .unset, .unset, .unset, .unset, .unset, .unset, .unset, .unset, .unset, .unset, .unset, .unset, .unset] [])) (fun t k => ?_) ?_
  · show Steps p.tables e below (s₁.setTop (mkF m 0 #[.val (.int p1), .val (.int p2), .val (.int p3), .val (.int p4), .val (.int p5), .val (.int p6), .unset, .unset, .unset, .unset, .unset, .unset, .unset, .unset, .unset, .unset, .unset, .unset, .unset, .unset] [])) t
    refine XS.iconst X0.here hx rfl (hb hby at_0) ?_
    show Steps p.tables e below (s₁.setTop (mkF m 1 #[.val (.int p1), .val (.int p2), .val (.int p3), .val (.int p4), .val (.int p5), .val (.int p6), .unset, .unset, .unset, .unset, .unset, .unset, .unset, .unset, .unset, .unset, .unset, .unset, .unset, .unset] [(.int (1 : Int32))])) t
    refine XS.iloadN X0.here hx rfl (hb hby at_1) rfl ?_
    show Steps p.tables e below (s₁.setTop (mkF m 2 #[.val (.int p1), .val (.int p2), .val (.int p3), .val (.int p4), .val (.int p5), .val (.int p6), .unset, .unset, .unset, .unset, .unset, .unset, .unset, .unset, .unset, .unset, .unset, .unset, .unset, .unset] [(.int p1), (.int (1 : Int32))])) t
    refine XS.sipush X0.here hx rfl (hb hby at_2) ?_
    show Steps p.tables e below (s₁.setTop (mkF m 5 #[.val (.int p1), .val (.int p2), .val (.int p3), .val (.int p4), .val (.int p5), .val (.int p6), .unset, .unset, .unset, .unset, .unset, .unset, .unset, .unset, .unset, .unset, .unset, .unset, .unset, .unset] [(.int (511 : Int32)), (.int p1), (.int (1 : Int32))])) t
    refine XS.iand X0.here hx rfl (hb hby at_5) rfl ?_
    show Steps p.tables e below (s₁.setTop (mkF m 6 #[.val (.int p1), .val (.int p2), .val (.int p3), .val (.int p4), .val (.int p5), .val (.int p6), .unset, .unset, .unset, .unset, .unset, .unset, .unset, .unset, .unset, .unset, .unset, .unset, .unset, .unset] [(.int (p1 &&& (511 : Int32))), (.int (1 : Int32))])) t
    refine XS.iadd X0.here hx rfl (hb hby at_6) rfl ?_
    show Steps p.tables e below (s₁.setTop (mkF m 7 #[.val (.int p1), .val (.int p2), .val (.int p3), .val (.int p4), .val (.int p5), .val (.int p6), .unset, .unset, .unset, .unset, .unset, .unset, .unset, .unset, .unset, .unset, .unset, .unset, .unset, .unset] [(.int ((1 : Int32) + (p1 &&& (511 : Int32))))])) t
    refine XS.istore X0.here hx rfl (hb hby at_7) rfl (l' := #[.val (.int p1), .val (.int p2), .val (.int p3), .val (.int p4), .val (.int p5), .val (.int p6), .val (.int ((1 : Int32) + (p1 &&& (511 : Int32)))), .unset, .unset, .unset, .unset, .unset, .unset, .unset, .unset, .unset, .unset, .unset, .unset, .unset]) rfl ?_
    exact k
  obtain ⟨nn, hnn⟩ : ∃ z : Int32, z = ((1 : Int32) + (p1 &&& (511 : Int32))) := ⟨_, rfl⟩
  rw [← hnn]
  have hnn := own_n hnn
  have hn0 := own_ne0 hnn
  refine own_go (B := s₁.setTop (mkF m 18 #[.val (.int p1), .val (.int p2), .val (.int p3), .val (.int p4), .val (.int p5), .val (.int p6), .val (.int nn), .val (.int ((p2 &&& (2147483647 : Int32)) % nn)), .unset, .unset, .unset, .unset, .unset, .unset, .unset, .unset, .unset, .unset, .unset, .unset] [])) (fun t k => ?_) ?_
  · show Steps p.tables e below (s₁.setTop (mkF m 9 #[.val (.int p1), .val (.int p2), .val (.int p3), .val (.int p4), .val (.int p5), .val (.int p6), .val (.int nn), .unset, .unset, .unset, .unset, .unset, .unset, .unset, .unset, .unset, .unset, .unset, .unset, .unset] [])) t
    refine XS.iloadN X0.here hx rfl (hb hby at_9) rfl ?_
    show Steps p.tables e below (s₁.setTop (mkF m 10 #[.val (.int p1), .val (.int p2), .val (.int p3), .val (.int p4), .val (.int p5), .val (.int p6), .val (.int nn), .unset, .unset, .unset, .unset, .unset, .unset, .unset, .unset, .unset, .unset, .unset, .unset, .unset] [(.int p2)])) t
    refine X0.ldcInt hx hown (mvT hZ (hw _ (List.mem_of_getElem? (i := 0) rfl))) (g := (mkF m 10 #[.val (.int p1), .val (.int p2), .val (.int p3), .val (.int p4), .val (.int p5), .val (.int p6), .val (.int nn), .unset, .unset, .unset, .unset, .unset, .unset, .unset, .unset, .unset, .unset, .unset, .unset, .unset] [(.int p2)])) rfl (hb hby at_10) _ ?_
    show Steps p.tables e below (s₁.setTop (mkF m 12 #[.val (.int p1), .val (.int p2), .val (.int p3), .val (.int p4), .val (.int p5), .val (.int p6), .val (.int nn), .unset, .unset, .unset, .unset, .unset, .unset, .unset, .unset, .unset, .unset, .unset, .unset, .unset] [(.int (2147483647 : Int32)), (.int p2)])) t
    refine XS.iand X0.here hx rfl (hb hby at_12) rfl ?_
    show Steps p.tables e below (s₁.setTop (mkF m 13 #[.val (.int p1), .val (.int p2), .val (.int p3), .val (.int p4), .val (.int p5), .val (.int p6), .val (.int nn), .unset, .unset, .unset, .unset, .unset, .unset, .unset, .unset, .unset, .unset, .unset, .unset, .unset] [(.int (p2 &&& (2147483647 : Int32)))])) t
    refine XS.iload X0.here hx rfl (hb hby at_13) rfl ?_
    show Steps p.tables e below (s₁.setTop (mkF m 15 #[.val (.int p1), .val (.int p2), .val (.int p3), .val (.int p4), .val (.int p5), .val (.int p6), .val (.int nn), .unset, .unset, .unset, .unset, .unset, .unset, .unset, .unset, .unset, .unset, .unset, .unset, .unset] [(.int nn), (.int (p2 &&& (2147483647 : Int32)))])) t
    refine iremM X0 hx rfl (hb hby at_15) rfl hn0 ?_
    show Steps p.tables e below (s₁.setTop (mkF m 16 #[.val (.int p1), .val (.int p2), .val (.int p3), .val (.int p4), .val (.int p5), .val (.int p6), .val (.int nn), .unset, .unset, .unset, .unset, .unset, .unset, .unset, .unset, .unset, .unset, .unset, .unset, .unset] [(.int ((p2 &&& (2147483647 : Int32)) % nn))])) t
    refine XS.istore X0.here hx rfl (hb hby at_16) rfl (l' := #[.val (.int p1), .val (.int p2), .val (.int p3), .val (.int p4), .val (.int p5), .val (.int p6), .val (.int nn), .val (.int ((p2 &&& (2147483647 : Int32)) % nn)), .unset, .unset, .unset, .unset, .unset, .unset, .unset, .unset, .unset, .unset, .unset, .unset]) rfl ?_
    exact k
  obtain ⟨ra, hra⟩ : ∃ z : Int32, z = ((p2 &&& (2147483647 : Int32)) % nn) := ⟨_, rfl⟩
  rw [← hra]
  have hra' := own_row hnn hra
  refine own_go (B := s₁.setTop (mkF m 27 #[.val (.int p1), .val (.int p2), .val (.int p3), .val (.int p4), .val (.int p5), .val (.int p6), .val (.int nn), .val (.int ra), .val (.int ((p3 &&& (2147483647 : Int32)) % nn)), .unset, .unset, .unset, .unset, .unset, .unset, .unset, .unset, .unset, .unset, .unset] [])) (fun t k => ?_) ?_
  · show Steps p.tables e below (s₁.setTop (mkF m 18 #[.val (.int p1), .val (.int p2), .val (.int p3), .val (.int p4), .val (.int p5), .val (.int p6), .val (.int nn), .val (.int ra), .unset, .unset, .unset, .unset, .unset, .unset, .unset, .unset, .unset, .unset, .unset, .unset] [])) t
    refine XS.iloadN X0.here hx rfl (hb hby at_18) rfl ?_
    show Steps p.tables e below (s₁.setTop (mkF m 19 #[.val (.int p1), .val (.int p2), .val (.int p3), .val (.int p4), .val (.int p5), .val (.int p6), .val (.int nn), .val (.int ra), .unset, .unset, .unset, .unset, .unset, .unset, .unset, .unset, .unset, .unset, .unset, .unset] [(.int p3)])) t
    refine X0.ldcInt hx hown (mvT hZ (hw _ (List.mem_of_getElem? (i := 0) rfl))) (g := (mkF m 19 #[.val (.int p1), .val (.int p2), .val (.int p3), .val (.int p4), .val (.int p5), .val (.int p6), .val (.int nn), .val (.int ra), .unset, .unset, .unset, .unset, .unset, .unset, .unset, .unset, .unset, .unset, .unset, .unset] [(.int p3)])) rfl (hb hby at_19) _ ?_
    show Steps p.tables e below (s₁.setTop (mkF m 21 #[.val (.int p1), .val (.int p2), .val (.int p3), .val (.int p4), .val (.int p5), .val (.int p6), .val (.int nn), .val (.int ra), .unset, .unset, .unset, .unset, .unset, .unset, .unset, .unset, .unset, .unset, .unset, .unset] [(.int (2147483647 : Int32)), (.int p3)])) t
    refine XS.iand X0.here hx rfl (hb hby at_21) rfl ?_
    show Steps p.tables e below (s₁.setTop (mkF m 22 #[.val (.int p1), .val (.int p2), .val (.int p3), .val (.int p4), .val (.int p5), .val (.int p6), .val (.int nn), .val (.int ra), .unset, .unset, .unset, .unset, .unset, .unset, .unset, .unset, .unset, .unset, .unset, .unset] [(.int (p3 &&& (2147483647 : Int32)))])) t
    refine XS.iload X0.here hx rfl (hb hby at_22) rfl ?_
    show Steps p.tables e below (s₁.setTop (mkF m 24 #[.val (.int p1), .val (.int p2), .val (.int p3), .val (.int p4), .val (.int p5), .val (.int p6), .val (.int nn), .val (.int ra), .unset, .unset, .unset, .unset, .unset, .unset, .unset, .unset, .unset, .unset, .unset, .unset] [(.int nn), (.int (p3 &&& (2147483647 : Int32)))])) t
    refine iremM X0 hx rfl (hb hby at_24) rfl hn0 ?_
    show Steps p.tables e below (s₁.setTop (mkF m 25 #[.val (.int p1), .val (.int p2), .val (.int p3), .val (.int p4), .val (.int p5), .val (.int p6), .val (.int nn), .val (.int ra), .unset, .unset, .unset, .unset, .unset, .unset, .unset, .unset, .unset, .unset, .unset, .unset] [(.int ((p3 &&& (2147483647 : Int32)) % nn))])) t
    refine XS.istore X0.here hx rfl (hb hby at_25) rfl (l' := #[.val (.int p1), .val (.int p2), .val (.int p3), .val (.int p4), .val (.int p5), .val (.int p6), .val (.int nn), .val (.int ra), .val (.int ((p3 &&& (2147483647 : Int32)) % nn)), .unset, .unset, .unset, .unset, .unset, .unset, .unset, .unset, .unset, .unset, .unset]) rfl ?_
    exact k
  obtain ⟨rb, hrb⟩ : ∃ z : Int32, z = ((p3 &&& (2147483647 : Int32)) % nn) := ⟨_, rfl⟩
  rw [← hrb]
  have hrb' := own_row hnn hrb
  refine own_go (B := s₁.setTop (mkF m 36 #[.val (.int p1), .val (.int p2), .val (.int p3), .val (.int p4), .val (.int p5), .val (.int p6), .val (.int nn), .val (.int ra), .val (.int rb), .val (.int ((p4 &&& (2147483647 : Int32)) % nn)), .unset, .unset, .unset, .unset, .unset, .unset, .unset, .unset, .unset, .unset] [])) (fun t k => ?_) ?_
  · show Steps p.tables e below (s₁.setTop (mkF m 27 #[.val (.int p1), .val (.int p2), .val (.int p3), .val (.int p4), .val (.int p5), .val (.int p6), .val (.int nn), .val (.int ra), .val (.int rb), .unset, .unset, .unset, .unset, .unset, .unset, .unset, .unset, .unset, .unset, .unset] [])) t
    refine XS.iloadN X0.here hx rfl (hb hby at_27) rfl ?_
    show Steps p.tables e below (s₁.setTop (mkF m 28 #[.val (.int p1), .val (.int p2), .val (.int p3), .val (.int p4), .val (.int p5), .val (.int p6), .val (.int nn), .val (.int ra), .val (.int rb), .unset, .unset, .unset, .unset, .unset, .unset, .unset, .unset, .unset, .unset, .unset] [(.int p4)])) t
    refine X0.ldcInt hx hown (mvT hZ (hw _ (List.mem_of_getElem? (i := 0) rfl))) (g := (mkF m 28 #[.val (.int p1), .val (.int p2), .val (.int p3), .val (.int p4), .val (.int p5), .val (.int p6), .val (.int nn), .val (.int ra), .val (.int rb), .unset, .unset, .unset, .unset, .unset, .unset, .unset, .unset, .unset, .unset, .unset] [(.int p4)])) rfl (hb hby at_28) _ ?_
    show Steps p.tables e below (s₁.setTop (mkF m 30 #[.val (.int p1), .val (.int p2), .val (.int p3), .val (.int p4), .val (.int p5), .val (.int p6), .val (.int nn), .val (.int ra), .val (.int rb), .unset, .unset, .unset, .unset, .unset, .unset, .unset, .unset, .unset, .unset, .unset] [(.int (2147483647 : Int32)), (.int p4)])) t
    refine XS.iand X0.here hx rfl (hb hby at_30) rfl ?_
    show Steps p.tables e below (s₁.setTop (mkF m 31 #[.val (.int p1), .val (.int p2), .val (.int p3), .val (.int p4), .val (.int p5), .val (.int p6), .val (.int nn), .val (.int ra), .val (.int rb), .unset, .unset, .unset, .unset, .unset, .unset, .unset, .unset, .unset, .unset, .unset] [(.int (p4 &&& (2147483647 : Int32)))])) t
    refine XS.iload X0.here hx rfl (hb hby at_31) rfl ?_
    show Steps p.tables e below (s₁.setTop (mkF m 33 #[.val (.int p1), .val (.int p2), .val (.int p3), .val (.int p4), .val (.int p5), .val (.int p6), .val (.int nn), .val (.int ra), .val (.int rb), .unset, .unset, .unset, .unset, .unset, .unset, .unset, .unset, .unset, .unset, .unset] [(.int nn), (.int (p4 &&& (2147483647 : Int32)))])) t
    refine iremM X0 hx rfl (hb hby at_33) rfl hn0 ?_
    show Steps p.tables e below (s₁.setTop (mkF m 34 #[.val (.int p1), .val (.int p2), .val (.int p3), .val (.int p4), .val (.int p5), .val (.int p6), .val (.int nn), .val (.int ra), .val (.int rb), .unset, .unset, .unset, .unset, .unset, .unset, .unset, .unset, .unset, .unset, .unset] [(.int ((p4 &&& (2147483647 : Int32)) % nn))])) t
    refine XS.istore X0.here hx rfl (hb hby at_34) rfl (l' := #[.val (.int p1), .val (.int p2), .val (.int p3), .val (.int p4), .val (.int p5), .val (.int p6), .val (.int nn), .val (.int ra), .val (.int rb), .val (.int ((p4 &&& (2147483647 : Int32)) % nn)), .unset, .unset, .unset, .unset, .unset, .unset, .unset, .unset, .unset, .unset]) rfl ?_
    exact k
  obtain ⟨rc, hrc⟩ : ∃ z : Int32, z = ((p4 &&& (2147483647 : Int32)) % nn) := ⟨_, rfl⟩
  rw [← hrc]
  have hrc' := own_row hnn hrc
  refine own_go (B := s₁.setTop (mkF m 46 #[.val (.int p1), .val (.int p2), .val (.int p3), .val (.int p4), .val (.int p5), .val (.int p6), .val (.int nn), .val (.int ra), .val (.int rb), .val (.int rc), .val (.int ((p5 &&& (2147483647 : Int32)) % nn)), .unset, .unset, .unset, .unset, .unset, .unset, .unset, .unset, .unset] [])) (fun t k => ?_) ?_
  · show Steps p.tables e below (s₁.setTop (mkF m 36 #[.val (.int p1), .val (.int p2), .val (.int p3), .val (.int p4), .val (.int p5), .val (.int p6), .val (.int nn), .val (.int ra), .val (.int rb), .val (.int rc), .unset, .unset, .unset, .unset, .unset, .unset, .unset, .unset, .unset, .unset] [])) t
    refine XS.iload X0.here hx rfl (hb hby at_36) rfl ?_
    show Steps p.tables e below (s₁.setTop (mkF m 38 #[.val (.int p1), .val (.int p2), .val (.int p3), .val (.int p4), .val (.int p5), .val (.int p6), .val (.int nn), .val (.int ra), .val (.int rb), .val (.int rc), .unset, .unset, .unset, .unset, .unset, .unset, .unset, .unset, .unset, .unset] [(.int p5)])) t
    refine X0.ldcInt hx hown (mvT hZ (hw _ (List.mem_of_getElem? (i := 0) rfl))) (g := (mkF m 38 #[.val (.int p1), .val (.int p2), .val (.int p3), .val (.int p4), .val (.int p5), .val (.int p6), .val (.int nn), .val (.int ra), .val (.int rb), .val (.int rc), .unset, .unset, .unset, .unset, .unset, .unset, .unset, .unset, .unset, .unset] [(.int p5)])) rfl (hb hby at_38) _ ?_
    show Steps p.tables e below (s₁.setTop (mkF m 40 #[.val (.int p1), .val (.int p2), .val (.int p3), .val (.int p4), .val (.int p5), .val (.int p6), .val (.int nn), .val (.int ra), .val (.int rb), .val (.int rc), .unset, .unset, .unset, .unset, .unset, .unset, .unset, .unset, .unset, .unset] [(.int (2147483647 : Int32)), (.int p5)])) t
    refine XS.iand X0.here hx rfl (hb hby at_40) rfl ?_
    show Steps p.tables e below (s₁.setTop (mkF m 41 #[.val (.int p1), .val (.int p2), .val (.int p3), .val (.int p4), .val (.int p5), .val (.int p6), .val (.int nn), .val (.int ra), .val (.int rb), .val (.int rc), .unset, .unset, .unset, .unset, .unset, .unset, .unset, .unset, .unset, .unset] [(.int (p5 &&& (2147483647 : Int32)))])) t
    refine XS.iload X0.here hx rfl (hb hby at_41) rfl ?_
    show Steps p.tables e below (s₁.setTop (mkF m 43 #[.val (.int p1), .val (.int p2), .val (.int p3), .val (.int p4), .val (.int p5), .val (.int p6), .val (.int nn), .val (.int ra), .val (.int rb), .val (.int rc), .unset, .unset, .unset, .unset, .unset, .unset, .unset, .unset, .unset, .unset] [(.int nn), (.int (p5 &&& (2147483647 : Int32)))])) t
    refine iremM X0 hx rfl (hb hby at_43) rfl hn0 ?_
    show Steps p.tables e below (s₁.setTop (mkF m 44 #[.val (.int p1), .val (.int p2), .val (.int p3), .val (.int p4), .val (.int p5), .val (.int p6), .val (.int nn), .val (.int ra), .val (.int rb), .val (.int rc), .unset, .unset, .unset, .unset, .unset, .unset, .unset, .unset, .unset, .unset] [(.int ((p5 &&& (2147483647 : Int32)) % nn))])) t
    refine XS.istore X0.here hx rfl (hb hby at_44) rfl (l' := #[.val (.int p1), .val (.int p2), .val (.int p3), .val (.int p4), .val (.int p5), .val (.int p6), .val (.int nn), .val (.int ra), .val (.int rb), .val (.int rc), .val (.int ((p5 &&& (2147483647 : Int32)) % nn)), .unset, .unset, .unset, .unset, .unset, .unset, .unset, .unset, .unset]) rfl ?_
    exact k
  obtain ⟨rd, hrd⟩ : ∃ z : Int32, z = ((p5 &&& (2147483647 : Int32)) % nn) := ⟨_, rfl⟩
  rw [← hrd]
  have hrd' := own_row hnn hrd
  obtain ⟨T20, h20, X20, e20, E20, A20, D20, -, st20⟩ := newO X0 hx hZ hown (hw _ (List.mem_of_getElem? (i := 1) rfl)) (hw _ (List.mem_of_getElem? (i := 2) rfl)) (hw _ (List.mem_of_getElem? (i := 3) rfl)) e0 (g := (mkF m 46 #[.val (.int p1), .val (.int p2), .val (.int p3), .val (.int p4), .val (.int p5), .val (.int p6), .val (.int nn), .val (.int ra), .val (.int rb), .val (.int rc), .val (.int rd), .unset, .unset, .unset, .unset, .unset, .unset, .unset, .unset, .unset] [])) rfl (hb hby at_46) (by decide) (by decide)
  obtain ⟨b20, g20⟩ : ∃ z, z = h0.size := ⟨_, rfl⟩
  rw [← g20] at A20 D20 st20
  refine own_go (fun t k => st20 t k) ?_
  have g_b20 : n0 ≤ b20 := Nat.le_trans Z0 (Nat.le_of_eq g20.symm)
  have F20_marked : Fld Z h20 b20 "com/example/eager_recall/eagerrecall/vectors/HnswGraph$VisitedRows" "marked" "[I" .null := D20 (Or.inl (hw _ (List.mem_of_getElem? (i := 12) rfl))) (ty := (.array .int)) (by decide)
  have F20_bits : Fld Z h20 b20 "com/example/eager_recall/eagerrecall/vectors/HnswGraph$VisitedRows" "bits" "[J" .null := D20 (Or.inr (hw _ (List.mem_of_getElem? (i := 15) rfl))) (ty := (.array .long)) (by decide)
  have F20_count : Fld Z h20 b20 "com/example/eager_recall/eagerrecall/vectors/HnswGraph$VisitedRows" "count" "I" (.int (0 : Int32)) := D20 (Or.inl (hw _ (List.mem_of_getElem? (i := 22) rfl))) (ty := .int) (by decide)
  refine own_go (B := T20.setTop (mkF m 52 #[.val (.int p1), .val (.int p2), .val (.int p3), .val (.int p4), .val (.int p5), .val (.int p6), .val (.int nn), .val (.int ra), .val (.int rb), .val (.int rc), .val (.int rd), .unset, .unset, .unset, .unset, .unset, .unset, .unset, .unset, .unset] [(.int nn), (.ref b20), (.ref b20)])) (fun t k => ?_) ?_
  · show Steps p.tables e below (T20.setTop (mkF m 49 #[.val (.int p1), .val (.int p2), .val (.int p3), .val (.int p4), .val (.int p5), .val (.int p6), .val (.int nn), .val (.int ra), .val (.int rb), .val (.int rc), .val (.int rd), .unset, .unset, .unset, .unset, .unset, .unset, .unset, .unset, .unset] [(.ref b20)])) t
    refine XS.dup X20.here hx rfl (hb hby at_49) rfl rfl ?_
    show Steps p.tables e below (T20.setTop (mkF m 50 #[.val (.int p1), .val (.int p2), .val (.int p3), .val (.int p4), .val (.int p5), .val (.int p6), .val (.int nn), .val (.int ra), .val (.int rb), .val (.int rc), .val (.int rd), .unset, .unset, .unset, .unset, .unset, .unset, .unset, .unset, .unset] [(.ref b20), (.ref b20)])) t
    refine XS.iload X20.here hx rfl (hb hby at_50) rfl ?_
    exact k
  obtain ⟨_, _, ⟨T21, L21, k21, n21⟩, -, X21, ⟨Lc21, hQ21, l21, y21, z21⟩, st21⟩ := X20.specialBack hx (y := (⟨"com/example/eager_recall/eagerrecall/vectors/HnswGraph$VisitedRows", "<init>", "(I)V"⟩ : MethodName)) rfl hown (mvT hZ (hw _ (List.mem_of_getElem? (i := 4) rfl))) (mvT hZ (hw _ (List.mem_of_getElem? (i := 5) rfl))) (mvT hZ (hw _ (List.mem_of_getElem? (i := 6) rfl))) (by decide) (backOf (W := 1) (rm1 l Z a0 hw [] b20 nn _ _ h20 n0 (Nat.le_trans Z0 E20.1) A20 F20_marked F20_bits F20_count g_b20 hnn.1 hnn.2) hZ (hw _ (List.mem_of_getElem? (i := 6) rfl)) (hw _ (List.mem_of_getElem? (i := 3) rfl)) (by decide) (by decide)) (g := (mkF m 52 #[.val (.int p1), .val (.int p2), .val (.int p3), .val (.int p4), .val (.int p5), .val (.int p6), .val (.int nn), .val (.int ra), .val (.int rb), .val (.int rc), .val (.int rd), .unset, .unset, .unset, .unset, .unset, .unset, .unset, .unset, .unset] [(.int nn), (.ref b20), (.ref b20)])) rfl (by rw [hml]; rfl) (Steps.refl _) (a := b20) (argsL := [(.int nn)]) (rest := [(.ref b20)]) (lenOf pd_rm0_2 rfl) rfl (by show 2 * 0 + _ ≤ _; exact Nat.le_of_eq rfl) (hb hby at_52) (fun _ _ => ⟨rfl, e20, (by decide : 1 + 2 ≤ _), (by decide : 3 + 72 ≤ _)⟩)
  dsimp only [Pt.U, Pt.locs, Pt.cells, Pt.slots] at X21 l21 y21 z21 st21 hQ21
  subst l21 y21 z21
  obtain ⟨aM, aB, mm, rfl, N21q, K21, OK21, g_aM, g_aB, -, -⟩ := hQ21
  have N21 := Fr.app N0 N21q
  refine own_go (fun t k => st21.trans k) ?_
  have f21_0 := A20.keep K21
  have g_b : n0 ≤ b20 := g_b20
  refine own_go (B := T21.setTop (mkF m 69 #[.val (.int p1), .val (.int p2), .val (.int p3), .val (.int p4), .val (.int p5), .val (.int p6), .val (.int nn), .val (.int ra), .val (.int rb), .val (.int rc), .val (.int rd), .val (.ref b20), .val (.int (p6 &&& (3 : Int32))), .val (.int (1 : Int32)), .unset, .unset, .unset, .unset, .unset, .unset] [(.int (1 : Int32)), (.int (p6 &&& (3 : Int32)))])) (fun t k => ?_) ?_
  · show Steps p.tables e below (T21.setTop (mkF m 55 #[.val (.int p1), .val (.int p2), .val (.int p3), .val (.int p4), .val (.int p5), .val (.int p6), .val (.int nn), .val (.int ra), .val (.int rb), .val (.int rc), .val (.int rd), .unset, .unset, .unset, .unset, .unset, .unset, .unset, .unset, .unset] [(.ref b20)])) t
    refine XS.astore X21.here hx rfl (hb hby at_55) rfl rfl (l' := #[.val (.int p1), .val (.int p2), .val (.int p3), .val (.int p4), .val (.int p5), .val (.int p6), .val (.int nn), .val (.int ra), .val (.int rb), .val (.int rc), .val (.int rd), .val (.ref b20), .unset, .unset, .unset, .unset, .unset, .unset, .unset, .unset]) rfl ?_
    show Steps p.tables e below (T21.setTop (mkF m 57 #[.val (.int p1), .val (.int p2), .val (.int p3), .val (.int p4), .val (.int p5), .val (.int p6), .val (.int nn), .val (.int ra), .val (.int rb), .val (.int rc), .val (.int rd), .val (.ref b20), .unset, .unset, .unset, .unset, .unset, .unset, .unset, .unset] [])) t
    refine XS.iload X21.here hx rfl (hb hby at_57) rfl ?_
    show Steps p.tables e below (T21.setTop (mkF m 59 #[.val (.int p1), .val (.int p2), .val (.int p3), .val (.int p4), .val (.int p5), .val (.int p6), .val (.int nn), .val (.int ra), .val (.int rb), .val (.int rc), .val (.int rd), .val (.ref b20), .unset, .unset, .unset, .unset, .unset, .unset, .unset, .unset] [(.int p6)])) t
    refine XS.iconst X21.here hx rfl (hb hby at_59) ?_
    show Steps p.tables e below (T21.setTop (mkF m 60 #[.val (.int p1), .val (.int p2), .val (.int p3), .val (.int p4), .val (.int p5), .val (.int p6), .val (.int nn), .val (.int ra), .val (.int rb), .val (.int rc), .val (.int rd), .val (.ref b20), .unset, .unset, .unset, .unset, .unset, .unset, .unset, .unset] [(.int (3 : Int32)), (.int p6)])) t
    refine XS.iand X21.here hx rfl (hb hby at_60) rfl ?_
    show Steps p.tables e below (T21.setTop (mkF m 61 #[.val (.int p1), .val (.int p2), .val (.int p3), .val (.int p4), .val (.int p5), .val (.int p6), .val (.int nn), .val (.int ra), .val (.int rb), .val (.int rc), .val (.int rd), .val (.ref b20), .unset, .unset, .unset, .unset, .unset, .unset, .unset, .unset] [(.int (p6 &&& (3 : Int32)))])) t
    refine XS.istore X21.here hx rfl (hb hby at_61) rfl (l' := #[.val (.int p1), .val (.int p2), .val (.int p3), .val (.int p4), .val (.int p5), .val (.int p6), .val (.int nn), .val (.int ra), .val (.int rb), .val (.int rc), .val (.int rd), .val (.ref b20), .val (.int (p6 &&& (3 : Int32))), .unset, .unset, .unset, .unset, .unset, .unset, .unset]) rfl ?_
    show Steps p.tables e below (T21.setTop (mkF m 63 #[.val (.int p1), .val (.int p2), .val (.int p3), .val (.int p4), .val (.int p5), .val (.int p6), .val (.int nn), .val (.int ra), .val (.int rb), .val (.int rc), .val (.int rd), .val (.ref b20), .val (.int (p6 &&& (3 : Int32))), .unset, .unset, .unset, .unset, .unset, .unset, .unset] [])) t
    refine XS.iconst X21.here hx rfl (hb hby at_63) ?_
    show Steps p.tables e below (T21.setTop (mkF m 64 #[.val (.int p1), .val (.int p2), .val (.int p3), .val (.int p4), .val (.int p5), .val (.int p6), .val (.int nn), .val (.int ra), .val (.int rb), .val (.int rc), .val (.int rd), .val (.ref b20), .val (.int (p6 &&& (3 : Int32))), .unset, .unset, .unset, .unset, .unset, .unset, .unset] [(.int (1 : Int32))])) t
    refine XS.istore X21.here hx rfl (hb hby at_64) rfl (l' := #[.val (.int p1), .val (.int p2), .val (.int p3), .val (.int p4), .val (.int p5), .val (.int p6), .val (.int nn), .val (.int ra), .val (.int rb), .val (.int rc), .val (.int rd), .val (.ref b20), .val (.int (p6 &&& (3 : Int32))), .val (.int (1 : Int32)), .unset, .unset, .unset, .unset, .unset, .unset]) rfl ?_
    show Steps p.tables e below (T21.setTop (mkF m 66 #[.val (.int p1), .val (.int p2), .val (.int p3), .val (.int p4), .val (.int p5), .val (.int p6), .val (.int nn), .val (.int ra), .val (.int rb), .val (.int rc), .val (.int rd), .val (.ref b20), .val (.int (p6 &&& (3 : Int32))), .val (.int (1 : Int32)), .unset, .unset, .unset, .unset, .unset, .unset] [])) t
    refine XS.iload X21.here hx rfl (hb hby at_66) rfl ?_
    show Steps p.tables e below (T21.setTop (mkF m 68 #[.val (.int p1), .val (.int p2), .val (.int p3), .val (.int p4), .val (.int p5), .val (.int p6), .val (.int nn), .val (.int ra), .val (.int rb), .val (.int rc), .val (.int rd), .val (.ref b20), .val (.int (p6 &&& (3 : Int32))), .val (.int (1 : Int32)), .unset, .unset, .unset, .unset, .unset, .unset] [(.int (p6 &&& (3 : Int32)))])) t
    refine XS.iconst X21.here hx rfl (hb hby at_68) ?_
    exact k
  by_cases hc69_22 : (p6 &&& (3 : Int32)) < (1 : Int32)
  · refine own_go (B := T21.setTop (mkF m 98 #[.val (.int p1), .val (.int p2), .val (.int p3), .val (.int p4), .val (.int p5), .val (.int p6), .val (.int nn), .val (.int ra), .val (.int rb), .val (.int rc), .val (.int rd), .val (.ref b20), .val (.int (p6 &&& (3 : Int32))), .val (.int (1 : Int32)), .unset, .unset, .unset, .unset, .unset, .unset] [])) (fun t k => ?_) ?_
    · show Steps p.tables e below (T21.setTop (mkF m 69 #[.val (.int p1), .val (.int p2), .val (.int p3), .val (.int p4), .val (.int p5), .val (.int p6), .val (.int nn), .val (.int ra), .val (.int rb), .val (.int rc), .val (.int rd), .val (.ref b20), .val (.int (p6 &&& (3 : Int32))), .val (.int (1 : Int32)), .unset, .unset, .unset, .unset, .unset, .unset] [(.int (1 : Int32)), (.int (p6 &&& (3 : Int32)))])) t
      refine XS.icmpYes X21.here hx rfl (pc0 := 69) (pc' := 98) rfl (hb hby at_69) rfl (tlt hc69_22).1 (by decide) (by decide) ?_
      exact k
    refine own_go (B := T21.setTop (mkF m 193 #[.val (.int p1), .val (.int p2), .val (.int p3), .val (.int p4), .val (.int p5), .val (.int p6), .val (.int nn), .val (.int ra), .val (.int rb), .val (.int rc), .val (.int rd), .val (.ref b20), .val (.int (p6 &&& (3 : Int32))), .val (.int (1 : Int32)), .unset, .unset, .unset, .unset, .unset, .unset] [])) (fun t k => ?_) ?_
    · show Steps p.tables e below (T21.setTop (mkF m 98 #[.val (.int p1), .val (.int p2), .val (.int p3), .val (.int p4), .val (.int p5), .val (.int p6), .val (.int nn), .val (.int ra), .val (.int rb), .val (.int rc), .val (.int rd), .val (.ref b20), .val (.int (p6 &&& (3 : Int32))), .val (.int (1 : Int32)), .unset, .unset, .unset, .unset, .unset, .unset] [])) t
      refine XS.iload X21.here hx rfl (hb hby at_98) rfl ?_
      show Steps p.tables e below (T21.setTop (mkF m 100 #[.val (.int p1), .val (.int p2), .val (.int p3), .val (.int p4), .val (.int p5), .val (.int p6), .val (.int nn), .val (.int ra), .val (.int rb), .val (.int rc), .val (.int rd), .val (.ref b20), .val (.int (p6 &&& (3 : Int32))), .val (.int (1 : Int32)), .unset, .unset, .unset, .unset, .unset, .unset] [(.int (p6 &&& (3 : Int32)))])) t
      refine XS.iconst X21.here hx rfl (hb hby at_100) ?_
      show Steps p.tables e below (T21.setTop (mkF m 101 #[.val (.int p1), .val (.int p2), .val (.int p3), .val (.int p4), .val (.int p5), .val (.int p6), .val (.int nn), .val (.int ra), .val (.int rb), .val (.int rc), .val (.int rd), .val (.ref b20), .val (.int (p6 &&& (3 : Int32))), .val (.int (1 : Int32)), .unset, .unset, .unset, .unset, .unset, .unset] [(.int (2 : Int32)), (.int (p6 &&& (3 : Int32)))])) t
      refine XS.icmpYes X21.here hx rfl (pc0 := 101) (pc' := 142) rfl (hb hby at_101) rfl (tlt (own_k1 hc69_22 : (p6 &&& (3 : Int32)) < (2 : Int32))).1 (by decide) (by decide) ?_
      show Steps p.tables e below (T21.setTop (mkF m 142 #[.val (.int p1), .val (.int p2), .val (.int p3), .val (.int p4), .val (.int p5), .val (.int p6), .val (.int nn), .val (.int ra), .val (.int rb), .val (.int rc), .val (.int rd), .val (.ref b20), .val (.int (p6 &&& (3 : Int32))), .val (.int (1 : Int32)), .unset, .unset, .unset, .unset, .unset, .unset] [])) t
      refine XS.iload X21.here hx rfl (hb hby at_142) rfl ?_
      show Steps p.tables e below (T21.setTop (mkF m 144 #[.val (.int p1), .val (.int p2), .val (.int p3), .val (.int p4), .val (.int p5), .val (.int p6), .val (.int nn), .val (.int ra), .val (.int rb), .val (.int rc), .val (.int rd), .val (.ref b20), .val (.int (p6 &&& (3 : Int32))), .val (.int (1 : Int32)), .unset, .unset, .unset, .unset, .unset, .unset] [(.int (p6 &&& (3 : Int32)))])) t
      refine XS.iconst X21.here hx rfl (hb hby at_144) ?_
      show Steps p.tables e below (T21.setTop (mkF m 145 #[.val (.int p1), .val (.int p2), .val (.int p3), .val (.int p4), .val (.int p5), .val (.int p6), .val (.int nn), .val (.int ra), .val (.int rb), .val (.int rc), .val (.int rd), .val (.ref b20), .val (.int (p6 &&& (3 : Int32))), .val (.int (1 : Int32)), .unset, .unset, .unset, .unset, .unset, .unset] [(.int (3 : Int32)), (.int (p6 &&& (3 : Int32)))])) t
      refine XS.icmpYes X21.here hx rfl (pc0 := 145) (pc' := 193) rfl (hb hby at_145) rfl (tlt (own_k2 (own_k1 hc69_22) : (p6 &&& (3 : Int32)) < (3 : Int32))).1 (by decide) (by decide) ?_
      exact k
    exact tail1 _ _ _ _ _ _ _ _ _ _ _ _ _ _ (Or.inl rfl) X21 rfl N21 (Nat.le_trans (Nat.le_trans Z0 E20.1) K21.1) OK21 g_b g_aM g_aB hra' hrb' hrc' hrd' (by decide)
  · refine own_go (B := T21.setTop (mkF m 72 #[.val (.int p1), .val (.int p2), .val (.int p3), .val (.int p4), .val (.int p5), .val (.int p6), .val (.int nn), .val (.int ra), .val (.int rb), .val (.int rc), .val (.int rd), .val (.ref b20), .val (.int (p6 &&& (3 : Int32))), .val (.int (1 : Int32)), .unset, .unset, .unset, .unset, .unset, .unset] [])) (fun t k => ?_) ?_
    · show Steps p.tables e below (T21.setTop (mkF m 69 #[.val (.int p1), .val (.int p2), .val (.int p3), .val (.int p4), .val (.int p5), .val (.int p6), .val (.int nn), .val (.int ra), .val (.int rb), .val (.int rc), .val (.int rd), .val (.ref b20), .val (.int (p6 &&& (3 : Int32))), .val (.int (1 : Int32)), .unset, .unset, .unset, .unset, .unset, .unset] [(.int (1 : Int32)), (.int (p6 &&& (3 : Int32)))])) t
      refine XS.icmpNo X21.here hx rfl (hb hby at_69) rfl (flt hc69_22).1 ?_
      exact k
    refine own_go (B := T21.setTop (mkF m 76 #[.val (.int p1), .val (.int p2), .val (.int p3), .val (.int p4), .val (.int p5), .val (.int p6), .val (.int nn), .val (.int ra), .val (.int rb), .val (.int rc), .val (.int rd), .val (.ref b20), .val (.int (p6 &&& (3 : Int32))), .val (.int (1 : Int32)), .unset, .unset, .unset, .unset, .unset, .unset] [(.int ra), (.ref b20)])) (fun t k => ?_) ?_
    · show Steps p.tables e below (T21.setTop (mkF m 72 #[.val (.int p1), .val (.int p2), .val (.int p3), .val (.int p4), .val (.int p5), .val (.int p6), .val (.int nn), .val (.int ra), .val (.int rb), .val (.int rc), .val (.int rd), .val (.ref b20), .val (.int (p6 &&& (3 : Int32))), .val (.int (1 : Int32)), .unset, .unset, .unset, .unset, .unset, .unset] [])) t
      refine XS.aload X21.here hx rfl (hb hby at_72) rfl rfl ?_
      show Steps p.tables e below (T21.setTop (mkF m 74 #[.val (.int p1), .val (.int p2), .val (.int p3), .val (.int p4), .val (.int p5), .val (.int p6), .val (.int nn), .val (.int ra), .val (.int rb), .val (.int rc), .val (.int rd), .val (.ref b20), .val (.int (p6 &&& (3 : Int32))), .val (.int (1 : Int32)), .unset, .unset, .unset, .unset, .unset, .unset] [(.ref b20)])) t
      refine XS.iload X21.here hx rfl (hb hby at_74) rfl ?_
      exact k
    obtain ⟨cq23, kq23, q23a, q23b, q23c⟩ := isOf hZ rfl f21_0
    obtain ⟨_, _, ⟨T23, L23, k23, n23⟩, -, X23, ⟨Lc23, hQ23, l23, y23, z23⟩, st23⟩ := X21.virtualBack hx (y := (⟨"com/example/eager_recall/eagerrecall/vectors/HnswGraph$VisitedRows", "visit", "(I)Z"⟩ : MethodName)) (z := (⟨"com/example/eager_recall/eagerrecall/vectors/HnswGraph$VisitedRows", "visit", "(I)Z"⟩ : MethodName)) hown (mvT hZ (hw _ (List.mem_of_getElem? (i := 16) rfl))) (mvT hZ (hw _ (List.mem_of_getElem? (i := 17) rfl))) (notFace_of_selects (args := #[]) (mvT hZ (hw _ (List.mem_of_getElem? (i := 19) rfl)))) (mvT hZ (hw _ (List.mem_of_getElem? (i := 19) rfl))) (mvT hZ (hw _ (List.mem_of_getElem? (i := 18) rfl))) (by decide) (backOf (W := 0) (rm3 l Z a0 hw [] b20 ra aM aB mm nn [] T21.heap n0 (Nat.le_trans (Nat.le_trans Z0 E20.1) K21.1) OK21 g_b g_aM g_aB (by decide) hra'.1 hra'.2) hZ (hw _ (List.mem_of_getElem? (i := 20) rfl)) (hw _ (List.mem_of_getElem? (i := 3) rfl)) (by decide) (by decide)) q23a q23c (g := (mkF m 76 #[.val (.int p1), .val (.int p2), .val (.int p3), .val (.int p4), .val (.int p5), .val (.int p6), .val (.int nn), .val (.int ra), .val (.int rb), .val (.int rc), .val (.int rd), .val (.ref b20), .val (.int (p6 &&& (3 : Int32))), .val (.int (1 : Int32)), .unset, .unset, .unset, .unset, .unset, .unset] [(.int ra), (.ref b20)])) rfl (by rw [hml]; rfl) (Steps.refl _) (argsL := [(.int ra)]) (rest := []) (lenOf pd_rm0_0 rfl) rfl (by show 2 * 0 + _ ≤ _; exact Nat.le_of_eq rfl) (hb hby at_76) (fun _ _ => ⟨rfl, rfl, (by decide : 3 + 0 ≤ _), (by decide : 75 + 0 ≤ _)⟩)
    dsimp only [Pt.U, Pt.locs, Pt.cells, Pt.slots] at X23 l23 y23 z23 st23 hQ23
    subst l23 y23 z23
    obtain ⟨r23, S23, rfl, N23q, K23, hr23, OK23, hm23, hl23⟩ := hQ23
    have N23 := Fr.app N21 N23q
    refine own_go (fun t k => st23.trans k) ?_
    have f23_0 := f21_0.keep K23
    have hq23 : S23.length ≤ 1 := hl23
    refine own_go (B := T23.setTop (mkF m 101 #[.val (.int p1), .val (.int p2), .val (.int p3), .val (.int p4), .val (.int p5), .val (.int p6), .val (.int nn), .val (.int ra), .val (.int rb), .val (.int rc), .val (.int rd), .val (.ref b20), .val (.int (p6 &&& (3 : Int32))), .val (.int (1 : Int32)), .val (.int r23), .unset, .unset, .unset, .unset, .unset] [(.int (2 : Int32)), (.int (p6 &&& (3 : Int32)))])) (fun t k => ?_) ?_
    · show Steps p.tables e below (T23.setTop (mkF m 79 #[.val (.int p1), .val (.int p2), .val (.int p3), .val (.int p4), .val (.int p5), .val (.int p6), .val (.int nn), .val (.int ra), .val (.int rb), .val (.int rc), .val (.int rd), .val (.ref b20), .val (.int (p6 &&& (3 : Int32))), .val (.int (1 : Int32)), .unset, .unset, .unset, .unset, .unset, .unset] [(.int r23)])) t
      refine XS.istore X23.here hx rfl (hb hby at_79) rfl (l' := #[.val (.int p1), .val (.int p2), .val (.int p3), .val (.int p4), .val (.int p5), .val (.int p6), .val (.int nn), .val (.int ra), .val (.int rb), .val (.int rc), .val (.int rd), .val (.ref b20), .val (.int (p6 &&& (3 : Int32))), .val (.int (1 : Int32)), .val (.int r23), .unset, .unset, .unset, .unset, .unset]) rfl ?_
      show Steps p.tables e below (T23.setTop (mkF m 81 #[.val (.int p1), .val (.int p2), .val (.int p3), .val (.int p4), .val (.int p5), .val (.int p6), .val (.int nn), .val (.int ra), .val (.int rb), .val (.int rc), .val (.int rd), .val (.ref b20), .val (.int (p6 &&& (3 : Int32))), .val (.int (1 : Int32)), .val (.int r23), .unset, .unset, .unset, .unset, .unset] [])) t
      refine XS.iload X23.here hx rfl (hb hby at_81) rfl ?_
      show Steps p.tables e below (T23.setTop (mkF m 83 #[.val (.int p1), .val (.int p2), .val (.int p3), .val (.int p4), .val (.int p5), .val (.int p6), .val (.int nn), .val (.int ra), .val (.int rb), .val (.int rc), .val (.int rd), .val (.ref b20), .val (.int (p6 &&& (3 : Int32))), .val (.int (1 : Int32)), .val (.int r23), .unset, .unset, .unset, .unset, .unset] [(.int (1 : Int32))])) t
      refine XS.ifNo X23.here hx rfl (hb hby at_83) rfl ((if0 _ _).trans (feq (by decide : ¬ ((1 : Int32) = (0 : Int32)))).1) ?_
      show Steps p.tables e below (T23.setTop (mkF m 86 #[.val (.int p1), .val (.int p2), .val (.int p3), .val (.int p4), .val (.int p5), .val (.int p6), .val (.int nn), .val (.int ra), .val (.int rb), .val (.int rc), .val (.int rd), .val (.ref b20), .val (.int (p6 &&& (3 : Int32))), .val (.int (1 : Int32)), .val (.int r23), .unset, .unset, .unset, .unset, .unset] [])) t
      refine XS.iload X23.here hx rfl (hb hby at_86) rfl ?_
      show Steps p.tables e below (T23.setTop (mkF m 88 #[.val (.int p1), .val (.int p2), .val (.int p3), .val (.int p4), .val (.int p5), .val (.int p6), .val (.int nn), .val (.int ra), .val (.int rb), .val (.int rc), .val (.int rd), .val (.ref b20), .val (.int (p6 &&& (3 : Int32))), .val (.int (1 : Int32)), .val (.int r23), .unset, .unset, .unset, .unset, .unset] [(.int r23)])) t
      refine XS.ifNo X23.here hx rfl (hb hby at_88) rfl ((if0 _ _).trans (feq (own_new hr23 : ¬ (r23 = (0 : Int32)))).1) ?_
      show Steps p.tables e below (T23.setTop (mkF m 91 #[.val (.int p1), .val (.int p2), .val (.int p3), .val (.int p4), .val (.int p5), .val (.int p6), .val (.int nn), .val (.int ra), .val (.int rb), .val (.int rc), .val (.int rd), .val (.ref b20), .val (.int (p6 &&& (3 : Int32))), .val (.int (1 : Int32)), .val (.int r23), .unset, .unset, .unset, .unset, .unset] [])) t
      refine XS.iconst X23.here hx rfl (hb hby at_91) ?_
      show Steps p.tables e below (T23.setTop (mkF m 92 #[.val (.int p1), .val (.int p2), .val (.int p3), .val (.int p4), .val (.int p5), .val (.int p6), .val (.int nn), .val (.int ra), .val (.int rb), .val (.int rc), .val (.int rd), .val (.ref b20), .val (.int (p6 &&& (3 : Int32))), .val (.int (1 : Int32)), .val (.int r23), .unset, .unset, .unset, .unset, .unset] [(.int (1 : Int32))])) t
      refine XS.goto X23.here hx rfl (pc0 := 92) (pc' := 96) rfl (hb hby at_92) (by decide) (by decide) ?_
      show Steps p.tables e below (T23.setTop (mkF m 96 #[.val (.int p1), .val (.int p2), .val (.int p3), .val (.int p4), .val (.int p5), .val (.int p6), .val (.int nn), .val (.int ra), .val (.int rb), .val (.int rc), .val (.int rd), .val (.ref b20), .val (.int (p6 &&& (3 : Int32))), .val (.int (1 : Int32)), .val (.int r23), .unset, .unset, .unset, .unset, .unset] [(.int (1 : Int32))])) t
      refine XS.istore X23.here hx rfl (hb hby at_96) rfl (l' := #[.val (.int p1), .val (.int p2), .val (.int p3), .val (.int p4), .val (.int p5), .val (.int p6), .val (.int nn), .val (.int ra), .val (.int rb), .val (.int rc), .val (.int rd), .val (.ref b20), .val (.int (p6 &&& (3 : Int32))), .val (.int (1 : Int32)), .val (.int r23), .unset, .unset, .unset, .unset, .unset]) rfl ?_
      show Steps p.tables e below (T23.setTop (mkF m 98 #[.val (.int p1), .val (.int p2), .val (.int p3), .val (.int p4), .val (.int p5), .val (.int p6), .val (.int nn), .val (.int ra), .val (.int rb), .val (.int rc), .val (.int rd), .val (.ref b20), .val (.int (p6 &&& (3 : Int32))), .val (.int (1 : Int32)), .val (.int r23), .unset, .unset, .unset, .unset, .unset] [])) t
      refine XS.iload X23.here hx rfl (hb hby at_98) rfl ?_
      show Steps p.tables e below (T23.setTop (mkF m 100 #[.val (.int p1), .val (.int p2), .val (.int p3), .val (.int p4), .val (.int p5), .val (.int p6), .val (.int nn), .val (.int ra), .val (.int rb), .val (.int rc), .val (.int rd), .val (.ref b20), .val (.int (p6 &&& (3 : Int32))), .val (.int (1 : Int32)), .val (.int r23), .unset, .unset, .unset, .unset, .unset] [(.int (p6 &&& (3 : Int32)))])) t
      refine XS.iconst X23.here hx rfl (hb hby at_100) ?_
      exact k
    by_cases hc101_24 : (p6 &&& (3 : Int32)) < (2 : Int32)
    · refine own_go (B := T23.setTop (mkF m 142 #[.val (.int p1), .val (.int p2), .val (.int p3), .val (.int p4), .val (.int p5), .val (.int p6), .val (.int nn), .val (.int ra), .val (.int rb), .val (.int rc), .val (.int rd), .val (.ref b20), .val (.int (p6 &&& (3 : Int32))), .val (.int (1 : Int32)), .val (.int r23), .unset, .unset, .unset, .unset, .unset] [])) (fun t k => ?_) ?_
      · show Steps p.tables e below (T23.setTop (mkF m 101 #[.val (.int p1), .val (.int p2), .val (.int p3), .val (.int p4), .val (.int p5), .val (.int p6), .val (.int nn), .val (.int ra), .val (.int rb), .val (.int rc), .val (.int rd), .val (.ref b20), .val (.int (p6 &&& (3 : Int32))), .val (.int (1 : Int32)), .val (.int r23), .unset, .unset, .unset, .unset, .unset] [(.int (2 : Int32)), (.int (p6 &&& (3 : Int32)))])) t
        refine XS.icmpYes X23.here hx rfl (pc0 := 101) (pc' := 142) rfl (hb hby at_101) rfl (tlt hc101_24).1 (by decide) (by decide) ?_
        exact k
      refine own_go (B := T23.setTop (mkF m 193 #[.val (.int p1), .val (.int p2), .val (.int p3), .val (.int p4), .val (.int p5), .val (.int p6), .val (.int nn), .val (.int ra), .val (.int rb), .val (.int rc), .val (.int rd), .val (.ref b20), .val (.int (p6 &&& (3 : Int32))), .val (.int (1 : Int32)), .val (.int r23), .unset, .unset, .unset, .unset, .unset] [])) (fun t k => ?_) ?_
      · show Steps p.tables e below (T23.setTop (mkF m 142 #[.val (.int p1), .val (.int p2), .val (.int p3), .val (.int p4), .val (.int p5), .val (.int p6), .val (.int nn), .val (.int ra), .val (.int rb), .val (.int rc), .val (.int rd), .val (.ref b20), .val (.int (p6 &&& (3 : Int32))), .val (.int (1 : Int32)), .val (.int r23), .unset, .unset, .unset, .unset, .unset] [])) t
        refine XS.iload X23.here hx rfl (hb hby at_142) rfl ?_
        show Steps p.tables e below (T23.setTop (mkF m 144 #[.val (.int p1), .val (.int p2), .val (.int p3), .val (.int p4), .val (.int p5), .val (.int p6), .val (.int nn), .val (.int ra), .val (.int rb), .val (.int rc), .val (.int rd), .val (.ref b20), .val (.int (p6 &&& (3 : Int32))), .val (.int (1 : Int32)), .val (.int r23), .unset, .unset, .unset, .unset, .unset] [(.int (p6 &&& (3 : Int32)))])) t
        refine XS.iconst X23.here hx rfl (hb hby at_144) ?_
        show Steps p.tables e below (T23.setTop (mkF m 145 #[.val (.int p1), .val (.int p2), .val (.int p3), .val (.int p4), .val (.int p5), .val (.int p6), .val (.int nn), .val (.int ra), .val (.int rb), .val (.int rc), .val (.int rd), .val (.ref b20), .val (.int (p6 &&& (3 : Int32))), .val (.int (1 : Int32)), .val (.int r23), .unset, .unset, .unset, .unset, .unset] [(.int (3 : Int32)), (.int (p6 &&& (3 : Int32)))])) t
        refine XS.icmpYes X23.here hx rfl (pc0 := 145) (pc' := 193) rfl (hb hby at_145) rfl (tlt (own_k2 hc101_24 : (p6 &&& (3 : Int32)) < (3 : Int32))).1 (by decide) (by decide) ?_
        exact k
      exact tail1 _ _ _ _ _ _ _ _ _ _ _ _ _ _ (Or.inr ⟨_, rfl⟩) X23 rfl N23 (Nat.le_trans (Nat.le_trans (Nat.le_trans Z0 E20.1) K21.1) K23.1) OK23 g_b g_aM g_aB hra' hrb' hrc' hrd' (Nat.lt_of_le_of_lt hq23 (by decide))
    · refine own_go (B := T23.setTop (mkF m 104 #[.val (.int p1), .val (.int p2), .val (.int p3), .val (.int p4), .val (.int p5), .val (.int p6), .val (.int nn), .val (.int ra), .val (.int rb), .val (.int rc), .val (.int rd), .val (.ref b20), .val (.int (p6 &&& (3 : Int32))), .val (.int (1 : Int32)), .val (.int r23), .unset, .unset, .unset, .unset, .unset] [])) (fun t k => ?_) ?_
      · show Steps p.tables e below (T23.setTop (mkF m 101 #[.val (.int p1), .val (.int p2), .val (.int p3), .val (.int p4), .val (.int p5), .val (.int p6), .val (.int nn), .val (.int ra), .val (.int rb), .val (.int rc), .val (.int rd), .val (.ref b20), .val (.int (p6 &&& (3 : Int32))), .val (.int (1 : Int32)), .val (.int r23), .unset, .unset, .unset, .unset, .unset] [(.int (2 : Int32)), (.int (p6 &&& (3 : Int32)))])) t
        refine XS.icmpNo X23.here hx rfl (hb hby at_101) rfl (flt hc101_24).1 ?_
        exact k
      refine own_go (B := T23.setTop (mkF m 108 #[.val (.int p1), .val (.int p2), .val (.int p3), .val (.int p4), .val (.int p5), .val (.int p6), .val (.int nn), .val (.int ra), .val (.int rb), .val (.int rc), .val (.int rd), .val (.ref b20), .val (.int (p6 &&& (3 : Int32))), .val (.int (1 : Int32)), .val (.int r23), .unset, .unset, .unset, .unset, .unset] [(.int rb), (.ref b20)])) (fun t k => ?_) ?_
      · show Steps p.tables e below (T23.setTop (mkF m 104 #[.val (.int p1), .val (.int p2), .val (.int p3), .val (.int p4), .val (.int p5), .val (.int p6), .val (.int nn), .val (.int ra), .val (.int rb), .val (.int rc), .val (.int rd), .val (.ref b20), .val (.int (p6 &&& (3 : Int32))), .val (.int (1 : Int32)), .val (.int r23), .unset, .unset, .unset, .unset, .unset] [])) t
        refine XS.aload X23.here hx rfl (hb hby at_104) rfl rfl ?_
        show Steps p.tables e below (T23.setTop (mkF m 106 #[.val (.int p1), .val (.int p2), .val (.int p3), .val (.int p4), .val (.int p5), .val (.int p6), .val (.int nn), .val (.int ra), .val (.int rb), .val (.int rc), .val (.int rd), .val (.ref b20), .val (.int (p6 &&& (3 : Int32))), .val (.int (1 : Int32)), .val (.int r23), .unset, .unset, .unset, .unset, .unset] [(.ref b20)])) t
        refine XS.iload X23.here hx rfl (hb hby at_106) rfl ?_
        exact k
      obtain ⟨cq25, kq25, q25a, q25b, q25c⟩ := isOf hZ rfl f23_0
      obtain ⟨_, _, ⟨T25, L25, k25, n25⟩, -, X25, ⟨Lc25, hQ25, l25, y25, z25⟩, st25⟩ := X23.virtualBack hx (y := (⟨"com/example/eager_recall/eagerrecall/vectors/HnswGraph$VisitedRows", "visit", "(I)Z"⟩ : MethodName)) (z := (⟨"com/example/eager_recall/eagerrecall/vectors/HnswGraph$VisitedRows", "visit", "(I)Z"⟩ : MethodName)) hown (mvT hZ (hw _ (List.mem_of_getElem? (i := 16) rfl))) (mvT hZ (hw _ (List.mem_of_getElem? (i := 17) rfl))) (notFace_of_selects (args := #[]) (mvT hZ (hw _ (List.mem_of_getElem? (i := 19) rfl)))) (mvT hZ (hw _ (List.mem_of_getElem? (i := 19) rfl))) (mvT hZ (hw _ (List.mem_of_getElem? (i := 18) rfl))) (by decide) (backOf (W := 0) (rm3 l Z a0 hw [] b20 rb aM aB mm nn S23 T23.heap n0 (Nat.le_trans (Nat.le_trans (Nat.le_trans Z0 E20.1) K21.1) K23.1) OK23 g_b g_aM g_aB (Nat.lt_of_le_of_lt hq23 (by decide)) hrb'.1 hrb'.2) hZ (hw _ (List.mem_of_getElem? (i := 20) rfl)) (hw _ (List.mem_of_getElem? (i := 3) rfl)) (by decide) (by decide)) q25a q25c (g := (mkF m 108 #[.val (.int p1), .val (.int p2), .val (.int p3), .val (.int p4), .val (.int p5), .val (.int p6), .val (.int nn), .val (.int ra), .val (.int rb), .val (.int rc), .val (.int rd), .val (.ref b20), .val (.int (p6 &&& (3 : Int32))), .val (.int (1 : Int32)), .val (.int r23), .unset, .unset, .unset, .unset, .unset] [(.int rb), (.ref b20)])) rfl (by rw [hml]; rfl) (Steps.refl _) (argsL := [(.int rb)]) (rest := []) (lenOf pd_rm0_0 rfl) rfl (by show 2 * 0 + _ ≤ _; exact Nat.le_of_eq rfl) (hb hby at_108) (fun _ _ => ⟨rfl, rfl, (by decide : 3 + 0 ≤ _), (by decide : 75 + 0 ≤ _)⟩)
      dsimp only [Pt.U, Pt.locs, Pt.cells, Pt.slots] at X25 l25 y25 z25 st25 hQ25
      subst l25 y25 z25
      obtain ⟨r25, S25, rfl, N25q, K25, hr25, OK25, hm25, hl25⟩ := hQ25
      have N25 := Fr.app N23 N25q
      refine own_go (fun t k => st25.trans k) ?_
      have f25_0 := f23_0.keep K25
      have hq25 : S25.length ≤ 2 := Nat.le_trans hl25 (Nat.succ_le_succ hq23)
      refine own_go (B := T25.setTop (mkF m 124 #[.val (.int p1), .val (.int p2), .val (.int p3), .val (.int p4), .val (.int p5), .val (.int p6), .val (.int nn), .val (.int ra), .val (.int rb), .val (.int rc), .val (.int rd), .val (.ref b20), .val (.int (p6 &&& (3 : Int32))), .val (.int (1 : Int32)), .val (.int r25), .unset, .unset, .unset, .unset, .unset] [(.int ra), (.int rb), (.int r25)])) (fun t k => ?_) ?_
      · show Steps p.tables e below (T25.setTop (mkF m 111 #[.val (.int p1), .val (.int p2), .val (.int p3), .val (.int p4), .val (.int p5), .val (.int p6), .val (.int nn), .val (.int ra), .val (.int rb), .val (.int rc), .val (.int rd), .val (.ref b20), .val (.int (p6 &&& (3 : Int32))), .val (.int (1 : Int32)), .val (.int r23), .unset, .unset, .unset, .unset, .unset] [(.int r25)])) t
        refine XS.istore X25.here hx rfl (hb hby at_111) rfl (l' := #[.val (.int p1), .val (.int p2), .val (.int p3), .val (.int p4), .val (.int p5), .val (.int p6), .val (.int nn), .val (.int ra), .val (.int rb), .val (.int rc), .val (.int rd), .val (.ref b20), .val (.int (p6 &&& (3 : Int32))), .val (.int (1 : Int32)), .val (.int r25), .unset, .unset, .unset, .unset, .unset]) rfl ?_
        show Steps p.tables e below (T25.setTop (mkF m 113 #[.val (.int p1), .val (.int p2), .val (.int p3), .val (.int p4), .val (.int p5), .val (.int p6), .val (.int nn), .val (.int ra), .val (.int rb), .val (.int rc), .val (.int rd), .val (.ref b20), .val (.int (p6 &&& (3 : Int32))), .val (.int (1 : Int32)), .val (.int r25), .unset, .unset, .unset, .unset, .unset] [])) t
        refine XS.iload X25.here hx rfl (hb hby at_113) rfl ?_
        show Steps p.tables e below (T25.setTop (mkF m 115 #[.val (.int p1), .val (.int p2), .val (.int p3), .val (.int p4), .val (.int p5), .val (.int p6), .val (.int nn), .val (.int ra), .val (.int rb), .val (.int rc), .val (.int rd), .val (.ref b20), .val (.int (p6 &&& (3 : Int32))), .val (.int (1 : Int32)), .val (.int r25), .unset, .unset, .unset, .unset, .unset] [(.int (1 : Int32))])) t
        refine XS.ifNo X25.here hx rfl (hb hby at_115) rfl ((if0 _ _).trans (feq (by decide : ¬ ((1 : Int32) = (0 : Int32)))).1) ?_
        show Steps p.tables e below (T25.setTop (mkF m 118 #[.val (.int p1), .val (.int p2), .val (.int p3), .val (.int p4), .val (.int p5), .val (.int p6), .val (.int nn), .val (.int ra), .val (.int rb), .val (.int rc), .val (.int rd), .val (.ref b20), .val (.int (p6 &&& (3 : Int32))), .val (.int (1 : Int32)), .val (.int r25), .unset, .unset, .unset, .unset, .unset] [])) t
        refine XS.iload X25.here hx rfl (hb hby at_118) rfl ?_
        show Steps p.tables e below (T25.setTop (mkF m 120 #[.val (.int p1), .val (.int p2), .val (.int p3), .val (.int p4), .val (.int p5), .val (.int p6), .val (.int nn), .val (.int ra), .val (.int rb), .val (.int rc), .val (.int rd), .val (.ref b20), .val (.int (p6 &&& (3 : Int32))), .val (.int (1 : Int32)), .val (.int r25), .unset, .unset, .unset, .unset, .unset] [(.int r25)])) t
        refine XS.iload X25.here hx rfl (hb hby at_120) rfl ?_
        show Steps p.tables e below (T25.setTop (mkF m 122 #[.val (.int p1), .val (.int p2), .val (.int p3), .val (.int p4), .val (.int p5), .val (.int p6), .val (.int nn), .val (.int ra), .val (.int rb), .val (.int rc), .val (.int rd), .val (.ref b20), .val (.int (p6 &&& (3 : Int32))), .val (.int (1 : Int32)), .val (.int r25), .unset, .unset, .unset, .unset, .unset] [(.int rb), (.int r25)])) t
        refine XS.iload X25.here hx rfl (hb hby at_122) rfl ?_
        exact k
      obtain ⟨v27, hv27⟩ : ∃ z : Int32, z = (if rb = ra then (0 : Int32) else (1 : Int32)) := ⟨_, rfl⟩
      refine own_go (B := T25.setTop (mkF m 132 #[.val (.int p1), .val (.int p2), .val (.int p3), .val (.int p4), .val (.int p5), .val (.int p6), .val (.int nn), .val (.int ra), .val (.int rb), .val (.int rc), .val (.int rd), .val (.ref b20), .val (.int (p6 &&& (3 : Int32))), .val (.int (1 : Int32)), .val (.int r25), .unset, .unset, .unset, .unset, .unset] [(.int v27), (.int r25)])) (fun t k => ?_) ?_
      · show Steps p.tables e below (T25.setTop (mkF m 124 #[.val (.int p1), .val (.int p2), .val (.int p3), .val (.int p4), .val (.int p5), .val (.int p6), .val (.int nn), .val (.int ra), .val (.int rb), .val (.int rc), .val (.int rd), .val (.ref b20), .val (.int (p6 &&& (3 : Int32))), .val (.int (1 : Int32)), .val (.int r25), .unset, .unset, .unset, .unset, .unset] [(.int ra), (.int rb), (.int r25)])) t
        by_cases hc124_26 : rb = ra
        · refine XS.icmpYes X25.here hx rfl (pc0 := 124) (pc' := 131) rfl (hb hby at_124) rfl (teq hc124_26).1 (by decide) (by decide) ?_
          show Steps p.tables e below (T25.setTop (mkF m 131 #[.val (.int p1), .val (.int p2), .val (.int p3), .val (.int p4), .val (.int p5), .val (.int p6), .val (.int nn), .val (.int ra), .val (.int rb), .val (.int rc), .val (.int rd), .val (.ref b20), .val (.int (p6 &&& (3 : Int32))), .val (.int (1 : Int32)), .val (.int r25), .unset, .unset, .unset, .unset, .unset] [(.int r25)])) t
          refine XS.iconst X25.here hx rfl (hb hby at_131) ?_
          rw [show v27 = (0 : Int32) from (hv27.trans (if_pos hc124_26))] at k
          exact k
        · refine XS.icmpNo X25.here hx rfl (hb hby at_124) rfl (feq hc124_26).1 ?_
          show Steps p.tables e below (T25.setTop (mkF m 127 #[.val (.int p1), .val (.int p2), .val (.int p3), .val (.int p4), .val (.int p5), .val (.int p6), .val (.int nn), .val (.int ra), .val (.int rb), .val (.int rc), .val (.int rd), .val (.ref b20), .val (.int (p6 &&& (3 : Int32))), .val (.int (1 : Int32)), .val (.int r25), .unset, .unset, .unset, .unset, .unset] [(.int r25)])) t
          refine XS.iconst X25.here hx rfl (hb hby at_127) ?_
          show Steps p.tables e below (T25.setTop (mkF m 128 #[.val (.int p1), .val (.int p2), .val (.int p3), .val (.int p4), .val (.int p5), .val (.int p6), .val (.int nn), .val (.int ra), .val (.int rb), .val (.int rc), .val (.int rd), .val (.ref b20), .val (.int (p6 &&& (3 : Int32))), .val (.int (1 : Int32)), .val (.int r25), .unset, .unset, .unset, .unset, .unset] [(.int (1 : Int32)), (.int r25)])) t
          refine XS.goto X25.here hx rfl (pc0 := 128) (pc' := 132) rfl (hb hby at_128) (by decide) (by decide) ?_
          rw [show v27 = (1 : Int32) from (hv27.trans (if_neg hc124_26))] at k
          exact k
      refine own_go (B := T25.setTop (mkF m 145 #[.val (.int p1), .val (.int p2), .val (.int p3), .val (.int p4), .val (.int p5), .val (.int p6), .val (.int nn), .val (.int ra), .val (.int rb), .val (.int rc), .val (.int rd), .val (.ref b20), .val (.int (p6 &&& (3 : Int32))), .val (.int (1 : Int32)), .val (.int r25), .unset, .unset, .unset, .unset, .unset] [(.int (3 : Int32)), (.int (p6 &&& (3 : Int32)))])) (fun t k => ?_) ?_
      · show Steps p.tables e below (T25.setTop (mkF m 132 #[.val (.int p1), .val (.int p2), .val (.int p3), .val (.int p4), .val (.int p5), .val (.int p6), .val (.int nn), .val (.int ra), .val (.int rb), .val (.int rc), .val (.int rd), .val (.ref b20), .val (.int (p6 &&& (3 : Int32))), .val (.int (1 : Int32)), .val (.int r25), .unset, .unset, .unset, .unset, .unset] [(.int v27), (.int r25)])) t
        refine XS.icmpNo X25.here hx rfl (hb hby at_132) rfl (teq (own_r1 hm23 hr25 hv27 : r25 = v27)).2 ?_
        show Steps p.tables e below (T25.setTop (mkF m 135 #[.val (.int p1), .val (.int p2), .val (.int p3), .val (.int p4), .val (.int p5), .val (.int p6), .val (.int nn), .val (.int ra), .val (.int rb), .val (.int rc), .val (.int rd), .val (.ref b20), .val (.int (p6 &&& (3 : Int32))), .val (.int (1 : Int32)), .val (.int r25), .unset, .unset, .unset, .unset, .unset] [])) t
        refine XS.iconst X25.here hx rfl (hb hby at_135) ?_
        show Steps p.tables e below (T25.setTop (mkF m 136 #[.val (.int p1), .val (.int p2), .val (.int p3), .val (.int p4), .val (.int p5), .val (.int p6), .val (.int nn), .val (.int ra), .val (.int rb), .val (.int rc), .val (.int rd), .val (.ref b20), .val (.int (p6 &&& (3 : Int32))), .val (.int (1 : Int32)), .val (.int r25), .unset, .unset, .unset, .unset, .unset] [(.int (1 : Int32))])) t
        refine XS.goto X25.here hx rfl (pc0 := 136) (pc' := 140) rfl (hb hby at_136) (by decide) (by decide) ?_
        show Steps p.tables e below (T25.setTop (mkF m 140 #[.val (.int p1), .val (.int p2), .val (.int p3), .val (.int p4), .val (.int p5), .val (.int p6), .val (.int nn), .val (.int ra), .val (.int rb), .val (.int rc), .val (.int rd), .val (.ref b20), .val (.int (p6 &&& (3 : Int32))), .val (.int (1 : Int32)), .val (.int r25), .unset, .unset, .unset, .unset, .unset] [(.int (1 : Int32))])) t
        refine XS.istore X25.here hx rfl (hb hby at_140) rfl (l' := #[.val (.int p1), .val (.int p2), .val (.int p3), .val (.int p4), .val (.int p5), .val (.int p6), .val (.int nn), .val (.int ra), .val (.int rb), .val (.int rc), .val (.int rd), .val (.ref b20), .val (.int (p6 &&& (3 : Int32))), .val (.int (1 : Int32)), .val (.int r25), .unset, .unset, .unset, .unset, .unset]) rfl ?_
        show Steps p.tables e below (T25.setTop (mkF m 142 #[.val (.int p1), .val (.int p2), .val (.int p3), .val (.int p4), .val (.int p5), .val (.int p6), .val (.int nn), .val (.int ra), .val (.int rb), .val (.int rc), .val (.int rd), .val (.ref b20), .val (.int (p6 &&& (3 : Int32))), .val (.int (1 : Int32)), .val (.int r25), .unset, .unset, .unset, .unset, .unset] [])) t
        refine XS.iload X25.here hx rfl (hb hby at_142) rfl ?_
        show Steps p.tables e below (T25.setTop (mkF m 144 #[.val (.int p1), .val (.int p2), .val (.int p3), .val (.int p4), .val (.int p5), .val (.int p6), .val (.int nn), .val (.int ra), .val (.int rb), .val (.int rc), .val (.int rd), .val (.ref b20), .val (.int (p6 &&& (3 : Int32))), .val (.int (1 : Int32)), .val (.int r25), .unset, .unset, .unset, .unset, .unset] [(.int (p6 &&& (3 : Int32)))])) t
        refine XS.iconst X25.here hx rfl (hb hby at_144) ?_
        exact k
      by_cases hc145_28 : (p6 &&& (3 : Int32)) < (3 : Int32)
      · refine own_go (B := T25.setTop (mkF m 193 #[.val (.int p1), .val (.int p2), .val (.int p3), .val (.int p4), .val (.int p5), .val (.int p6), .val (.int nn), .val (.int ra), .val (.int rb), .val (.int rc), .val (.int rd), .val (.ref b20), .val (.int (p6 &&& (3 : Int32))), .val (.int (1 : Int32)), .val (.int r25), .unset, .unset, .unset, .unset, .unset] [])) (fun t k => ?_) ?_
        · show Steps p.tables e below (T25.setTop (mkF m 145 #[.val (.int p1), .val (.int p2), .val (.int p3), .val (.int p4), .val (.int p5), .val (.int p6), .val (.int nn), .val (.int ra), .val (.int rb), .val (.int rc), .val (.int rd), .val (.ref b20), .val (.int (p6 &&& (3 : Int32))), .val (.int (1 : Int32)), .val (.int r25), .unset, .unset, .unset, .unset, .unset] [(.int (3 : Int32)), (.int (p6 &&& (3 : Int32)))])) t
          refine XS.icmpYes X25.here hx rfl (pc0 := 145) (pc' := 193) rfl (hb hby at_145) rfl (tlt hc145_28).1 (by decide) (by decide) ?_
          exact k
        exact tail1 _ _ _ _ _ _ _ _ _ _ _ _ _ _ (Or.inr ⟨_, rfl⟩) X25 rfl N25 (Nat.le_trans (Nat.le_trans (Nat.le_trans (Nat.le_trans Z0 E20.1) K21.1) K23.1) K25.1) OK25 g_b g_aM g_aB hra' hrb' hrc' hrd' (Nat.lt_of_le_of_lt hq25 (by decide))
      · refine own_go (B := T25.setTop (mkF m 148 #[.val (.int p1), .val (.int p2), .val (.int p3), .val (.int p4), .val (.int p5), .val (.int p6), .val (.int nn), .val (.int ra), .val (.int rb), .val (.int rc), .val (.int rd), .val (.ref b20), .val (.int (p6 &&& (3 : Int32))), .val (.int (1 : Int32)), .val (.int r25), .unset, .unset, .unset, .unset, .unset] [])) (fun t k => ?_) ?_
        · show Steps p.tables e below (T25.setTop (mkF m 145 #[.val (.int p1), .val (.int p2), .val (.int p3), .val (.int p4), .val (.int p5), .val (.int p6), .val (.int nn), .val (.int ra), .val (.int rb), .val (.int rc), .val (.int rd), .val (.ref b20), .val (.int (p6 &&& (3 : Int32))), .val (.int (1 : Int32)), .val (.int r25), .unset, .unset, .unset, .unset, .unset] [(.int (3 : Int32)), (.int (p6 &&& (3 : Int32)))])) t
          refine XS.icmpNo X25.here hx rfl (hb hby at_145) rfl (flt hc145_28).1 ?_
          exact k
        refine own_go (B := T25.setTop (mkF m 152 #[.val (.int p1), .val (.int p2), .val (.int p3), .val (.int p4), .val (.int p5), .val (.int p6), .val (.int nn), .val (.int ra), .val (.int rb), .val (.int rc), .val (.int rd), .val (.ref b20), .val (.int (p6 &&& (3 : Int32))), .val (.int (1 : Int32)), .val (.int r25), .unset, .unset, .unset, .unset, .unset] [(.int rc), (.ref b20)])) (fun t k => ?_) ?_
        · show Steps p.tables e below (T25.setTop (mkF m 148 #[.val (.int p1), .val (.int p2), .val (.int p3), .val (.int p4), .val (.int p5), .val (.int p6), .val (.int nn), .val (.int ra), .val (.int rb), .val (.int rc), .val (.int rd), .val (.ref b20), .val (.int (p6 &&& (3 : Int32))), .val (.int (1 : Int32)), .val (.int r25), .unset, .unset, .unset, .unset, .unset] [])) t
          refine XS.aload X25.here hx rfl (hb hby at_148) rfl rfl ?_
          show Steps p.tables e below (T25.setTop (mkF m 150 #[.val (.int p1), .val (.int p2), .val (.int p3), .val (.int p4), .val (.int p5), .val (.int p6), .val (.int nn), .val (.int ra), .val (.int rb), .val (.int rc), .val (.int rd), .val (.ref b20), .val (.int (p6 &&& (3 : Int32))), .val (.int (1 : Int32)), .val (.int r25), .unset, .unset, .unset, .unset, .unset] [(.ref b20)])) t
          refine XS.iload X25.here hx rfl (hb hby at_150) rfl ?_
          exact k
        obtain ⟨cq29, kq29, q29a, q29b, q29c⟩ := isOf hZ rfl f25_0
        obtain ⟨_, _, ⟨T29, L29, k29, n29⟩, -, X29, ⟨Lc29, hQ29, l29, y29, z29⟩, st29⟩ := X25.virtualBack hx (y := (⟨"com/example/eager_recall/eagerrecall/vectors/HnswGraph$VisitedRows", "visit", "(I)Z"⟩ : MethodName)) (z := (⟨"com/example/eager_recall/eagerrecall/vectors/HnswGraph$VisitedRows", "visit", "(I)Z"⟩ : MethodName)) hown (mvT hZ (hw _ (List.mem_of_getElem? (i := 16) rfl))) (mvT hZ (hw _ (List.mem_of_getElem? (i := 17) rfl))) (notFace_of_selects (args := #[]) (mvT hZ (hw _ (List.mem_of_getElem? (i := 19) rfl)))) (mvT hZ (hw _ (List.mem_of_getElem? (i := 19) rfl))) (mvT hZ (hw _ (List.mem_of_getElem? (i := 18) rfl))) (by decide) (backOf (W := 0) (rm3 l Z a0 hw [] b20 rc aM aB mm nn S25 T25.heap n0 (Nat.le_trans (Nat.le_trans (Nat.le_trans (Nat.le_trans Z0 E20.1) K21.1) K23.1) K25.1) OK25 g_b g_aM g_aB (Nat.lt_of_le_of_lt hq25 (by decide)) hrc'.1 hrc'.2) hZ (hw _ (List.mem_of_getElem? (i := 20) rfl)) (hw _ (List.mem_of_getElem? (i := 3) rfl)) (by decide) (by decide)) q29a q29c (g := (mkF m 152 #[.val (.int p1), .val (.int p2), .val (.int p3), .val (.int p4), .val (.int p5), .val (.int p6), .val (.int nn), .val (.int ra), .val (.int rb), .val (.int rc), .val (.int rd), .val (.ref b20), .val (.int (p6 &&& (3 : Int32))), .val (.int (1 : Int32)), .val (.int r25), .unset, .unset, .unset, .unset, .unset] [(.int rc), (.ref b20)])) rfl (by rw [hml]; rfl) (Steps.refl _) (argsL := [(.int rc)]) (rest := []) (lenOf pd_rm0_0 rfl) rfl (by show 2 * 0 + _ ≤ _; exact Nat.le_of_eq rfl) (hb hby at_152) (fun _ _ => ⟨rfl, rfl, (by decide : 3 + 0 ≤ _), (by decide : 75 + 0 ≤ _)⟩)
        dsimp only [Pt.U, Pt.locs, Pt.cells, Pt.slots] at X29 l29 y29 z29 st29 hQ29
        subst l29 y29 z29
        obtain ⟨r29, S29, rfl, N29q, K29, hr29, OK29, hm29, hl29⟩ := hQ29
        have N29 := Fr.app N25 N29q
        refine own_go (fun t k => st29.trans k) ?_
        have f29_0 := f25_0.keep K29
        have hq29 : S29.length ≤ 3 := Nat.le_trans hl29 (Nat.succ_le_succ hq25)
        refine own_go (B := T29.setTop (mkF m 168 #[.val (.int p1), .val (.int p2), .val (.int p3), .val (.int p4), .val (.int p5), .val (.int p6), .val (.int nn), .val (.int ra), .val (.int rb), .val (.int rc), .val (.int rd), .val (.ref b20), .val (.int (p6 &&& (3 : Int32))), .val (.int (1 : Int32)), .val (.int r29), .unset, .unset, .unset, .unset, .unset] [(.int ra), (.int rc), (.int r29)])) (fun t k => ?_) ?_
        · show Steps p.tables e below (T29.setTop (mkF m 155 #[.val (.int p1), .val (.int p2), .val (.int p3), .val (.int p4), .val (.int p5), .val (.int p6), .val (.int nn), .val (.int ra), .val (.int rb), .val (.int rc), .val (.int rd), .val (.ref b20), .val (.int (p6 &&& (3 : Int32))), .val (.int (1 : Int32)), .val (.int r25), .unset, .unset, .unset, .unset, .unset] [(.int r29)])) t
          refine XS.istore X29.here hx rfl (hb hby at_155) rfl (l' := #[.val (.int p1), .val (.int p2), .val (.int p3), .val (.int p4), .val (.int p5), .val (.int p6), .val (.int nn), .val (.int ra), .val (.int rb), .val (.int rc), .val (.int rd), .val (.ref b20), .val (.int (p6 &&& (3 : Int32))), .val (.int (1 : Int32)), .val (.int r29), .unset, .unset, .unset, .unset, .unset]) rfl ?_
          show Steps p.tables e below (T29.setTop (mkF m 157 #[.val (.int p1), .val (.int p2), .val (.int p3), .val (.int p4), .val (.int p5), .val (.int p6), .val (.int nn), .val (.int ra), .val (.int rb), .val (.int rc), .val (.int rd), .val (.ref b20), .val (.int (p6 &&& (3 : Int32))), .val (.int (1 : Int32)), .val (.int r29), .unset, .unset, .unset, .unset, .unset] [])) t
          refine XS.iload X29.here hx rfl (hb hby at_157) rfl ?_
          show Steps p.tables e below (T29.setTop (mkF m 159 #[.val (.int p1), .val (.int p2), .val (.int p3), .val (.int p4), .val (.int p5), .val (.int p6), .val (.int nn), .val (.int ra), .val (.int rb), .val (.int rc), .val (.int rd), .val (.ref b20), .val (.int (p6 &&& (3 : Int32))), .val (.int (1 : Int32)), .val (.int r29), .unset, .unset, .unset, .unset, .unset] [(.int (1 : Int32))])) t
          refine XS.ifNo X29.here hx rfl (hb hby at_159) rfl ((if0 _ _).trans (feq (by decide : ¬ ((1 : Int32) = (0 : Int32)))).1) ?_
          show Steps p.tables e below (T29.setTop (mkF m 162 #[.val (.int p1), .val (.int p2), .val (.int p3), .val (.int p4), .val (.int p5), .val (.int p6), .val (.int nn), .val (.int ra), .val (.int rb), .val (.int rc), .val (.int rd), .val (.ref b20), .val (.int (p6 &&& (3 : Int32))), .val (.int (1 : Int32)), .val (.int r29), .unset, .unset, .unset, .unset, .unset] [])) t
          refine XS.iload X29.here hx rfl (hb hby at_162) rfl ?_
          show Steps p.tables e below (T29.setTop (mkF m 164 #[.val (.int p1), .val (.int p2), .val (.int p3), .val (.int p4), .val (.int p5), .val (.int p6), .val (.int nn), .val (.int ra), .val (.int rb), .val (.int rc), .val (.int rd), .val (.ref b20), .val (.int (p6 &&& (3 : Int32))), .val (.int (1 : Int32)), .val (.int r29), .unset, .unset, .unset, .unset, .unset] [(.int r29)])) t
          refine XS.iload X29.here hx rfl (hb hby at_164) rfl ?_
          show Steps p.tables e below (T29.setTop (mkF m 166 #[.val (.int p1), .val (.int p2), .val (.int p3), .val (.int p4), .val (.int p5), .val (.int p6), .val (.int nn), .val (.int ra), .val (.int rb), .val (.int rc), .val (.int rd), .val (.ref b20), .val (.int (p6 &&& (3 : Int32))), .val (.int (1 : Int32)), .val (.int r29), .unset, .unset, .unset, .unset, .unset] [(.int rc), (.int r29)])) t
          refine XS.iload X29.here hx rfl (hb hby at_166) rfl ?_
          exact k
        obtain ⟨v32, hv32⟩ : ∃ z : Int32, z = (if rc = ra then (0 : Int32) else (if rc = rb then (0 : Int32) else (1 : Int32))) := ⟨_, rfl⟩
        refine own_go (B := T29.setTop (mkF m 183 #[.val (.int p1), .val (.int p2), .val (.int p3), .val (.int p4), .val (.int p5), .val (.int p6), .val (.int nn), .val (.int ra), .val (.int rb), .val (.int rc), .val (.int rd), .val (.ref b20), .val (.int (p6 &&& (3 : Int32))), .val (.int (1 : Int32)), .val (.int r29), .unset, .unset, .unset, .unset, .unset] [(.int v32), (.int r29)])) (fun t k => ?_) ?_
        · show Steps p.tables e below (T29.setTop (mkF m 168 #[.val (.int p1), .val (.int p2), .val (.int p3), .val (.int p4), .val (.int p5), .val (.int p6), .val (.int nn), .val (.int ra), .val (.int rb), .val (.int rc), .val (.int rd), .val (.ref b20), .val (.int (p6 &&& (3 : Int32))), .val (.int (1 : Int32)), .val (.int r29), .unset, .unset, .unset, .unset, .unset] [(.int ra), (.int rc), (.int r29)])) t
          by_cases hc168_30 : rc = ra
          · refine XS.icmpYes X29.here hx rfl (pc0 := 168) (pc' := 182) rfl (hb hby at_168) rfl (teq hc168_30).1 (by decide) (by decide) ?_
            show Steps p.tables e below (T29.setTop (mkF m 182 #[.val (.int p1), .val (.int p2), .val (.int p3), .val (.int p4), .val (.int p5), .val (.int p6), .val (.int nn), .val (.int ra), .val (.int rb), .val (.int rc), .val (.int rd), .val (.ref b20), .val (.int (p6 &&& (3 : Int32))), .val (.int (1 : Int32)), .val (.int r29), .unset, .unset, .unset, .unset, .unset] [(.int r29)])) t
            refine XS.iconst X29.here hx rfl (hb hby at_182) ?_
            rw [show v32 = (0 : Int32) from (hv32.trans (if_pos hc168_30))] at k
            exact k
          · refine XS.icmpNo X29.here hx rfl (hb hby at_168) rfl (feq hc168_30).1 ?_
            show Steps p.tables e below (T29.setTop (mkF m 171 #[.val (.int p1), .val (.int p2), .val (.int p3), .val (.int p4), .val (.int p5), .val (.int p6), .val (.int nn), .val (.int ra), .val (.int rb), .val (.int rc), .val (.int rd), .val (.ref b20), .val (.int (p6 &&& (3 : Int32))), .val (.int (1 : Int32)), .val (.int r29), .unset, .unset, .unset, .unset, .unset] [(.int r29)])) t
            refine XS.iload X29.here hx rfl (hb hby at_171) rfl ?_
            show Steps p.tables e below (T29.setTop (mkF m 173 #[.val (.int p1), .val (.int p2), .val (.int p3), .val (.int p4), .val (.int p5), .val (.int p6), .val (.int nn), .val (.int ra), .val (.int rb), .val (.int rc), .val (.int rd), .val (.ref b20), .val (.int (p6 &&& (3 : Int32))), .val (.int (1 : Int32)), .val (.int r29), .unset, .unset, .unset, .unset, .unset] [(.int rc), (.int r29)])) t
            refine XS.iload X29.here hx rfl (hb hby at_173) rfl ?_
            show Steps p.tables e below (T29.setTop (mkF m 175 #[.val (.int p1), .val (.int p2), .val (.int p3), .val (.int p4), .val (.int p5), .val (.int p6), .val (.int nn), .val (.int ra), .val (.int rb), .val (.int rc), .val (.int rd), .val (.ref b20), .val (.int (p6 &&& (3 : Int32))), .val (.int (1 : Int32)), .val (.int r29), .unset, .unset, .unset, .unset, .unset] [(.int rb), (.int rc), (.int r29)])) t
            by_cases hc175_31 : rc = rb
            · refine XS.icmpYes X29.here hx rfl (pc0 := 175) (pc' := 182) rfl (hb hby at_175) rfl (teq hc175_31).1 (by decide) (by decide) ?_
              show Steps p.tables e below (T29.setTop (mkF m 182 #[.val (.int p1), .val (.int p2), .val (.int p3), .val (.int p4), .val (.int p5), .val (.int p6), .val (.int nn), .val (.int ra), .val (.int rb), .val (.int rc), .val (.int rd), .val (.ref b20), .val (.int (p6 &&& (3 : Int32))), .val (.int (1 : Int32)), .val (.int r29), .unset, .unset, .unset, .unset, .unset] [(.int r29)])) t
              refine XS.iconst X29.here hx rfl (hb hby at_182) ?_
              rw [show v32 = (0 : Int32) from ((hv32.trans (if_neg hc168_30)).trans (if_pos hc175_31))] at k
              exact k
            · refine XS.icmpNo X29.here hx rfl (hb hby at_175) rfl (feq hc175_31).1 ?_
              show Steps p.tables e below (T29.setTop (mkF m 178 #[.val (.int p1), .val (.int p2), .val (.int p3), .val (.int p4), .val (.int p5), .val (.int p6), .val (.int nn), .val (.int ra), .val (.int rb), .val (.int rc), .val (.int rd), .val (.ref b20), .val (.int (p6 &&& (3 : Int32))), .val (.int (1 : Int32)), .val (.int r29), .unset, .unset, .unset, .unset, .unset] [(.int r29)])) t
              refine XS.iconst X29.here hx rfl (hb hby at_178) ?_
              show Steps p.tables e below (T29.setTop (mkF m 179 #[.val (.int p1), .val (.int p2), .val (.int p3), .val (.int p4), .val (.int p5), .val (.int p6), .val (.int nn), .val (.int ra), .val (.int rb), .val (.int rc), .val (.int rd), .val (.ref b20), .val (.int (p6 &&& (3 : Int32))), .val (.int (1 : Int32)), .val (.int r29), .unset, .unset, .unset, .unset, .unset] [(.int (1 : Int32)), (.int r29)])) t
              refine XS.goto X29.here hx rfl (pc0 := 179) (pc' := 183) rfl (hb hby at_179) (by decide) (by decide) ?_
              rw [show v32 = (1 : Int32) from ((hv32.trans (if_neg hc168_30)).trans (if_neg hc175_31))] at k
              exact k
        refine own_go (B := T29.setTop (mkF m 193 #[.val (.int p1), .val (.int p2), .val (.int p3), .val (.int p4), .val (.int p5), .val (.int p6), .val (.int nn), .val (.int ra), .val (.int rb), .val (.int rc), .val (.int rd), .val (.ref b20), .val (.int (p6 &&& (3 : Int32))), .val (.int (1 : Int32)), .val (.int r29), .unset, .unset, .unset, .unset, .unset] [])) (fun t k => ?_) ?_
        · show Steps p.tables e below (T29.setTop (mkF m 183 #[.val (.int p1), .val (.int p2), .val (.int p3), .val (.int p4), .val (.int p5), .val (.int p6), .val (.int nn), .val (.int ra), .val (.int rb), .val (.int rc), .val (.int rd), .val (.ref b20), .val (.int (p6 &&& (3 : Int32))), .val (.int (1 : Int32)), .val (.int r29), .unset, .unset, .unset, .unset, .unset] [(.int v32), (.int r29)])) t
          refine XS.icmpNo X29.here hx rfl (hb hby at_183) rfl (teq (own_r2 hm23 hm25 hr29 hv32 : r29 = v32)).2 ?_
          show Steps p.tables e below (T29.setTop (mkF m 186 #[.val (.int p1), .val (.int p2), .val (.int p3), .val (.int p4), .val (.int p5), .val (.int p6), .val (.int nn), .val (.int ra), .val (.int rb), .val (.int rc), .val (.int rd), .val (.ref b20), .val (.int (p6 &&& (3 : Int32))), .val (.int (1 : Int32)), .val (.int r29), .unset, .unset, .unset, .unset, .unset] [])) t
          refine XS.iconst X29.here hx rfl (hb hby at_186) ?_
          show Steps p.tables e below (T29.setTop (mkF m 187 #[.val (.int p1), .val (.int p2), .val (.int p3), .val (.int p4), .val (.int p5), .val (.int p6), .val (.int nn), .val (.int ra), .val (.int rb), .val (.int rc), .val (.int rd), .val (.ref b20), .val (.int (p6 &&& (3 : Int32))), .val (.int (1 : Int32)), .val (.int r29), .unset, .unset, .unset, .unset, .unset] [(.int (1 : Int32))])) t
          refine XS.goto X29.here hx rfl (pc0 := 187) (pc' := 191) rfl (hb hby at_187) (by decide) (by decide) ?_
          show Steps p.tables e below (T29.setTop (mkF m 191 #[.val (.int p1), .val (.int p2), .val (.int p3), .val (.int p4), .val (.int p5), .val (.int p6), .val (.int nn), .val (.int ra), .val (.int rb), .val (.int rc), .val (.int rd), .val (.ref b20), .val (.int (p6 &&& (3 : Int32))), .val (.int (1 : Int32)), .val (.int r29), .unset, .unset, .unset, .unset, .unset] [(.int (1 : Int32))])) t
          refine XS.istore X29.here hx rfl (hb hby at_191) rfl (l' := #[.val (.int p1), .val (.int p2), .val (.int p3), .val (.int p4), .val (.int p5), .val (.int p6), .val (.int nn), .val (.int ra), .val (.int rb), .val (.int rc), .val (.int rd), .val (.ref b20), .val (.int (p6 &&& (3 : Int32))), .val (.int (1 : Int32)), .val (.int r29), .unset, .unset, .unset, .unset, .unset]) rfl ?_
          exact k
        exact tail1 _ _ _ _ _ _ _ _ _ _ _ _ _ _ (Or.inr ⟨_, rfl⟩) X29 rfl N29 (Nat.le_trans (Nat.le_trans (Nat.le_trans (Nat.le_trans (Nat.le_trans Z0 E20.1) K21.1) K23.1) K25.1) K29.1) OK29 g_b g_aM g_aB hra' hrb' hrc' hrd' (Nat.lt_of_le_of_lt hq29 (by decide))
set_option maxRecDepth 65536 in
set_option maxHeartbeats 40000000 in
theorem comes_1 {Post : Tables → Env → Array Value → State → Outcome → State → Prop} (hpost : ∀ tb e args s v u, (limb_1_1.after args s (.returned v) u = true ∧ limb_1_2.after args s (.returned v) u = true ∧ True) → FrameEnd s (.returned v) u (Jvm.fieldLocs frame_1_writes args s ++ Jvm.arrayLocs frame_1_arrays args s ++ Jvm.staticLocs frame_1_statics s) 16 256 → Post tb e args s (.returned v) u) :
    ArmFor flags0 classFile x code maxLocals ret World_1 tables_1 room_1 Calls_1 rest_1 Pre_1 Post := by
  intro l hfl _ _ p e ha hc hk s m args below hf hA hF happ hP
  obtain ⟨hcalls, hrest, hpre⟩ := hP
  obtain ⟨-, -, -, hnamed, -, -, -, hat⟩ := (Spec.applies_iff hf).mp happ
  obtain ⟨hg, hn⟩ := and_e (Cond.before_iff.mp (show (Jvm.Cond.and given_1 narrow_1).before args s = true from hpre))
  obtain ⟨gc, g0⟩ := and_e hg
  obtain ⟨a0, g1⟩ := and_e g0
  obtain ⟨a1, g2⟩ := and_e g1
  obtain ⟨a2, g3⟩ := and_e g2
  obtain ⟨a3, g4⟩ := and_e g3
  obtain ⟨a4, g5⟩ := and_e g4
  have a5 := g5
  obtain ⟨w0, w1, w2, w3, w4, w5, rfl⟩ : ∃ w0 w1 w2 w3 w4 w5 : Value, args = #[w0, w1, w2, w3, w4, w5] := by
    have hs : args.size = 6 := by simpa [Cond.value, given_1] using gc
    obtain ⟨L⟩ := args
    match L, hs with
    | [w0, w1, w2, w3, w4, w5], _ => exact ⟨w0, w1, w2, w3, w4, w5, rfl⟩
  have hw := fun d (hd : d ∈ tables_1) => atoms_spec (ws := Jvm.Cond.code x code maxLocals ret :: tables_1) hat d (List.mem_cons_of_mem _ hd)
  have hfit : Fit s := fun {y c} hc i hi => by
    obtain ⟨ha, rfl⟩ := Array.getElem?_eq_some_iff.mp hc
    have q := List.all_eq_true.mp ((Array.all_eq_true_iff_forall_mem.mp hF) _ (Array.getElem_mem ha)) i (List.mem_range.mpr hi)
    simpa [Array.getElem?_eq_getElem hi] using q
  obtain ⟨i0, ei0⟩ := is_v a0
  obtain rfl : w0 = (.int i0) := Option.some.inj ei0
  obtain ⟨i1, ei1⟩ := is_v a1
  obtain rfl : w1 = (.int i1) := Option.some.inj ei1
  obtain ⟨i2, ei2⟩ := is_v a2
  obtain rfl : w2 = (.int i2) := Option.some.inj ei2
  obtain ⟨i3, ei3⟩ := is_v a3
  obtain rfl : w3 = (.int i3) := Option.some.inj ei3
  obtain ⟨i4, ei4⟩ := is_v a4
  obtain rfl : w4 = (.int i4) := Option.some.inj ei4
  obtain ⟨i5, ei5⟩ := is_v a5
  obtain rfl : w5 = (.int i5) := Option.some.inj ei5
  obtain ⟨n, o, h1, h2, h3, _, L, rfl, ⟨rfl, N⟩, hq⟩ := rm0 l s _ hw tables_1 i0 i1 i2 i3 i4 i5 s.heap s.heap.size (Nat.le_refl _) p e ha hc hk s m _ below hf ((Spec.applies_iff_loose hf).mp happ).1 ⟨rfl, State.Warmed39.refl s, rfl⟩ trivial
  refine ⟨n, _, h1, h2, h3, hpost _ _ _ _ _ _ ⟨Cond.after_iff.mpr rfl, Cond.after_iff.mpr (eq_i res_at (Term.int_eval (1)) rfl), trivial⟩ ⟨hq.1, hq.2.1, (hq.2.2.sift fun y hy => Or.inr (N y hy)).mono (by decide) (by decide)⟩⟩
theorem main_1_1 : Claimed_1_1 := comes_1 fun _ _ _ _ _ _ h hF => ⟨h.1, hF⟩
theorem main_1_2 : Claimed_1_2 := comes_1 fun _ _ _ _ _ _ h hF => ⟨h.2.1, hF⟩
end Jvm.Pilot.@@N@@
namespace Jvm.Pilot.@@N@@
open Jvm Jvm.ClassFile Sem Op Lib Jvm.Free Jvm.Stand Jvm.Pilot.@@N@@.Jvm.D
/-! MADE BY PROGRAM (witnessworld.py) out of the Statement's table words and the real class files: 11 classes; the members and pool entries that the words name. The judged class is class 1, her method 1. -/
namespace start1
open Jvm.ClassFile
def u (s : String) : CpInfo := .utf8 (stringToUtf16 s)
/-- a pool by its gaps: so many unusable entries, then the entry; so many at the end -/
def gap : Nat → List CpInfo → List CpInfo
  | 0, r => r
  | n + 1, r => .unusable :: gap n r
def poolList (es : List (Nat × CpInfo)) (last : Nat) : List CpInfo := es.foldr (fun e r => gap e.1 (e.2 :: r)) (gap last [])
def pool (es : List (Nat × CpInfo)) (last : Nat) : Array CpInfo := ⟨poolList es last⟩
def fileOf (pool : Array CpInfo) (this : Nat) (attrs : Array Attribute := #[]) (ms : Array MethodInfo := #[]) (fl : Nat := 33) (sup : Nat := 0) (ifs : Array Nat := #[]) (fds : Array FieldInfo := #[]) : ClassFile where
  minorVersion := 0
  majorVersion := 65
  constantPool := pool
  accessFlags := fl
  thisClass := this
  superClass := sup
  interfaces := ifs
  fields := fds
  methods := ms
  attributes := attrs
def plain (name : String) (sup : Option ClassId) : Class where
  name := name
  kind := .ordinary
  loader := none
  accessFlags := 33
  super := sup
  interfaces := #[]
  cf := none
  fields := #[]
  methods := #[]
  instanceTypes := #[]
  staticTypes := #[]
  resolved := #[]
  callSites := []
  init := .initialized
  statics := none
  mirror := none

def pool0 : Array CpInfo := pool [(5, u "<init>"), (0, u "()V"), (1, .class_ 10), (1, u "java/lang/Object")] 113

def k0c0 : Code := { maxStack := 0, maxLocals := 1, code := object_method_1_code, exceptionTable := #[], attributes := #[] }
def k0m0 : Method := { name := "<init>", desc := "()V", sig := { parameters := [], returnType := none }, accessFlags := 1, code := some k0c0 }
/-- java/lang/Object -/
def k0 : Class := { plain "java/lang/Object" none with
  accessFlags := 33
  interfaces := #[]
  cf := some (fileOf pool0 8 #[] #[{ accessFlags := 1, nameIndex := 5, descriptorIndex := 6, attributes := #[] }] 33 0 #[] #[])
  fields := #[]
  methods := #[k0m0]
  instanceTypes := #[]
  staticTypes := #[]
  resolved := Array.replicate 124 none
  statics := none }

def pool1 : Array CpInfo := pool [(2, .class_ 4), (1, u "java/lang/Object"), (0, u "<init>"), (0, u "()V"), (0, .integer 2147483647), (0, .class_ 9), (0, u "com/example/eager_recall/eagerrecall/vectors/HnswGraph$VisitedRows"), (0, .methodref 8 11), (0, .nameAndType 5 12), (0, u "(I)V"), (0, .methodref 8 14), (0, .nameAndType 15 16), (0, u "visit"), (0, u "(I)Z"), (0, .methodref 8 18), (0, .nameAndType 19 6), (0, u "clear"), (0, .class_ 21), (0, u "com/example/eager_recall/eagerrecall/vectors/VisitedRowsClearPinLaw"), (2, u "law"), (0, u "(IIIIII)Z")] 7

def k1m0 : Method := { name := "<init>", desc := "()V", sig := { parameters := [], returnType := none }, accessFlags := 1, code := none }
def k1c1 : Code := { maxStack := 3, maxLocals := 20, code := code, exceptionTable := #[], attributes := #[] }
def k1m1 : Method := { name := "law", desc := "(IIIIII)Z", sig := { parameters := [.int, .int, .int, .int, .int, .int], returnType := some .boolean }, accessFlags := 9, code := some k1c1 }
/-- com/example/eager_recall/eagerrecall/vectors/VisitedRowsClearPinLaw -/
def k1 : Class := { plain "com/example/eager_recall/eagerrecall/vectors/VisitedRowsClearPinLaw" (some 0) with
  accessFlags := 49
  interfaces := #[]
  cf := some (fileOf pool1 20 #[] #[{ accessFlags := 1, nameIndex := 5, descriptorIndex := 6, attributes := #[] }, { accessFlags := 9, nameIndex := 24, descriptorIndex := 25, attributes := #[] }] 49 2 #[] #[])
  fields := #[]
  methods := #[k1m0, k1m1]
  instanceTypes := #[]
  staticTypes := #[]
  resolved := Array.replicate 33 none
  statics := none }

def pool2 : Array CpInfo := pool [(1, .methodref 2 3), (0, .class_ 4), (0, .nameAndType 5 6), (0, u "java/lang/Object"), (0, u "<init>"), (0, u "()V"), (0, .fieldref 8 9), (0, .class_ 10), (0, .nameAndType 11 12), (0, u "com/example/eager_recall/eagerrecall/vectors/HnswGraph$VisitedRows"), (0, u "marked"), (0, u "[I"), (0, .fieldref 8 14), (0, .nameAndType 15 16), (0, u "bits"), (0, u "[J"), (0, .fieldref 8 18), (0, .nameAndType 19 20), (0, u "count"), (0, u "I"), (6, u "(I)V"), (2, u "visit"), (0, u "(I)Z"), (1, u "clear"), (3, .class_ 38), (0, u "com/example/eager_recall/eagerrecall/vectors/HnswGraph")] 2

def k2c0 : Code := { maxStack := 3, maxLocals := 2, code := prog_101_method_1_code, exceptionTable := #[], attributes := #[] }
def k2m0 : Method := { name := "<init>", desc := "(I)V", sig := { parameters := [.int], returnType := none }, accessFlags := 0, code := some k2c0 }
def k2c1 : Code := { maxStack := 6, maxLocals := 5, code := prog_101_method_2_code, exceptionTable := #[], attributes := #[] }
def k2m1 : Method := { name := "visit", desc := "(I)Z", sig := { parameters := [.int], returnType := some .boolean }, accessFlags := 0, code := some k2c1 }
def k2c2 : Code := { maxStack := 4, maxLocals := 2, code := prog_101_method_3_code, exceptionTable := #[], attributes := #[] }
def k2m2 : Method := { name := "clear", desc := "()V", sig := { parameters := [], returnType := none }, accessFlags := 0, code := some k2c2 }
/-- com/example/eager_recall/eagerrecall/vectors/HnswGraph$VisitedRows -/
def k2 : Class := { plain "com/example/eager_recall/eagerrecall/vectors/HnswGraph$VisitedRows" (some 0) with
  accessFlags := 32
  interfaces := #[]
  cf := some (fileOf pool2 8 #[.nestHost 37] #[{ accessFlags := 0, nameIndex := 5, descriptorIndex := 27, attributes := #[] }, { accessFlags := 0, nameIndex := 30, descriptorIndex := 31, attributes := #[] }, { accessFlags := 0, nameIndex := 33, descriptorIndex := 6, attributes := #[] }] 32 2 #[] #[{ accessFlags := 18, nameIndex := 15, descriptorIndex := 16, attributes := #[] }, { accessFlags := 2, nameIndex := 11, descriptorIndex := 12, attributes := #[] }, { accessFlags := 2, nameIndex := 19, descriptorIndex := 20, attributes := #[] }])
  fields := #[{ name := "bits", type := (.array .long), accessFlags := 18, slot := 0, constantValue := 0 }, { name := "marked", type := (.array .int), accessFlags := 2, slot := 1, constantValue := 0 }, { name := "count", type := .int, accessFlags := 2, slot := 2, constantValue := 0 }]
  methods := #[k2m0, k2m1, k2m2]
  instanceTypes := #[(.array .long), (.array .int), .int]
  staticTypes := #[]
  resolved := Array.replicate 41 none
  statics := none }

def pool3 : Array CpInfo := pool [(1, u "java/lang/Cloneable"), (0, .class_ 1), (0, u "java/lang/Object"), (0, .class_ 3)] 3

/-- java/lang/Cloneable -/
def k3 : Class := { plain "java/lang/Cloneable" (some 0) with
  accessFlags := 1537
  interfaces := #[]
  cf := some (fileOf pool3 2 #[] #[] 1537 4 #[] #[])
  fields := #[]
  methods := #[]
  instanceTypes := #[]
  staticTypes := #[]
  resolved := Array.replicate 8 none
  statics := none }

def pool4 : Array CpInfo := pool [(1, u "java/io/Serializable"), (0, .class_ 1), (0, u "java/lang/Object"), (0, .class_ 3)] 3

/-- java/io/Serializable -/
def k4 : Class := { plain "java/io/Serializable" (some 0) with
  accessFlags := 1537
  interfaces := #[]
  cf := some (fileOf pool4 2 #[] #[] 1537 4 #[] #[])
  fields := #[]
  methods := #[]
  instanceTypes := #[]
  staticTypes := #[]
  resolved := Array.replicate 8 none
  statics := none }

/-- the primitive byte -/
def k5 : Class := { plain "byte" none with kind := .primitive 'B', accessFlags := 0x411 }
/-- [B -/
def k6 : Class := { plain "[B" (some 0) with kind := .array 5 .byte, interfaces := #[3, 4], accessFlags := 1041 }

/-- the primitive int -/
def k7 : Class := { plain "int" none with kind := .primitive 'I', accessFlags := 0x411 }
/-- [I -/
def k8 : Class := { plain "[I" (some 0) with kind := .array 7 .int, interfaces := #[3, 4], accessFlags := 1041 }

/-- the primitive long -/
def k9 : Class := { plain "long" none with kind := .primitive 'J', accessFlags := 0x411 }
/-- [J -/
def k10 : Class := { plain "[J" (some 0) with kind := .array 9 .long, interfaces := #[3, 4], accessFlags := 1041 }

def heap : Heap := #[]
def classes : Array Class := #[k0, k1, k2, k3, k4, k5, k6, k7, k8, k9, k10]
def interned : List (Array UInt16 × Addr) := []
def slotsUsed : Nat := 0
def theMethod : MethodId := ⟨1, 1⟩
def args0 : Array Value := #[.int 5, .int 7, .int 1, .int 2, .int 3, .int 4]
def aboutOver (below : List Frame) : State where
  vm := { classes := classes, interned := interned.toArray }
  heap := heap
  slotsUsed := slotsUsed
  threads := #[{ frames := .invoking theMethod args0 :: below }]
def below0 : List Frame := [.native { method := ⟨0, 0⟩, args := #[] }]
def about1 : State := aboutOver below0
def p0 : Program := .bare "" "" ""
def e0 : Env := launch0.env 0 0 0
theorem w_frames : about1.frames = Frame.invoking theMethod args0 :: below0 := rfl
set_option maxRecDepth 65536 in
theorem w_args : argsFit about1.vm theMethod args0 = true := by decide +kernel
set_option maxRecDepth 65536 in
theorem w_heap : heapFits about1 = true := by decide +kernel
set_option maxRecDepth 65536 in
theorem w_runnable : about1.curStatus? = some .runnable := by decide +kernel
set_option maxRecDepth 65536 in
theorem w_alone : about1.alone = true := by decide +kernel
set_option maxRecDepth 65536 in
theorem w_named : about1.methodNamed? x = some theMethod := by decide +kernel
set_option maxRecDepth 65536 in
theorem w_hears : about1.hears theMethod below0 = true := by decide +kernel
set_option maxRecDepth 65536 in
theorem w_ripe : about1.ripe theMethod args0 below0 = true := by decide +kernel
theorem w_running : about1.status = .running := rfl
set_option maxRecDepth 65536 in
theorem w_room : about1.hasRoom e0.platform room_1 = true :=
  launch0.hasRoom_least _ room_1 (by decide +kernel) (by decide +kernel) (by decide +kernel) (by decide +kernel) (by decide +kernel) (by decide +kernel)
theorem allAtoms_all (ts : List Jvm.Cond) (a : Array Jvm.Value) (st : Jvm.State) : (allAtoms ts).before a st = ts.all (fun c => c.before a st) := by
  induction ts with
  | nil => rfl
  | cons c t ih =>
    show (Jvm.Cond.and c (allAtoms t)).before a st = _
    rw [Jvm.Cond.before_and, ih, List.all_cons]
def words1 : List Jvm.Cond := Jvm.Cond.code x code maxLocals ret :: tables_1
/-- a 'code' word, met by the world's own term for the bytes: nothing is compared byte by byte -/
theorem code_word {y : MethodName} {bytes : ByteArray} {mx : Nat} {rt : Option FieldType} {a : Array Value} {s : State} {m : MethodId} {meth : Method} {c : Code} (h1 : s.methodNamed? y = some m) (h2 : s.vm.method? m = some meth) (h3 : meth.code = some c) (h4 : c.code = bytes)
    (h5 : (c.maxLocals == mx && c.exceptionTable.isEmpty && decide (c.maxStack ≤ mostOperands) && decide (meth.sig.returnType = rt) && !meth.locks && decide (parseMethodDescriptor y.desc = some meth.sig)) = true) : (Jvm.Cond.code y bytes mx rt).before a s = true := by
  simp only [Bool.and_eq_true, beq_iff_eq, Bool.not_eq_true', decide_eq_true_eq] at h5
  obtain ⟨⟨⟨⟨⟨g1, g2⟩, g3⟩, g4⟩, g5⟩, g6⟩ := h5
  simp [Cond.before, Cond.holds, Cond.value, h1, h2, h3, h4, g1, g2, g3, g4, g5, g6]
def isCode : Jvm.Cond → Bool
  | .code _ _ _ _ => true
  | _ => false
theorem all_split {L : List Jvm.Cond} {P : Jvm.Cond → Bool} (h1 : L.all (fun c => isCode c || P c) = true) (h2 : ∀ c ∈ L.filter isCode, P c = true) : L.all P = true := by
  refine List.all_eq_true.mpr fun c hc => ?_
  have h := List.all_eq_true.mp h1 c hc
  rcases Bool.eq_false_or_eq_true (isCode c) with hi | hi
  · exact h2 c (List.mem_filter.mpr ⟨hc, hi⟩)
  · simpa [hi] using h
set_option maxRecDepth 65536 in
theorem w_c0 : (Jvm.Cond.code x code maxLocals ret).before args0 about1 = true := code_word (m := ⟨1, 1⟩) (meth := k1m1) (c := k1c1) (by decide +kernel) rfl rfl rfl (by decide +kernel)
set_option maxRecDepth 65536 in
theorem w_c1 : (Jvm.Cond.code ({ cls := "com/example/eager_recall/eagerrecall/vectors/HnswGraph$VisitedRows", name := "<init>", desc := "(I)V" } : Jvm.MethodName) prog_101_method_1_code (2 : Nat) (Option.none : Option Jvm.ClassFile.FieldType)).before args0 about1 = true := code_word (m := ⟨2, 0⟩) (meth := k2m0) (c := k2c0) (by decide +kernel) rfl rfl rfl (by decide +kernel)
set_option maxRecDepth 65536 in
theorem w_c2 : (Jvm.Cond.code ({ cls := "java/lang/Object", name := "<init>", desc := "()V" } : Jvm.MethodName) object_method_1_code (1 : Nat) (Option.none : Option Jvm.ClassFile.FieldType)).before args0 about1 = true := code_word (m := ⟨0, 0⟩) (meth := k0m0) (c := k0c0) (by decide +kernel) rfl rfl rfl (by decide +kernel)
set_option maxRecDepth 65536 in
theorem w_c3 : (Jvm.Cond.code ({ cls := "com/example/eager_recall/eagerrecall/vectors/HnswGraph$VisitedRows", name := "visit", desc := "(I)Z" } : Jvm.MethodName) prog_101_method_2_code (5 : Nat) (Option.some Jvm.ClassFile.FieldType.boolean)).before args0 about1 = true := code_word (m := ⟨2, 1⟩) (meth := k2m1) (c := k2c1) (by decide +kernel) rfl rfl rfl (by decide +kernel)
set_option maxRecDepth 65536 in
theorem w_c4 : (Jvm.Cond.code ({ cls := "com/example/eager_recall/eagerrecall/vectors/HnswGraph$VisitedRows", name := "clear", desc := "()V" } : Jvm.MethodName) prog_101_method_3_code (2 : Nat) (Option.none : Option Jvm.ClassFile.FieldType)).before args0 about1 = true := code_word (m := ⟨2, 2⟩) (meth := k2m2) (c := k2c2) (by decide +kernel) rfl rfl rfl (by decide +kernel)
def codes1 : List Jvm.Cond := [Jvm.Cond.code x code maxLocals ret, Jvm.Cond.code ({ cls := "com/example/eager_recall/eagerrecall/vectors/HnswGraph$VisitedRows", name := "<init>", desc := "(I)V" } : Jvm.MethodName) prog_101_method_1_code (2 : Nat) (Option.none : Option Jvm.ClassFile.FieldType), Jvm.Cond.code ({ cls := "java/lang/Object", name := "<init>", desc := "()V" } : Jvm.MethodName) object_method_1_code (1 : Nat) (Option.none : Option Jvm.ClassFile.FieldType), Jvm.Cond.code ({ cls := "com/example/eager_recall/eagerrecall/vectors/HnswGraph$VisitedRows", name := "visit", desc := "(I)Z" } : Jvm.MethodName) prog_101_method_2_code (5 : Nat) (Option.some Jvm.ClassFile.FieldType.boolean), Jvm.Cond.code ({ cls := "com/example/eager_recall/eagerrecall/vectors/HnswGraph$VisitedRows", name := "clear", desc := "()V" } : Jvm.MethodName) prog_101_method_3_code (2 : Nat) (Option.none : Option Jvm.ClassFile.FieldType)]
set_option maxRecDepth 65536 in
theorem codes_eq : words1.filter isCode = codes1 := rfl
theorem w_codes : ∀ c ∈ words1.filter isCode, c.before args0 about1 = true := by
  rw [codes_eq]
  intro c hc
  simp only [codes1, List.mem_cons, List.not_mem_nil, or_false] at hc
  rcases hc with rfl | rfl | rfl | rfl | rfl
  · exact w_c0
  · exact w_c1
  · exact w_c2
  · exact w_c3
  · exact w_c4
set_option maxRecDepth 65536 in
theorem w_t1 : (words1.take 24).all (fun c => isCode c || c.before args0 about1) = true := by decide +kernel
set_option maxRecDepth 65536 in
theorem w_t2 : (words1.drop 24).all (fun c => isCode c || c.before args0 about1) = true := by decide +kernel
theorem w_tables : (allAtoms (Jvm.Cond.code x code maxLocals ret :: tables_1)).before args0 about1 = true := by
  rw [allAtoms_all]
  show words1.all (fun c => c.before args0 about1) = true
  refine all_split ?_ w_codes
  rw [← List.take_append_drop 24 words1, List.all_append, w_t1, w_t2]
  rfl
set_option maxRecDepth 65536 in
theorem w_case : (Jvm.Cond.and given_1 narrow_1).before args0 about1 = true := by decide +kernel
theorem w_applies : (headSpec (Jvm.Cond.code x code maxLocals ret :: tables_1) room_1).applies x e0.platform about1 = true :=
  (Spec.applies_iff w_frames).mpr ⟨w_running, w_runnable, w_alone, w_named, w_hears, w_ripe, w_room, w_tables⟩
theorem atStart : AtStart classFile x code maxLocals ret World_1 tables_1 room_1 Calls_1 rest_1 Pre_1 launch0 p0 e0 about1 theMethod args0 below0 :=
  ⟨lists_1, trivial, launch0.admits_env _ _ _, launch0.least_env, fairChoices_fair.cas, fairChoices_fair.clock, w_frames, w_args, w_heap, w_applies, trivial, trivial, w_case⟩
end start1
theorem witness_1 : WitnessClaimed_1 := ⟨start1.p0, start1.e0, start1.about1, start1.theMethod, start1.args0, start1.below0, start1.atStart⟩
end Jvm.Pilot.@@N@@
