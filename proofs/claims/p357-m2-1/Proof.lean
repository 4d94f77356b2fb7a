import JvmDerived
import JvmDerived.Pilot.@@N@@Statement
import JvmDerived.Pilot.@@N@@Code
set_option linter.unusedVariables false
set_option linter.unusedSimpArgs false
namespace Jvm.RoadKit
open Sem ClassFile Op Lib Jvm.Stand Jvm.Free Jvm.LawKit
section New
variable {p : Program} {l : Launch} {e : Env} {R : Room} {s : State} {m : MethodId} {args : Array Value} {below : List Frame} {meth : Method} {c : Code} {T : State} {locs : List Loc} {cells slots : Nat}
theorem retI (X : Stand p l e R s m args below meth c T locs cells slots) (hx : p.tables.exec = Jvm.exec) {pc : Nat} {Ls : Array Slot} {z : Int32} {rest : List Value} (hret : meth.sig.returnType = some .int) (hd : decode c.code pc = .ok (.ireturn, 1)) {fs : List Frame}
    (hl : ∀ (f : JFrame) (acts : List Action), f.method = m → f.locked = none → f.entered = [] → (doReturn e (T.setTop f) acts (some (.int z))).1 = T.setFrames fs) : Steps p.tables e below (T.setTop (mkF m pc Ls (.int z :: rest))) (T.setFrames fs) := by
  have hm' : T.vm.method? m = some meth := X.method'
  have hn : narrow .int (.int z) = .int z := rfl
  show Steps p.tables e below (T.setTop { method := m, pc := pc, locals := Ls, stack := _ :: rest, locked := none }) _
  jvm_step X.here [X.here.top, hx, hd, hm', hret, hn]
  first | (intro acts; rw [hl _ acts rfl rfl rfl]) | rw [hl _ _ rfl rfl rfl]
  exact Steps.refl _
/-- from A the run ends as K says -/
abbrev own_Fin (p : Program) (e : Env) (below : List Frame) (K : Outcome → State → Prop) (A : State) : Prop := ∃ s₂ o, Steps p.tables e below A s₂ ∧ s₂.status = .running ∧ Ended s₂ below o ∧ K o s₂
theorem own_go {K : Outcome → State → Prop} {A B : State} (h : ∀ t, Steps p.tables e below B t → Steps p.tables e below A t) (k : own_Fin p e below K B) : own_Fin p e below K A := by
  obtain ⟨s₂, o, hs, r⟩ := k
  exact ⟨s₂, o, h _ hs, r⟩
end New
end Jvm.RoadKit

namespace Jvm.Pilot.@@N@@
open Jvm Jvm.ClassFile Sem Op Lib Jvm.Free Jvm.Stand Jvm.LawKit Jvm.RoadKit Bundle Jvm.Pilot.@@N@@.Jvm.D
theorem own_look {Z : State} {h : Heap} {t0 t1 t2 t3 t4 t5 t6 t7 t8 t9 t : Addr} {i : Int32} (X0 : Exa Z h t0 "com/example/wary_mutex/warymutex/protocol/Message$Type") (C0 : Fld Z h t0 "com/example/wary_mutex/warymutex/protocol/Message$Type" "code" "B" (.int (1 : Int32))) (X1 : Exa Z h t1 "com/example/wary_mutex/warymutex/protocol/Message$Type") (C1 : Fld Z h t1 "com/example/wary_mutex/warymutex/protocol/Message$Type" "code" "B" (.int (2 : Int32))) (X2 : Exa Z h t2 "com/example/wary_mutex/warymutex/protocol/Message$Type") (C2 : Fld Z h t2 "com/example/wary_mutex/warymutex/protocol/Message$Type" "code" "B" (.int (3 : Int32))) (X3 : Exa Z h t3 "com/example/wary_mutex/warymutex/protocol/Message$Type") (C3 : Fld Z h t3 "com/example/wary_mutex/warymutex/protocol/Message$Type" "code" "B" (.int (4 : Int32))) (X4 : Exa Z h t4 "com/example/wary_mutex/warymutex/protocol/Message$Type") (C4 : Fld Z h t4 "com/example/wary_mutex/warymutex/protocol/Message$Type" "code" "B" (.int (5 : Int32))) (X5 : Exa Z h t5 "com/example/wary_mutex/warymutex/protocol/Message$Type") (C5 : Fld Z h t5 "com/example/wary_mutex/warymutex/protocol/Message$Type" "code" "B" (.int (6 : Int32))) (X6 : Exa Z h t6 "com/example/wary_mutex/warymutex/protocol/Message$Type") (C6 : Fld Z h t6 "com/example/wary_mutex/warymutex/protocol/Message$Type" "code" "B" (.int (7 : Int32))) (X7 : Exa Z h t7 "com/example/wary_mutex/warymutex/protocol/Message$Type") (C7 : Fld Z h t7 "com/example/wary_mutex/warymutex/protocol/Message$Type" "code" "B" (.int (8 : Int32))) (X8 : Exa Z h t8 "com/example/wary_mutex/warymutex/protocol/Message$Type") (C8 : Fld Z h t8 "com/example/wary_mutex/warymutex/protocol/Message$Type" "code" "B" (.int (9 : Int32))) (X9 : Exa Z h t9 "com/example/wary_mutex/warymutex/protocol/Message$Type") (C9 : Fld Z h t9 "com/example/wary_mutex/warymutex/protocol/Message$Type" "code" "B" (.int (10 : Int32))) (f0 : Fld Z h t0 "com/example/wary_mutex/warymutex/protocol/Message$Type" "fromClient" "Z" (.int (1 : Int32))) (g0 : Fld Z h t0 "com/example/wary_mutex/warymutex/protocol/Message$Type" "numbered" "Z" (.int (1 : Int32))) (d0 : Fld Z h t0 "com/example/wary_mutex/warymutex/protocol/Message$Type" "granted" "Z" (.int (0 : Int32))) (f1 : Fld Z h t1 "com/example/wary_mutex/warymutex/protocol/Message$Type" "fromClient" "Z" (.int (1 : Int32))) (g1 : Fld Z h t1 "com/example/wary_mutex/warymutex/protocol/Message$Type" "numbered" "Z" (.int (1 : Int32))) (d1 : Fld Z h t1 "com/example/wary_mutex/warymutex/protocol/Message$Type" "granted" "Z" (.int (0 : Int32))) (f2 : Fld Z h t2 "com/example/wary_mutex/warymutex/protocol/Message$Type" "fromClient" "Z" (.int (1 : Int32))) (g2 : Fld Z h t2 "com/example/wary_mutex/warymutex/protocol/Message$Type" "numbered" "Z" (.int (1 : Int32))) (d2 : Fld Z h t2 "com/example/wary_mutex/warymutex/protocol/Message$Type" "granted" "Z" (.int (0 : Int32))) (h0 : 0 ≤ i.toInt) (h9 : i.toInt ≤ 9) (ht : t = (if i = (0 : Int32) then t0 else (if i = (1 : Int32) then t1 else (if i = (2 : Int32) then t2 else (if i = (3 : Int32) then t3 else (if i = (4 : Int32) then t4 else (if i = (5 : Int32) then t5 else (if i = (6 : Int32) then t6 else (if i = (7 : Int32) then t7 else (if i = (8 : Int32) then t8 else t9)))))))))) :
    Exa Z h t "com/example/wary_mutex/warymutex/protocol/Message$Type" ∧ ∃ c : Int32, Fld Z h t "com/example/wary_mutex/warymutex/protocol/Message$Type" "code" "B" (.int c) ∧ nar .byte c = c ∧ ¬ c < (1 : Int32) ∧ ((2 : Int32) < i ∧ (3 : Int32) < c ∧ (if t = t0 then (1 : Int32) else (if t = t1 then (1 : Int32) else (if t = t2 then (1 : Int32) else (0 : Int32)))) = (0 : Int32) ∨ ¬ (2 : Int32) < i ∧ ¬ (3 : Int32) < c ∧ (if t = t0 then (1 : Int32) else (if t = t1 then (1 : Int32) else (if t = t2 then (1 : Int32) else (0 : Int32)))) = (1 : Int32) ∧ Fld Z h t "com/example/wary_mutex/warymutex/protocol/Message$Type" "fromClient" "Z" (.int (1 : Int32)) ∧ Fld Z h t "com/example/wary_mutex/warymutex/protocol/Message$Type" "numbered" "Z" (.int (1 : Int32)) ∧ Fld Z h t "com/example/wary_mutex/warymutex/protocol/Message$Type" "granted" "Z" (.int (0 : Int32))) := by
  have hi : i = (0 : Int32) ∨ i = (1 : Int32) ∨ i = (2 : Int32) ∨ i = (3 : Int32) ∨ i = (4 : Int32) ∨ i = (5 : Int32) ∨ i = (6 : Int32) ∨ i = (7 : Int32) ∨ i = (8 : Int32) ∨ i = (9 : Int32) := by
    have e : i.toInt = 0 ∨ i.toInt = 1 ∨ i.toInt = 2 ∨ i.toInt = 3 ∨ i.toInt = 4 ∨ i.toInt = 5 ∨ i.toInt = 6 ∨ i.toInt = 7 ∨ i.toInt = 8 ∨ i.toInt = 9 := by omega
    rcases e with e | e | e | e | e | e | e | e | e | e
    · exact Or.inl (Int32.toInt_inj.mp (e.trans (by decide)))
    · exact Or.inr (Or.inl (Int32.toInt_inj.mp (e.trans (by decide))))
    · exact Or.inr (Or.inr (Or.inl (Int32.toInt_inj.mp (e.trans (by decide)))))
    · exact Or.inr (Or.inr (Or.inr (Or.inl (Int32.toInt_inj.mp (e.trans (by decide))))))
    · exact Or.inr (Or.inr (Or.inr (Or.inr (Or.inl (Int32.toInt_inj.mp (e.trans (by decide)))))))
    · exact Or.inr (Or.inr (Or.inr (Or.inr (Or.inr (Or.inl (Int32.toInt_inj.mp (e.trans (by decide))))))))
    · exact Or.inr (Or.inr (Or.inr (Or.inr (Or.inr (Or.inr (Or.inl (Int32.toInt_inj.mp (e.trans (by decide)))))))))
    · exact Or.inr (Or.inr (Or.inr (Or.inr (Or.inr (Or.inr (Or.inr (Or.inl (Int32.toInt_inj.mp (e.trans (by decide))))))))))
    · exact Or.inr (Or.inr (Or.inr (Or.inr (Or.inr (Or.inr (Or.inr (Or.inr (Or.inl (Int32.toInt_inj.mp (e.trans (by decide)))))))))))
    · exact Or.inr (Or.inr (Or.inr (Or.inr (Or.inr (Or.inr (Or.inr (Or.inr (Or.inr (Int32.toInt_inj.mp (e.trans (by decide)))))))))))
  rcases hi with rfl | rfl | rfl | rfl | rfl | rfl | rfl | rfl | rfl | rfl
  · have e : t = t0 := by rw [ht]; rw [if_pos rfl]
    subst e
    exact ⟨X0, _, C0, by decide, by decide, Or.inr ⟨by decide, by decide, by rw [if_pos rfl], f0, g0, d0⟩⟩
  · have e : t = t1 := by rw [ht]; rw [if_neg (by decide), if_pos rfl]
    subst e
    have n0 : t ≠ t0 := Fld.ne C1 C0 (by decide)
    exact ⟨X1, _, C1, by decide, by decide, Or.inr ⟨by decide, by decide, by rw [if_neg n0, if_pos rfl], f1, g1, d1⟩⟩
  · have e : t = t2 := by rw [ht]; rw [if_neg (by decide), if_neg (by decide), if_pos rfl]
    subst e
    have n0 : t ≠ t0 := Fld.ne C2 C0 (by decide)
    have n1 : t ≠ t1 := Fld.ne C2 C1 (by decide)
    exact ⟨X2, _, C2, by decide, by decide, Or.inr ⟨by decide, by decide, by rw [if_neg n0, if_neg n1, if_pos rfl], f2, g2, d2⟩⟩
  · have e : t = t3 := by rw [ht]; rw [if_neg (by decide), if_neg (by decide), if_neg (by decide), if_pos rfl]
    subst e
    have n0 : t ≠ t0 := Fld.ne C3 C0 (by decide)
    have n1 : t ≠ t1 := Fld.ne C3 C1 (by decide)
    have n2 : t ≠ t2 := Fld.ne C3 C2 (by decide)
    exact ⟨X3, _, C3, by decide, by decide, Or.inl ⟨by decide, by decide, by rw [if_neg n0, if_neg n1, if_neg n2]⟩⟩
  · have e : t = t4 := by rw [ht]; rw [if_neg (by decide), if_neg (by decide), if_neg (by decide), if_neg (by decide), if_pos rfl]
    subst e
    have n0 : t ≠ t0 := Fld.ne C4 C0 (by decide)
    have n1 : t ≠ t1 := Fld.ne C4 C1 (by decide)
    have n2 : t ≠ t2 := Fld.ne C4 C2 (by decide)
    exact ⟨X4, _, C4, by decide, by decide, Or.inl ⟨by decide, by decide, by rw [if_neg n0, if_neg n1, if_neg n2]⟩⟩
  · have e : t = t5 := by rw [ht]; rw [if_neg (by decide), if_neg (by decide), if_neg (by decide), if_neg (by decide), if_neg (by decide), if_pos rfl]
    subst e
    have n0 : t ≠ t0 := Fld.ne C5 C0 (by decide)
    have n1 : t ≠ t1 := Fld.ne C5 C1 (by decide)
    have n2 : t ≠ t2 := Fld.ne C5 C2 (by decide)
    exact ⟨X5, _, C5, by decide, by decide, Or.inl ⟨by decide, by decide, by rw [if_neg n0, if_neg n1, if_neg n2]⟩⟩
  · have e : t = t6 := by rw [ht]; rw [if_neg (by decide), if_neg (by decide), if_neg (by decide), if_neg (by decide), if_neg (by decide), if_neg (by decide), if_pos rfl]
    subst e
    have n0 : t ≠ t0 := Fld.ne C6 C0 (by decide)
    have n1 : t ≠ t1 := Fld.ne C6 C1 (by decide)
    have n2 : t ≠ t2 := Fld.ne C6 C2 (by decide)
    exact ⟨X6, _, C6, by decide, by decide, Or.inl ⟨by decide, by decide, by rw [if_neg n0, if_neg n1, if_neg n2]⟩⟩
  · have e : t = t7 := by rw [ht]; rw [if_neg (by decide), if_neg (by decide), if_neg (by decide), if_neg (by decide), if_neg (by decide), if_neg (by decide), if_neg (by decide), if_pos rfl]
    subst e
    have n0 : t ≠ t0 := Fld.ne C7 C0 (by decide)
    have n1 : t ≠ t1 := Fld.ne C7 C1 (by decide)
    have n2 : t ≠ t2 := Fld.ne C7 C2 (by decide)
    exact ⟨X7, _, C7, by decide, by decide, Or.inl ⟨by decide, by decide, by rw [if_neg n0, if_neg n1, if_neg n2]⟩⟩
  · have e : t = t8 := by rw [ht]; rw [if_neg (by decide), if_neg (by decide), if_neg (by decide), if_neg (by decide), if_neg (by decide), if_neg (by decide), if_neg (by decide), if_neg (by decide), if_pos rfl]
    subst e
    have n0 : t ≠ t0 := Fld.ne C8 C0 (by decide)
    have n1 : t ≠ t1 := Fld.ne C8 C1 (by decide)
    have n2 : t ≠ t2 := Fld.ne C8 C2 (by decide)
    exact ⟨X8, _, C8, by decide, by decide, Or.inl ⟨by decide, by decide, by rw [if_neg n0, if_neg n1, if_neg n2]⟩⟩
  · have e : t = t9 := by rw [ht]; rw [if_neg (by decide), if_neg (by decide), if_neg (by decide), if_neg (by decide), if_neg (by decide), if_neg (by decide), if_neg (by decide), if_neg (by decide), if_neg (by decide)]
    subst e
    have n0 : t ≠ t0 := Fld.ne C9 C0 (by decide)
    have n1 : t ≠ t1 := Fld.ne C9 C1 (by decide)
    have n2 : t ≠ t2 := Fld.ne C9 C2 (by decide)
    exact ⟨X9, _, C9, by decide, by decide, Or.inl ⟨by decide, by decide, by rw [if_neg n0, if_neg n1, if_neg n2]⟩⟩
theorem own_i (a : Int32) {i : Int32} (h : i = (a &&& (2147483647 : Int32)) % (10 : Int32)) : 0 ≤ i.toInt ∧ i.toInt ≤ 9 := by
  subst h
  have h1 := c_mask a 2147483647 31 (by decide) (by decide)
  have h2 := (c_irem (a &&& 2147483647) 10 10 (by decide)).1
  have h6 := rng32 a
  omega
theorem d1_0 : decode method_3_code 0 = .ok (.iload_n 0, 1) := by decide +kernel
theorem d1_1 : decode method_3_code 1 = .ok (.ifCond .ne 7, 3) := by decide +kernel
theorem d1_4 : decode method_3_code 4 = .ok (.getstatic 33, 3) := by decide +kernel
theorem d1_7 : decode method_3_code 7 = .ok (.areturn, 1) := by decide +kernel
theorem d1_8 : decode method_3_code 8 = .ok (.iload_n 0, 1) := by decide +kernel
theorem d1_9 : decode method_3_code 9 = .ok (.iconst 1, 1) := by decide +kernel
theorem d1_10 : decode method_3_code 10 = .ok (.if_icmp .ne 7, 3) := by decide +kernel
theorem d1_13 : decode method_3_code 13 = .ok (.getstatic 37, 3) := by decide +kernel
theorem d1_16 : decode method_3_code 16 = .ok (.areturn, 1) := by decide +kernel
theorem d1_17 : decode method_3_code 17 = .ok (.iload_n 0, 1) := by decide +kernel
theorem d1_18 : decode method_3_code 18 = .ok (.iconst 2, 1) := by decide +kernel
theorem d1_19 : decode method_3_code 19 = .ok (.if_icmp .ne 7, 3) := by decide +kernel
theorem d1_22 : decode method_3_code 22 = .ok (.getstatic 40, 3) := by decide +kernel
theorem d1_25 : decode method_3_code 25 = .ok (.areturn, 1) := by decide +kernel
theorem d1_26 : decode method_3_code 26 = .ok (.iload_n 0, 1) := by decide +kernel
theorem d1_27 : decode method_3_code 27 = .ok (.iconst 3, 1) := by decide +kernel
theorem d1_28 : decode method_3_code 28 = .ok (.if_icmp .ne 7, 3) := by decide +kernel
theorem d1_31 : decode method_3_code 31 = .ok (.getstatic 43, 3) := by decide +kernel
theorem d1_34 : decode method_3_code 34 = .ok (.areturn, 1) := by decide +kernel
theorem d1_35 : decode method_3_code 35 = .ok (.iload_n 0, 1) := by decide +kernel
theorem d1_36 : decode method_3_code 36 = .ok (.iconst 4, 1) := by decide +kernel
theorem d1_37 : decode method_3_code 37 = .ok (.if_icmp .ne 7, 3) := by decide +kernel
theorem d1_40 : decode method_3_code 40 = .ok (.getstatic 46, 3) := by decide +kernel
theorem d1_43 : decode method_3_code 43 = .ok (.areturn, 1) := by decide +kernel
theorem d1_44 : decode method_3_code 44 = .ok (.iload_n 0, 1) := by decide +kernel
theorem d1_45 : decode method_3_code 45 = .ok (.iconst 5, 1) := by decide +kernel
theorem d1_46 : decode method_3_code 46 = .ok (.if_icmp .ne 7, 3) := by decide +kernel
theorem d1_49 : decode method_3_code 49 = .ok (.getstatic 49, 3) := by decide +kernel
theorem d1_52 : decode method_3_code 52 = .ok (.areturn, 1) := by decide +kernel
theorem d1_53 : decode method_3_code 53 = .ok (.iload_n 0, 1) := by decide +kernel
theorem d1_54 : decode method_3_code 54 = .ok (.bipush 6, 2) := by decide +kernel
theorem d1_56 : decode method_3_code 56 = .ok (.if_icmp .ne 7, 3) := by decide +kernel
theorem d1_59 : decode method_3_code 59 = .ok (.getstatic 52, 3) := by decide +kernel
theorem d1_62 : decode method_3_code 62 = .ok (.areturn, 1) := by decide +kernel
theorem d1_63 : decode method_3_code 63 = .ok (.iload_n 0, 1) := by decide +kernel
theorem d1_64 : decode method_3_code 64 = .ok (.bipush 7, 2) := by decide +kernel
theorem d1_66 : decode method_3_code 66 = .ok (.if_icmp .ne 7, 3) := by decide +kernel
theorem d1_69 : decode method_3_code 69 = .ok (.getstatic 55, 3) := by decide +kernel
theorem d1_72 : decode method_3_code 72 = .ok (.areturn, 1) := by decide +kernel
theorem d1_73 : decode method_3_code 73 = .ok (.iload_n 0, 1) := by decide +kernel
theorem d1_74 : decode method_3_code 74 = .ok (.bipush 8, 2) := by decide +kernel
theorem d1_76 : decode method_3_code 76 = .ok (.if_icmp .ne 7, 3) := by decide +kernel
theorem d1_79 : decode method_3_code 79 = .ok (.getstatic 58, 3) := by decide +kernel
theorem d1_82 : decode method_3_code 82 = .ok (.areturn, 1) := by decide +kernel
theorem d1_83 : decode method_3_code 83 = .ok (.getstatic 61, 3) := by decide +kernel
theorem d1_86 : decode method_3_code 86 = .ok (.areturn, 1) := by decide +kernel
theorem pn_rm1 : plainName "com/example/wary_mutex/warymutex/protocol/TypeQuestionPinLaw" = true := by first | (simp [plainName, overriddenIn]; done) | decide +kernel
theorem ef_rm1 (m : MethodId) (x0 : Int32) : entryFrame m #[(.int x0)] 1 = mkF m 0 #[.val (.int x0)] [] := by first | (simp [entryFrame, mkF, argsToLocals, Value.category]; done) | rfl
def Q1 (Z : State) (p1 : Int32) (t0 : Addr) (t1 : Addr) (t2 : Addr) (t3 : Addr) (t4 : Addr) (t5 : Addr) (t6 : Addr) (t7 : Addr) (t8 : Addr) (t9 : Addr) (h0 : Heap) (n0 : Nat) (v : Option Value) (h : Heap) (L : List Loc) : Prop := ∃ r : Addr, v = some (.ref r) ∧ Fr n0 L ∧ h = h0 ∧ r = (if p1 = (0 : Int32) then t0 else (if p1 = (1 : Int32) then t1 else (if p1 = (2 : Int32) then t2 else (if p1 = (3 : Int32) then t3 else (if p1 = (4 : Int32) then t4 else (if p1 = (5 : Int32) then t5 else (if p1 = (6 : Int32) then t6 else (if p1 = (7 : Int32) then t7 else (if p1 = (8 : Int32) then t8 else t9)))))))))
set_option maxRecDepth 65536 in
set_option maxHeartbeats 40000000 in
theorem rm1 (l : Launch) (Z : State) (a0 : Array Value) (hw : ∀ d ∈ tables_1, d.before a0 Z = true) (ws : List Jvm.Cond) (p1 : Int32) (t0 : Addr) (t1 : Addr) (t2 : Addr) (t3 : Addr) (t4 : Addr) (t5 : Addr) (t6 : Addr) (t7 : Addr) (t8 : Addr) (t9 : Addr) (h0 : Heap) (n0 : Nat) (Z0 : n0 ≤ h0.size) (S0 : Sta Z h0 "com/example/wary_mutex/warymutex/protocol/Message$Type" "REQUEST" "Lcom/example/wary_mutex/warymutex/protocol/Message$Type;" (.ref t0)) (S1 : Sta Z h0 "com/example/wary_mutex/warymutex/protocol/Message$Type" "YIELD" "Lcom/example/wary_mutex/warymutex/protocol/Message$Type;" (.ref t1)) (S2 : Sta Z h0 "com/example/wary_mutex/warymutex/protocol/Message$Type" "INQUIRY" "Lcom/example/wary_mutex/warymutex/protocol/Message$Type;" (.ref t2)) (S3 : Sta Z h0 "com/example/wary_mutex/warymutex/protocol/Message$Type" "RELEASE" "Lcom/example/wary_mutex/warymutex/protocol/Message$Type;" (.ref t3)) (S4 : Sta Z h0 "com/example/wary_mutex/warymutex/protocol/Message$Type" "RESPONSE" "Lcom/example/wary_mutex/warymutex/protocol/Message$Type;" (.ref t4)) (S5 : Sta Z h0 "com/example/wary_mutex/warymutex/protocol/Message$Type" "CHECK" "Lcom/example/wary_mutex/warymutex/protocol/Message$Type;" (.ref t5)) (S6 : Sta Z h0 "com/example/wary_mutex/warymutex/protocol/Message$Type" "RENEW" "Lcom/example/wary_mutex/warymutex/protocol/Message$Type;" (.ref t6)) (S7 : Sta Z h0 "com/example/wary_mutex/warymutex/protocol/Message$Type" "RENEWED" "Lcom/example/wary_mutex/warymutex/protocol/Message$Type;" (.ref t7)) (S8 : Sta Z h0 "com/example/wary_mutex/warymutex/protocol/Message$Type" "FENCE" "Lcom/example/wary_mutex/warymutex/protocol/Message$Type;" (.ref t8)) (S9 : Sta Z h0 "com/example/wary_mutex/warymutex/protocol/Message$Type" "FENCED" "Lcom/example/wary_mutex/warymutex/protocol/Message$Type;" (.ref t9)) :
    MetFree l (⟨"com/example/wary_mutex/warymutex/protocol/TypeQuestionPinLaw", "pick", "(I)Lcom/example/wary_mutex/warymutex/protocol/Message$Type;"⟩ : MethodName) (head1 (Jvm.Cond.code (⟨"com/example/wary_mutex/warymutex/protocol/TypeQuestionPinLaw", "pick", "(I)Lcom/example/wary_mutex/warymutex/protocol/Message$Type;"⟩ : MethodName) method_3_code 1 (some (.object "com/example/wary_mutex/warymutex/protocol/Message$Type")) :: ws) ({ frames := 0, cells := 0, slots := 0, locals := 0 } : Room)) (fun a U => a = #[(.int p1)] ∧ Z.Warmed39 U.vm ∧ U.heap = h0) (fun _ _ _ _ _ => True) (fun _ U o U' => ∃ v L, o = .returned v ∧ Q1 Z p1 t0 t1 t2 t3 t4 t5 t6 t7 t8 t9 h0 n0 v U'.heap L ∧ FrameEnd U o U' L ({ frames := 0, cells := 0, slots := 0, locals := 0 } : Room).cells ({ frames := 0, cells := 0, slots := 0, locals := 0 } : Room).slots) := by
  refine MetFree.of_bodySF (plainFor_of_name pn_rm1) hisR ?_
  intro p e s m args below meth c s₁ Bd hml0 hP hK
  obtain ⟨rfl, hZ, hh⟩ := hP
  have hx := Bd.exec
  have hby := Bd.bytes
  have hml : c.maxLocals = 1 := hml0
  have hown : s.vm.findClass "com/example/wary_mutex/warymutex/protocol/TypeQuestionPinLaw" = some m.cls := findClass_of_methodNamed Bd.named
  have hnm := (name_of_methodNamed Bd.named Bd.method).1
  have X0 : Stand p l e ({ frames := 0, cells := 0, slots := 0, locals := 0 } : Room) s m #[(.int p1)] below meth c s₁ [] 0 0 := Stand.of_body Bd
  have e0 : s₁.heap = h0 := by rw [← hh, Bd.state]; rfl
  have N0 := Fr.nil n0
  have pre0 : ∀ t, Steps p.tables e below (s₁.setTop (mkF m 0 #[.val (.int p1)] [])) t → Steps p.tables e below (s₁.setTop (entryFrame m #[(.int p1)] 1)) t := fun t k => castTop (ef_rm1 m p1) k
  show own_Fin p e below _ _
  refine own_go pre0 ?_
  refine own_go (B := s₁.setTop (mkF m 1 #[.val (.int p1)] [(.int p1)])) (fun t k => ?_) ?_
  · show Steps p.tables e below (s₁.setTop (mkF m 0 #[.val (.int p1)] [])) t
    refine XS.iloadN X0.here hx rfl (hb hby d1_0) rfl ?_
    exact k
  by_cases hc1_1 : p1 = (0 : Int32)
  · refine own_go (B := s₁.setTop (mkF m 4 #[.val (.int p1)] [])) (fun t k => ?_) ?_
    · show Steps p.tables e below (s₁.setTop (mkF m 1 #[.val (.int p1)] [(.int p1)])) t
      refine XS.ifNo X0.here hx rfl (hb hby d1_1) rfl ((if0 _ _).trans (teq hc1_1).2) ?_
      exact k
    obtain ⟨T2, X2, e2, st2⟩ := getS2 X0 hx hZ hown (host := "") (Or.inl (hw _ (List.mem_of_getElem? (i := 5) rfl))) Via.refl e0 S0 (g := (mkF m 4 #[.val (.int p1)] [])) rfl (hb hby d1_4)
    refine own_go (fun t k => st2 t k) ?_
    obtain ⟨fs, hr, hrun, hended, hW, hsame⟩ := X2.leave (v := some (.ref t0)) (fun h => by rw [Bd.returns] at h; cases h)
    refine ⟨_, _, ?_, hrun, hended, _, _, rfl, ?_, ⟨_, rfl⟩, hW, hsame.mono (by decide) (by decide)⟩
    · show Steps p.tables e below (T2.setTop (mkF m 7 #[.val (.int p1)] [(.ref t0)])) _
      jvm_step X2.here [X2.here.top, hx, (hb hby d1_7), X2.method', Bd.returns, Value.isRef, FieldType.isReference]
      first | (intro acts; rw [hr _ acts rfl rfl rfl]) | rw [hr _ _ rfl rfl rfl]
      exact Steps.refl _
    · show Q1 Z p1 t0 t1 t2 t3 t4 t5 t6 t7 t8 t9 h0 n0 _ T2.heap _
      rw [e2]
      exact ⟨_, rfl, N0, rfl, by rw [if_pos hc1_1]⟩
  · refine own_go (B := s₁.setTop (mkF m 8 #[.val (.int p1)] [])) (fun t k => ?_) ?_
    · show Steps p.tables e below (s₁.setTop (mkF m 1 #[.val (.int p1)] [(.int p1)])) t
      refine XS.ifYes X0.here hx rfl (pc0 := 1) (pc' := 8) rfl (hb hby d1_1) rfl ((if0 _ _).trans (feq hc1_1).2) (by decide) (by decide) ?_
      exact k
    refine own_go (B := s₁.setTop (mkF m 10 #[.val (.int p1)] [(.int (1 : Int32)), (.int p1)])) (fun t k => ?_) ?_
    · show Steps p.tables e below (s₁.setTop (mkF m 8 #[.val (.int p1)] [])) t
      refine XS.iloadN X0.here hx rfl (hb hby d1_8) rfl ?_
      show Steps p.tables e below (s₁.setTop (mkF m 9 #[.val (.int p1)] [(.int p1)])) t
      refine XS.iconst X0.here hx rfl (hb hby d1_9) ?_
      exact k
    by_cases hc10_3 : p1 = (1 : Int32)
    · refine own_go (B := s₁.setTop (mkF m 13 #[.val (.int p1)] [])) (fun t k => ?_) ?_
      · show Steps p.tables e below (s₁.setTop (mkF m 10 #[.val (.int p1)] [(.int (1 : Int32)), (.int p1)])) t
        refine XS.icmpNo X0.here hx rfl (hb hby d1_10) rfl (teq hc10_3).2 ?_
        exact k
      obtain ⟨T4, X4, e4, st4⟩ := getS2 X0 hx hZ hown (host := "") (Or.inl (hw _ (List.mem_of_getElem? (i := 48) rfl))) Via.refl e0 S1 (g := (mkF m 13 #[.val (.int p1)] [])) rfl (hb hby d1_13)
      refine own_go (fun t k => st4 t k) ?_
      obtain ⟨fs, hr, hrun, hended, hW, hsame⟩ := X4.leave (v := some (.ref t1)) (fun h => by rw [Bd.returns] at h; cases h)
      refine ⟨_, _, ?_, hrun, hended, _, _, rfl, ?_, ⟨_, rfl⟩, hW, hsame.mono (by decide) (by decide)⟩
      · show Steps p.tables e below (T4.setTop (mkF m 16 #[.val (.int p1)] [(.ref t1)])) _
        jvm_step X4.here [X4.here.top, hx, (hb hby d1_16), X4.method', Bd.returns, Value.isRef, FieldType.isReference]
        first | (intro acts; rw [hr _ acts rfl rfl rfl]) | rw [hr _ _ rfl rfl rfl]
        exact Steps.refl _
      · show Q1 Z p1 t0 t1 t2 t3 t4 t5 t6 t7 t8 t9 h0 n0 _ T4.heap _
        rw [e4]
        exact ⟨_, rfl, N0, rfl, by rw [if_neg hc1_1, if_pos hc10_3]⟩
    · refine own_go (B := s₁.setTop (mkF m 17 #[.val (.int p1)] [])) (fun t k => ?_) ?_
      · show Steps p.tables e below (s₁.setTop (mkF m 10 #[.val (.int p1)] [(.int (1 : Int32)), (.int p1)])) t
        refine XS.icmpYes X0.here hx rfl (pc0 := 10) (pc' := 17) rfl (hb hby d1_10) rfl (feq hc10_3).2 (by decide) (by decide) ?_
        exact k
      refine own_go (B := s₁.setTop (mkF m 19 #[.val (.int p1)] [(.int (2 : Int32)), (.int p1)])) (fun t k => ?_) ?_
      · show Steps p.tables e below (s₁.setTop (mkF m 17 #[.val (.int p1)] [])) t
        refine XS.iloadN X0.here hx rfl (hb hby d1_17) rfl ?_
        show Steps p.tables e below (s₁.setTop (mkF m 18 #[.val (.int p1)] [(.int p1)])) t
        refine XS.iconst X0.here hx rfl (hb hby d1_18) ?_
        exact k
      by_cases hc19_5 : p1 = (2 : Int32)
      · refine own_go (B := s₁.setTop (mkF m 22 #[.val (.int p1)] [])) (fun t k => ?_) ?_
        · show Steps p.tables e below (s₁.setTop (mkF m 19 #[.val (.int p1)] [(.int (2 : Int32)), (.int p1)])) t
          refine XS.icmpNo X0.here hx rfl (hb hby d1_19) rfl (teq hc19_5).2 ?_
          exact k
        obtain ⟨T6, X6, e6, st6⟩ := getS2 X0 hx hZ hown (host := "") (Or.inl (hw _ (List.mem_of_getElem? (i := 53) rfl))) Via.refl e0 S2 (g := (mkF m 22 #[.val (.int p1)] [])) rfl (hb hby d1_22)
        refine own_go (fun t k => st6 t k) ?_
        obtain ⟨fs, hr, hrun, hended, hW, hsame⟩ := X6.leave (v := some (.ref t2)) (fun h => by rw [Bd.returns] at h; cases h)
        refine ⟨_, _, ?_, hrun, hended, _, _, rfl, ?_, ⟨_, rfl⟩, hW, hsame.mono (by decide) (by decide)⟩
        · show Steps p.tables e below (T6.setTop (mkF m 25 #[.val (.int p1)] [(.ref t2)])) _
          jvm_step X6.here [X6.here.top, hx, (hb hby d1_25), X6.method', Bd.returns, Value.isRef, FieldType.isReference]
          first | (intro acts; rw [hr _ acts rfl rfl rfl]) | rw [hr _ _ rfl rfl rfl]
          exact Steps.refl _
        · show Q1 Z p1 t0 t1 t2 t3 t4 t5 t6 t7 t8 t9 h0 n0 _ T6.heap _
          rw [e6]
          exact ⟨_, rfl, N0, rfl, by rw [if_neg hc1_1, if_neg hc10_3, if_pos hc19_5]⟩
      · refine own_go (B := s₁.setTop (mkF m 26 #[.val (.int p1)] [])) (fun t k => ?_) ?_
        · show Steps p.tables e below (s₁.setTop (mkF m 19 #[.val (.int p1)] [(.int (2 : Int32)), (.int p1)])) t
          refine XS.icmpYes X0.here hx rfl (pc0 := 19) (pc' := 26) rfl (hb hby d1_19) rfl (feq hc19_5).2 (by decide) (by decide) ?_
          exact k
        refine own_go (B := s₁.setTop (mkF m 28 #[.val (.int p1)] [(.int (3 : Int32)), (.int p1)])) (fun t k => ?_) ?_
        · show Steps p.tables e below (s₁.setTop (mkF m 26 #[.val (.int p1)] [])) t
          refine XS.iloadN X0.here hx rfl (hb hby d1_26) rfl ?_
          show Steps p.tables e below (s₁.setTop (mkF m 27 #[.val (.int p1)] [(.int p1)])) t
          refine XS.iconst X0.here hx rfl (hb hby d1_27) ?_
          exact k
        by_cases hc28_7 : p1 = (3 : Int32)
        · refine own_go (B := s₁.setTop (mkF m 31 #[.val (.int p1)] [])) (fun t k => ?_) ?_
          · show Steps p.tables e below (s₁.setTop (mkF m 28 #[.val (.int p1)] [(.int (3 : Int32)), (.int p1)])) t
            refine XS.icmpNo X0.here hx rfl (hb hby d1_28) rfl (teq hc28_7).2 ?_
            exact k
          obtain ⟨T8, X8, e8, st8⟩ := getS2 X0 hx hZ hown (host := "") (Or.inl (hw _ (List.mem_of_getElem? (i := 42) rfl))) Via.refl e0 S3 (g := (mkF m 31 #[.val (.int p1)] [])) rfl (hb hby d1_31)
          refine own_go (fun t k => st8 t k) ?_
          obtain ⟨fs, hr, hrun, hended, hW, hsame⟩ := X8.leave (v := some (.ref t3)) (fun h => by rw [Bd.returns] at h; cases h)
          refine ⟨_, _, ?_, hrun, hended, _, _, rfl, ?_, ⟨_, rfl⟩, hW, hsame.mono (by decide) (by decide)⟩
          · show Steps p.tables e below (T8.setTop (mkF m 34 #[.val (.int p1)] [(.ref t3)])) _
            jvm_step X8.here [X8.here.top, hx, (hb hby d1_34), X8.method', Bd.returns, Value.isRef, FieldType.isReference]
            first | (intro acts; rw [hr _ acts rfl rfl rfl]) | rw [hr _ _ rfl rfl rfl]
            exact Steps.refl _
          · show Q1 Z p1 t0 t1 t2 t3 t4 t5 t6 t7 t8 t9 h0 n0 _ T8.heap _
            rw [e8]
            exact ⟨_, rfl, N0, rfl, by rw [if_neg hc1_1, if_neg hc10_3, if_neg hc19_5, if_pos hc28_7]⟩
        · refine own_go (B := s₁.setTop (mkF m 35 #[.val (.int p1)] [])) (fun t k => ?_) ?_
          · show Steps p.tables e below (s₁.setTop (mkF m 28 #[.val (.int p1)] [(.int (3 : Int32)), (.int p1)])) t
            refine XS.icmpYes X0.here hx rfl (pc0 := 28) (pc' := 35) rfl (hb hby d1_28) rfl (feq hc28_7).2 (by decide) (by decide) ?_
            exact k
          refine own_go (B := s₁.setTop (mkF m 37 #[.val (.int p1)] [(.int (4 : Int32)), (.int p1)])) (fun t k => ?_) ?_
          · show Steps p.tables e below (s₁.setTop (mkF m 35 #[.val (.int p1)] [])) t
            refine XS.iloadN X0.here hx rfl (hb hby d1_35) rfl ?_
            show Steps p.tables e below (s₁.setTop (mkF m 36 #[.val (.int p1)] [(.int p1)])) t
            refine XS.iconst X0.here hx rfl (hb hby d1_36) ?_
            exact k
          by_cases hc37_9 : p1 = (4 : Int32)
          · refine own_go (B := s₁.setTop (mkF m 40 #[.val (.int p1)] [])) (fun t k => ?_) ?_
            · show Steps p.tables e below (s₁.setTop (mkF m 37 #[.val (.int p1)] [(.int (4 : Int32)), (.int p1)])) t
              refine XS.icmpNo X0.here hx rfl (hb hby d1_37) rfl (teq hc37_9).2 ?_
              exact k
            obtain ⟨T10, X10, e10, st10⟩ := getS2 X0 hx hZ hown (host := "") (Or.inl (hw _ (List.mem_of_getElem? (i := 49) rfl))) Via.refl e0 S4 (g := (mkF m 40 #[.val (.int p1)] [])) rfl (hb hby d1_40)
            refine own_go (fun t k => st10 t k) ?_
            obtain ⟨fs, hr, hrun, hended, hW, hsame⟩ := X10.leave (v := some (.ref t4)) (fun h => by rw [Bd.returns] at h; cases h)
            refine ⟨_, _, ?_, hrun, hended, _, _, rfl, ?_, ⟨_, rfl⟩, hW, hsame.mono (by decide) (by decide)⟩
            · show Steps p.tables e below (T10.setTop (mkF m 43 #[.val (.int p1)] [(.ref t4)])) _
              jvm_step X10.here [X10.here.top, hx, (hb hby d1_43), X10.method', Bd.returns, Value.isRef, FieldType.isReference]
              first | (intro acts; rw [hr _ acts rfl rfl rfl]) | rw [hr _ _ rfl rfl rfl]
              exact Steps.refl _
            · show Q1 Z p1 t0 t1 t2 t3 t4 t5 t6 t7 t8 t9 h0 n0 _ T10.heap _
              rw [e10]
              exact ⟨_, rfl, N0, rfl, by rw [if_neg hc1_1, if_neg hc10_3, if_neg hc19_5, if_neg hc28_7, if_pos hc37_9]⟩
          · refine own_go (B := s₁.setTop (mkF m 44 #[.val (.int p1)] [])) (fun t k => ?_) ?_
            · show Steps p.tables e below (s₁.setTop (mkF m 37 #[.val (.int p1)] [(.int (4 : Int32)), (.int p1)])) t
              refine XS.icmpYes X0.here hx rfl (pc0 := 37) (pc' := 44) rfl (hb hby d1_37) rfl (feq hc37_9).2 (by decide) (by decide) ?_
              exact k
            refine own_go (B := s₁.setTop (mkF m 46 #[.val (.int p1)] [(.int (5 : Int32)), (.int p1)])) (fun t k => ?_) ?_
            · show Steps p.tables e below (s₁.setTop (mkF m 44 #[.val (.int p1)] [])) t
              refine XS.iloadN X0.here hx rfl (hb hby d1_44) rfl ?_
              show Steps p.tables e below (s₁.setTop (mkF m 45 #[.val (.int p1)] [(.int p1)])) t
              refine XS.iconst X0.here hx rfl (hb hby d1_45) ?_
              exact k
            by_cases hc46_11 : p1 = (5 : Int32)
            · refine own_go (B := s₁.setTop (mkF m 49 #[.val (.int p1)] [])) (fun t k => ?_) ?_
              · show Steps p.tables e below (s₁.setTop (mkF m 46 #[.val (.int p1)] [(.int (5 : Int32)), (.int p1)])) t
                refine XS.icmpNo X0.here hx rfl (hb hby d1_46) rfl (teq hc46_11).2 ?_
                exact k
              obtain ⟨T12, X12, e12, st12⟩ := getS2 X0 hx hZ hown (host := "") (Or.inl (hw _ (List.mem_of_getElem? (i := 58) rfl))) Via.refl e0 S5 (g := (mkF m 49 #[.val (.int p1)] [])) rfl (hb hby d1_49)
              refine own_go (fun t k => st12 t k) ?_
              obtain ⟨fs, hr, hrun, hended, hW, hsame⟩ := X12.leave (v := some (.ref t5)) (fun h => by rw [Bd.returns] at h; cases h)
              refine ⟨_, _, ?_, hrun, hended, _, _, rfl, ?_, ⟨_, rfl⟩, hW, hsame.mono (by decide) (by decide)⟩
              · show Steps p.tables e below (T12.setTop (mkF m 52 #[.val (.int p1)] [(.ref t5)])) _
                jvm_step X12.here [X12.here.top, hx, (hb hby d1_52), X12.method', Bd.returns, Value.isRef, FieldType.isReference]
                first | (intro acts; rw [hr _ acts rfl rfl rfl]) | rw [hr _ _ rfl rfl rfl]
                exact Steps.refl _
              · show Q1 Z p1 t0 t1 t2 t3 t4 t5 t6 t7 t8 t9 h0 n0 _ T12.heap _
                rw [e12]
                exact ⟨_, rfl, N0, rfl, by rw [if_neg hc1_1, if_neg hc10_3, if_neg hc19_5, if_neg hc28_7, if_neg hc37_9, if_pos hc46_11]⟩
            · refine own_go (B := s₁.setTop (mkF m 53 #[.val (.int p1)] [])) (fun t k => ?_) ?_
              · show Steps p.tables e below (s₁.setTop (mkF m 46 #[.val (.int p1)] [(.int (5 : Int32)), (.int p1)])) t
                refine XS.icmpYes X0.here hx rfl (pc0 := 46) (pc' := 53) rfl (hb hby d1_46) rfl (feq hc46_11).2 (by decide) (by decide) ?_
                exact k
              refine own_go (B := s₁.setTop (mkF m 56 #[.val (.int p1)] [(.int (6 : Int32)), (.int p1)])) (fun t k => ?_) ?_
              · show Steps p.tables e below (s₁.setTop (mkF m 53 #[.val (.int p1)] [])) t
                refine XS.iloadN X0.here hx rfl (hb hby d1_53) rfl ?_
                show Steps p.tables e below (s₁.setTop (mkF m 54 #[.val (.int p1)] [(.int p1)])) t
                refine XS.bipush X0.here hx rfl (hb hby d1_54) ?_
                exact k
              by_cases hc56_13 : p1 = (6 : Int32)
              · refine own_go (B := s₁.setTop (mkF m 59 #[.val (.int p1)] [])) (fun t k => ?_) ?_
                · show Steps p.tables e below (s₁.setTop (mkF m 56 #[.val (.int p1)] [(.int (6 : Int32)), (.int p1)])) t
                  refine XS.icmpNo X0.here hx rfl (hb hby d1_56) rfl (teq hc56_13).2 ?_
                  exact k
                obtain ⟨T14, X14, e14, st14⟩ := getS2 X0 hx hZ hown (host := "") (Or.inl (hw _ (List.mem_of_getElem? (i := 60) rfl))) Via.refl e0 S6 (g := (mkF m 59 #[.val (.int p1)] [])) rfl (hb hby d1_59)
                refine own_go (fun t k => st14 t k) ?_
                obtain ⟨fs, hr, hrun, hended, hW, hsame⟩ := X14.leave (v := some (.ref t6)) (fun h => by rw [Bd.returns] at h; cases h)
                refine ⟨_, _, ?_, hrun, hended, _, _, rfl, ?_, ⟨_, rfl⟩, hW, hsame.mono (by decide) (by decide)⟩
                · show Steps p.tables e below (T14.setTop (mkF m 62 #[.val (.int p1)] [(.ref t6)])) _
                  jvm_step X14.here [X14.here.top, hx, (hb hby d1_62), X14.method', Bd.returns, Value.isRef, FieldType.isReference]
                  first | (intro acts; rw [hr _ acts rfl rfl rfl]) | rw [hr _ _ rfl rfl rfl]
                  exact Steps.refl _
                · show Q1 Z p1 t0 t1 t2 t3 t4 t5 t6 t7 t8 t9 h0 n0 _ T14.heap _
                  rw [e14]
                  exact ⟨_, rfl, N0, rfl, by rw [if_neg hc1_1, if_neg hc10_3, if_neg hc19_5, if_neg hc28_7, if_neg hc37_9, if_neg hc46_11, if_pos hc56_13]⟩
              · refine own_go (B := s₁.setTop (mkF m 63 #[.val (.int p1)] [])) (fun t k => ?_) ?_
                · show Steps p.tables e below (s₁.setTop (mkF m 56 #[.val (.int p1)] [(.int (6 : Int32)), (.int p1)])) t
                  refine XS.icmpYes X0.here hx rfl (pc0 := 56) (pc' := 63) rfl (hb hby d1_56) rfl (feq hc56_13).2 (by decide) (by decide) ?_
                  exact k
                refine own_go (B := s₁.setTop (mkF m 66 #[.val (.int p1)] [(.int (7 : Int32)), (.int p1)])) (fun t k => ?_) ?_
                · show Steps p.tables e below (s₁.setTop (mkF m 63 #[.val (.int p1)] [])) t
                  refine XS.iloadN X0.here hx rfl (hb hby d1_63) rfl ?_
                  show Steps p.tables e below (s₁.setTop (mkF m 64 #[.val (.int p1)] [(.int p1)])) t
                  refine XS.bipush X0.here hx rfl (hb hby d1_64) ?_
                  exact k
                by_cases hc66_15 : p1 = (7 : Int32)
                · refine own_go (B := s₁.setTop (mkF m 69 #[.val (.int p1)] [])) (fun t k => ?_) ?_
                  · show Steps p.tables e below (s₁.setTop (mkF m 66 #[.val (.int p1)] [(.int (7 : Int32)), (.int p1)])) t
                    refine XS.icmpNo X0.here hx rfl (hb hby d1_66) rfl (teq hc66_15).2 ?_
                    exact k
                  obtain ⟨T16, X16, e16, st16⟩ := getS2 X0 hx hZ hown (host := "") (Or.inl (hw _ (List.mem_of_getElem? (i := 51) rfl))) Via.refl e0 S7 (g := (mkF m 69 #[.val (.int p1)] [])) rfl (hb hby d1_69)
                  refine own_go (fun t k => st16 t k) ?_
                  obtain ⟨fs, hr, hrun, hended, hW, hsame⟩ := X16.leave (v := some (.ref t7)) (fun h => by rw [Bd.returns] at h; cases h)
                  refine ⟨_, _, ?_, hrun, hended, _, _, rfl, ?_, ⟨_, rfl⟩, hW, hsame.mono (by decide) (by decide)⟩
                  · show Steps p.tables e below (T16.setTop (mkF m 72 #[.val (.int p1)] [(.ref t7)])) _
                    jvm_step X16.here [X16.here.top, hx, (hb hby d1_72), X16.method', Bd.returns, Value.isRef, FieldType.isReference]
                    first | (intro acts; rw [hr _ acts rfl rfl rfl]) | rw [hr _ _ rfl rfl rfl]
                    exact Steps.refl _
                  · show Q1 Z p1 t0 t1 t2 t3 t4 t5 t6 t7 t8 t9 h0 n0 _ T16.heap _
                    rw [e16]
                    exact ⟨_, rfl, N0, rfl, by rw [if_neg hc1_1, if_neg hc10_3, if_neg hc19_5, if_neg hc28_7, if_neg hc37_9, if_neg hc46_11, if_neg hc56_13, if_pos hc66_15]⟩
                · refine own_go (B := s₁.setTop (mkF m 73 #[.val (.int p1)] [])) (fun t k => ?_) ?_
                  · show Steps p.tables e below (s₁.setTop (mkF m 66 #[.val (.int p1)] [(.int (7 : Int32)), (.int p1)])) t
                    refine XS.icmpYes X0.here hx rfl (pc0 := 66) (pc' := 73) rfl (hb hby d1_66) rfl (feq hc66_15).2 (by decide) (by decide) ?_
                    exact k
                  refine own_go (B := s₁.setTop (mkF m 76 #[.val (.int p1)] [(.int (8 : Int32)), (.int p1)])) (fun t k => ?_) ?_
                  · show Steps p.tables e below (s₁.setTop (mkF m 73 #[.val (.int p1)] [])) t
                    refine XS.iloadN X0.here hx rfl (hb hby d1_73) rfl ?_
                    show Steps p.tables e below (s₁.setTop (mkF m 74 #[.val (.int p1)] [(.int p1)])) t
                    refine XS.bipush X0.here hx rfl (hb hby d1_74) ?_
                    exact k
                  by_cases hc76_17 : p1 = (8 : Int32)
                  · refine own_go (B := s₁.setTop (mkF m 79 #[.val (.int p1)] [])) (fun t k => ?_) ?_
                    · show Steps p.tables e below (s₁.setTop (mkF m 76 #[.val (.int p1)] [(.int (8 : Int32)), (.int p1)])) t
                      refine XS.icmpNo X0.here hx rfl (hb hby d1_76) rfl (teq hc76_17).2 ?_
                      exact k
                    obtain ⟨T18, X18, e18, st18⟩ := getS2 X0 hx hZ hown (host := "") (Or.inl (hw _ (List.mem_of_getElem? (i := 54) rfl))) Via.refl e0 S8 (g := (mkF m 79 #[.val (.int p1)] [])) rfl (hb hby d1_79)
                    refine own_go (fun t k => st18 t k) ?_
                    obtain ⟨fs, hr, hrun, hended, hW, hsame⟩ := X18.leave (v := some (.ref t8)) (fun h => by rw [Bd.returns] at h; cases h)
                    refine ⟨_, _, ?_, hrun, hended, _, _, rfl, ?_, ⟨_, rfl⟩, hW, hsame.mono (by decide) (by decide)⟩
                    · show Steps p.tables e below (T18.setTop (mkF m 82 #[.val (.int p1)] [(.ref t8)])) _
                      jvm_step X18.here [X18.here.top, hx, (hb hby d1_82), X18.method', Bd.returns, Value.isRef, FieldType.isReference]
                      first | (intro acts; rw [hr _ acts rfl rfl rfl]) | rw [hr _ _ rfl rfl rfl]
                      exact Steps.refl _
                    · show Q1 Z p1 t0 t1 t2 t3 t4 t5 t6 t7 t8 t9 h0 n0 _ T18.heap _
                      rw [e18]
                      exact ⟨_, rfl, N0, rfl, by rw [if_neg hc1_1, if_neg hc10_3, if_neg hc19_5, if_neg hc28_7, if_neg hc37_9, if_neg hc46_11, if_neg hc56_13, if_neg hc66_15, if_pos hc76_17]⟩
                  · refine own_go (B := s₁.setTop (mkF m 83 #[.val (.int p1)] [])) (fun t k => ?_) ?_
                    · show Steps p.tables e below (s₁.setTop (mkF m 76 #[.val (.int p1)] [(.int (8 : Int32)), (.int p1)])) t
                      refine XS.icmpYes X0.here hx rfl (pc0 := 76) (pc' := 83) rfl (hb hby d1_76) rfl (feq hc76_17).2 (by decide) (by decide) ?_
                      exact k
                    obtain ⟨T19, X19, e19, st19⟩ := getS2 X0 hx hZ hown (host := "") (Or.inl (hw _ (List.mem_of_getElem? (i := 56) rfl))) Via.refl e0 S9 (g := (mkF m 83 #[.val (.int p1)] [])) rfl (hb hby d1_83)
                    refine own_go (fun t k => st19 t k) ?_
                    obtain ⟨fs, hr, hrun, hended, hW, hsame⟩ := X19.leave (v := some (.ref t9)) (fun h => by rw [Bd.returns] at h; cases h)
                    refine ⟨_, _, ?_, hrun, hended, _, _, rfl, ?_, ⟨_, rfl⟩, hW, hsame.mono (by decide) (by decide)⟩
                    · show Steps p.tables e below (T19.setTop (mkF m 86 #[.val (.int p1)] [(.ref t9)])) _
                      jvm_step X19.here [X19.here.top, hx, (hb hby d1_86), X19.method', Bd.returns, Value.isRef, FieldType.isReference]
                      first | (intro acts; rw [hr _ acts rfl rfl rfl]) | rw [hr _ _ rfl rfl rfl]
                      exact Steps.refl _
                    · show Q1 Z p1 t0 t1 t2 t3 t4 t5 t6 t7 t8 t9 h0 n0 _ T19.heap _
                      rw [e19]
                      exact ⟨_, rfl, N0, rfl, by rw [if_neg hc1_1, if_neg hc10_3, if_neg hc19_5, if_neg hc28_7, if_neg hc37_9, if_neg hc46_11, if_neg hc56_13, if_neg hc66_15, if_neg hc76_17]⟩
theorem d2_0 : decode prog_44_method_10_code 0 = .ok (.aload_n 0, 1) := by decide +kernel
theorem d2_1 : decode prog_44_method_10_code 1 = .ok (.getstatic 3, 3) := by decide +kernel
theorem d2_4 : decode prog_44_method_10_code 4 = .ok (.if_acmp .eq 17, 3) := by decide +kernel
theorem d2_7 : decode prog_44_method_10_code 7 = .ok (.aload_n 0, 1) := by decide +kernel
theorem d2_8 : decode prog_44_method_10_code 8 = .ok (.getstatic 7, 3) := by decide +kernel
theorem d2_11 : decode prog_44_method_10_code 11 = .ok (.if_acmp .eq 10, 3) := by decide +kernel
theorem d2_14 : decode prog_44_method_10_code 14 = .ok (.aload_n 0, 1) := by decide +kernel
theorem d2_15 : decode prog_44_method_10_code 15 = .ok (.getstatic 10, 3) := by decide +kernel
theorem d2_18 : decode prog_44_method_10_code 18 = .ok (.if_acmp .ne 7, 3) := by decide +kernel
theorem d2_21 : decode prog_44_method_10_code 21 = .ok (.iconst 1, 1) := by decide +kernel
theorem d2_22 : decode prog_44_method_10_code 22 = .ok (.goto 4, 3) := by decide +kernel
theorem d2_25 : decode prog_44_method_10_code 25 = .ok (.iconst 0, 1) := by decide +kernel
theorem d2_26 : decode prog_44_method_10_code 26 = .ok (.ireturn, 1) := by decide +kernel
theorem pn_rm2 : plainName "com/example/wary_mutex/warymutex/protocol/Message$Type" = true := by first | (simp [plainName, overriddenIn]; done) | decide +kernel
theorem ef_rm2 (m : MethodId) (x0 : Addr) : entryFrame m #[(.ref x0)] 1 = mkF m 0 #[.val (.ref x0)] [] := by first | (simp [entryFrame, mkF, argsToLocals, Value.category]; done) | rfl
def Q2 (Z : State) (a1 : Addr) (t0 : Addr) (t1 : Addr) (t2 : Addr) (h0 : Heap) (n0 : Nat) (v : Option Value) (h : Heap) (L : List Loc) : Prop := ∃ r : Int32, v = some (.int r) ∧ Fr n0 L ∧ h = h0 ∧ r = (if a1 = t0 then (1 : Int32) else (if a1 = t1 then (1 : Int32) else (if a1 = t2 then (1 : Int32) else (0 : Int32))))
set_option maxRecDepth 65536 in
set_option maxHeartbeats 40000000 in
theorem rm2 (l : Launch) (Z : State) (a0 : Array Value) (hw : ∀ d ∈ tables_1, d.before a0 Z = true) (ws : List Jvm.Cond) (a1 : Addr) (t0 : Addr) (t1 : Addr) (t2 : Addr) (h0 : Heap) (n0 : Nat) (Z0 : n0 ≤ h0.size) (S0 : Sta Z h0 "com/example/wary_mutex/warymutex/protocol/Message$Type" "REQUEST" "Lcom/example/wary_mutex/warymutex/protocol/Message$Type;" (.ref t0)) (S1 : Sta Z h0 "com/example/wary_mutex/warymutex/protocol/Message$Type" "YIELD" "Lcom/example/wary_mutex/warymutex/protocol/Message$Type;" (.ref t1)) (S2 : Sta Z h0 "com/example/wary_mutex/warymutex/protocol/Message$Type" "INQUIRY" "Lcom/example/wary_mutex/warymutex/protocol/Message$Type;" (.ref t2)) :
    MetFree l (⟨"com/example/wary_mutex/warymutex/protocol/Message$Type", "question", "()Z"⟩ : MethodName) (head1 (Jvm.Cond.code (⟨"com/example/wary_mutex/warymutex/protocol/Message$Type", "question", "()Z"⟩ : MethodName) prog_44_method_10_code 1 (some .boolean) :: ws) ({ frames := 0, cells := 0, slots := 0, locals := 0 } : Room)) (fun a U => a = #[(.ref a1)] ∧ Z.Warmed39 U.vm ∧ U.heap = h0) (fun _ _ _ _ _ => True) (fun _ U o U' => ∃ v L, o = .returned v ∧ Q2 Z a1 t0 t1 t2 h0 n0 v U'.heap L ∧ FrameEnd U o U' L ({ frames := 0, cells := 0, slots := 0, locals := 0 } : Room).cells ({ frames := 0, cells := 0, slots := 0, locals := 0 } : Room).slots) := by
  refine MetFree.of_bodySF (plainFor_of_name pn_rm2) hisR ?_
  intro p e s m args below meth c s₁ Bd hml0 hP hK
  obtain ⟨rfl, hZ, hh⟩ := hP
  have hx := Bd.exec
  have hby := Bd.bytes
  have hml : c.maxLocals = 1 := hml0
  have hown : s.vm.findClass "com/example/wary_mutex/warymutex/protocol/Message$Type" = some m.cls := findClass_of_methodNamed Bd.named
  have hnm := (name_of_methodNamed Bd.named Bd.method).1
  have X0 : Stand p l e ({ frames := 0, cells := 0, slots := 0, locals := 0 } : Room) s m #[(.ref a1)] below meth c s₁ [] 0 0 := Stand.of_body Bd
  have e0 : s₁.heap = h0 := by rw [← hh, Bd.state]; rfl
  have N0 := Fr.nil n0
  have pre0 : ∀ t, Steps p.tables e below (s₁.setTop (mkF m 0 #[.val (.ref a1)] [])) t → Steps p.tables e below (s₁.setTop (entryFrame m #[(.ref a1)] 1)) t := fun t k => castTop (ef_rm2 m a1) k
  show own_Fin p e below _ _
  refine own_go pre0 ?_
  refine own_go (B := s₁.setTop (mkF m 1 #[.val (.ref a1)] [(.ref a1)])) (fun t k => ?_) ?_
  · show Steps p.tables e below (s₁.setTop (mkF m 0 #[.val (.ref a1)] [])) t
    refine XS.aloadN X0.here hx rfl (hb hby d2_0) rfl rfl ?_
    exact k
  obtain ⟨T1, X1, e1, st1⟩ := getS2 X0 hx hZ hown (host := "") (Or.inl (hw _ (List.mem_of_getElem? (i := 13) rfl))) Via.refl e0 S0 (g := (mkF m 1 #[.val (.ref a1)] [(.ref a1)])) rfl (hb hby d2_1)
  refine own_go (fun t k => st1 t k) ?_
  by_cases hc4_2 : a1 = t0
  · refine own_go (B := T1.setTop (mkF m 21 #[.val (.ref a1)] [])) (fun t k => ?_) ?_
    · show Steps p.tables e below (T1.setTop (mkF m 4 #[.val (.ref a1)] [(.ref t0), (.ref a1)])) t
      refine Jvm.RoadKit.acmp (g := (mkF m 4 #[.val (.ref a1)] [(.ref t0), (.ref a1)])) X1 hx rfl rfl rfl (pc0 := 4) (pc' := 21) (same := true) rfl (hb hby d2_4) rfl (decide_eq_true (congrArg Value.ref hc4_2)) (by decide) (by decide) ?_
      exact k
    refine own_go (B := T1.setTop (mkF m 26 #[.val (.ref a1)] [(.int (1 : Int32))])) (fun t k => ?_) ?_
    · show Steps p.tables e below (T1.setTop (mkF m 21 #[.val (.ref a1)] [])) t
      refine XS.iconst X1.here hx rfl (hb hby d2_21) ?_
      show Steps p.tables e below (T1.setTop (mkF m 22 #[.val (.ref a1)] [(.int (1 : Int32))])) t
      refine XS.goto X1.here hx rfl (pc0 := 22) (pc' := 26) rfl (hb hby d2_22) (by decide) (by decide) ?_
      exact k
    obtain ⟨fs, hr, hrun, hended, hW, hsame⟩ := X1.leave (v := some (.int (1 : Int32))) (fun h => by rw [Bd.returns] at h; cases h)
    refine ⟨_, _, ?_, hrun, hended, _, _, rfl, ?_, ⟨_, rfl⟩, hW, hsame.mono (by decide) (by decide)⟩
    · show Steps p.tables e below (T1.setTop (mkF m 26 #[.val (.ref a1)] [(.int (1 : Int32))])) _
      exact retN X1 hx (t := .boolean) Bd.returns (by simp) (hb hby d2_26) hr
    · show Q2 Z a1 t0 t1 t2 h0 n0 _ T1.heap _
      rw [e1]
      exact ⟨_, rfl, N0, rfl, by rw [if_pos hc4_2]⟩
  · refine own_go (B := T1.setTop (mkF m 7 #[.val (.ref a1)] [])) (fun t k => ?_) ?_
    · show Steps p.tables e below (T1.setTop (mkF m 4 #[.val (.ref a1)] [(.ref t0), (.ref a1)])) t
      refine Jvm.RoadKit.acmp (g := (mkF m 4 #[.val (.ref a1)] [(.ref t0), (.ref a1)])) X1 hx rfl rfl rfl (pc0 := 4) (pc' := 7) (same := false) rfl (hb hby d2_4) rfl (decide_eq_false fun q => hc4_2 (Value.ref.inj q)) (by decide) (by decide) ?_
      exact k
    refine own_go (B := T1.setTop (mkF m 8 #[.val (.ref a1)] [(.ref a1)])) (fun t k => ?_) ?_
    · show Steps p.tables e below (T1.setTop (mkF m 7 #[.val (.ref a1)] [])) t
      refine XS.aloadN X1.here hx rfl (hb hby d2_7) rfl rfl ?_
      exact k
    obtain ⟨T3, X3, e3, st3⟩ := getS2 X1 hx hZ hown (host := "") (Or.inl (hw _ (List.mem_of_getElem? (i := 44) rfl))) Via.refl e1 S1 (g := (mkF m 8 #[.val (.ref a1)] [(.ref a1)])) rfl (hb hby d2_8)
    refine own_go (fun t k => st3 t k) ?_
    by_cases hc11_4 : a1 = t1
    · refine own_go (B := T3.setTop (mkF m 21 #[.val (.ref a1)] [])) (fun t k => ?_) ?_
      · show Steps p.tables e below (T3.setTop (mkF m 11 #[.val (.ref a1)] [(.ref t1), (.ref a1)])) t
        refine Jvm.RoadKit.acmp (g := (mkF m 11 #[.val (.ref a1)] [(.ref t1), (.ref a1)])) X3 hx rfl rfl rfl (pc0 := 11) (pc' := 21) (same := true) rfl (hb hby d2_11) rfl (decide_eq_true (congrArg Value.ref hc11_4)) (by decide) (by decide) ?_
        exact k
      refine own_go (B := T3.setTop (mkF m 26 #[.val (.ref a1)] [(.int (1 : Int32))])) (fun t k => ?_) ?_
      · show Steps p.tables e below (T3.setTop (mkF m 21 #[.val (.ref a1)] [])) t
        refine XS.iconst X3.here hx rfl (hb hby d2_21) ?_
        show Steps p.tables e below (T3.setTop (mkF m 22 #[.val (.ref a1)] [(.int (1 : Int32))])) t
        refine XS.goto X3.here hx rfl (pc0 := 22) (pc' := 26) rfl (hb hby d2_22) (by decide) (by decide) ?_
        exact k
      obtain ⟨fs, hr, hrun, hended, hW, hsame⟩ := X3.leave (v := some (.int (1 : Int32))) (fun h => by rw [Bd.returns] at h; cases h)
      refine ⟨_, _, ?_, hrun, hended, _, _, rfl, ?_, ⟨_, rfl⟩, hW, hsame.mono (by decide) (by decide)⟩
      · show Steps p.tables e below (T3.setTop (mkF m 26 #[.val (.ref a1)] [(.int (1 : Int32))])) _
        exact retN X3 hx (t := .boolean) Bd.returns (by simp) (hb hby d2_26) hr
      · show Q2 Z a1 t0 t1 t2 h0 n0 _ T3.heap _
        rw [e3]
        exact ⟨_, rfl, N0, rfl, by rw [if_neg hc4_2, if_pos hc11_4]⟩
    · refine own_go (B := T3.setTop (mkF m 14 #[.val (.ref a1)] [])) (fun t k => ?_) ?_
      · show Steps p.tables e below (T3.setTop (mkF m 11 #[.val (.ref a1)] [(.ref t1), (.ref a1)])) t
        refine Jvm.RoadKit.acmp (g := (mkF m 11 #[.val (.ref a1)] [(.ref t1), (.ref a1)])) X3 hx rfl rfl rfl (pc0 := 11) (pc' := 14) (same := false) rfl (hb hby d2_11) rfl (decide_eq_false fun q => hc11_4 (Value.ref.inj q)) (by decide) (by decide) ?_
        exact k
      refine own_go (B := T3.setTop (mkF m 15 #[.val (.ref a1)] [(.ref a1)])) (fun t k => ?_) ?_
      · show Steps p.tables e below (T3.setTop (mkF m 14 #[.val (.ref a1)] [])) t
        refine XS.aloadN X3.here hx rfl (hb hby d2_14) rfl rfl ?_
        exact k
      obtain ⟨T5, X5, e5, st5⟩ := getS2 X3 hx hZ hown (host := "") (Or.inl (hw _ (List.mem_of_getElem? (i := 46) rfl))) Via.refl e3 S2 (g := (mkF m 15 #[.val (.ref a1)] [(.ref a1)])) rfl (hb hby d2_15)
      refine own_go (fun t k => st5 t k) ?_
      by_cases hc18_6 : a1 = t2
      · refine own_go (B := T5.setTop (mkF m 21 #[.val (.ref a1)] [])) (fun t k => ?_) ?_
        · show Steps p.tables e below (T5.setTop (mkF m 18 #[.val (.ref a1)] [(.ref t2), (.ref a1)])) t
          refine Jvm.RoadKit.acmp (g := (mkF m 18 #[.val (.ref a1)] [(.ref t2), (.ref a1)])) X5 hx rfl rfl rfl (pc0 := 18) (pc' := 21) (same := true) rfl (hb hby d2_18) rfl (decide_eq_true (congrArg Value.ref hc18_6)) (by decide) (by decide) ?_
          exact k
        refine own_go (B := T5.setTop (mkF m 26 #[.val (.ref a1)] [(.int (1 : Int32))])) (fun t k => ?_) ?_
        · show Steps p.tables e below (T5.setTop (mkF m 21 #[.val (.ref a1)] [])) t
          refine XS.iconst X5.here hx rfl (hb hby d2_21) ?_
          show Steps p.tables e below (T5.setTop (mkF m 22 #[.val (.ref a1)] [(.int (1 : Int32))])) t
          refine XS.goto X5.here hx rfl (pc0 := 22) (pc' := 26) rfl (hb hby d2_22) (by decide) (by decide) ?_
          exact k
        obtain ⟨fs, hr, hrun, hended, hW, hsame⟩ := X5.leave (v := some (.int (1 : Int32))) (fun h => by rw [Bd.returns] at h; cases h)
        refine ⟨_, _, ?_, hrun, hended, _, _, rfl, ?_, ⟨_, rfl⟩, hW, hsame.mono (by decide) (by decide)⟩
        · show Steps p.tables e below (T5.setTop (mkF m 26 #[.val (.ref a1)] [(.int (1 : Int32))])) _
          exact retN X5 hx (t := .boolean) Bd.returns (by simp) (hb hby d2_26) hr
        · show Q2 Z a1 t0 t1 t2 h0 n0 _ T5.heap _
          rw [e5]
          exact ⟨_, rfl, N0, rfl, by rw [if_neg hc4_2, if_neg hc11_4, if_pos hc18_6]⟩
      · refine own_go (B := T5.setTop (mkF m 25 #[.val (.ref a1)] [])) (fun t k => ?_) ?_
        · show Steps p.tables e below (T5.setTop (mkF m 18 #[.val (.ref a1)] [(.ref t2), (.ref a1)])) t
          refine Jvm.RoadKit.acmp (g := (mkF m 18 #[.val (.ref a1)] [(.ref t2), (.ref a1)])) X5 hx rfl rfl rfl (pc0 := 18) (pc' := 25) (same := false) rfl (hb hby d2_18) rfl (decide_eq_false fun q => hc18_6 (Value.ref.inj q)) (by decide) (by decide) ?_
          exact k
        refine own_go (B := T5.setTop (mkF m 26 #[.val (.ref a1)] [(.int (0 : Int32))])) (fun t k => ?_) ?_
        · show Steps p.tables e below (T5.setTop (mkF m 25 #[.val (.ref a1)] [])) t
          refine XS.iconst X5.here hx rfl (hb hby d2_25) ?_
          exact k
        obtain ⟨fs, hr, hrun, hended, hW, hsame⟩ := X5.leave (v := some (.int (0 : Int32))) (fun h => by rw [Bd.returns] at h; cases h)
        refine ⟨_, _, ?_, hrun, hended, _, _, rfl, ?_, ⟨_, rfl⟩, hW, hsame.mono (by decide) (by decide)⟩
        · show Steps p.tables e below (T5.setTop (mkF m 26 #[.val (.ref a1)] [(.int (0 : Int32))])) _
          exact retN X5 hx (t := .boolean) Bd.returns (by simp) (hb hby d2_26) hr
        · show Q2 Z a1 t0 t1 t2 h0 n0 _ T5.heap _
          rw [e5]
          exact ⟨_, rfl, N0, rfl, by rw [if_neg hc4_2, if_neg hc11_4, if_neg hc18_6]⟩
theorem d3_0 : decode prog_44_method_6_code 0 = .ok (.aload_n 0, 1) := by decide +kernel
theorem d3_1 : decode prog_44_method_6_code 1 = .ok (.getfield 56, 3) := by decide +kernel
theorem d3_4 : decode prog_44_method_6_code 4 = .ok (.ireturn, 1) := by decide +kernel
theorem pn_rm3 : plainName "com/example/wary_mutex/warymutex/protocol/Message$Type" = true := by first | (simp [plainName, overriddenIn]; done) | decide +kernel
theorem ef_rm3 (m : MethodId) (x0 : Addr) : entryFrame m #[(.ref x0)] 1 = mkF m 0 #[.val (.ref x0)] [] := by first | (simp [entryFrame, mkF, argsToLocals, Value.category]; done) | rfl
def Q3 (Z : State) (a1 : Addr) (x : Int32) (h0 : Heap) (n0 : Nat) (v : Option Value) (h : Heap) (L : List Loc) : Prop := v = some (.int x) ∧ Fr n0 L ∧ h = h0
set_option maxRecDepth 65536 in
set_option maxHeartbeats 40000000 in
theorem rm3 (l : Launch) (Z : State) (a0 : Array Value) (hw : ∀ d ∈ tables_1, d.before a0 Z = true) (ws : List Jvm.Cond) (a1 : Addr) (x : Int32) (h0 : Heap) (n0 : Nat) (Z0 : n0 ≤ h0.size) (F : Fld Z h0 a1 "com/example/wary_mutex/warymutex/protocol/Message$Type" "code" "B" (.int x)) (hx0 : nar .byte x = x) :
    MetFree l (⟨"com/example/wary_mutex/warymutex/protocol/Message$Type", "code", "()B"⟩ : MethodName) (head1 (Jvm.Cond.code (⟨"com/example/wary_mutex/warymutex/protocol/Message$Type", "code", "()B"⟩ : MethodName) prog_44_method_6_code 1 (some .byte) :: ws) ({ frames := 0, cells := 0, slots := 0, locals := 0 } : Room)) (fun a U => a = #[(.ref a1)] ∧ Z.Warmed39 U.vm ∧ U.heap = h0) (fun _ _ _ _ _ => True) (fun _ U o U' => ∃ v L, o = .returned v ∧ Q3 Z a1 x h0 n0 v U'.heap L ∧ FrameEnd U o U' L ({ frames := 0, cells := 0, slots := 0, locals := 0 } : Room).cells ({ frames := 0, cells := 0, slots := 0, locals := 0 } : Room).slots) := by
  refine MetFree.of_bodySF (plainFor_of_name pn_rm3) hisR ?_
  intro p e s m args below meth c s₁ Bd hml0 hP hK
  obtain ⟨rfl, hZ, hh⟩ := hP
  have hx := Bd.exec
  have hby := Bd.bytes
  have hml : c.maxLocals = 1 := hml0
  have hown : s.vm.findClass "com/example/wary_mutex/warymutex/protocol/Message$Type" = some m.cls := findClass_of_methodNamed Bd.named
  have hnm := (name_of_methodNamed Bd.named Bd.method).1
  have X0 : Stand p l e ({ frames := 0, cells := 0, slots := 0, locals := 0 } : Room) s m #[(.ref a1)] below meth c s₁ [] 0 0 := Stand.of_body Bd
  have e0 : s₁.heap = h0 := by rw [← hh, Bd.state]; rfl
  have N0 := Fr.nil n0
  have pre0 : ∀ t, Steps p.tables e below (s₁.setTop (mkF m 0 #[.val (.ref a1)] [])) t → Steps p.tables e below (s₁.setTop (entryFrame m #[(.ref a1)] 1)) t := fun t k => castTop (ef_rm3 m a1) k
  show own_Fin p e below _ _
  refine own_go pre0 ?_
  refine own_go (B := s₁.setTop (mkF m 1 #[.val (.ref a1)] [(.ref a1)])) (fun t k => ?_) ?_
  · show Steps p.tables e below (s₁.setTop (mkF m 0 #[.val (.ref a1)] [])) t
    refine XS.aloadN X0.here hx rfl (hb hby d3_0) rfl rfl ?_
    exact k
  obtain ⟨T1, X1, e1, st1⟩ := getF X0 hx hZ hown (host := "") (Or.inl (hw _ (List.mem_of_getElem? (i := 19) rfl))) Via.refl e0 F (g := (mkF m 1 #[.val (.ref a1)] [(.ref a1)])) rfl rfl (hb hby d3_1)
  refine own_go (fun t k => st1 t k) ?_
  obtain ⟨fs, hr, hrun, hended, hW, hsame⟩ := X1.leave (v := some (.int (nar .byte x))) (fun h => by rw [Bd.returns] at h; cases h)
  refine ⟨_, _, ?_, hrun, hended, _, _, rfl, ?_, ⟨_, rfl⟩, hW, hsame.mono (by decide) (by decide)⟩
  · show Steps p.tables e below (T1.setTop (mkF m 4 #[.val (.ref a1)] [(.int x)])) _
    exact retN X1 hx (t := .byte) Bd.returns (by simp) (hb hby d3_4) hr
  · show Q3 Z a1 x h0 n0 _ T1.heap _
    rw [e1]
    exact ⟨by rw [hx0], N0, rfl⟩
theorem d4_0 : decode prog_44_method_7_code 0 = .ok (.aload_n 0, 1) := by decide +kernel
theorem d4_1 : decode prog_44_method_7_code 1 = .ok (.getfield 60, 3) := by decide +kernel
theorem d4_4 : decode prog_44_method_7_code 4 = .ok (.ireturn, 1) := by decide +kernel
theorem pn_rm4 : plainName "com/example/wary_mutex/warymutex/protocol/Message$Type" = true := by first | (simp [plainName, overriddenIn]; done) | decide +kernel
theorem ef_rm4 (m : MethodId) (x0 : Addr) : entryFrame m #[(.ref x0)] 1 = mkF m 0 #[.val (.ref x0)] [] := by first | (simp [entryFrame, mkF, argsToLocals, Value.category]; done) | rfl
def Q4 (Z : State) (a1 : Addr) (x : Int32) (h0 : Heap) (n0 : Nat) (v : Option Value) (h : Heap) (L : List Loc) : Prop := v = some (.int x) ∧ Fr n0 L ∧ h = h0
set_option maxRecDepth 65536 in
set_option maxHeartbeats 40000000 in
theorem rm4 (l : Launch) (Z : State) (a0 : Array Value) (hw : ∀ d ∈ tables_1, d.before a0 Z = true) (ws : List Jvm.Cond) (a1 : Addr) (x : Int32) (h0 : Heap) (n0 : Nat) (Z0 : n0 ≤ h0.size) (F : Fld Z h0 a1 "com/example/wary_mutex/warymutex/protocol/Message$Type" "fromClient" "Z" (.int x)) (hx0 : nar .boolean x = x) :
    MetFree l (⟨"com/example/wary_mutex/warymutex/protocol/Message$Type", "fromClient", "()Z"⟩ : MethodName) (head1 (Jvm.Cond.code (⟨"com/example/wary_mutex/warymutex/protocol/Message$Type", "fromClient", "()Z"⟩ : MethodName) prog_44_method_7_code 1 (some .boolean) :: ws) ({ frames := 0, cells := 0, slots := 0, locals := 0 } : Room)) (fun a U => a = #[(.ref a1)] ∧ Z.Warmed39 U.vm ∧ U.heap = h0) (fun _ _ _ _ _ => True) (fun _ U o U' => ∃ v L, o = .returned v ∧ Q4 Z a1 x h0 n0 v U'.heap L ∧ FrameEnd U o U' L ({ frames := 0, cells := 0, slots := 0, locals := 0 } : Room).cells ({ frames := 0, cells := 0, slots := 0, locals := 0 } : Room).slots) := by
  refine MetFree.of_bodySF (plainFor_of_name pn_rm4) hisR ?_
  intro p e s m args below meth c s₁ Bd hml0 hP hK
  obtain ⟨rfl, hZ, hh⟩ := hP
  have hx := Bd.exec
  have hby := Bd.bytes
  have hml : c.maxLocals = 1 := hml0
  have hown : s.vm.findClass "com/example/wary_mutex/warymutex/protocol/Message$Type" = some m.cls := findClass_of_methodNamed Bd.named
  have hnm := (name_of_methodNamed Bd.named Bd.method).1
  have X0 : Stand p l e ({ frames := 0, cells := 0, slots := 0, locals := 0 } : Room) s m #[(.ref a1)] below meth c s₁ [] 0 0 := Stand.of_body Bd
  have e0 : s₁.heap = h0 := by rw [← hh, Bd.state]; rfl
  have N0 := Fr.nil n0
  have pre0 : ∀ t, Steps p.tables e below (s₁.setTop (mkF m 0 #[.val (.ref a1)] [])) t → Steps p.tables e below (s₁.setTop (entryFrame m #[(.ref a1)] 1)) t := fun t k => castTop (ef_rm4 m a1) k
  show own_Fin p e below _ _
  refine own_go pre0 ?_
  refine own_go (B := s₁.setTop (mkF m 1 #[.val (.ref a1)] [(.ref a1)])) (fun t k => ?_) ?_
  · show Steps p.tables e below (s₁.setTop (mkF m 0 #[.val (.ref a1)] [])) t
    refine XS.aloadN X0.here hx rfl (hb hby d4_0) rfl rfl ?_
    exact k
  obtain ⟨T1, X1, e1, st1⟩ := getF X0 hx hZ hown (host := "") (Or.inl (hw _ (List.mem_of_getElem? (i := 26) rfl))) Via.refl e0 F (g := (mkF m 1 #[.val (.ref a1)] [(.ref a1)])) rfl rfl (hb hby d4_1)
  refine own_go (fun t k => st1 t k) ?_
  obtain ⟨fs, hr, hrun, hended, hW, hsame⟩ := X1.leave (v := some (.int (nar .boolean x))) (fun h => by rw [Bd.returns] at h; cases h)
  refine ⟨_, _, ?_, hrun, hended, _, _, rfl, ?_, ⟨_, rfl⟩, hW, hsame.mono (by decide) (by decide)⟩
  · show Steps p.tables e below (T1.setTop (mkF m 4 #[.val (.ref a1)] [(.int x)])) _
    exact retN X1 hx (t := .boolean) Bd.returns (by simp) (hb hby d4_4) hr
  · show Q4 Z a1 x h0 n0 _ T1.heap _
    rw [e1]
    exact ⟨by rw [hx0], N0, rfl⟩
theorem d5_0 : decode prog_44_method_8_code 0 = .ok (.aload_n 0, 1) := by decide +kernel
theorem d5_1 : decode prog_44_method_8_code 1 = .ok (.getfield 64, 3) := by decide +kernel
theorem d5_4 : decode prog_44_method_8_code 4 = .ok (.ireturn, 1) := by decide +kernel
theorem pn_rm5 : plainName "com/example/wary_mutex/warymutex/protocol/Message$Type" = true := by first | (simp [plainName, overriddenIn]; done) | decide +kernel
theorem ef_rm5 (m : MethodId) (x0 : Addr) : entryFrame m #[(.ref x0)] 1 = mkF m 0 #[.val (.ref x0)] [] := by first | (simp [entryFrame, mkF, argsToLocals, Value.category]; done) | rfl
def Q5 (Z : State) (a1 : Addr) (x : Int32) (h0 : Heap) (n0 : Nat) (v : Option Value) (h : Heap) (L : List Loc) : Prop := v = some (.int x) ∧ Fr n0 L ∧ h = h0
set_option maxRecDepth 65536 in
set_option maxHeartbeats 40000000 in
theorem rm5 (l : Launch) (Z : State) (a0 : Array Value) (hw : ∀ d ∈ tables_1, d.before a0 Z = true) (ws : List Jvm.Cond) (a1 : Addr) (x : Int32) (h0 : Heap) (n0 : Nat) (Z0 : n0 ≤ h0.size) (F : Fld Z h0 a1 "com/example/wary_mutex/warymutex/protocol/Message$Type" "numbered" "Z" (.int x)) (hx0 : nar .boolean x = x) :
    MetFree l (⟨"com/example/wary_mutex/warymutex/protocol/Message$Type", "numbered", "()Z"⟩ : MethodName) (head1 (Jvm.Cond.code (⟨"com/example/wary_mutex/warymutex/protocol/Message$Type", "numbered", "()Z"⟩ : MethodName) prog_44_method_8_code 1 (some .boolean) :: ws) ({ frames := 0, cells := 0, slots := 0, locals := 0 } : Room)) (fun a U => a = #[(.ref a1)] ∧ Z.Warmed39 U.vm ∧ U.heap = h0) (fun _ _ _ _ _ => True) (fun _ U o U' => ∃ v L, o = .returned v ∧ Q5 Z a1 x h0 n0 v U'.heap L ∧ FrameEnd U o U' L ({ frames := 0, cells := 0, slots := 0, locals := 0 } : Room).cells ({ frames := 0, cells := 0, slots := 0, locals := 0 } : Room).slots) := by
  refine MetFree.of_bodySF (plainFor_of_name pn_rm5) hisR ?_
  intro p e s m args below meth c s₁ Bd hml0 hP hK
  obtain ⟨rfl, hZ, hh⟩ := hP
  have hx := Bd.exec
  have hby := Bd.bytes
  have hml : c.maxLocals = 1 := hml0
  have hown : s.vm.findClass "com/example/wary_mutex/warymutex/protocol/Message$Type" = some m.cls := findClass_of_methodNamed Bd.named
  have hnm := (name_of_methodNamed Bd.named Bd.method).1
  have X0 : Stand p l e ({ frames := 0, cells := 0, slots := 0, locals := 0 } : Room) s m #[(.ref a1)] below meth c s₁ [] 0 0 := Stand.of_body Bd
  have e0 : s₁.heap = h0 := by rw [← hh, Bd.state]; rfl
  have N0 := Fr.nil n0
  have pre0 : ∀ t, Steps p.tables e below (s₁.setTop (mkF m 0 #[.val (.ref a1)] [])) t → Steps p.tables e below (s₁.setTop (entryFrame m #[(.ref a1)] 1)) t := fun t k => castTop (ef_rm5 m a1) k
  show own_Fin p e below _ _
  refine own_go pre0 ?_
  refine own_go (B := s₁.setTop (mkF m 1 #[.val (.ref a1)] [(.ref a1)])) (fun t k => ?_) ?_
  · show Steps p.tables e below (s₁.setTop (mkF m 0 #[.val (.ref a1)] [])) t
    refine XS.aloadN X0.here hx rfl (hb hby d5_0) rfl rfl ?_
    exact k
  obtain ⟨T1, X1, e1, st1⟩ := getF X0 hx hZ hown (host := "") (Or.inl (hw _ (List.mem_of_getElem? (i := 33) rfl))) Via.refl e0 F (g := (mkF m 1 #[.val (.ref a1)] [(.ref a1)])) rfl rfl (hb hby d5_1)
  refine own_go (fun t k => st1 t k) ?_
  obtain ⟨fs, hr, hrun, hended, hW, hsame⟩ := X1.leave (v := some (.int (nar .boolean x))) (fun h => by rw [Bd.returns] at h; cases h)
  refine ⟨_, _, ?_, hrun, hended, _, _, rfl, ?_, ⟨_, rfl⟩, hW, hsame.mono (by decide) (by decide)⟩
  · show Steps p.tables e below (T1.setTop (mkF m 4 #[.val (.ref a1)] [(.int x)])) _
    exact retN X1 hx (t := .boolean) Bd.returns (by simp) (hb hby d5_4) hr
  · show Q5 Z a1 x h0 n0 _ T1.heap _
    rw [e1]
    exact ⟨by rw [hx0], N0, rfl⟩
theorem d6_0 : decode prog_44_method_9_code 0 = .ok (.aload_n 0, 1) := by decide +kernel
theorem d6_1 : decode prog_44_method_9_code 1 = .ok (.getfield 67, 3) := by decide +kernel
theorem d6_4 : decode prog_44_method_9_code 4 = .ok (.ireturn, 1) := by decide +kernel
theorem pn_rm6 : plainName "com/example/wary_mutex/warymutex/protocol/Message$Type" = true := by first | (simp [plainName, overriddenIn]; done) | decide +kernel
theorem ef_rm6 (m : MethodId) (x0 : Addr) : entryFrame m #[(.ref x0)] 1 = mkF m 0 #[.val (.ref x0)] [] := by first | (simp [entryFrame, mkF, argsToLocals, Value.category]; done) | rfl
def Q6 (Z : State) (a1 : Addr) (x : Int32) (h0 : Heap) (n0 : Nat) (v : Option Value) (h : Heap) (L : List Loc) : Prop := v = some (.int x) ∧ Fr n0 L ∧ h = h0
set_option maxRecDepth 65536 in
set_option maxHeartbeats 40000000 in
theorem rm6 (l : Launch) (Z : State) (a0 : Array Value) (hw : ∀ d ∈ tables_1, d.before a0 Z = true) (ws : List Jvm.Cond) (a1 : Addr) (x : Int32) (h0 : Heap) (n0 : Nat) (Z0 : n0 ≤ h0.size) (F : Fld Z h0 a1 "com/example/wary_mutex/warymutex/protocol/Message$Type" "granted" "Z" (.int x)) (hx0 : nar .boolean x = x) :
    MetFree l (⟨"com/example/wary_mutex/warymutex/protocol/Message$Type", "granted", "()Z"⟩ : MethodName) (head1 (Jvm.Cond.code (⟨"com/example/wary_mutex/warymutex/protocol/Message$Type", "granted", "()Z"⟩ : MethodName) prog_44_method_9_code 1 (some .boolean) :: ws) ({ frames := 0, cells := 0, slots := 0, locals := 0 } : Room)) (fun a U => a = #[(.ref a1)] ∧ Z.Warmed39 U.vm ∧ U.heap = h0) (fun _ _ _ _ _ => True) (fun _ U o U' => ∃ v L, o = .returned v ∧ Q6 Z a1 x h0 n0 v U'.heap L ∧ FrameEnd U o U' L ({ frames := 0, cells := 0, slots := 0, locals := 0 } : Room).cells ({ frames := 0, cells := 0, slots := 0, locals := 0 } : Room).slots) := by
  refine MetFree.of_bodySF (plainFor_of_name pn_rm6) hisR ?_
  intro p e s m args below meth c s₁ Bd hml0 hP hK
  obtain ⟨rfl, hZ, hh⟩ := hP
  have hx := Bd.exec
  have hby := Bd.bytes
  have hml : c.maxLocals = 1 := hml0
  have hown : s.vm.findClass "com/example/wary_mutex/warymutex/protocol/Message$Type" = some m.cls := findClass_of_methodNamed Bd.named
  have hnm := (name_of_methodNamed Bd.named Bd.method).1
  have X0 : Stand p l e ({ frames := 0, cells := 0, slots := 0, locals := 0 } : Room) s m #[(.ref a1)] below meth c s₁ [] 0 0 := Stand.of_body Bd
  have e0 : s₁.heap = h0 := by rw [← hh, Bd.state]; rfl
  have N0 := Fr.nil n0
  have pre0 : ∀ t, Steps p.tables e below (s₁.setTop (mkF m 0 #[.val (.ref a1)] [])) t → Steps p.tables e below (s₁.setTop (entryFrame m #[(.ref a1)] 1)) t := fun t k => castTop (ef_rm6 m a1) k
  show own_Fin p e below _ _
  refine own_go pre0 ?_
  refine own_go (B := s₁.setTop (mkF m 1 #[.val (.ref a1)] [(.ref a1)])) (fun t k => ?_) ?_
  · show Steps p.tables e below (s₁.setTop (mkF m 0 #[.val (.ref a1)] [])) t
    refine XS.aloadN X0.here hx rfl (hb hby d6_0) rfl rfl ?_
    exact k
  obtain ⟨T1, X1, e1, st1⟩ := getF X0 hx hZ hown (host := "") (Or.inl (hw _ (List.mem_of_getElem? (i := 40) rfl))) Via.refl e0 F (g := (mkF m 1 #[.val (.ref a1)] [(.ref a1)])) rfl rfl (hb hby d6_1)
  refine own_go (fun t k => st1 t k) ?_
  obtain ⟨fs, hr, hrun, hended, hW, hsame⟩ := X1.leave (v := some (.int (nar .boolean x))) (fun h => by rw [Bd.returns] at h; cases h)
  refine ⟨_, _, ?_, hrun, hended, _, _, rfl, ?_, ⟨_, rfl⟩, hW, hsame.mono (by decide) (by decide)⟩
  · show Steps p.tables e below (T1.setTop (mkF m 4 #[.val (.ref a1)] [(.int x)])) _
    exact retN X1 hx (t := .boolean) Bd.returns (by simp) (hb hby d6_4) hr
  · show Q6 Z a1 x h0 n0 _ T1.heap _
    rw [e1]
    exact ⟨by rw [hx0], N0, rfl⟩
theorem pn_rm0 : plainName "com/example/wary_mutex/warymutex/protocol/TypeQuestionPinLaw" = true := by first | (simp [plainName, overriddenIn]; done) | decide +kernel
theorem pd_rm0_0 : parseMethodDescriptor "(I)Lcom/example/wary_mutex/warymutex/protocol/Message$Type;" = some ⟨[.int], some (.object "com/example/wary_mutex/warymutex/protocol/Message$Type")⟩ := by decide +kernel
theorem pd_rm0_1 : parseMethodDescriptor "()Z" = some ⟨[], some .boolean⟩ := by decide +kernel
theorem pd_rm0_2 : parseMethodDescriptor "()B" = some ⟨[], some .byte⟩ := by decide +kernel
theorem ef_rm0 (m : MethodId) (x0 : Int32) : entryFrame m #[(.int x0)] maxLocals = mkF m 0 #[.val (.int x0), .unset, .unset, .unset, .unset, .unset, .unset, .unset] [] := by first | (simp [entryFrame, mkF, argsToLocals, Value.category, maxLocals]; done) | rfl
def Q0 (Z : State) (p1 : Int32) (t0 : Addr) (t1 : Addr) (t2 : Addr) (t3 : Addr) (t4 : Addr) (t5 : Addr) (t6 : Addr) (t7 : Addr) (t8 : Addr) (t9 : Addr) (h0 : Heap) (n0 : Nat) (v : Option Value) (h : Heap) (L : List Loc) : Prop := v = some (.int (1 : Int32)) ∧ Fr n0 L
set_option maxRecDepth 65536 in
set_option maxHeartbeats 40000000 in
theorem rm0 (l : Launch) (Z : State) (a0 : Array Value) (hw : ∀ d ∈ tables_1, d.before a0 Z = true) (ws : List Jvm.Cond) (p1 : Int32) (t0 : Addr) (t1 : Addr) (t2 : Addr) (t3 : Addr) (t4 : Addr) (t5 : Addr) (t6 : Addr) (t7 : Addr) (t8 : Addr) (t9 : Addr) (h0 : Heap) (n0 : Nat) (Z0 : n0 ≤ h0.size) (S0 : Sta Z h0 "com/example/wary_mutex/warymutex/protocol/Message$Type" "REQUEST" "Lcom/example/wary_mutex/warymutex/protocol/Message$Type;" (.ref t0)) (S1 : Sta Z h0 "com/example/wary_mutex/warymutex/protocol/Message$Type" "YIELD" "Lcom/example/wary_mutex/warymutex/protocol/Message$Type;" (.ref t1)) (S2 : Sta Z h0 "com/example/wary_mutex/warymutex/protocol/Message$Type" "INQUIRY" "Lcom/example/wary_mutex/warymutex/protocol/Message$Type;" (.ref t2)) (S3 : Sta Z h0 "com/example/wary_mutex/warymutex/protocol/Message$Type" "RELEASE" "Lcom/example/wary_mutex/warymutex/protocol/Message$Type;" (.ref t3)) (S4 : Sta Z h0 "com/example/wary_mutex/warymutex/protocol/Message$Type" "RESPONSE" "Lcom/example/wary_mutex/warymutex/protocol/Message$Type;" (.ref t4)) (S5 : Sta Z h0 "com/example/wary_mutex/warymutex/protocol/Message$Type" "CHECK" "Lcom/example/wary_mutex/warymutex/protocol/Message$Type;" (.ref t5)) (S6 : Sta Z h0 "com/example/wary_mutex/warymutex/protocol/Message$Type" "RENEW" "Lcom/example/wary_mutex/warymutex/protocol/Message$Type;" (.ref t6)) (S7 : Sta Z h0 "com/example/wary_mutex/warymutex/protocol/Message$Type" "RENEWED" "Lcom/example/wary_mutex/warymutex/protocol/Message$Type;" (.ref t7)) (S8 : Sta Z h0 "com/example/wary_mutex/warymutex/protocol/Message$Type" "FENCE" "Lcom/example/wary_mutex/warymutex/protocol/Message$Type;" (.ref t8)) (S9 : Sta Z h0 "com/example/wary_mutex/warymutex/protocol/Message$Type" "FENCED" "Lcom/example/wary_mutex/warymutex/protocol/Message$Type;" (.ref t9)) (Y0 : Exa Z h0 t0 "com/example/wary_mutex/warymutex/protocol/Message$Type") (Y1 : Exa Z h0 t1 "com/example/wary_mutex/warymutex/protocol/Message$Type") (Y2 : Exa Z h0 t2 "com/example/wary_mutex/warymutex/protocol/Message$Type") (Y3 : Exa Z h0 t3 "com/example/wary_mutex/warymutex/protocol/Message$Type") (Y4 : Exa Z h0 t4 "com/example/wary_mutex/warymutex/protocol/Message$Type") (Y5 : Exa Z h0 t5 "com/example/wary_mutex/warymutex/protocol/Message$Type") (Y6 : Exa Z h0 t6 "com/example/wary_mutex/warymutex/protocol/Message$Type") (Y7 : Exa Z h0 t7 "com/example/wary_mutex/warymutex/protocol/Message$Type") (Y8 : Exa Z h0 t8 "com/example/wary_mutex/warymutex/protocol/Message$Type") (Y9 : Exa Z h0 t9 "com/example/wary_mutex/warymutex/protocol/Message$Type") (C0 : Fld Z h0 t0 "com/example/wary_mutex/warymutex/protocol/Message$Type" "code" "B" (.int (1 : Int32))) (C1 : Fld Z h0 t1 "com/example/wary_mutex/warymutex/protocol/Message$Type" "code" "B" (.int (2 : Int32))) (C2 : Fld Z h0 t2 "com/example/wary_mutex/warymutex/protocol/Message$Type" "code" "B" (.int (3 : Int32))) (C3 : Fld Z h0 t3 "com/example/wary_mutex/warymutex/protocol/Message$Type" "code" "B" (.int (4 : Int32))) (C4 : Fld Z h0 t4 "com/example/wary_mutex/warymutex/protocol/Message$Type" "code" "B" (.int (5 : Int32))) (C5 : Fld Z h0 t5 "com/example/wary_mutex/warymutex/protocol/Message$Type" "code" "B" (.int (6 : Int32))) (C6 : Fld Z h0 t6 "com/example/wary_mutex/warymutex/protocol/Message$Type" "code" "B" (.int (7 : Int32))) (C7 : Fld Z h0 t7 "com/example/wary_mutex/warymutex/protocol/Message$Type" "code" "B" (.int (8 : Int32))) (C8 : Fld Z h0 t8 "com/example/wary_mutex/warymutex/protocol/Message$Type" "code" "B" (.int (9 : Int32))) (C9 : Fld Z h0 t9 "com/example/wary_mutex/warymutex/protocol/Message$Type" "code" "B" (.int (10 : Int32))) (f0 : Fld Z h0 t0 "com/example/wary_mutex/warymutex/protocol/Message$Type" "fromClient" "Z" (.int (1 : Int32))) (g0 : Fld Z h0 t0 "com/example/wary_mutex/warymutex/protocol/Message$Type" "numbered" "Z" (.int (1 : Int32))) (d0 : Fld Z h0 t0 "com/example/wary_mutex/warymutex/protocol/Message$Type" "granted" "Z" (.int (0 : Int32))) (f1 : Fld Z h0 t1 "com/example/wary_mutex/warymutex/protocol/Message$Type" "fromClient" "Z" (.int (1 : Int32))) (g1 : Fld Z h0 t1 "com/example/wary_mutex/warymutex/protocol/Message$Type" "numbered" "Z" (.int (1 : Int32))) (d1 : Fld Z h0 t1 "com/example/wary_mutex/warymutex/protocol/Message$Type" "granted" "Z" (.int (0 : Int32))) (f2 : Fld Z h0 t2 "com/example/wary_mutex/warymutex/protocol/Message$Type" "fromClient" "Z" (.int (1 : Int32))) (g2 : Fld Z h0 t2 "com/example/wary_mutex/warymutex/protocol/Message$Type" "numbered" "Z" (.int (1 : Int32))) (d2 : Fld Z h0 t2 "com/example/wary_mutex/warymutex/protocol/Message$Type" "granted" "Z" (.int (0 : Int32))) :
    MetFree l x (head1 (Jvm.Cond.code x code maxLocals ret :: ws) room_1) (fun a U => a = #[(.int p1)] ∧ Z.Warmed39 U.vm ∧ U.heap = h0) (fun _ _ _ _ _ => True) (fun _ U o U' => ∃ v L, o = .returned v ∧ Q0 Z p1 t0 t1 t2 t3 t4 t5 t6 t7 t8 t9 h0 n0 v U'.heap L ∧ FrameEnd U o U' L room_1.cells room_1.slots) := by
  refine MetFree.of_bodySF (plainFor_of_name pn_rm0) hisR ?_
  intro p e s m args below meth c s₁ Bd hml0 hP hK
  obtain ⟨rfl, hZ, hh⟩ := hP
  have hx := Bd.exec
  have hby := Bd.bytes
  have hml : c.maxLocals = 8 := hml0
  have hown : s.vm.findClass "com/example/wary_mutex/warymutex/protocol/TypeQuestionPinLaw" = some m.cls := findClass_of_methodNamed Bd.named
  have hnm := (name_of_methodNamed Bd.named Bd.method).1
  have X0 : Stand p l e room_1 s m #[(.int p1)] below meth c s₁ [] 0 0 := Stand.of_body Bd
  have e0 : s₁.heap = h0 := by rw [← hh, Bd.state]; rfl
  have N0 := Fr.nil n0
  have pre0 : ∀ t, Steps p.tables e below (s₁.setTop (mkF m 0 #[.val (.int p1), .unset, .unset, .unset, .unset, .unset, .unset, .unset] [])) t → Steps p.tables e below (s₁.setTop (entryFrame m #[(.int p1)] maxLocals)) t := fun t k => castTop (ef_rm0 m p1) k
  show own_Fin p e below _ _
  refine own_go pre0 ?_
  refine own_go (B := s₁.setTop (mkF m 8 #[.val (.int p1), .val (.int ((p1 &&& (2147483647 : Int32)) % (10 : Int32))), .unset, .unset, .unset, .unset, .unset, .unset] [])) (fun t k => ?_) ?_
  · show Steps p.tables e below (s₁.setTop (mkF m 0 #[.val (.int p1), .unset, .unset, .unset, .unset, .unset, .unset, .unset] [])) t
    refine XS.iloadN X0.here hx rfl (hb hby at_0) rfl ?_
    show Steps p.tables e below (s₁.setTop (mkF m 1 #[.val (.int p1), .unset, .unset, .unset, .unset, .unset, .unset, .unset] [(.int p1)])) t
    refine X0.ldcInt hx hown (mvT hZ (hw _ (List.mem_of_getElem? (i := 0) rfl))) (g := (mkF m 1 #[.val (.int p1), .unset, .unset, .unset, .unset, .unset, .unset, .unset] [(.int p1)])) rfl (hb hby at_1) _ ?_
    show Steps p.tables e below (s₁.setTop (mkF m 3 #[.val (.int p1), .unset, .unset, .unset, .unset, .unset, .unset, .unset] [(.int (2147483647 : Int32)), (.int p1)])) t
    refine XS.iand X0.here hx rfl (hb hby at_3) rfl ?_
    show Steps p.tables e below (s₁.setTop (mkF m 4 #[.val (.int p1), .unset, .unset, .unset, .unset, .unset, .unset, .unset] [(.int (p1 &&& (2147483647 : Int32)))])) t
    refine XS.bipush X0.here hx rfl (hb hby at_4) ?_
    show Steps p.tables e below (s₁.setTop (mkF m 6 #[.val (.int p1), .unset, .unset, .unset, .unset, .unset, .unset, .unset] [(.int (10 : Int32)), (.int (p1 &&& (2147483647 : Int32)))])) t
    refine iremM X0 hx rfl (hb hby at_6) rfl (by decide) ?_
    show Steps p.tables e below (s₁.setTop (mkF m 7 #[.val (.int p1), .unset, .unset, .unset, .unset, .unset, .unset, .unset] [(.int ((p1 &&& (2147483647 : Int32)) % (10 : Int32)))])) t
    refine XS.istoreN X0.here hx rfl (hb hby at_7) rfl (l' := #[.val (.int p1), .val (.int ((p1 &&& (2147483647 : Int32)) % (10 : Int32))), .unset, .unset, .unset, .unset, .unset, .unset]) rfl ?_
    exact k
  obtain ⟨ii, hii⟩ : ∃ z : Int32, z = ((p1 &&& (2147483647 : Int32)) % (10 : Int32)) := ⟨_, rfl⟩
  rw [← hii]
  have hi := own_i p1 hii
  refine own_go (B := s₁.setTop (mkF m 9 #[.val (.int p1), .val (.int ii), .unset, .unset, .unset, .unset, .unset, .unset] [(.int ii)])) (fun t k => ?_) ?_
  · show Steps p.tables e below (s₁.setTop (mkF m 8 #[.val (.int p1), .val (.int ii), .unset, .unset, .unset, .unset, .unset, .unset] [])) t
    refine XS.iloadN X0.here hx rfl (hb hby at_8) rfl ?_
    exact k
  obtain ⟨_, _, ⟨T1, L1, k1, n1⟩, -, X1, ⟨Lc1, hQ1, l1, y1, z1⟩, st1⟩ := Jvm.LawKit.callS X0 hx (y := (⟨"com/example/wary_mutex/warymutex/protocol/TypeQuestionPinLaw", "pick", "(I)Lcom/example/wary_mutex/warymutex/protocol/Message$Type;"⟩ : MethodName)) hown (mvT hZ (hw _ (List.mem_of_getElem? (i := 1) rfl))) (mvT hZ (hw _ (List.mem_of_getElem? (i := 2) rfl))) (mvT hZ (hw _ (List.mem_of_getElem? (i := 3) rfl))) (mvT hZ (hw _ (List.mem_of_getElem? (i := 4) rfl))) (by decide) (backOf (W := 0) (rm1 l Z a0 hw [] ii t0 t1 t2 t3 t4 t5 t6 t7 t8 t9 h0 n0 Z0 S0 S1 S2 S3 S4 S5 S6 S7 S8 S9) hZ (hw _ (List.mem_of_getElem? (i := 4) rfl)) (hw _ (List.mem_of_getElem? (i := 3) rfl)) (by decide) (by decide)) (g := (mkF m 9 #[.val (.int p1), .val (.int ii), .unset, .unset, .unset, .unset, .unset, .unset] [(.int ii)])) rfl (by rw [hml]; rfl) (argsL := [(.int ii)]) (rest := []) (lenOf pd_rm0_0 rfl) rfl (by show 2 * 0 + _ ≤ _; exact Nat.le_of_eq rfl) (hb hby at_9) (fun _ _ => ⟨rfl, e0, (by decide : 0 + 0 ≤ _), (by decide : 0 + 0 ≤ _)⟩)
  dsimp only [Pt.U, Pt.locs, Pt.cells, Pt.slots] at X1 l1 y1 z1 st1 hQ1
  subst l1 y1 z1
  obtain ⟨tt, rfl, N1q, hh1, htt⟩ := hQ1
  have N1 := Fr.app N0 N1q
  refine own_go (fun t k => st1 t k) ?_
  refine own_go (B := T1.setTop (mkF m 13 #[.val (.int p1), .val (.int ii), .val (.ref tt), .unset, .unset, .unset, .unset, .unset] [])) (fun t k => ?_) ?_
  · show Steps p.tables e below (T1.setTop (mkF m 12 #[.val (.int p1), .val (.int ii), .unset, .unset, .unset, .unset, .unset, .unset] [(.ref tt)])) t
    refine XS.astoreN X1.here hx rfl (hb hby at_12) rfl rfl (l' := #[.val (.int p1), .val (.int ii), .val (.ref tt), .unset, .unset, .unset, .unset, .unset]) rfl ?_
    exact k
  obtain ⟨EX, cc, FC, hcc, hc1, hcase⟩ := own_look Y0 C0 Y1 C1 Y2 C2 Y3 C3 Y4 C4 Y5 C5 Y6 C6 Y7 C7 Y8 C8 Y9 C9 f0 g0 d0 f1 g1 d1 f2 g2 d2 hi.1 hi.2 htt
  rcases hcase with ⟨hi2, hc3, hq⟩ | ⟨hi2, hc3, hq, FF, FN, FG⟩
  · refine own_go (B := T1.setTop (mkF m 14 #[.val (.int p1), .val (.int ii), .val (.ref tt), .unset, .unset, .unset, .unset, .unset] [(.ref tt)])) (fun t k => ?_) ?_
    · show Steps p.tables e below (T1.setTop (mkF m 13 #[.val (.int p1), .val (.int ii), .val (.ref tt), .unset, .unset, .unset, .unset, .unset] [])) t
      refine XS.aloadN X1.here hx rfl (hb hby at_13) rfl rfl ?_
      exact k
    obtain ⟨cq2, kq2, q2a, q2b, q2c⟩ := isOf hZ hh1 EX
    obtain ⟨_, _, ⟨T2, L2, k2, n2⟩, -, X2, ⟨Lc2, hQ2, l2, y2, z2⟩, st2⟩ := X1.virtualBack hx (y := (⟨"com/example/wary_mutex/warymutex/protocol/Message$Type", "question", "()Z"⟩ : MethodName)) (z := (⟨"com/example/wary_mutex/warymutex/protocol/Message$Type", "question", "()Z"⟩ : MethodName)) hown (mvT hZ (hw _ (List.mem_of_getElem? (i := 8) rfl))) (mvT hZ (hw _ (List.mem_of_getElem? (i := 9) rfl))) (notFace_of_selects (args := #[]) (mvT hZ (hw _ (List.mem_of_getElem? (i := 11) rfl)))) (mvT hZ (hw _ (List.mem_of_getElem? (i := 11) rfl))) (mvT hZ (hw _ (List.mem_of_getElem? (i := 10) rfl))) (by decide) (backOf (W := 0) (rm2 l Z a0 hw [] tt t0 t1 t2 h0 n0 Z0 S0 S1 S2) hZ (hw _ (List.mem_of_getElem? (i := 12) rfl)) (hw _ (List.mem_of_getElem? (i := 6) rfl)) (by decide) (by decide)) q2a q2c (g := (mkF m 14 #[.val (.int p1), .val (.int ii), .val (.ref tt), .unset, .unset, .unset, .unset, .unset] [(.ref tt)])) rfl (by rw [hml]; rfl) (Steps.refl _) (argsL := []) (rest := []) (lenOf pd_rm0_1 rfl) rfl (by show 2 * 0 + _ ≤ _; exact Nat.le_of_eq rfl) (hb hby at_14) (fun _ _ => ⟨rfl, hh1, (by decide : 0 + 0 ≤ _), (by decide : 0 + 0 ≤ _)⟩)
    dsimp only [Pt.U, Pt.locs, Pt.cells, Pt.slots] at X2 l2 y2 z2 st2 hQ2
    subst l2 y2 z2
    obtain ⟨rq, rfl, N2q, hh2, hrq⟩ := hQ2
    have N2 := Fr.app N1 N2q
    refine own_go (fun t k => st2.trans k) ?_
    refine own_go (B := T2.setTop (mkF m 19 #[.val (.int p1), .val (.int ii), .val (.ref tt), .val (.int rq), .unset, .unset, .unset, .unset] [(.ref tt)])) (fun t k => ?_) ?_
    · show Steps p.tables e below (T2.setTop (mkF m 17 #[.val (.int p1), .val (.int ii), .val (.ref tt), .unset, .unset, .unset, .unset, .unset] [(.int rq)])) t
      refine XS.istoreN X2.here hx rfl (hb hby at_17) rfl (l' := #[.val (.int p1), .val (.int ii), .val (.ref tt), .val (.int rq), .unset, .unset, .unset, .unset]) rfl ?_
      show Steps p.tables e below (T2.setTop (mkF m 18 #[.val (.int p1), .val (.int ii), .val (.ref tt), .val (.int rq), .unset, .unset, .unset, .unset] [])) t
      refine XS.aloadN X2.here hx rfl (hb hby at_18) rfl rfl ?_
      exact k
    obtain ⟨cq3, kq3, q3a, q3b, q3c⟩ := isOf hZ hh2 EX
    obtain ⟨_, _, ⟨T3, L3, k3, n3⟩, -, X3, ⟨Lc3, hQ3, l3, y3, z3⟩, st3⟩ := X2.virtualBack hx (y := (⟨"com/example/wary_mutex/warymutex/protocol/Message$Type", "code", "()B"⟩ : MethodName)) (z := (⟨"com/example/wary_mutex/warymutex/protocol/Message$Type", "code", "()B"⟩ : MethodName)) hown (mvT hZ (hw _ (List.mem_of_getElem? (i := 14) rfl))) (mvT hZ (hw _ (List.mem_of_getElem? (i := 15) rfl))) (notFace_of_selects (args := #[]) (mvT hZ (hw _ (List.mem_of_getElem? (i := 17) rfl)))) (mvT hZ (hw _ (List.mem_of_getElem? (i := 17) rfl))) (mvT hZ (hw _ (List.mem_of_getElem? (i := 16) rfl))) (by decide) (backOf (W := 0) (rm3 l Z a0 hw [] tt cc h0 n0 Z0 FC hcc) hZ (hw _ (List.mem_of_getElem? (i := 18) rfl)) (hw _ (List.mem_of_getElem? (i := 6) rfl)) (by decide) (by decide)) q3a q3c (g := (mkF m 19 #[.val (.int p1), .val (.int ii), .val (.ref tt), .val (.int rq), .unset, .unset, .unset, .unset] [(.ref tt)])) rfl (by rw [hml]; rfl) (Steps.refl _) (argsL := []) (rest := []) (lenOf pd_rm0_2 rfl) rfl (by show 2 * 0 + _ ≤ _; exact Nat.le_of_eq rfl) (hb hby at_19) (fun _ _ => ⟨rfl, hh2, (by decide : 0 + 0 ≤ _), (by decide : 0 + 0 ≤ _)⟩)
    dsimp only [Pt.U, Pt.locs, Pt.cells, Pt.slots] at X3 l3 y3 z3 st3 hQ3
    subst l3 y3 z3
    obtain ⟨rfl, N3q, hh3⟩ := hQ3
    have N3 := Fr.app N2 N3q
    refine own_go (fun t k => st3.trans k) ?_
    refine own_go (B := T3.setTop (mkF m 109 #[.val (.int p1), .val (.int ii), .val (.ref tt), .val (.int rq), .val (.int cc), .val (.int (0 : Int32)), .val (.int (0 : Int32)), .val (.int (1 : Int32))] [(.int (1 : Int32))])) (fun t k => ?_) ?_
    · show Steps p.tables e below (T3.setTop (mkF m 22 #[.val (.int p1), .val (.int ii), .val (.ref tt), .val (.int rq), .unset, .unset, .unset, .unset] [(.int cc)])) t
      refine XS.istore X3.here hx rfl (hb hby at_22) rfl (l' := #[.val (.int p1), .val (.int ii), .val (.ref tt), .val (.int rq), .val (.int cc), .unset, .unset, .unset]) rfl ?_
      show Steps p.tables e below (T3.setTop (mkF m 24 #[.val (.int p1), .val (.int ii), .val (.ref tt), .val (.int rq), .val (.int cc), .unset, .unset, .unset] [])) t
      refine XS.iload X3.here hx rfl (hb hby at_24) rfl ?_
      show Steps p.tables e below (T3.setTop (mkF m 26 #[.val (.int p1), .val (.int ii), .val (.ref tt), .val (.int rq), .val (.int cc), .unset, .unset, .unset] [(.int cc)])) t
      refine XS.iconst X3.here hx rfl (hb hby at_26) ?_
      show Steps p.tables e below (T3.setTop (mkF m 27 #[.val (.int p1), .val (.int ii), .val (.ref tt), .val (.int rq), .val (.int cc), .unset, .unset, .unset] [(.int (1 : Int32)), (.int cc)])) t
      refine XS.icmpNo X3.here hx rfl (hb hby at_27) rfl (flt (hc1 : ¬ (cc < (1 : Int32)))).1 ?_
      show Steps p.tables e below (T3.setTop (mkF m 30 #[.val (.int p1), .val (.int ii), .val (.ref tt), .val (.int rq), .val (.int cc), .unset, .unset, .unset] [])) t
      refine XS.iload X3.here hx rfl (hb hby at_30) rfl ?_
      show Steps p.tables e below (T3.setTop (mkF m 32 #[.val (.int p1), .val (.int ii), .val (.ref tt), .val (.int rq), .val (.int cc), .unset, .unset, .unset] [(.int cc)])) t
      refine XS.iconst X3.here hx rfl (hb hby at_32) ?_
      show Steps p.tables e below (T3.setTop (mkF m 33 #[.val (.int p1), .val (.int ii), .val (.ref tt), .val (.int rq), .val (.int cc), .unset, .unset, .unset] [(.int (3 : Int32)), (.int cc)])) t
      refine XS.icmpYes X3.here hx rfl (pc0 := 33) (pc' := 40) rfl (hb hby at_33) rfl (tlt (hc3 : (3 : Int32) < cc)).2.2.1 (by decide) (by decide) ?_
      show Steps p.tables e below (T3.setTop (mkF m 40 #[.val (.int p1), .val (.int ii), .val (.ref tt), .val (.int rq), .val (.int cc), .unset, .unset, .unset] [])) t
      refine XS.iconst X3.here hx rfl (hb hby at_40) ?_
      show Steps p.tables e below (T3.setTop (mkF m 41 #[.val (.int p1), .val (.int ii), .val (.ref tt), .val (.int rq), .val (.int cc), .unset, .unset, .unset] [(.int (0 : Int32))])) t
      refine XS.istore X3.here hx rfl (hb hby at_41) rfl (l' := #[.val (.int p1), .val (.int ii), .val (.ref tt), .val (.int rq), .val (.int cc), .val (.int (0 : Int32)), .unset, .unset]) rfl ?_
      show Steps p.tables e below (T3.setTop (mkF m 43 #[.val (.int p1), .val (.int ii), .val (.ref tt), .val (.int rq), .val (.int cc), .val (.int (0 : Int32)), .unset, .unset] [])) t
      refine XS.iloadN X3.here hx rfl (hb hby at_43) rfl ?_
      show Steps p.tables e below (T3.setTop (mkF m 44 #[.val (.int p1), .val (.int ii), .val (.ref tt), .val (.int rq), .val (.int cc), .val (.int (0 : Int32)), .unset, .unset] [(.int ii)])) t
      refine XS.iconst X3.here hx rfl (hb hby at_44) ?_
      show Steps p.tables e below (T3.setTop (mkF m 45 #[.val (.int p1), .val (.int ii), .val (.ref tt), .val (.int rq), .val (.int cc), .val (.int (0 : Int32)), .unset, .unset] [(.int (2 : Int32)), (.int ii)])) t
      refine XS.icmpYes X3.here hx rfl (pc0 := 45) (pc' := 52) rfl (hb hby at_45) rfl (tlt (hi2 : (2 : Int32) < ii)).2.2.1 (by decide) (by decide) ?_
      show Steps p.tables e below (T3.setTop (mkF m 52 #[.val (.int p1), .val (.int ii), .val (.ref tt), .val (.int rq), .val (.int cc), .val (.int (0 : Int32)), .unset, .unset] [])) t
      refine XS.iconst X3.here hx rfl (hb hby at_52) ?_
      show Steps p.tables e below (T3.setTop (mkF m 53 #[.val (.int p1), .val (.int ii), .val (.ref tt), .val (.int rq), .val (.int cc), .val (.int (0 : Int32)), .unset, .unset] [(.int (0 : Int32))])) t
      refine XS.istore X3.here hx rfl (hb hby at_53) rfl (l' := #[.val (.int p1), .val (.int ii), .val (.ref tt), .val (.int rq), .val (.int cc), .val (.int (0 : Int32)), .val (.int (0 : Int32)), .unset]) rfl ?_
      show Steps p.tables e below (T3.setTop (mkF m 55 #[.val (.int p1), .val (.int ii), .val (.ref tt), .val (.int rq), .val (.int cc), .val (.int (0 : Int32)), .val (.int (0 : Int32)), .unset] [])) t
      refine XS.iloadN X3.here hx rfl (hb hby at_55) rfl ?_
      show Steps p.tables e below (T3.setTop (mkF m 56 #[.val (.int p1), .val (.int ii), .val (.ref tt), .val (.int rq), .val (.int cc), .val (.int (0 : Int32)), .val (.int (0 : Int32)), .unset] [(.int rq)])) t
      refine XS.ifYes X3.here hx rfl (pc0 := 56) (pc' := 80) rfl (hb hby at_56) rfl ((if0 _ _).trans (teq (hrq.trans hq : rq = (0 : Int32))).1) (by decide) (by decide) ?_
      show Steps p.tables e below (T3.setTop (mkF m 80 #[.val (.int p1), .val (.int ii), .val (.ref tt), .val (.int rq), .val (.int cc), .val (.int (0 : Int32)), .val (.int (0 : Int32)), .unset] [])) t
      refine XS.iconst X3.here hx rfl (hb hby at_80) ?_
      show Steps p.tables e below (T3.setTop (mkF m 81 #[.val (.int p1), .val (.int ii), .val (.ref tt), .val (.int rq), .val (.int cc), .val (.int (0 : Int32)), .val (.int (0 : Int32)), .unset] [(.int (1 : Int32))])) t
      refine XS.goto X3.here hx rfl (pc0 := 81) (pc' := 85) rfl (hb hby at_81) (by decide) (by decide) ?_
      show Steps p.tables e below (T3.setTop (mkF m 85 #[.val (.int p1), .val (.int ii), .val (.ref tt), .val (.int rq), .val (.int cc), .val (.int (0 : Int32)), .val (.int (0 : Int32)), .unset] [(.int (1 : Int32))])) t
      refine XS.istore X3.here hx rfl (hb hby at_85) rfl (l' := #[.val (.int p1), .val (.int ii), .val (.ref tt), .val (.int rq), .val (.int cc), .val (.int (0 : Int32)), .val (.int (0 : Int32)), .val (.int (1 : Int32))]) rfl ?_
      show Steps p.tables e below (T3.setTop (mkF m 87 #[.val (.int p1), .val (.int ii), .val (.ref tt), .val (.int rq), .val (.int cc), .val (.int (0 : Int32)), .val (.int (0 : Int32)), .val (.int (1 : Int32))] [])) t
      refine XS.iloadN X3.here hx rfl (hb hby at_87) rfl ?_
      show Steps p.tables e below (T3.setTop (mkF m 88 #[.val (.int p1), .val (.int ii), .val (.ref tt), .val (.int rq), .val (.int cc), .val (.int (0 : Int32)), .val (.int (0 : Int32)), .val (.int (1 : Int32))] [(.int rq)])) t
      refine XS.iload X3.here hx rfl (hb hby at_88) rfl ?_
      show Steps p.tables e below (T3.setTop (mkF m 90 #[.val (.int p1), .val (.int ii), .val (.ref tt), .val (.int rq), .val (.int cc), .val (.int (0 : Int32)), .val (.int (0 : Int32)), .val (.int (1 : Int32))] [(.int (0 : Int32)), (.int rq)])) t
      refine XS.icmpNo X3.here hx rfl (hb hby at_90) rfl (teq (hrq.trans hq : rq = (0 : Int32))).2 ?_
      show Steps p.tables e below (T3.setTop (mkF m 93 #[.val (.int p1), .val (.int ii), .val (.ref tt), .val (.int rq), .val (.int cc), .val (.int (0 : Int32)), .val (.int (0 : Int32)), .val (.int (1 : Int32))] [])) t
      refine XS.iloadN X3.here hx rfl (hb hby at_93) rfl ?_
      show Steps p.tables e below (T3.setTop (mkF m 94 #[.val (.int p1), .val (.int ii), .val (.ref tt), .val (.int rq), .val (.int cc), .val (.int (0 : Int32)), .val (.int (0 : Int32)), .val (.int (1 : Int32))] [(.int rq)])) t
      refine XS.iload X3.here hx rfl (hb hby at_94) rfl ?_
      show Steps p.tables e below (T3.setTop (mkF m 96 #[.val (.int p1), .val (.int ii), .val (.ref tt), .val (.int rq), .val (.int cc), .val (.int (0 : Int32)), .val (.int (0 : Int32)), .val (.int (1 : Int32))] [(.int (0 : Int32)), (.int rq)])) t
      refine XS.icmpNo X3.here hx rfl (hb hby at_96) rfl (teq (hrq.trans hq : rq = (0 : Int32))).2 ?_
      show Steps p.tables e below (T3.setTop (mkF m 99 #[.val (.int p1), .val (.int ii), .val (.ref tt), .val (.int rq), .val (.int cc), .val (.int (0 : Int32)), .val (.int (0 : Int32)), .val (.int (1 : Int32))] [])) t
      refine XS.iload X3.here hx rfl (hb hby at_99) rfl ?_
      show Steps p.tables e below (T3.setTop (mkF m 101 #[.val (.int p1), .val (.int ii), .val (.ref tt), .val (.int rq), .val (.int cc), .val (.int (0 : Int32)), .val (.int (0 : Int32)), .val (.int (1 : Int32))] [(.int (1 : Int32))])) t
      refine XS.ifNo X3.here hx rfl (hb hby at_101) rfl ((if0 _ _).trans (feq (by decide : ¬ ((1 : Int32) = (0 : Int32)))).1) ?_
      show Steps p.tables e below (T3.setTop (mkF m 104 #[.val (.int p1), .val (.int ii), .val (.ref tt), .val (.int rq), .val (.int cc), .val (.int (0 : Int32)), .val (.int (0 : Int32)), .val (.int (1 : Int32))] [])) t
      refine XS.iconst X3.here hx rfl (hb hby at_104) ?_
      show Steps p.tables e below (T3.setTop (mkF m 105 #[.val (.int p1), .val (.int ii), .val (.ref tt), .val (.int rq), .val (.int cc), .val (.int (0 : Int32)), .val (.int (0 : Int32)), .val (.int (1 : Int32))] [(.int (1 : Int32))])) t
      refine XS.goto X3.here hx rfl (pc0 := 105) (pc' := 109) rfl (hb hby at_105) (by decide) (by decide) ?_
      exact k
    obtain ⟨fs, hr, hrun, hended, hW, hsame⟩ := X3.leave (v := some (.int (1 : Int32))) (fun h => by rw [Bd.returns] at h; cases h)
    refine ⟨_, _, ?_, hrun, hended, _, _, rfl, ?_, ⟨_, rfl⟩, hW, hsame.mono (by decide) (by decide)⟩
    · show Steps p.tables e below (T3.setTop (mkF m 109 #[.val (.int p1), .val (.int ii), .val (.ref tt), .val (.int rq), .val (.int cc), .val (.int (0 : Int32)), .val (.int (0 : Int32)), .val (.int (1 : Int32))] [(.int (1 : Int32))])) _
      exact retN X3 hx (t := .boolean) Bd.returns (by simp) (hb hby at_109) hr
    · show Q0 Z p1 t0 t1 t2 t3 t4 t5 t6 t7 t8 t9 h0 n0 _ T3.heap _
      rw [hh3]
      exact ⟨rfl, N3⟩
  · refine own_go (B := T1.setTop (mkF m 14 #[.val (.int p1), .val (.int ii), .val (.ref tt), .unset, .unset, .unset, .unset, .unset] [(.ref tt)])) (fun t k => ?_) ?_
    · show Steps p.tables e below (T1.setTop (mkF m 13 #[.val (.int p1), .val (.int ii), .val (.ref tt), .unset, .unset, .unset, .unset, .unset] [])) t
      refine XS.aloadN X1.here hx rfl (hb hby at_13) rfl rfl ?_
      exact k
    obtain ⟨cq4, kq4, q4a, q4b, q4c⟩ := isOf hZ hh1 EX
    obtain ⟨_, _, ⟨T4, L4, k4, n4⟩, -, X4, ⟨Lc4, hQ4, l4, y4, z4⟩, st4⟩ := X1.virtualBack hx (y := (⟨"com/example/wary_mutex/warymutex/protocol/Message$Type", "question", "()Z"⟩ : MethodName)) (z := (⟨"com/example/wary_mutex/warymutex/protocol/Message$Type", "question", "()Z"⟩ : MethodName)) hown (mvT hZ (hw _ (List.mem_of_getElem? (i := 8) rfl))) (mvT hZ (hw _ (List.mem_of_getElem? (i := 9) rfl))) (notFace_of_selects (args := #[]) (mvT hZ (hw _ (List.mem_of_getElem? (i := 11) rfl)))) (mvT hZ (hw _ (List.mem_of_getElem? (i := 11) rfl))) (mvT hZ (hw _ (List.mem_of_getElem? (i := 10) rfl))) (by decide) (backOf (W := 0) (rm2 l Z a0 hw [] tt t0 t1 t2 h0 n0 Z0 S0 S1 S2) hZ (hw _ (List.mem_of_getElem? (i := 12) rfl)) (hw _ (List.mem_of_getElem? (i := 6) rfl)) (by decide) (by decide)) q4a q4c (g := (mkF m 14 #[.val (.int p1), .val (.int ii), .val (.ref tt), .unset, .unset, .unset, .unset, .unset] [(.ref tt)])) rfl (by rw [hml]; rfl) (Steps.refl _) (argsL := []) (rest := []) (lenOf pd_rm0_1 rfl) rfl (by show 2 * 0 + _ ≤ _; exact Nat.le_of_eq rfl) (hb hby at_14) (fun _ _ => ⟨rfl, hh1, (by decide : 0 + 0 ≤ _), (by decide : 0 + 0 ≤ _)⟩)
    dsimp only [Pt.U, Pt.locs, Pt.cells, Pt.slots] at X4 l4 y4 z4 st4 hQ4
    subst l4 y4 z4
    obtain ⟨rq, rfl, N4q, hh4, hrq⟩ := hQ4
    have N4 := Fr.app N1 N4q
    refine own_go (fun t k => st4.trans k) ?_
    refine own_go (B := T4.setTop (mkF m 19 #[.val (.int p1), .val (.int ii), .val (.ref tt), .val (.int rq), .unset, .unset, .unset, .unset] [(.ref tt)])) (fun t k => ?_) ?_
    · show Steps p.tables e below (T4.setTop (mkF m 17 #[.val (.int p1), .val (.int ii), .val (.ref tt), .unset, .unset, .unset, .unset, .unset] [(.int rq)])) t
      refine XS.istoreN X4.here hx rfl (hb hby at_17) rfl (l' := #[.val (.int p1), .val (.int ii), .val (.ref tt), .val (.int rq), .unset, .unset, .unset, .unset]) rfl ?_
      show Steps p.tables e below (T4.setTop (mkF m 18 #[.val (.int p1), .val (.int ii), .val (.ref tt), .val (.int rq), .unset, .unset, .unset, .unset] [])) t
      refine XS.aloadN X4.here hx rfl (hb hby at_18) rfl rfl ?_
      exact k
    obtain ⟨cq5, kq5, q5a, q5b, q5c⟩ := isOf hZ hh4 EX
    obtain ⟨_, _, ⟨T5, L5, k5, n5⟩, -, X5, ⟨Lc5, hQ5, l5, y5, z5⟩, st5⟩ := X4.virtualBack hx (y := (⟨"com/example/wary_mutex/warymutex/protocol/Message$Type", "code", "()B"⟩ : MethodName)) (z := (⟨"com/example/wary_mutex/warymutex/protocol/Message$Type", "code", "()B"⟩ : MethodName)) hown (mvT hZ (hw _ (List.mem_of_getElem? (i := 14) rfl))) (mvT hZ (hw _ (List.mem_of_getElem? (i := 15) rfl))) (notFace_of_selects (args := #[]) (mvT hZ (hw _ (List.mem_of_getElem? (i := 17) rfl)))) (mvT hZ (hw _ (List.mem_of_getElem? (i := 17) rfl))) (mvT hZ (hw _ (List.mem_of_getElem? (i := 16) rfl))) (by decide) (backOf (W := 0) (rm3 l Z a0 hw [] tt cc h0 n0 Z0 FC hcc) hZ (hw _ (List.mem_of_getElem? (i := 18) rfl)) (hw _ (List.mem_of_getElem? (i := 6) rfl)) (by decide) (by decide)) q5a q5c (g := (mkF m 19 #[.val (.int p1), .val (.int ii), .val (.ref tt), .val (.int rq), .unset, .unset, .unset, .unset] [(.ref tt)])) rfl (by rw [hml]; rfl) (Steps.refl _) (argsL := []) (rest := []) (lenOf pd_rm0_2 rfl) rfl (by show 2 * 0 + _ ≤ _; exact Nat.le_of_eq rfl) (hb hby at_19) (fun _ _ => ⟨rfl, hh4, (by decide : 0 + 0 ≤ _), (by decide : 0 + 0 ≤ _)⟩)
    dsimp only [Pt.U, Pt.locs, Pt.cells, Pt.slots] at X5 l5 y5 z5 st5 hQ5
    subst l5 y5 z5
    obtain ⟨rfl, N5q, hh5⟩ := hQ5
    have N5 := Fr.app N4 N5q
    refine own_go (fun t k => st5.trans k) ?_
    refine own_go (B := T5.setTop (mkF m 60 #[.val (.int p1), .val (.int ii), .val (.ref tt), .val (.int rq), .val (.int cc), .val (.int (1 : Int32)), .val (.int (1 : Int32)), .unset] [(.ref tt)])) (fun t k => ?_) ?_
    · show Steps p.tables e below (T5.setTop (mkF m 22 #[.val (.int p1), .val (.int ii), .val (.ref tt), .val (.int rq), .unset, .unset, .unset, .unset] [(.int cc)])) t
      refine XS.istore X5.here hx rfl (hb hby at_22) rfl (l' := #[.val (.int p1), .val (.int ii), .val (.ref tt), .val (.int rq), .val (.int cc), .unset, .unset, .unset]) rfl ?_
      show Steps p.tables e below (T5.setTop (mkF m 24 #[.val (.int p1), .val (.int ii), .val (.ref tt), .val (.int rq), .val (.int cc), .unset, .unset, .unset] [])) t
      refine XS.iload X5.here hx rfl (hb hby at_24) rfl ?_
      show Steps p.tables e below (T5.setTop (mkF m 26 #[.val (.int p1), .val (.int ii), .val (.ref tt), .val (.int rq), .val (.int cc), .unset, .unset, .unset] [(.int cc)])) t
      refine XS.iconst X5.here hx rfl (hb hby at_26) ?_
      show Steps p.tables e below (T5.setTop (mkF m 27 #[.val (.int p1), .val (.int ii), .val (.ref tt), .val (.int rq), .val (.int cc), .unset, .unset, .unset] [(.int (1 : Int32)), (.int cc)])) t
      refine XS.icmpNo X5.here hx rfl (hb hby at_27) rfl (flt (hc1 : ¬ (cc < (1 : Int32)))).1 ?_
      show Steps p.tables e below (T5.setTop (mkF m 30 #[.val (.int p1), .val (.int ii), .val (.ref tt), .val (.int rq), .val (.int cc), .unset, .unset, .unset] [])) t
      refine XS.iload X5.here hx rfl (hb hby at_30) rfl ?_
      show Steps p.tables e below (T5.setTop (mkF m 32 #[.val (.int p1), .val (.int ii), .val (.ref tt), .val (.int rq), .val (.int cc), .unset, .unset, .unset] [(.int cc)])) t
      refine XS.iconst X5.here hx rfl (hb hby at_32) ?_
      show Steps p.tables e below (T5.setTop (mkF m 33 #[.val (.int p1), .val (.int ii), .val (.ref tt), .val (.int rq), .val (.int cc), .unset, .unset, .unset] [(.int (3 : Int32)), (.int cc)])) t
      refine XS.icmpNo X5.here hx rfl (hb hby at_33) rfl (flt (hc3 : ¬ ((3 : Int32) < cc))).2.2.1 ?_
      show Steps p.tables e below (T5.setTop (mkF m 36 #[.val (.int p1), .val (.int ii), .val (.ref tt), .val (.int rq), .val (.int cc), .unset, .unset, .unset] [])) t
      refine XS.iconst X5.here hx rfl (hb hby at_36) ?_
      show Steps p.tables e below (T5.setTop (mkF m 37 #[.val (.int p1), .val (.int ii), .val (.ref tt), .val (.int rq), .val (.int cc), .unset, .unset, .unset] [(.int (1 : Int32))])) t
      refine XS.goto X5.here hx rfl (pc0 := 37) (pc' := 41) rfl (hb hby at_37) (by decide) (by decide) ?_
      show Steps p.tables e below (T5.setTop (mkF m 41 #[.val (.int p1), .val (.int ii), .val (.ref tt), .val (.int rq), .val (.int cc), .unset, .unset, .unset] [(.int (1 : Int32))])) t
      refine XS.istore X5.here hx rfl (hb hby at_41) rfl (l' := #[.val (.int p1), .val (.int ii), .val (.ref tt), .val (.int rq), .val (.int cc), .val (.int (1 : Int32)), .unset, .unset]) rfl ?_
      show Steps p.tables e below (T5.setTop (mkF m 43 #[.val (.int p1), .val (.int ii), .val (.ref tt), .val (.int rq), .val (.int cc), .val (.int (1 : Int32)), .unset, .unset] [])) t
      refine XS.iloadN X5.here hx rfl (hb hby at_43) rfl ?_
      show Steps p.tables e below (T5.setTop (mkF m 44 #[.val (.int p1), .val (.int ii), .val (.ref tt), .val (.int rq), .val (.int cc), .val (.int (1 : Int32)), .unset, .unset] [(.int ii)])) t
      refine XS.iconst X5.here hx rfl (hb hby at_44) ?_
      show Steps p.tables e below (T5.setTop (mkF m 45 #[.val (.int p1), .val (.int ii), .val (.ref tt), .val (.int rq), .val (.int cc), .val (.int (1 : Int32)), .unset, .unset] [(.int (2 : Int32)), (.int ii)])) t
      refine XS.icmpNo X5.here hx rfl (hb hby at_45) rfl (flt (hi2 : ¬ ((2 : Int32) < ii))).2.2.1 ?_
      show Steps p.tables e below (T5.setTop (mkF m 48 #[.val (.int p1), .val (.int ii), .val (.ref tt), .val (.int rq), .val (.int cc), .val (.int (1 : Int32)), .unset, .unset] [])) t
      refine XS.iconst X5.here hx rfl (hb hby at_48) ?_
      show Steps p.tables e below (T5.setTop (mkF m 49 #[.val (.int p1), .val (.int ii), .val (.ref tt), .val (.int rq), .val (.int cc), .val (.int (1 : Int32)), .unset, .unset] [(.int (1 : Int32))])) t
      refine XS.goto X5.here hx rfl (pc0 := 49) (pc' := 53) rfl (hb hby at_49) (by decide) (by decide) ?_
      show Steps p.tables e below (T5.setTop (mkF m 53 #[.val (.int p1), .val (.int ii), .val (.ref tt), .val (.int rq), .val (.int cc), .val (.int (1 : Int32)), .unset, .unset] [(.int (1 : Int32))])) t
      refine XS.istore X5.here hx rfl (hb hby at_53) rfl (l' := #[.val (.int p1), .val (.int ii), .val (.ref tt), .val (.int rq), .val (.int cc), .val (.int (1 : Int32)), .val (.int (1 : Int32)), .unset]) rfl ?_
      show Steps p.tables e below (T5.setTop (mkF m 55 #[.val (.int p1), .val (.int ii), .val (.ref tt), .val (.int rq), .val (.int cc), .val (.int (1 : Int32)), .val (.int (1 : Int32)), .unset] [])) t
      refine XS.iloadN X5.here hx rfl (hb hby at_55) rfl ?_
      show Steps p.tables e below (T5.setTop (mkF m 56 #[.val (.int p1), .val (.int ii), .val (.ref tt), .val (.int rq), .val (.int cc), .val (.int (1 : Int32)), .val (.int (1 : Int32)), .unset] [(.int rq)])) t
      refine XS.ifNo X5.here hx rfl (hb hby at_56) rfl ((if0 _ _).trans (feq (by rw [hrq, hq]; decide : ¬ (rq = (0 : Int32)))).1) ?_
      show Steps p.tables e below (T5.setTop (mkF m 59 #[.val (.int p1), .val (.int ii), .val (.ref tt), .val (.int rq), .val (.int cc), .val (.int (1 : Int32)), .val (.int (1 : Int32)), .unset] [])) t
      refine XS.aloadN X5.here hx rfl (hb hby at_59) rfl rfl ?_
      exact k
    obtain ⟨cq6, kq6, q6a, q6b, q6c⟩ := isOf hZ hh5 EX
    obtain ⟨_, _, ⟨T6, L6, k6, n6⟩, -, X6, ⟨Lc6, hQ6, l6, y6, z6⟩, st6⟩ := X5.virtualBack hx (y := (⟨"com/example/wary_mutex/warymutex/protocol/Message$Type", "fromClient", "()Z"⟩ : MethodName)) (z := (⟨"com/example/wary_mutex/warymutex/protocol/Message$Type", "fromClient", "()Z"⟩ : MethodName)) hown (mvT hZ (hw _ (List.mem_of_getElem? (i := 21) rfl))) (mvT hZ (hw _ (List.mem_of_getElem? (i := 22) rfl))) (notFace_of_selects (args := #[]) (mvT hZ (hw _ (List.mem_of_getElem? (i := 24) rfl)))) (mvT hZ (hw _ (List.mem_of_getElem? (i := 24) rfl))) (mvT hZ (hw _ (List.mem_of_getElem? (i := 23) rfl))) (by decide) (backOf (W := 0) (rm4 l Z a0 hw [] tt (1 : Int32) h0 n0 Z0 FF (by decide)) hZ (hw _ (List.mem_of_getElem? (i := 25) rfl)) (hw _ (List.mem_of_getElem? (i := 6) rfl)) (by decide) (by decide)) q6a q6c (g := (mkF m 60 #[.val (.int p1), .val (.int ii), .val (.ref tt), .val (.int rq), .val (.int cc), .val (.int (1 : Int32)), .val (.int (1 : Int32)), .unset] [(.ref tt)])) rfl (by rw [hml]; rfl) (Steps.refl _) (argsL := []) (rest := []) (lenOf pd_rm0_1 rfl) rfl (by show 2 * 0 + _ ≤ _; exact Nat.le_of_eq rfl) (hb hby at_60) (fun _ _ => ⟨rfl, hh5, (by decide : 0 + 0 ≤ _), (by decide : 0 + 0 ≤ _)⟩)
    dsimp only [Pt.U, Pt.locs, Pt.cells, Pt.slots] at X6 l6 y6 z6 st6 hQ6
    subst l6 y6 z6
    obtain ⟨rfl, N6q, hh6⟩ := hQ6
    have N6 := Fr.app N5 N6q
    refine own_go (fun t k => st6.trans k) ?_
    refine own_go (B := T6.setTop (mkF m 67 #[.val (.int p1), .val (.int ii), .val (.ref tt), .val (.int rq), .val (.int cc), .val (.int (1 : Int32)), .val (.int (1 : Int32)), .unset] [(.ref tt)])) (fun t k => ?_) ?_
    · show Steps p.tables e below (T6.setTop (mkF m 63 #[.val (.int p1), .val (.int ii), .val (.ref tt), .val (.int rq), .val (.int cc), .val (.int (1 : Int32)), .val (.int (1 : Int32)), .unset] [(.int (1 : Int32))])) t
      refine XS.ifNo X6.here hx rfl (hb hby at_63) rfl ((if0 _ _).trans (feq (by decide : ¬ ((1 : Int32) = (0 : Int32)))).1) ?_
      show Steps p.tables e below (T6.setTop (mkF m 66 #[.val (.int p1), .val (.int ii), .val (.ref tt), .val (.int rq), .val (.int cc), .val (.int (1 : Int32)), .val (.int (1 : Int32)), .unset] [])) t
      refine XS.aloadN X6.here hx rfl (hb hby at_66) rfl rfl ?_
      exact k
    obtain ⟨cq7, kq7, q7a, q7b, q7c⟩ := isOf hZ hh6 EX
    obtain ⟨_, _, ⟨T7, L7, k7, n7⟩, -, X7, ⟨Lc7, hQ7, l7, y7, z7⟩, st7⟩ := X6.virtualBack hx (y := (⟨"com/example/wary_mutex/warymutex/protocol/Message$Type", "numbered", "()Z"⟩ : MethodName)) (z := (⟨"com/example/wary_mutex/warymutex/protocol/Message$Type", "numbered", "()Z"⟩ : MethodName)) hown (mvT hZ (hw _ (List.mem_of_getElem? (i := 28) rfl))) (mvT hZ (hw _ (List.mem_of_getElem? (i := 29) rfl))) (notFace_of_selects (args := #[]) (mvT hZ (hw _ (List.mem_of_getElem? (i := 31) rfl)))) (mvT hZ (hw _ (List.mem_of_getElem? (i := 31) rfl))) (mvT hZ (hw _ (List.mem_of_getElem? (i := 30) rfl))) (by decide) (backOf (W := 0) (rm5 l Z a0 hw [] tt (1 : Int32) h0 n0 Z0 FN (by decide)) hZ (hw _ (List.mem_of_getElem? (i := 32) rfl)) (hw _ (List.mem_of_getElem? (i := 6) rfl)) (by decide) (by decide)) q7a q7c (g := (mkF m 67 #[.val (.int p1), .val (.int ii), .val (.ref tt), .val (.int rq), .val (.int cc), .val (.int (1 : Int32)), .val (.int (1 : Int32)), .unset] [(.ref tt)])) rfl (by rw [hml]; rfl) (Steps.refl _) (argsL := []) (rest := []) (lenOf pd_rm0_1 rfl) rfl (by show 2 * 0 + _ ≤ _; exact Nat.le_of_eq rfl) (hb hby at_67) (fun _ _ => ⟨rfl, hh6, (by decide : 0 + 0 ≤ _), (by decide : 0 + 0 ≤ _)⟩)
    dsimp only [Pt.U, Pt.locs, Pt.cells, Pt.slots] at X7 l7 y7 z7 st7 hQ7
    subst l7 y7 z7
    obtain ⟨rfl, N7q, hh7⟩ := hQ7
    have N7 := Fr.app N6 N7q
    refine own_go (fun t k => st7.trans k) ?_
    refine own_go (B := T7.setTop (mkF m 74 #[.val (.int p1), .val (.int ii), .val (.ref tt), .val (.int rq), .val (.int cc), .val (.int (1 : Int32)), .val (.int (1 : Int32)), .unset] [(.ref tt)])) (fun t k => ?_) ?_
    · show Steps p.tables e below (T7.setTop (mkF m 70 #[.val (.int p1), .val (.int ii), .val (.ref tt), .val (.int rq), .val (.int cc), .val (.int (1 : Int32)), .val (.int (1 : Int32)), .unset] [(.int (1 : Int32))])) t
      refine XS.ifNo X7.here hx rfl (hb hby at_70) rfl ((if0 _ _).trans (feq (by decide : ¬ ((1 : Int32) = (0 : Int32)))).1) ?_
      show Steps p.tables e below (T7.setTop (mkF m 73 #[.val (.int p1), .val (.int ii), .val (.ref tt), .val (.int rq), .val (.int cc), .val (.int (1 : Int32)), .val (.int (1 : Int32)), .unset] [])) t
      refine XS.aloadN X7.here hx rfl (hb hby at_73) rfl rfl ?_
      exact k
    obtain ⟨cq8, kq8, q8a, q8b, q8c⟩ := isOf hZ hh7 EX
    obtain ⟨_, _, ⟨T8, L8, k8, n8⟩, -, X8, ⟨Lc8, hQ8, l8, y8, z8⟩, st8⟩ := X7.virtualBack hx (y := (⟨"com/example/wary_mutex/warymutex/protocol/Message$Type", "granted", "()Z"⟩ : MethodName)) (z := (⟨"com/example/wary_mutex/warymutex/protocol/Message$Type", "granted", "()Z"⟩ : MethodName)) hown (mvT hZ (hw _ (List.mem_of_getElem? (i := 35) rfl))) (mvT hZ (hw _ (List.mem_of_getElem? (i := 36) rfl))) (notFace_of_selects (args := #[]) (mvT hZ (hw _ (List.mem_of_getElem? (i := 38) rfl)))) (mvT hZ (hw _ (List.mem_of_getElem? (i := 38) rfl))) (mvT hZ (hw _ (List.mem_of_getElem? (i := 37) rfl))) (by decide) (backOf (W := 0) (rm6 l Z a0 hw [] tt (0 : Int32) h0 n0 Z0 FG (by decide)) hZ (hw _ (List.mem_of_getElem? (i := 39) rfl)) (hw _ (List.mem_of_getElem? (i := 6) rfl)) (by decide) (by decide)) q8a q8c (g := (mkF m 74 #[.val (.int p1), .val (.int ii), .val (.ref tt), .val (.int rq), .val (.int cc), .val (.int (1 : Int32)), .val (.int (1 : Int32)), .unset] [(.ref tt)])) rfl (by rw [hml]; rfl) (Steps.refl _) (argsL := []) (rest := []) (lenOf pd_rm0_1 rfl) rfl (by show 2 * 0 + _ ≤ _; exact Nat.le_of_eq rfl) (hb hby at_74) (fun _ _ => ⟨rfl, hh7, (by decide : 0 + 0 ≤ _), (by decide : 0 + 0 ≤ _)⟩)
    dsimp only [Pt.U, Pt.locs, Pt.cells, Pt.slots] at X8 l8 y8 z8 st8 hQ8
    subst l8 y8 z8
    obtain ⟨rfl, N8q, hh8⟩ := hQ8
    have N8 := Fr.app N7 N8q
    refine own_go (fun t k => st8.trans k) ?_
    refine own_go (B := T8.setTop (mkF m 109 #[.val (.int p1), .val (.int ii), .val (.ref tt), .val (.int rq), .val (.int cc), .val (.int (1 : Int32)), .val (.int (1 : Int32)), .val (.int (1 : Int32))] [(.int (1 : Int32))])) (fun t k => ?_) ?_
    · show Steps p.tables e below (T8.setTop (mkF m 77 #[.val (.int p1), .val (.int ii), .val (.ref tt), .val (.int rq), .val (.int cc), .val (.int (1 : Int32)), .val (.int (1 : Int32)), .unset] [(.int (0 : Int32))])) t
      refine XS.ifNo X8.here hx rfl (hb hby at_77) rfl ((if0 _ _).trans (teq (by decide : (0 : Int32) = (0 : Int32))).2) ?_
      show Steps p.tables e below (T8.setTop (mkF m 80 #[.val (.int p1), .val (.int ii), .val (.ref tt), .val (.int rq), .val (.int cc), .val (.int (1 : Int32)), .val (.int (1 : Int32)), .unset] [])) t
      refine XS.iconst X8.here hx rfl (hb hby at_80) ?_
      show Steps p.tables e below (T8.setTop (mkF m 81 #[.val (.int p1), .val (.int ii), .val (.ref tt), .val (.int rq), .val (.int cc), .val (.int (1 : Int32)), .val (.int (1 : Int32)), .unset] [(.int (1 : Int32))])) t
      refine XS.goto X8.here hx rfl (pc0 := 81) (pc' := 85) rfl (hb hby at_81) (by decide) (by decide) ?_
      show Steps p.tables e below (T8.setTop (mkF m 85 #[.val (.int p1), .val (.int ii), .val (.ref tt), .val (.int rq), .val (.int cc), .val (.int (1 : Int32)), .val (.int (1 : Int32)), .unset] [(.int (1 : Int32))])) t
      refine XS.istore X8.here hx rfl (hb hby at_85) rfl (l' := #[.val (.int p1), .val (.int ii), .val (.ref tt), .val (.int rq), .val (.int cc), .val (.int (1 : Int32)), .val (.int (1 : Int32)), .val (.int (1 : Int32))]) rfl ?_
      show Steps p.tables e below (T8.setTop (mkF m 87 #[.val (.int p1), .val (.int ii), .val (.ref tt), .val (.int rq), .val (.int cc), .val (.int (1 : Int32)), .val (.int (1 : Int32)), .val (.int (1 : Int32))] [])) t
      refine XS.iloadN X8.here hx rfl (hb hby at_87) rfl ?_
      show Steps p.tables e below (T8.setTop (mkF m 88 #[.val (.int p1), .val (.int ii), .val (.ref tt), .val (.int rq), .val (.int cc), .val (.int (1 : Int32)), .val (.int (1 : Int32)), .val (.int (1 : Int32))] [(.int rq)])) t
      refine XS.iload X8.here hx rfl (hb hby at_88) rfl ?_
      show Steps p.tables e below (T8.setTop (mkF m 90 #[.val (.int p1), .val (.int ii), .val (.ref tt), .val (.int rq), .val (.int cc), .val (.int (1 : Int32)), .val (.int (1 : Int32)), .val (.int (1 : Int32))] [(.int (1 : Int32)), (.int rq)])) t
      refine XS.icmpNo X8.here hx rfl (hb hby at_90) rfl (teq (hrq.trans hq : rq = (1 : Int32))).2 ?_
      show Steps p.tables e below (T8.setTop (mkF m 93 #[.val (.int p1), .val (.int ii), .val (.ref tt), .val (.int rq), .val (.int cc), .val (.int (1 : Int32)), .val (.int (1 : Int32)), .val (.int (1 : Int32))] [])) t
      refine XS.iloadN X8.here hx rfl (hb hby at_93) rfl ?_
      show Steps p.tables e below (T8.setTop (mkF m 94 #[.val (.int p1), .val (.int ii), .val (.ref tt), .val (.int rq), .val (.int cc), .val (.int (1 : Int32)), .val (.int (1 : Int32)), .val (.int (1 : Int32))] [(.int rq)])) t
      refine XS.iload X8.here hx rfl (hb hby at_94) rfl ?_
      show Steps p.tables e below (T8.setTop (mkF m 96 #[.val (.int p1), .val (.int ii), .val (.ref tt), .val (.int rq), .val (.int cc), .val (.int (1 : Int32)), .val (.int (1 : Int32)), .val (.int (1 : Int32))] [(.int (1 : Int32)), (.int rq)])) t
      refine XS.icmpNo X8.here hx rfl (hb hby at_96) rfl (teq (hrq.trans hq : rq = (1 : Int32))).2 ?_
      show Steps p.tables e below (T8.setTop (mkF m 99 #[.val (.int p1), .val (.int ii), .val (.ref tt), .val (.int rq), .val (.int cc), .val (.int (1 : Int32)), .val (.int (1 : Int32)), .val (.int (1 : Int32))] [])) t
      refine XS.iload X8.here hx rfl (hb hby at_99) rfl ?_
      show Steps p.tables e below (T8.setTop (mkF m 101 #[.val (.int p1), .val (.int ii), .val (.ref tt), .val (.int rq), .val (.int cc), .val (.int (1 : Int32)), .val (.int (1 : Int32)), .val (.int (1 : Int32))] [(.int (1 : Int32))])) t
      refine XS.ifNo X8.here hx rfl (hb hby at_101) rfl ((if0 _ _).trans (feq (by decide : ¬ ((1 : Int32) = (0 : Int32)))).1) ?_
      show Steps p.tables e below (T8.setTop (mkF m 104 #[.val (.int p1), .val (.int ii), .val (.ref tt), .val (.int rq), .val (.int cc), .val (.int (1 : Int32)), .val (.int (1 : Int32)), .val (.int (1 : Int32))] [])) t
      refine XS.iconst X8.here hx rfl (hb hby at_104) ?_
      show Steps p.tables e below (T8.setTop (mkF m 105 #[.val (.int p1), .val (.int ii), .val (.ref tt), .val (.int rq), .val (.int cc), .val (.int (1 : Int32)), .val (.int (1 : Int32)), .val (.int (1 : Int32))] [(.int (1 : Int32))])) t
      refine XS.goto X8.here hx rfl (pc0 := 105) (pc' := 109) rfl (hb hby at_105) (by decide) (by decide) ?_
      exact k
    obtain ⟨fs, hr, hrun, hended, hW, hsame⟩ := X8.leave (v := some (.int (1 : Int32))) (fun h => by rw [Bd.returns] at h; cases h)
    refine ⟨_, _, ?_, hrun, hended, _, _, rfl, ?_, ⟨_, rfl⟩, hW, hsame.mono (by decide) (by decide)⟩
    · show Steps p.tables e below (T8.setTop (mkF m 109 #[.val (.int p1), .val (.int ii), .val (.ref tt), .val (.int rq), .val (.int cc), .val (.int (1 : Int32)), .val (.int (1 : Int32)), .val (.int (1 : Int32))] [(.int (1 : Int32))])) _
      exact retN X8 hx (t := .boolean) Bd.returns (by simp) (hb hby at_109) hr
    · show Q0 Z p1 t0 t1 t2 t3 t4 t5 t6 t7 t8 t9 h0 n0 _ T8.heap _
      rw [hh8]
      exact ⟨rfl, N8⟩
theorem own_fld {s : State} {args : Array Value} {t : Jvm.Term} {a : Addr} {C n d : String} {k : Int32} (ev : t.eval args s none [] s = some (.ref a)) (h : (Jvm.Cond.eq (Jvm.Term.field t C n d) (Jvm.Term.int k)).value args s none s [] = some true) : Fld s s.heap a C n d (.int k) := by
  have h' := eqv_i (Term.int_eval k) h
  refine Fld.start ?_
  simpa [Term.eval, ev] using h'
set_option maxRecDepth 65536 in
set_option maxHeartbeats 40000000 in
theorem comes_1 {Post : Tables → Env → Array Value → State → Outcome → State → Prop} (hpost : ∀ tb e args s v u, (limb_1_1.after args s (.returned v) u = true ∧ limb_1_2.after args s (.returned v) u = true ∧ True) → FrameEnd s (.returned v) u (Jvm.fieldLocs frame_1_writes args s ++ Jvm.arrayLocs frame_1_arrays args s ++ Jvm.staticLocs frame_1_statics s) 0 0 → Post tb e args s (.returned v) u) :
    ArmFor flags0 classFile x code maxLocals ret World_1 tables_1 room_1 Calls_1 rest_1 Pre_1 Post := by
  intro l hfl _ _ p e ha hc hk s m args below hf hA hF happ hP
  obtain ⟨hcalls, hrest, hpre⟩ := hP
  obtain ⟨-, -, -, hnamed, -, -, -, hat⟩ := (Spec.applies_iff hf).mp happ
  obtain ⟨hg, hn⟩ := and_e (Cond.before_iff.mp (show (Jvm.Cond.and given_1 narrow_1).before args s = true from hpre))
  obtain ⟨gc, g0⟩ := and_e hg
  have a0 := g0
  obtain ⟨w0, rfl⟩ : ∃ w0 : Value, args = #[w0] := by
    have hs : args.size = 1 := by simpa [Cond.value, given_1] using gc
    obtain ⟨L⟩ := args
    match L, hs with
    | [w0], _ => exact ⟨w0, rfl⟩
  have hw := fun d (hd : d ∈ tables_1) => atoms_spec (ws := Jvm.Cond.code x code maxLocals ret :: tables_1) hat d (List.mem_cons_of_mem _ hd)
  have hfit : Fit s := fun {y c} hc i hi => by
    obtain ⟨ha, rfl⟩ := Array.getElem?_eq_some_iff.mp hc
    have q := List.all_eq_true.mp ((Array.all_eq_true_iff_forall_mem.mp hF) _ (Array.getElem_mem ha)) i (List.mem_range.mpr hi)
    simpa [Array.getElem?_eq_getElem hi] using q
  obtain ⟨i0, ei0⟩ := is_v a0
  obtain rfl : w0 = (.int i0) := Option.some.inj ei0
  obtain ⟨nw0, nr0⟩ := and_e hn
  obtain ⟨nw1, nr1⟩ := and_e nr0
  obtain ⟨nw2, nr2⟩ := and_e nr1
  obtain ⟨nw3, nr3⟩ := and_e nr2
  obtain ⟨nw4, nr4⟩ := and_e nr3
  obtain ⟨nw5, nr5⟩ := and_e nr4
  obtain ⟨nw6, nr6⟩ := and_e nr5
  obtain ⟨nw7, nr7⟩ := and_e nr6
  obtain ⟨nw8, nr8⟩ := and_e nr7
  obtain ⟨nw9, nr9⟩ := and_e nr8
  obtain ⟨nw10, nr10⟩ := and_e nr9
  obtain ⟨nw11, nr11⟩ := and_e nr10
  obtain ⟨nw12, nr12⟩ := and_e nr11
  obtain ⟨nw13, nr13⟩ := and_e nr12
  obtain ⟨nw14, nr14⟩ := and_e nr13
  obtain ⟨nw15, nr15⟩ := and_e nr14
  obtain ⟨nw16, nr16⟩ := and_e nr15
  obtain ⟨nw17, nr17⟩ := and_e nr16
  obtain ⟨nw18, nr18⟩ := and_e nr17
  obtain ⟨nw19, nr19⟩ := and_e nr18
  obtain ⟨nw20, nr20⟩ := and_e nr19
  obtain ⟨nw21, nr21⟩ := and_e nr20
  obtain ⟨nw22, nr22⟩ := and_e nr21
  obtain ⟨nw23, nr23⟩ := and_e nr22
  obtain ⟨nw24, nr24⟩ := and_e nr23
  obtain ⟨nw25, nr25⟩ := and_e nr24
  obtain ⟨nw26, nr26⟩ := and_e nr25
  obtain ⟨nw27, nr27⟩ := and_e nr26
  obtain ⟨nw28, nr28⟩ := and_e nr27
  obtain ⟨nw29, nr29⟩ := and_e nr28
  obtain ⟨nw30, nr30⟩ := and_e nr29
  obtain ⟨nw31, nr31⟩ := and_e nr30
  obtain ⟨nw32, nr32⟩ := and_e nr31
  obtain ⟨nw33, nr33⟩ := and_e nr32
  obtain ⟨nw34, nr34⟩ := and_e nr33
  obtain ⟨nw35, nr35⟩ := and_e nr34
  obtain ⟨nw36, nr36⟩ := and_e nr35
  obtain ⟨nw37, nr37⟩ := and_e nr36
  obtain ⟨nw38, nr38⟩ := and_e nr37
  obtain ⟨nw39, nr39⟩ := and_e nr38
  obtain ⟨nw40, nr40⟩ := and_e nr39
  obtain ⟨nw41, nr41⟩ := and_e nr40
  obtain ⟨nw42, nr42⟩ := and_e nr41
  obtain ⟨nw43, nr43⟩ := and_e nr42
  obtain ⟨nw44, nr44⟩ := and_e nr43
  obtain ⟨nw45, nr45⟩ := and_e nr44
  obtain ⟨nw46, nr46⟩ := and_e nr45
  obtain ⟨nw47, nr47⟩ := and_e nr46
  obtain ⟨nw48, nr48⟩ := and_e nr47
  obtain ⟨nw49, nr49⟩ := and_e nr48
  obtain ⟨nw50, nr50⟩ := and_e nr49
  obtain ⟨nw51, nr51⟩ := and_e nr50
  obtain ⟨nw52, nr52⟩ := and_e nr51
  obtain ⟨nw53, nr53⟩ := and_e nr52
  obtain ⟨nw54, nr54⟩ := and_e nr53
  obtain ⟨nw55, nr55⟩ := and_e nr54
  obtain ⟨nw56, nr56⟩ := and_e nr55
  obtain ⟨nw57, nr57⟩ := and_e nr56
  obtain ⟨nw58, nr58⟩ := and_e nr57
  have nw59 := nr58
  obtain ⟨t0, _, _, _, ev0, -⟩ := Cond.exactly_spec (Cond.before_iff.mpr nw0)
  have S0 := Sta.start ev0 (Or.inr ⟨(hw _ (List.mem_of_getElem? (i := 6) rfl)), (hw _ (List.mem_of_getElem? (i := 7) rfl))⟩)
  have X0 := Exa.start ev0 nw0
  have C0 := own_fld ev0 nw1
  have f0 := own_fld ev0 nw2
  have g0 := own_fld ev0 nw3
  have d0 := own_fld ev0 nw4
  obtain ⟨t1, _, _, _, ev1, -⟩ := Cond.exactly_spec (Cond.before_iff.mpr nw8)
  have S1 := Sta.start ev1 (Or.inr ⟨(hw _ (List.mem_of_getElem? (i := 6) rfl)), (hw _ (List.mem_of_getElem? (i := 45) rfl))⟩)
  have X1 := Exa.start ev1 nw8
  have C1 := own_fld ev1 nw13
  have f1 := own_fld ev1 nw14
  have g1 := own_fld ev1 nw15
  have d1 := own_fld ev1 nw16
  obtain ⟨t2, _, _, _, ev2, -⟩ := Cond.exactly_spec (Cond.before_iff.mpr nw10)
  have S2 := Sta.start ev2 (Or.inr ⟨(hw _ (List.mem_of_getElem? (i := 6) rfl)), (hw _ (List.mem_of_getElem? (i := 47) rfl))⟩)
  have X2 := Exa.start ev2 nw10
  have C2 := own_fld ev2 nw23
  have f2 := own_fld ev2 nw24
  have g2 := own_fld ev2 nw25
  have d2 := own_fld ev2 nw26
  obtain ⟨t3, _, _, _, ev3, -⟩ := Cond.exactly_spec (Cond.before_iff.mpr nw5)
  have S3 := Sta.start ev3 (Or.inr ⟨(hw _ (List.mem_of_getElem? (i := 6) rfl)), (hw _ (List.mem_of_getElem? (i := 43) rfl))⟩)
  have X3 := Exa.start ev3 nw5
  have C3 := own_fld ev3 nw12
  obtain ⟨t4, _, _, _, ev4, -⟩ := Cond.exactly_spec (Cond.before_iff.mpr nw17)
  have S4 := Sta.start ev4 (Or.inr ⟨(hw _ (List.mem_of_getElem? (i := 6) rfl)), (hw _ (List.mem_of_getElem? (i := 50) rfl))⟩)
  have X4 := Exa.start ev4 nw17
  have C4 := own_fld ev4 nw19
  obtain ⟨t5, _, _, _, ev5, -⟩ := Cond.exactly_spec (Cond.before_iff.mpr nw33)
  have S5 := Sta.start ev5 (Or.inr ⟨(hw _ (List.mem_of_getElem? (i := 6) rfl)), (hw _ (List.mem_of_getElem? (i := 59) rfl))⟩)
  have X5 := Exa.start ev5 nw33
  have C5 := own_fld ev5 nw35
  obtain ⟨t6, _, _, _, ev6, -⟩ := Cond.exactly_spec (Cond.before_iff.mpr nw36)
  have S6 := Sta.start ev6 (Or.inr ⟨(hw _ (List.mem_of_getElem? (i := 6) rfl)), (hw _ (List.mem_of_getElem? (i := 61) rfl))⟩)
  have X6 := Exa.start ev6 nw36
  have C6 := own_fld ev6 nw38
  obtain ⟨t7, _, _, _, ev7, -⟩ := Cond.exactly_spec (Cond.before_iff.mpr nw20)
  have S7 := Sta.start ev7 (Or.inr ⟨(hw _ (List.mem_of_getElem? (i := 6) rfl)), (hw _ (List.mem_of_getElem? (i := 52) rfl))⟩)
  have X7 := Exa.start ev7 nw20
  have C7 := own_fld ev7 nw22
  obtain ⟨t8, _, _, _, ev8, -⟩ := Cond.exactly_spec (Cond.before_iff.mpr nw27)
  have S8 := Sta.start ev8 (Or.inr ⟨(hw _ (List.mem_of_getElem? (i := 6) rfl)), (hw _ (List.mem_of_getElem? (i := 55) rfl))⟩)
  have X8 := Exa.start ev8 nw27
  have C8 := own_fld ev8 nw29
  obtain ⟨t9, _, _, _, ev9, -⟩ := Cond.exactly_spec (Cond.before_iff.mpr nw30)
  have S9 := Sta.start ev9 (Or.inr ⟨(hw _ (List.mem_of_getElem? (i := 6) rfl)), (hw _ (List.mem_of_getElem? (i := 57) rfl))⟩)
  have X9 := Exa.start ev9 nw30
  have C9 := own_fld ev9 nw32
  obtain ⟨n, o, h1, h2, h3, _, L, rfl, ⟨rfl, N⟩, hq⟩ := rm0 l s _ hw tables_1 i0 t0 t1 t2 t3 t4 t5 t6 t7 t8 t9 s.heap s.heap.size (Nat.le_refl _) S0 S1 S2 S3 S4 S5 S6 S7 S8 S9 X0 X1 X2 X3 X4 X5 X6 X7 X8 X9 C0 C1 C2 C3 C4 C5 C6 C7 C8 C9 f0 g0 d0 f1 g1 d1 f2 g2 d2 p e ha hc hk s m _ below hf ((Spec.applies_iff_loose hf).mp happ).1 ⟨rfl, State.Warmed39.refl s, rfl⟩ trivial
  refine ⟨n, _, h1, h2, h3, hpost _ _ _ _ _ _ ⟨Cond.after_iff.mpr rfl, Cond.after_iff.mpr (eq_i res_at (Term.int_eval (1)) rfl), trivial⟩ ⟨hq.1, hq.2.1, (hq.2.2.sift fun y hy => Or.inr (N y hy)).mono (by decide) (by decide)⟩⟩
theorem main_1_1 : Claimed_1_1 := comes_1 fun _ _ _ _ _ _ h hF => ⟨h.1, hF⟩
theorem main_1_2 : Claimed_1_2 := comes_1 fun _ _ _ _ _ _ h hF => ⟨h.2.1, hF⟩
end Jvm.Pilot.@@N@@
namespace Jvm.Pilot.@@N@@
open Jvm Jvm.ClassFile Sem Op Lib Jvm.Free Jvm.Stand Jvm.Pilot.@@N@@.Jvm.D
/-! MADE BY PROGRAM (witnessworld.py) out of the Statement's table words and the real class files: 12 classes; the members and pool entries that the words name. The judged class is class 1, her method 1. -/
namespace start1
open Jvm.ClassFile
def u (s : String) : CpInfo := .utf8 (stringToUtf16 s)
/-- a pool by its gaps: so many unusable entries, then the entry; so many at the end -/
def gap : Nat → List CpInfo → List CpInfo
  | 0, r => r
  | n + 1, r => .unusable :: gap n r
def poolList (es : List (Nat × CpInfo)) (last : Nat) : List CpInfo := es.foldr (fun e r => gap e.1 (e.2 :: r)) (gap last [])
def pool (es : List (Nat × CpInfo)) (last : Nat) : Array CpInfo := ⟨poolList es last⟩
def fileOf (pool : Array CpInfo) (this : Nat) (attrs : Array Attribute := #[]) (ms : Array MethodInfo := #[]) (fl : Nat := 33) (sup : Nat := 0) (ifs : Array Nat := #[]) (fds : Array FieldInfo := #[]) : ClassFile where
  minorVersion := 0
  majorVersion := 65
  constantPool := pool
  accessFlags := fl
  thisClass := this
  superClass := sup
  interfaces := ifs
  fields := fds
  methods := ms
  attributes := attrs
def plain (name : String) (sup : Option ClassId) : Class where
  name := name
  kind := .ordinary
  loader := none
  accessFlags := 33
  super := sup
  interfaces := #[]
  cf := none
  fields := #[]
  methods := #[]
  instanceTypes := #[]
  staticTypes := #[]
  resolved := #[]
  callSites := []
  init := .initialized
  statics := none
  mirror := none

def pool0 : Array CpInfo := pool [(5, u "<init>"), (0, u "()V"), (1, .class_ 10), (1, u "java/lang/Object")] 113

def k0m0 : Method := { name := "<init>", desc := "()V", sig := { parameters := [], returnType := none }, accessFlags := 1, code := none }
/-- java/lang/Object -/
def k0 : Class := { plain "java/lang/Object" none with
  accessFlags := 33
  interfaces := #[]
  cf := some (fileOf pool0 8 #[] #[{ accessFlags := 1, nameIndex := 5, descriptorIndex := 6, attributes := #[] }] 33 0 #[] #[])
  fields := #[]
  methods := #[k0m0]
  instanceTypes := #[]
  staticTypes := #[]
  resolved := Array.replicate 124 none
  statics := none }

def pool1 : Array CpInfo := pool [(2, .class_ 4), (1, u "java/lang/Object"), (0, u "<init>"), (0, u "()V"), (0, .integer 2147483647), (0, .methodref 9 10), (0, .class_ 11), (0, .nameAndType 12 13), (0, u "com/example/wary_mutex/warymutex/protocol/TypeQuestionPinLaw"), (0, u "pick"), (0, u "(I)Lcom/example/wary_mutex/warymutex/protocol/Message$Type;"), (0, .methodref 15 16), (0, .class_ 17), (0, .nameAndType 18 19), (0, u "com/example/wary_mutex/warymutex/protocol/Message$Type"), (0, u "question"), (0, u "()Z"), (0, .methodref 15 21), (0, .nameAndType 22 23), (0, u "code"), (0, u "()B"), (0, .methodref 15 25), (0, .nameAndType 26 19), (0, u "fromClient"), (0, .methodref 15 28), (0, .nameAndType 29 19), (0, u "numbered"), (0, .methodref 15 31), (0, .nameAndType 32 19), (0, u "granted"), (0, .fieldref 15 34), (0, .nameAndType 35 36), (0, u "REQUEST"), (0, u "Lcom/example/wary_mutex/warymutex/protocol/Message$Type;"), (0, .fieldref 15 38), (0, .nameAndType 39 36), (0, u "YIELD"), (0, .fieldref 15 41), (0, .nameAndType 42 36), (0, u "INQUIRY"), (0, .fieldref 15 44), (0, .nameAndType 45 36), (0, u "RELEASE"), (0, .fieldref 15 47), (0, .nameAndType 48 36), (0, u "RESPONSE"), (0, .fieldref 15 50), (0, .nameAndType 51 36), (0, u "CHECK"), (0, .fieldref 15 53), (0, .nameAndType 54 36), (0, u "RENEW"), (0, .fieldref 15 56), (0, .nameAndType 57 36), (0, u "RENEWED"), (0, .fieldref 15 59), (0, .nameAndType 60 36), (0, u "FENCE"), (0, .fieldref 15 62), (0, .nameAndType 63 36), (0, u "FENCED"), (2, u "law"), (0, u "(I)Z")] 7

def k1m0 : Method := { name := "<init>", desc := "()V", sig := { parameters := [], returnType := none }, accessFlags := 1, code := none }
def k1c1 : Code := { maxStack := 2, maxLocals := 8, code := code, exceptionTable := #[], attributes := #[] }
def k1m1 : Method := { name := "law", desc := "(I)Z", sig := { parameters := [.int], returnType := some .boolean }, accessFlags := 9, code := some k1c1 }
def k1c2 : Code := { maxStack := 2, maxLocals := 1, code := method_3_code, exceptionTable := #[], attributes := #[] }
def k1m2 : Method := { name := "pick", desc := "(I)Lcom/example/wary_mutex/warymutex/protocol/Message$Type;", sig := { parameters := [.int], returnType := some (.object "com/example/wary_mutex/warymutex/protocol/Message$Type") }, accessFlags := 10, code := some k1c2 }
/-- com/example/wary_mutex/warymutex/protocol/TypeQuestionPinLaw -/
def k1 : Class := { plain "com/example/wary_mutex/warymutex/protocol/TypeQuestionPinLaw" (some 0) with
  accessFlags := 49
  interfaces := #[]
  cf := some (fileOf pool1 9 #[] #[{ accessFlags := 1, nameIndex := 5, descriptorIndex := 6, attributes := #[] }, { accessFlags := 9, nameIndex := 66, descriptorIndex := 67, attributes := #[] }, { accessFlags := 10, nameIndex := 12, descriptorIndex := 13, attributes := #[] }] 49 2 #[] #[])
  fields := #[]
  methods := #[k1m0, k1m1, k1m2]
  instanceTypes := #[]
  staticTypes := #[]
  resolved := Array.replicate 75 none
  statics := none }

def pool2 : Array CpInfo := pool [(1, .class_ 2), (0, u "java/lang/constant/Constable"), (0, .class_ 4), (0, u "java/lang/Object")] 6

/-- java/lang/constant/Constable -/
def k2 : Class := { plain "java/lang/constant/Constable" (some 0) with
  accessFlags := 1537
  interfaces := #[]
  cf := some (fileOf pool2 1 #[] #[] 1537 3 #[] #[])
  fields := #[]
  methods := #[]
  instanceTypes := #[]
  staticTypes := #[]
  resolved := Array.replicate 11 none
  statics := none }

def pool3 : Array CpInfo := pool [(1, .class_ 2), (0, u "java/lang/Comparable"), (0, .class_ 4), (0, u "java/lang/Object")] 7

/-- java/lang/Comparable -/
def k3 : Class := { plain "java/lang/Comparable" (some 0) with
  accessFlags := 1537
  interfaces := #[]
  cf := some (fileOf pool3 1 #[] #[] 1537 3 #[] #[])
  fields := #[]
  methods := #[]
  instanceTypes := #[]
  staticTypes := #[]
  resolved := Array.replicate 12 none
  statics := none }

def pool4 : Array CpInfo := pool [(1, .class_ 2), (0, u "java/io/Serializable"), (0, .class_ 4), (0, u "java/lang/Object")] 2

/-- java/io/Serializable -/
def k4 : Class := { plain "java/io/Serializable" (some 0) with
  accessFlags := 1537
  interfaces := #[]
  cf := some (fileOf pool4 1 #[] #[] 1537 3 #[] #[])
  fields := #[]
  methods := #[]
  instanceTypes := #[]
  staticTypes := #[]
  resolved := Array.replicate 7 none
  statics := none }

def pool5 : Array CpInfo := pool [(2, .class_ 4), (1, u "java/lang/Enum"), (0, u "name"), (0, u "Ljava/lang/String;"), (2, u "ordinal"), (0, u "I"), (1, .class_ 14), (1, u "java/lang/Object"), (4, u "hash"), (86, .class_ 108), (1, u "java/lang/Enum$EnumDesc"), (2, .class_ 112), (0, u "java/lang/constant/Constable"), (0, .class_ 114), (0, u "java/lang/Comparable"), (0, .class_ 116), (0, u "java/io/Serializable")] 87

/-- java/lang/Enum -/
def k5 : Class := { plain "java/lang/Enum" (some 0) with
  accessFlags := 1057
  interfaces := #[2, 3, 4]
  cf := some (fileOf pool5 2 #[.nestMembers #[106]] #[] 1057 12 #[111, 113, 115] #[{ accessFlags := 18, nameIndex := 5, descriptorIndex := 6, attributes := #[] }, { accessFlags := 18, nameIndex := 9, descriptorIndex := 10, attributes := #[] }, { accessFlags := 2, nameIndex := 19, descriptorIndex := 10, attributes := #[] }])
  fields := #[{ name := "name", type := (.object "java/lang/String"), accessFlags := 18, slot := 0, constantValue := 0 }, { name := "ordinal", type := .int, accessFlags := 18, slot := 1, constantValue := 0 }, { name := "hash", type := .int, accessFlags := 2, slot := 2, constantValue := 0 }]
  methods := #[]
  instanceTypes := #[(.object "java/lang/String"), .int, .int]
  staticTypes := #[]
  resolved := Array.replicate 204 none
  statics := none }

def pool6 : Array CpInfo := pool [(1, .class_ 2), (0, u "com/example/wary_mutex/warymutex/protocol/Message$Type"), (0, .fieldref 1 4), (0, .nameAndType 5 6), (0, u "REQUEST"), (0, u "Lcom/example/wary_mutex/warymutex/protocol/Message$Type;"), (0, .fieldref 1 8), (0, .nameAndType 9 6), (0, u "YIELD"), (0, .fieldref 1 11), (0, .nameAndType 12 6), (0, u "INQUIRY"), (2, u "RELEASE"), (2, u "RESPONSE"), (2, u "CHECK"), (2, u "RENEW"), (2, u "RENEWED"), (2, u "FENCE"), (2, u "FENCED"), (2, u "$VALUES"), (0, u "[Lcom/example/wary_mutex/warymutex/protocol/Message$Type;"), (6, .class_ 46), (1, u "java/lang/Enum"), (9, .fieldref 1 57), (0, .nameAndType 58 59), (0, u "code"), (0, u "B"), (0, .fieldref 1 61), (0, .nameAndType 62 63), (0, u "fromClient"), (0, u "Z"), (0, .fieldref 1 65), (0, .nameAndType 66 63), (0, u "numbered"), (0, .fieldref 1 68), (0, .nameAndType 69 63), (0, u "granted"), (29, u "()B"), (0, u "()Z"), (0, u "question"), (7, .class_ 110), (0, u "com/example/wary_mutex/warymutex/protocol/Message")] 2

def k6c0 : Code := { maxStack := 1, maxLocals := 1, code := prog_44_method_6_code, exceptionTable := #[], attributes := #[] }
def k6m0 : Method := { name := "code", desc := "()B", sig := { parameters := [], returnType := some .byte }, accessFlags := 1, code := some k6c0 }
def k6c1 : Code := { maxStack := 1, maxLocals := 1, code := prog_44_method_7_code, exceptionTable := #[], attributes := #[] }
def k6m1 : Method := { name := "fromClient", desc := "()Z", sig := { parameters := [], returnType := some .boolean }, accessFlags := 1, code := some k6c1 }
def k6c2 : Code := { maxStack := 1, maxLocals := 1, code := prog_44_method_8_code, exceptionTable := #[], attributes := #[] }
def k6m2 : Method := { name := "numbered", desc := "()Z", sig := { parameters := [], returnType := some .boolean }, accessFlags := 1, code := some k6c2 }
def k6c3 : Code := { maxStack := 1, maxLocals := 1, code := prog_44_method_9_code, exceptionTable := #[], attributes := #[] }
def k6m3 : Method := { name := "granted", desc := "()Z", sig := { parameters := [], returnType := some .boolean }, accessFlags := 1, code := some k6c3 }
def k6c4 : Code := { maxStack := 2, maxLocals := 1, code := prog_44_method_10_code, exceptionTable := #[], attributes := #[] }
def k6m4 : Method := { name := "question", desc := "()Z", sig := { parameters := [], returnType := some .boolean }, accessFlags := 1, code := some k6c4 }
/-- com/example/wary_mutex/warymutex/protocol/Message$Type -/
def k6 : Class := { plain "com/example/wary_mutex/warymutex/protocol/Message$Type" (some 5) with
  accessFlags := 16433
  interfaces := #[]
  cf := some (fileOf pool6 1 #[.nestHost 109] #[{ accessFlags := 1, nameIndex := 58, descriptorIndex := 99, attributes := #[] }, { accessFlags := 1, nameIndex := 62, descriptorIndex := 100, attributes := #[] }, { accessFlags := 1, nameIndex := 66, descriptorIndex := 100, attributes := #[] }, { accessFlags := 1, nameIndex := 69, descriptorIndex := 100, attributes := #[] }, { accessFlags := 1, nameIndex := 101, descriptorIndex := 100, attributes := #[] }] 16433 44 #[] #[{ accessFlags := 16409, nameIndex := 5, descriptorIndex := 6, attributes := #[] }, { accessFlags := 16409, nameIndex := 9, descriptorIndex := 6, attributes := #[] }, { accessFlags := 16409, nameIndex := 12, descriptorIndex := 6, attributes := #[] }, { accessFlags := 16409, nameIndex := 15, descriptorIndex := 6, attributes := #[] }, { accessFlags := 16409, nameIndex := 18, descriptorIndex := 6, attributes := #[] }, { accessFlags := 16409, nameIndex := 21, descriptorIndex := 6, attributes := #[] }, { accessFlags := 16409, nameIndex := 24, descriptorIndex := 6, attributes := #[] }, { accessFlags := 16409, nameIndex := 27, descriptorIndex := 6, attributes := #[] }, { accessFlags := 16409, nameIndex := 30, descriptorIndex := 6, attributes := #[] }, { accessFlags := 16409, nameIndex := 33, descriptorIndex := 6, attributes := #[] }, { accessFlags := 18, nameIndex := 58, descriptorIndex := 59, attributes := #[] }, { accessFlags := 18, nameIndex := 62, descriptorIndex := 63, attributes := #[] }, { accessFlags := 18, nameIndex := 66, descriptorIndex := 63, attributes := #[] }, { accessFlags := 18, nameIndex := 69, descriptorIndex := 63, attributes := #[] }, { accessFlags := 4122, nameIndex := 36, descriptorIndex := 37, attributes := #[] }])
  fields := #[{ name := "REQUEST", type := (.object "com/example/wary_mutex/warymutex/protocol/Message$Type"), accessFlags := 16409, slot := 0, constantValue := 0 }, { name := "YIELD", type := (.object "com/example/wary_mutex/warymutex/protocol/Message$Type"), accessFlags := 16409, slot := 1, constantValue := 0 }, { name := "INQUIRY", type := (.object "com/example/wary_mutex/warymutex/protocol/Message$Type"), accessFlags := 16409, slot := 2, constantValue := 0 }, { name := "RELEASE", type := (.object "com/example/wary_mutex/warymutex/protocol/Message$Type"), accessFlags := 16409, slot := 3, constantValue := 0 }, { name := "RESPONSE", type := (.object "com/example/wary_mutex/warymutex/protocol/Message$Type"), accessFlags := 16409, slot := 4, constantValue := 0 }, { name := "CHECK", type := (.object "com/example/wary_mutex/warymutex/protocol/Message$Type"), accessFlags := 16409, slot := 5, constantValue := 0 }, { name := "RENEW", type := (.object "com/example/wary_mutex/warymutex/protocol/Message$Type"), accessFlags := 16409, slot := 6, constantValue := 0 }, { name := "RENEWED", type := (.object "com/example/wary_mutex/warymutex/protocol/Message$Type"), accessFlags := 16409, slot := 7, constantValue := 0 }, { name := "FENCE", type := (.object "com/example/wary_mutex/warymutex/protocol/Message$Type"), accessFlags := 16409, slot := 8, constantValue := 0 }, { name := "FENCED", type := (.object "com/example/wary_mutex/warymutex/protocol/Message$Type"), accessFlags := 16409, slot := 9, constantValue := 0 }, { name := "code", type := .byte, accessFlags := 18, slot := 3, constantValue := 0 }, { name := "fromClient", type := .boolean, accessFlags := 18, slot := 4, constantValue := 0 }, { name := "numbered", type := .boolean, accessFlags := 18, slot := 5, constantValue := 0 }, { name := "granted", type := .boolean, accessFlags := 18, slot := 6, constantValue := 0 }, { name := "$VALUES", type := (.array (.object "com/example/wary_mutex/warymutex/protocol/Message$Type")), accessFlags := 4122, slot := 10, constantValue := 0 }]
  methods := #[k6m0, k6m1, k6m2, k6m3, k6m4]
  instanceTypes := #[(.object "java/lang/String"), .int, .int, .byte, .boolean, .boolean, .boolean]
  staticTypes := #[(.object "com/example/wary_mutex/warymutex/protocol/Message$Type"), (.object "com/example/wary_mutex/warymutex/protocol/Message$Type"), (.object "com/example/wary_mutex/warymutex/protocol/Message$Type"), (.object "com/example/wary_mutex/warymutex/protocol/Message$Type"), (.object "com/example/wary_mutex/warymutex/protocol/Message$Type"), (.object "com/example/wary_mutex/warymutex/protocol/Message$Type"), (.object "com/example/wary_mutex/warymutex/protocol/Message$Type"), (.object "com/example/wary_mutex/warymutex/protocol/Message$Type"), (.object "com/example/wary_mutex/warymutex/protocol/Message$Type"), (.object "com/example/wary_mutex/warymutex/protocol/Message$Type"), (.array (.object "com/example/wary_mutex/warymutex/protocol/Message$Type"))]
  resolved := Array.replicate 113 none
  statics := some 0 }

def pool7 : Array CpInfo := pool [(1, u "java/lang/Cloneable"), (0, .class_ 1), (0, u "java/lang/Object"), (0, .class_ 3)] 3

/-- java/lang/Cloneable -/
def k7 : Class := { plain "java/lang/Cloneable" (some 0) with
  accessFlags := 1537
  interfaces := #[]
  cf := some (fileOf pool7 2 #[] #[] 1537 4 #[] #[])
  fields := #[]
  methods := #[]
  instanceTypes := #[]
  staticTypes := #[]
  resolved := Array.replicate 8 none
  statics := none }

/-- the primitive byte -/
def k8 : Class := { plain "byte" none with kind := .primitive 'B', accessFlags := 0x411 }
/-- [B -/
def k9 : Class := { plain "[B" (some 0) with kind := .array 8 .byte, interfaces := #[7, 4], accessFlags := 1041 }

/-- the primitive int -/
def k10 : Class := { plain "int" none with kind := .primitive 'I', accessFlags := 0x411 }
/-- [I -/
def k11 : Class := { plain "[I" (some 0) with kind := .array 10 .int, interfaces := #[7, 4], accessFlags := 1041 }

def heap : Heap := #[{ cls := 6, slots := #[.ref 1, .ref 2, .ref 3, .ref 4, .ref 5, .ref 6, .ref 7, .ref 8, .ref 9, .ref 10, .null], vm := .statics 6 },
  { cls := 6, slots := #[.null, .int 0, .int 0, .int 1, .int 1, .int 1, .int 0], vm := .none },
  { cls := 6, slots := #[.null, .int 1, .int 0, .int 2, .int 1, .int 1, .int 0], vm := .none },
  { cls := 6, slots := #[.null, .int 2, .int 0, .int 3, .int 1, .int 1, .int 0], vm := .none },
  { cls := 6, slots := #[.null, .int 3, .int 0, .int 4, .int 1, .int 0, .int 0], vm := .none },
  { cls := 6, slots := #[.null, .int 4, .int 0, .int 5, .int 0, .int 1, .int 1], vm := .none },
  { cls := 6, slots := #[.null, .int 5, .int 0, .int 6, .int 0, .int 1, .int 1], vm := .none },
  { cls := 6, slots := #[.null, .int 6, .int 0, .int 7, .int 1, .int 1, .int 0], vm := .none },
  { cls := 6, slots := #[.null, .int 7, .int 0, .int 8, .int 0, .int 1, .int 0], vm := .none },
  { cls := 6, slots := #[.null, .int 8, .int 0, .int 9, .int 1, .int 1, .int 0], vm := .none },
  { cls := 6, slots := #[.null, .int 9, .int 0, .int 10, .int 0, .int 1, .int 1], vm := .none }]
def classes : Array Class := #[k0, k1, k2, k3, k4, k5, k6, k7, k8, k9, k10, k11]
def interned : List (Array UInt16 × Addr) := []
def slotsUsed : Nat := 81
def theMethod : MethodId := ⟨1, 1⟩
def args0 : Array Value := #[.int 5]
def aboutOver (below : List Frame) : State where
  vm := { classes := classes, interned := interned.toArray }
  heap := heap
  slotsUsed := slotsUsed
  threads := #[{ frames := .invoking theMethod args0 :: below }]
def below0 : List Frame := [.native { method := ⟨0, 0⟩, args := #[] }]
def about1 : State := aboutOver below0
def p0 : Program := .bare "" "" ""
def e0 : Env := launch0.env 0 0 0
theorem w_frames : about1.frames = Frame.invoking theMethod args0 :: below0 := rfl
set_option maxRecDepth 65536 in
theorem w_args : argsFit about1.vm theMethod args0 = true := by decide +kernel
set_option maxRecDepth 65536 in
theorem w_heap : heapFits about1 = true := by decide +kernel
set_option maxRecDepth 65536 in
theorem w_runnable : about1.curStatus? = some .runnable := by decide +kernel
set_option maxRecDepth 65536 in
theorem w_alone : about1.alone = true := by decide +kernel
set_option maxRecDepth 65536 in
theorem w_named : about1.methodNamed? x = some theMethod := by decide +kernel
set_option maxRecDepth 65536 in
theorem w_hears : about1.hears theMethod below0 = true := by decide +kernel
set_option maxRecDepth 65536 in
theorem w_ripe : about1.ripe theMethod args0 below0 = true := by decide +kernel
theorem w_running : about1.status = .running := rfl
set_option maxRecDepth 65536 in
theorem w_room : about1.hasRoom e0.platform room_1 = true :=
  launch0.hasRoom_least _ room_1 (by decide +kernel) (by decide +kernel) (by decide +kernel) (by decide +kernel) (by decide +kernel) (by decide +kernel)
theorem allAtoms_all (ts : List Jvm.Cond) (a : Array Jvm.Value) (st : Jvm.State) : (allAtoms ts).before a st = ts.all (fun c => c.before a st) := by
  induction ts with
  | nil => rfl
  | cons c t ih =>
    show (Jvm.Cond.and c (allAtoms t)).before a st = _
    rw [Jvm.Cond.before_and, ih, List.all_cons]
def words1 : List Jvm.Cond := Jvm.Cond.code x code maxLocals ret :: tables_1
/-- a 'code' word, met by the world's own term for the bytes: nothing is compared byte by byte -/
theorem code_word {y : MethodName} {bytes : ByteArray} {mx : Nat} {rt : Option FieldType} {a : Array Value} {s : State} {m : MethodId} {meth : Method} {c : Code} (h1 : s.methodNamed? y = some m) (h2 : s.vm.method? m = some meth) (h3 : meth.code = some c) (h4 : c.code = bytes)
    (h5 : (c.maxLocals == mx && c.exceptionTable.isEmpty && decide (c.maxStack ≤ mostOperands) && decide (meth.sig.returnType = rt) && !meth.locks && decide (parseMethodDescriptor y.desc = some meth.sig)) = true) : (Jvm.Cond.code y bytes mx rt).before a s = true := by
  simp only [Bool.and_eq_true, beq_iff_eq, Bool.not_eq_true', decide_eq_true_eq] at h5
  obtain ⟨⟨⟨⟨⟨g1, g2⟩, g3⟩, g4⟩, g5⟩, g6⟩ := h5
  simp [Cond.before, Cond.holds, Cond.value, h1, h2, h3, h4, g1, g2, g3, g4, g5, g6]
def isCode : Jvm.Cond → Bool
  | .code _ _ _ _ => true
  | _ => false
theorem all_split {L : List Jvm.Cond} {P : Jvm.Cond → Bool} (h1 : L.all (fun c => isCode c || P c) = true) (h2 : ∀ c ∈ L.filter isCode, P c = true) : L.all P = true := by
  refine List.all_eq_true.mpr fun c hc => ?_
  have h := List.all_eq_true.mp h1 c hc
  rcases Bool.eq_false_or_eq_true (isCode c) with hi | hi
  · exact h2 c (List.mem_filter.mpr ⟨hc, hi⟩)
  · simpa [hi] using h
set_option maxRecDepth 65536 in
theorem w_c0 : (Jvm.Cond.code x code maxLocals ret).before args0 about1 = true := code_word (m := ⟨1, 1⟩) (meth := k1m1) (c := k1c1) (by decide +kernel) rfl rfl rfl (by decide +kernel)
set_option maxRecDepth 65536 in
theorem w_c1 : (Jvm.Cond.code ({ cls := "com/example/wary_mutex/warymutex/protocol/TypeQuestionPinLaw", name := "pick", desc := "(I)Lcom/example/wary_mutex/warymutex/protocol/Message$Type;" } : Jvm.MethodName) method_3_code (1 : Nat) (Option.some (Jvm.ClassFile.FieldType.object "com/example/wary_mutex/warymutex/protocol/Message$Type"))).before args0 about1 = true := code_word (m := ⟨1, 2⟩) (meth := k1m2) (c := k1c2) (by decide +kernel) rfl rfl rfl (by decide +kernel)
set_option maxRecDepth 65536 in
theorem w_c2 : (Jvm.Cond.code ({ cls := "com/example/wary_mutex/warymutex/protocol/Message$Type", name := "question", desc := "()Z" } : Jvm.MethodName) prog_44_method_10_code (1 : Nat) (Option.some Jvm.ClassFile.FieldType.boolean)).before args0 about1 = true := code_word (m := ⟨6, 4⟩) (meth := k6m4) (c := k6c4) (by decide +kernel) rfl rfl rfl (by decide +kernel)
set_option maxRecDepth 65536 in
theorem w_c3 : (Jvm.Cond.code ({ cls := "com/example/wary_mutex/warymutex/protocol/Message$Type", name := "code", desc := "()B" } : Jvm.MethodName) prog_44_method_6_code (1 : Nat) (Option.some Jvm.ClassFile.FieldType.byte)).before args0 about1 = true := code_word (m := ⟨6, 0⟩) (meth := k6m0) (c := k6c0) (by decide +kernel) rfl rfl rfl (by decide +kernel)
set_option maxRecDepth 65536 in
theorem w_c4 : (Jvm.Cond.code ({ cls := "com/example/wary_mutex/warymutex/protocol/Message$Type", name := "fromClient", desc := "()Z" } : Jvm.MethodName) prog_44_method_7_code (1 : Nat) (Option.some Jvm.ClassFile.FieldType.boolean)).before args0 about1 = true := code_word (m := ⟨6, 1⟩) (meth := k6m1) (c := k6c1) (by decide +kernel) rfl rfl rfl (by decide +kernel)
set_option maxRecDepth 65536 in
theorem w_c5 : (Jvm.Cond.code ({ cls := "com/example/wary_mutex/warymutex/protocol/Message$Type", name := "numbered", desc := "()Z" } : Jvm.MethodName) prog_44_method_8_code (1 : Nat) (Option.some Jvm.ClassFile.FieldType.boolean)).before args0 about1 = true := code_word (m := ⟨6, 2⟩) (meth := k6m2) (c := k6c2) (by decide +kernel) rfl rfl rfl (by decide +kernel)
set_option maxRecDepth 65536 in
theorem w_c6 : (Jvm.Cond.code ({ cls := "com/example/wary_mutex/warymutex/protocol/Message$Type", name := "granted", desc := "()Z" } : Jvm.MethodName) prog_44_method_9_code (1 : Nat) (Option.some Jvm.ClassFile.FieldType.boolean)).before args0 about1 = true := code_word (m := ⟨6, 3⟩) (meth := k6m3) (c := k6c3) (by decide +kernel) rfl rfl rfl (by decide +kernel)
def codes1 : List Jvm.Cond := [Jvm.Cond.code x code maxLocals ret, Jvm.Cond.code ({ cls := "com/example/wary_mutex/warymutex/protocol/TypeQuestionPinLaw", name := "pick", desc := "(I)Lcom/example/wary_mutex/warymutex/protocol/Message$Type;" } : Jvm.MethodName) method_3_code (1 : Nat) (Option.some (Jvm.ClassFile.FieldType.object "com/example/wary_mutex/warymutex/protocol/Message$Type")), Jvm.Cond.code ({ cls := "com/example/wary_mutex/warymutex/protocol/Message$Type", name := "question", desc := "()Z" } : Jvm.MethodName) prog_44_method_10_code (1 : Nat) (Option.some Jvm.ClassFile.FieldType.boolean), Jvm.Cond.code ({ cls := "com/example/wary_mutex/warymutex/protocol/Message$Type", name := "code", desc := "()B" } : Jvm.MethodName) prog_44_method_6_code (1 : Nat) (Option.some Jvm.ClassFile.FieldType.byte), Jvm.Cond.code ({ cls := "com/example/wary_mutex/warymutex/protocol/Message$Type", name := "fromClient", desc := "()Z" } : Jvm.MethodName) prog_44_method_7_code (1 : Nat) (Option.some Jvm.ClassFile.FieldType.boolean), Jvm.Cond.code ({ cls := "com/example/wary_mutex/warymutex/protocol/Message$Type", name := "numbered", desc := "()Z" } : Jvm.MethodName) prog_44_method_8_code (1 : Nat) (Option.some Jvm.ClassFile.FieldType.boolean), Jvm.Cond.code ({ cls := "com/example/wary_mutex/warymutex/protocol/Message$Type", name := "granted", desc := "()Z" } : Jvm.MethodName) prog_44_method_9_code (1 : Nat) (Option.some Jvm.ClassFile.FieldType.boolean)]
set_option maxRecDepth 65536 in
theorem codes_eq : words1.filter isCode = codes1 := rfl
theorem w_codes : ∀ c ∈ words1.filter isCode, c.before args0 about1 = true := by
  rw [codes_eq]
  intro c hc
  simp only [codes1, List.mem_cons, List.not_mem_nil, or_false] at hc
  rcases hc with rfl | rfl | rfl | rfl | rfl | rfl | rfl
  · exact w_c0
  · exact w_c1
  · exact w_c2
  · exact w_c3
  · exact w_c4
  · exact w_c5
  · exact w_c6
set_option maxRecDepth 65536 in
theorem w_t1 : (words1.take 24).all (fun c => isCode c || c.before args0 about1) = true := by decide +kernel
set_option maxRecDepth 65536 in
theorem w_t2 : ((words1.drop 24).take 24).all (fun c => isCode c || c.before args0 about1) = true := by decide +kernel
set_option maxRecDepth 65536 in
theorem w_t3 : ((words1.drop 24).drop 24).all (fun c => isCode c || c.before args0 about1) = true := by decide +kernel
theorem w_tables : (allAtoms (Jvm.Cond.code x code maxLocals ret :: tables_1)).before args0 about1 = true := by
  rw [allAtoms_all]
  show words1.all (fun c => c.before args0 about1) = true
  refine all_split ?_ w_codes
  rw [← List.take_append_drop 24 words1, List.all_append, w_t1, ← List.take_append_drop 24 (words1.drop 24), List.all_append, w_t2, w_t3]
  rfl
set_option maxRecDepth 65536 in
theorem w_case : (Jvm.Cond.and given_1 narrow_1).before args0 about1 = true := by decide +kernel
theorem w_applies : (headSpec (Jvm.Cond.code x code maxLocals ret :: tables_1) room_1).applies x e0.platform about1 = true :=
  (Spec.applies_iff w_frames).mpr ⟨w_running, w_runnable, w_alone, w_named, w_hears, w_ripe, w_room, w_tables⟩
theorem atStart : AtStart classFile x code maxLocals ret World_1 tables_1 room_1 Calls_1 rest_1 Pre_1 launch0 p0 e0 about1 theMethod args0 below0 :=
  ⟨lists_1, trivial, launch0.admits_env _ _ _, launch0.least_env, fairChoices_fair.cas, fairChoices_fair.clock, w_frames, w_args, w_heap, w_applies, trivial, trivial, w_case⟩
end start1
theorem witness_1 : WitnessClaimed_1 := ⟨start1.p0, start1.e0, start1.about1, start1.theMethod, start1.args0, start1.below0, start1.atStart⟩
end Jvm.Pilot.@@N@@
