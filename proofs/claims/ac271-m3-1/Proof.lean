import JvmDerived
import JvmDerived.Pilot.@@N@@Statement
import JvmDerived.Pilot.@@N@@Code
set_option linter.unusedVariables false
set_option linter.unusedSimpArgs false
namespace Jvm.RoadKit
open Sem ClassFile Op Lib Jvm.Stand Jvm.Free Jvm.LawKit
section New
variable {p : Program} {l : Launch} {e : Env} {R : Room} {s : State} {m : MethodId} {args : Array Value} {below : List Frame} {meth : Method} {c : Code} {T : State} {locs : List Loc} {cells slots : Nat}
theorem retI (X : Stand p l e R s m args below meth c T locs cells slots) (hx : p.tables.exec = Jvm.exec) {pc : Nat} {Ls : Array Slot} {z : Int32} {rest : List Value} (hret : meth.sig.returnType = some .int) (hd : decode c.code pc = .ok (.ireturn, 1)) {fs : List Frame}
    (hl : ∀ (f : JFrame) (acts : List Action), f.method = m → f.locked = none → f.entered = [] → (doReturn e (T.setTop f) acts (some (.int z))).1 = T.setFrames fs) : Steps p.tables e below (T.setTop (mkF m pc Ls (.int z :: rest))) (T.setFrames fs) := by
  have hm' : T.vm.method? m = some meth := X.method'
  have hn : narrow .int (.int z) = .int z := rfl
  show Steps p.tables e below (T.setTop { method := m, pc := pc, locals := Ls, stack := _ :: rest, locked := none }) _
  jvm_step X.here [X.here.top, hx, hd, hm', hret, hn]
  first | (intro acts; rw [hl _ acts rfl rfl rfl]) | rw [hl _ _ rfl rfl rfl]
  exact Steps.refl _
/-- from the state S the run comes to an end at which A holds -/
def own_Fin (p : Program) (e : Env) (below : List Frame) (A : State → Outcome → Prop) (S : State) : Prop := ∃ s₂ o, Steps p.tables e below S s₂ ∧ s₂.status = .running ∧ Ended s₂ below o ∧ A s₂ o
theorem own_go {A : State → Outcome → Prop} {S S' : State} (k : ∀ t, Steps p.tables e below S' t → Steps p.tables e below S t) (h : own_Fin p e below A S') : own_Fin p e below A S := by
  obtain ⟨t, o, h1, h2⟩ := h; exact ⟨t, o, k t h1, h2⟩
/-- what a walk leaves: Q of the value, the heap and the written places -/
def own_A (s : State) (C S : Nat) (Q : Option Value → Heap → List Loc → Prop) : State → Outcome → Prop := fun U' o => ∃ v L, o = .returned v ∧ Q v U'.heap L ∧ FrameEnd s o U' L C S
/-- a body that writes nothing: its value, the heap as it was -/
def own_P (h0 : Heap) (n0 : Nat) (w : Value) (v : Option Value) (h : Heap) (L : List Loc) : Prop := v = some w ∧ Fr n0 L ∧ h = h0
theorem own_out (X : Stand p l e R s m args below meth c T locs cells slots) {v : Option Value} {Q : Option Value → Heap → List Loc → Prop} {C S : Nat} {g : JFrame}
    (hv : meth.sig.returnType = none → v = none) (hlocks : meth.locks = false)
    (st : ∀ fs, (∀ (f : JFrame) (acts : List Action), f.method = m → f.locked = none → f.entered = [] → (doReturn e (T.setTop f) acts v).1 = T.setFrames fs) → Steps p.tables e below (T.setTop g) (T.setFrames fs))
    (hQ : Q v T.heap locs) (hc : cells ≤ C) (hs : slots ≤ S) : own_Fin p e below (own_A s C S Q) (T.setTop g) := by
  obtain ⟨fs, hr, hrun, hended, hW, hsame⟩ := X.leave (v := v) hv hlocks
  exact ⟨_, _, st fs hr, hrun, hended, _, _, rfl, hQ, ⟨_, rfl⟩, hW, hsame.mono hc hs⟩
end New
end Jvm.RoadKit
namespace Jvm.Pilot.@@N@@
open Jvm Jvm.ClassFile Sem Op Lib Jvm.Free Jvm.Stand Jvm.LawKit Jvm.RoadKit Bundle Jvm.Pilot.@@N@@.Jvm.D
def own_St (Z : State) (h : Heap) (A : Nat → Addr) : Prop := Sta Z h "com/example/palimpsest/palimpsest/chain/TransactionType" "REGISTER" "Lcom/example/palimpsest/palimpsest/chain/TransactionType;" (.ref (A 0)) ∧ Sta Z h "com/example/palimpsest/palimpsest/chain/TransactionType" "REMOVABLE" "Lcom/example/palimpsest/palimpsest/chain/TransactionType;" (.ref (A 1)) ∧ Sta Z h "com/example/palimpsest/palimpsest/chain/TransactionType" "DELETE" "Lcom/example/palimpsest/palimpsest/chain/TransactionType;" (.ref (A 2)) ∧ Sta Z h "com/example/palimpsest/palimpsest/chain/TransactionType" "PREPARE" "Lcom/example/palimpsest/palimpsest/chain/TransactionType;" (.ref (A 3)) ∧ Sta Z h "com/example/palimpsest/palimpsest/chain/TransactionType" "CONSENT_INFO" "Lcom/example/palimpsest/palimpsest/chain/TransactionType;" (.ref (A 4)) ∧ Sta Z h "com/example/palimpsest/palimpsest/chain/TransactionType" "CONSENT" "Lcom/example/palimpsest/palimpsest/chain/TransactionType;" (.ref (A 5))
theorem own_St.ext {Z : State} {h h' : Heap} {A : Nat → Addr} (E : Ext h h') (H : own_St Z h A) : own_St Z h' A := ⟨H.1.ext E, H.2.1.ext E, H.2.2.1.ext E, H.2.2.2.1.ext E, H.2.2.2.2.1.ext E, H.2.2.2.2.2.ext E⟩
theorem d2_0 : decode prog_23_method_1_code 0 = .ok (.getstatic 22, 3) := by decide +kernel
theorem d2_3 : decode prog_23_method_1_code 3 = .ok (.invokevirtual 26, 3) := by decide +kernel
theorem d2_6 : decode prog_23_method_1_code 6 = .ok (.checkcast 27, 3) := by decide +kernel
theorem d2_9 : decode prog_23_method_1_code 9 = .ok (.areturn, 1) := by decide +kernel
theorem pn_0 : plainName "com/example/palimpsest/palimpsest/chain/TransactionType" = true := by first | (simp [plainName, overriddenIn]; done) | decide +kernel
theorem ef_2 (m : MethodId)   : entryFrame m #[] 0 = mkF m 0 #[] [] := by first | (simp [entryFrame, mkF, argsToLocals, Value.category]; done) | rfl
def own_q2 (Z : State) (A : Nat → Addr) (va : Addr) (k1 : ClassId) (h0 : Heap) (n0 : Nat) (v : Option Value) (h : Heap) (L : List Loc) : Prop := ∃ (a : Addr) (k : ClassId), v = some (.ref a) ∧ Fr n0 L ∧ h0.size ≤ a ∧ Keep h0 h [] ∧ Arv Z h a k (.object "com/example/palimpsest/palimpsest/chain/TransactionType") (6 : Int32) [(.ref (A 0)), (.ref (A 1)), (.ref (A 2)), (.ref (A 3)), (.ref (A 4)), (.ref (A 5))] .null
set_option maxRecDepth 65536 in
set_option maxHeartbeats 40000000 in
theorem rm2 (l : Launch) (Z : State) (a0 : Array Value) (hw : ∀ d ∈ tables_1, d.before a0 Z = true) (ws : List Jvm.Cond) (A : Nat → Addr) (va : Addr) (k1 : ClassId) (h0 : Heap) (n0 : Nat) (Z0 : n0 ≤ h0.size) (S_v : Sta Z h0 "com/example/palimpsest/palimpsest/chain/TransactionType" "$VALUES" "[Lcom/example/palimpsest/palimpsest/chain/TransactionType;" (.ref va)) (V_v : Arv Z h0 va k1 (.object "com/example/palimpsest/palimpsest/chain/TransactionType") (6 : Int32) [(.ref (A 0)), (.ref (A 1)), (.ref (A 2)), (.ref (A 3)), (.ref (A 4)), (.ref (A 5))] .null) (X_v : Exa Z h0 va "[Lcom/example/palimpsest/palimpsest/chain/TransactionType;") :
    MetFree l (⟨"com/example/palimpsest/palimpsest/chain/TransactionType", "values", "()[Lcom/example/palimpsest/palimpsest/chain/TransactionType;"⟩ : MethodName) (head1 (Jvm.Cond.code (⟨"com/example/palimpsest/palimpsest/chain/TransactionType", "values", "()[Lcom/example/palimpsest/palimpsest/chain/TransactionType;"⟩ : MethodName) prog_23_method_1_code 0 (some (.array (.object "com/example/palimpsest/palimpsest/chain/TransactionType"))) :: ws) ({ frames := 1, cells := 1, slots := 6, locals := 14 } : Room)) (fun a U => a = #[] ∧ Z.Warmed39 U.vm ∧ U.heap = h0) (fun _ _ _ _ _ => True) (fun _ U o U' => ∃ v L, o = .returned v ∧ (own_q2 Z A va k1 h0 n0) v U'.heap L ∧ FrameEnd U o U' L ({ frames := 1, cells := 1, slots := 6, locals := 14 } : Room).cells ({ frames := 1, cells := 1, slots := 6, locals := 14 } : Room).slots) := by
  refine MetFree.of_bodySF (plainFor_of_name pn_0) hisR ?_
  intro p e s m args below meth c s₁ Bd hml0 hP hK
  obtain ⟨rfl, hZ, hh⟩ := hP
  have hx := Bd.exec
  have hby := Bd.bytes
  have hml : c.maxLocals = 0 := hml0
  have hown : s.vm.findClass "com/example/palimpsest/palimpsest/chain/TransactionType" = some m.cls := findClass_of_methodNamed Bd.named
  have hnm := (name_of_methodNamed Bd.named Bd.method).1
  have X0 : Stand p l e ({ frames := 1, cells := 1, slots := 6, locals := 14 } : Room) s m #[] below meth c s₁ [] 0 0 := Stand.of_body Bd
  have e0 : s₁.heap = h0 := by rw [← hh, Bd.state]; rfl
  have N0 := Fr.nil n0
  have Kz := Keep.refl h0 []
  have hw_8 := hw _ (List.mem_of_getElem? (i := 8) rfl)
  have hw_10 := hw _ (List.mem_of_getElem? (i := 10) rfl)
  have hw_11 := hw _ (List.mem_of_getElem? (i := 11) rfl)
  have hw_13 := hw _ (List.mem_of_getElem? (i := 13) rfl)
  have hw_14 := hw _ (List.mem_of_getElem? (i := 14) rfl)
  have hw_15 := hw _ (List.mem_of_getElem? (i := 15) rfl)
  have hw_16 := hw _ (List.mem_of_getElem? (i := 16) rfl)
  have hw_24 := hw _ (List.mem_of_getElem? (i := 24) rfl)
  show own_Fin p e below (own_A s ({ frames := 1, cells := 1, slots := 6, locals := 14 } : Room).cells ({ frames := 1, cells := 1, slots := 6, locals := 14 } : Room).slots (own_q2 Z A va k1 h0 n0)) _
  refine own_go (fun t k => castTop (ef_2 m ) k) ?_
  show own_Fin p e below _ (s₁.setTop (mkF m 0 #[] []))
  obtain ⟨T1, X1, e1, st1⟩ := getS2 X0 hx hZ hown (host := "") (Or.inl hw_8) Via.refl e0 S_v (g := (mkF m 0 #[] [])) rfl (hb hby d2_0)
  refine own_go st1 ?_
  show own_Fin p e below _ (T1.setTop (mkF m 3 #[] [(.ref va)]))
  obtain ⟨T2, h2, X2, e2, E2, V2, A2, st2⟩ := cloneH X1 hx hZ hown hw_10 hw_11 hw_15 hw_13 hw_14 hw_16 e1 (Arv.arh V_v) X_v (g := (mkF m 3 #[] [(.ref va)])) rfl (by rw [hml]; rfl) rfl (hb hby d2_3) (by decide) (W := 0) (by show 2 * 0 + _ ≤ _; exact Nat.le_of_eq rfl) (by decide) (cap := 6) (by decide) (by decide) (by decide)
  obtain ⟨b2, g2⟩ : ∃ z, z = h0.size := ⟨_, rfl⟩
  rw [← g2] at A2 V2 st2
  have g_b2 : n0 ≤ b2 := Nat.le_trans Z0 (Nat.le_of_eq g2.symm)
  have sz_b2 : h0.size ≤ b2 := Nat.le_trans Kz.1 (Nat.le_of_eq g2.symm)
  have ne3 : va ≠ b2 := Nat.ne_of_lt (Nat.lt_of_lt_of_le V_v.lt (Nat.le_of_eq g2.symm))
  have f4 := S_v.ext E2
  have f5 := V_v.ext E2
  have f6 := X_v.ext E2
  have Zh7 : n0 ≤ h2.size := Nat.le_trans Z0 E2.1
  have K8 := Kz.ext E2
  have Vc2 : Arv Z h2 b2 k1 (.object "com/example/palimpsest/palimpsest/chain/TransactionType") (6 : Int32) [(.ref (A 0)), (.ref (A 1)), (.ref (A 2)), (.ref (A 3)), (.ref (A 4)), (.ref (A 5))] .null := V2
  refine own_go st2 ?_
  show own_Fin p e below _ (T2.setTop (mkF m 6 #[] [(.ref b2)]))
  obtain ⟨T9, X9, e9, st9⟩ := castY X2 hx hZ hown hw_24 e2 (Ins.self A2) (g := (mkF m 6 #[] [(.ref b2)])) rfl rfl (hb hby d2_6)
  refine own_go st9 ?_
  show own_Fin p e below _ (T9.setTop (mkF m 9 #[] [(.ref b2)]))
  exact own_out X9 (fun h => by rw [Bd.returns] at h; cases h) Bd.notSynchronized (fun fs hr => retOut X9 hx Bd.returns rfl (Or.inr (Or.inr (Or.inr (Or.inr ⟨rfl, rfl, rfl⟩)))) (hb hby d2_9) hr) (by rw [e9]; exact ⟨_, _, rfl, N0, sz_b2, K8, Vc2⟩) (by decide) (by decide)
theorem pd_0 : parseMethodDescriptor "()[Lcom/example/palimpsest/palimpsest/chain/TransactionType;" = some ⟨[], some (.array (.object "com/example/palimpsest/palimpsest/chain/TransactionType"))⟩ := by decide +kernel
theorem d1_0 : decode prog_23_method_8_code 0 = .ok (.invokestatic 56, 3) := by decide +kernel
theorem d1_3 : decode prog_23_method_8_code 3 = .ok (.astore_n 1, 1) := by decide +kernel
theorem d1_4 : decode prog_23_method_8_code 4 = .ok (.aload_n 1, 1) := by decide +kernel
theorem d1_5 : decode prog_23_method_8_code 5 = .ok (.arraylength, 1) := by decide +kernel
theorem d1_6 : decode prog_23_method_8_code 6 = .ok (.istore_n 2, 1) := by decide +kernel
theorem d1_7 : decode prog_23_method_8_code 7 = .ok (.iconst 0, 1) := by decide +kernel
theorem d1_8 : decode prog_23_method_8_code 8 = .ok (.istore_n 3, 1) := by decide +kernel
theorem d1_9 : decode prog_23_method_8_code 9 = .ok (.iload_n 3, 1) := by decide +kernel
theorem d1_10 : decode prog_23_method_8_code 10 = .ok (.iload_n 2, 1) := by decide +kernel
theorem d1_11 : decode prog_23_method_8_code 11 = .ok (.if_icmp .ge 26, 3) := by decide +kernel
theorem d1_14 : decode prog_23_method_8_code 14 = .ok (.aload_n 1, 1) := by decide +kernel
theorem d1_15 : decode prog_23_method_8_code 15 = .ok (.iload_n 3, 1) := by decide +kernel
theorem d1_16 : decode prog_23_method_8_code 16 = .ok (.aaload, 1) := by decide +kernel
theorem d1_17 : decode prog_23_method_8_code 17 = .ok (.astore 4, 2) := by decide +kernel
theorem d1_19 : decode prog_23_method_8_code 19 = .ok (.aload 4, 2) := by decide +kernel
theorem d1_21 : decode prog_23_method_8_code 21 = .ok (.getfield 41, 3) := by decide +kernel
theorem d1_24 : decode prog_23_method_8_code 24 = .ok (.iload_n 0, 1) := by decide +kernel
theorem d1_25 : decode prog_23_method_8_code 25 = .ok (.if_icmp .ne 6, 3) := by decide +kernel
theorem d1_28 : decode prog_23_method_8_code 28 = .ok (.aload 4, 2) := by decide +kernel
theorem d1_30 : decode prog_23_method_8_code 30 = .ok (.areturn, 1) := by decide +kernel
theorem ef_1k0 (m : MethodId) (x0 : Int32)  : entryFrame m #[(.int x0)] 5 = mkF m 0 #[.val (.int x0), .unset, .unset, .unset, .unset] [] := by first | (simp [entryFrame, mkF, argsToLocals, Value.category]; done) | rfl
def own_q1k0 (Z : State) (A : Nat → Addr) (va : Addr) (k1 : ClassId) (h0 : Heap) (n0 : Nat) (v : Option Value) (h : Heap) (L : List Loc) : Prop := v = some (.ref (A 0)) ∧ Fr n0 L ∧ Keep h0 h []
set_option maxRecDepth 65536 in
set_option maxHeartbeats 40000000 in
theorem rm1k0 (l : Launch) (Z : State) (a0 : Array Value) (hw : ∀ d ∈ tables_1, d.before a0 Z = true) (ws : List Jvm.Cond) (A : Nat → Addr) (va : Addr) (k1 : ClassId) (h0 : Heap) (n0 : Nat) (Z0 : n0 ≤ h0.size) (S_v : Sta Z h0 "com/example/palimpsest/palimpsest/chain/TransactionType" "$VALUES" "[Lcom/example/palimpsest/palimpsest/chain/TransactionType;" (.ref va)) (V_v : Arv Z h0 va k1 (.object "com/example/palimpsest/palimpsest/chain/TransactionType") (6 : Int32) [(.ref (A 0)), (.ref (A 1)), (.ref (A 2)), (.ref (A 3)), (.ref (A 4)), (.ref (A 5))] .null) (X_v : Exa Z h0 va "[Lcom/example/palimpsest/palimpsest/chain/TransactionType;") (F_0 : Fld Z h0 (A 0) "com/example/palimpsest/palimpsest/chain/TransactionType" "code" "I" (.int (1 : Int32))) (F_1 : Fld Z h0 (A 1) "com/example/palimpsest/palimpsest/chain/TransactionType" "code" "I" (.int (2 : Int32))) (F_2 : Fld Z h0 (A 2) "com/example/palimpsest/palimpsest/chain/TransactionType" "code" "I" (.int (3 : Int32))) (F_3 : Fld Z h0 (A 3) "com/example/palimpsest/palimpsest/chain/TransactionType" "code" "I" (.int (4 : Int32))) (F_4 : Fld Z h0 (A 4) "com/example/palimpsest/palimpsest/chain/TransactionType" "code" "I" (.int (5 : Int32))) (F_5 : Fld Z h0 (A 5) "com/example/palimpsest/palimpsest/chain/TransactionType" "code" "I" (.int (6 : Int32))) :
    MetFree l (⟨"com/example/palimpsest/palimpsest/chain/TransactionType", "ofCode", "(I)Lcom/example/palimpsest/palimpsest/chain/TransactionType;"⟩ : MethodName) (head1 (Jvm.Cond.code (⟨"com/example/palimpsest/palimpsest/chain/TransactionType", "ofCode", "(I)Lcom/example/palimpsest/palimpsest/chain/TransactionType;"⟩ : MethodName) prog_23_method_8_code 5 (some (.object "com/example/palimpsest/palimpsest/chain/TransactionType")) :: ws) ({ frames := 2, cells := 1, slots := 6, locals := 25 } : Room)) (fun a U => a = #[(.int (1 : Int32))] ∧ Z.Warmed39 U.vm ∧ U.heap = h0) (fun _ _ _ _ _ => True) (fun _ U o U' => ∃ v L, o = .returned v ∧ (own_q1k0 Z A va k1 h0 n0) v U'.heap L ∧ FrameEnd U o U' L ({ frames := 2, cells := 1, slots := 6, locals := 25 } : Room).cells ({ frames := 2, cells := 1, slots := 6, locals := 25 } : Room).slots) := by
  refine MetFree.of_bodySF (plainFor_of_name pn_0) hisR ?_
  intro p e s m args below meth c s₁ Bd hml0 hP hK
  obtain ⟨rfl, hZ, hh⟩ := hP
  have hx := Bd.exec
  have hby := Bd.bytes
  have hml : c.maxLocals = 5 := hml0
  have hown : s.vm.findClass "com/example/palimpsest/palimpsest/chain/TransactionType" = some m.cls := findClass_of_methodNamed Bd.named
  have hnm := (name_of_methodNamed Bd.named Bd.method).1
  have X0 : Stand p l e ({ frames := 2, cells := 1, slots := 6, locals := 25 } : Room) s m #[(.int (1 : Int32))] below meth c s₁ [] 0 0 := Stand.of_body Bd
  have e0 : s₁.heap = h0 := by rw [← hh, Bd.state]; rfl
  have N0 := Fr.nil n0
  have Kz := Keep.refl h0 []
  have hw_3 := hw _ (List.mem_of_getElem? (i := 3) rfl)
  have hw_5 := hw _ (List.mem_of_getElem? (i := 5) rfl)
  have hw_6 := hw _ (List.mem_of_getElem? (i := 6) rfl)
  have hw_7 := hw _ (List.mem_of_getElem? (i := 7) rfl)
  have hw_26 := hw _ (List.mem_of_getElem? (i := 26) rfl)
  show own_Fin p e below (own_A s ({ frames := 2, cells := 1, slots := 6, locals := 25 } : Room).cells ({ frames := 2, cells := 1, slots := 6, locals := 25 } : Room).slots (own_q1k0 Z A va k1 h0 n0)) _
  refine own_go (fun t k => castTop (ef_1k0 m ((1 : Int32))) k) ?_
  show own_Fin p e below _ (s₁.setTop (mkF m 0 #[.val (.int (1 : Int32)), .unset, .unset, .unset, .unset] []))
  obtain ⟨_, _, ⟨T1, L1, k1, n1⟩, -, X1, ⟨Lc1, hQ1, l1, y1, z1⟩, st1⟩ := Jvm.LawKit.callS X0 hx (y := (⟨"com/example/palimpsest/palimpsest/chain/TransactionType", "values", "()[Lcom/example/palimpsest/palimpsest/chain/TransactionType;"⟩ : MethodName)) hown (mvT hZ hw_5) (mvT hZ hw_6) (mvT hZ hw_3) (mvT hZ hw_7) (by decide) (backOf (W := 0) (rm2 l Z a0 hw []  A va k1 h0 n0 Z0 S_v V_v X_v) hZ hw_7 hw_3 (by decide) (by decide)) (g := (mkF m 0 #[.val (.int (1 : Int32)), .unset, .unset, .unset, .unset] [])) rfl (by rw [hml]; rfl) (argsL := []) (rest := []) (lenOf pd_0 rfl) rfl (by show 2 * 0 + _ ≤ _; exact Nat.le_of_eq rfl) (hb hby d1_0) (fun _ _ => ⟨rfl, e0, (by decide : 0 + 1 ≤ _), (by decide : 0 + 6 ≤ _)⟩)
  dsimp only [Pt.U, Pt.locs, Pt.cells, Pt.slots] at X1 l1 y1 z1 st1 hQ1
  subst l1 y1 z1
  obtain ⟨b1, k1, rfl, N1q, sz1, K1, V1⟩ := hQ1
  have N1 := Fr.app N0 N1q
  have g_b1 : n0 ≤ b1 := Nat.le_trans Z0 sz1
  have sz_b1 : h0.size ≤ b1 := Nat.le_trans Kz.1 sz1
  have ne2 : va ≠ b1 := Nat.ne_of_lt (Nat.lt_of_lt_of_le V_v.lt sz1)
  have ne3 : (A 0) ≠ b1 := Nat.ne_of_lt (Nat.lt_of_lt_of_le F_0.lt sz1)
  have ne4 : (A 1) ≠ b1 := Nat.ne_of_lt (Nat.lt_of_lt_of_le F_1.lt sz1)
  have ne5 : (A 2) ≠ b1 := Nat.ne_of_lt (Nat.lt_of_lt_of_le F_2.lt sz1)
  have ne6 : (A 3) ≠ b1 := Nat.ne_of_lt (Nat.lt_of_lt_of_le F_3.lt sz1)
  have ne7 : (A 4) ≠ b1 := Nat.ne_of_lt (Nat.lt_of_lt_of_le F_4.lt sz1)
  have ne8 : (A 5) ≠ b1 := Nat.ne_of_lt (Nat.lt_of_lt_of_le F_5.lt sz1)
  have E1 : Ext _ _ := ⟨K1.1, fun a c q => K1.2.1 a c q nin0⟩
  have f9 := S_v.ext E1
  have f10 := V_v.ext E1
  have f11 := X_v.ext E1
  have f12 := F_0.ext E1
  have f13 := F_1.ext E1
  have f14 := F_2.ext E1
  have f15 := F_3.ext E1
  have f16 := F_4.ext E1
  have f17 := F_5.ext E1
  have Zh18 : n0 ≤ T1.heap.size := Nat.le_trans Z0 K1.1
  have K19 := Kz.ext E1
  refine own_go st1 ?_
  show own_Fin p e below _ (T1.setTop (mkF m 3 #[.val (.int (1 : Int32)), .unset, .unset, .unset, .unset] [(.ref b1)]))
  refine own_go (fun t k => XS.astoreN X1.here hx rfl (hb hby d1_3) rfl rfl (l' := #[.val (.int (1 : Int32)), .val (.ref b1), .unset, .unset, .unset]) rfl (XS.aloadN X1.here hx rfl (hb hby d1_4) rfl rfl  k)) ?_
  show own_Fin p e below _ (T1.setTop (mkF m 5 #[.val (.int (1 : Int32)), .val (.ref b1), .unset, .unset, .unset] [(.ref b1)]))
  obtain ⟨cl20, Ar20, q20, S20, M20, H20, G20⟩ := (id V1)
  refine own_go (fun t k => X1.arraylength hx Ar20.1 (State.isArrayOf_alike hZ.alike Ar20.2.1) (g := (mkF m 5 #[.val (.int (1 : Int32)), .val (.ref b1), .unset, .unset, .unset] [(.ref b1)])) rfl rfl (hb hby d1_5) _ k) ?_
  rw [len_of S20 M20]
  show own_Fin p e below _ (T1.setTop (mkF m 6 #[.val (.int (1 : Int32)), .val (.ref b1), .unset, .unset, .unset] [(.int (6 : Int32))]))
  refine own_go (fun t k => XS.istoreN X1.here hx rfl (hb hby d1_6) rfl (l' := #[.val (.int (1 : Int32)), .val (.ref b1), .val (.int (6 : Int32)), .unset, .unset]) rfl (XS.iconst X1.here hx rfl (hb hby d1_7) (XS.istoreN X1.here hx rfl (hb hby d1_8) rfl (l' := #[.val (.int (1 : Int32)), .val (.ref b1), .val (.int (6 : Int32)), .val (.int (0 : Int32)), .unset]) rfl (XS.iloadN X1.here hx rfl (hb hby d1_9) rfl  k)))) ?_
  show own_Fin p e below _ (T1.setTop (mkF m 10 #[.val (.int (1 : Int32)), .val (.ref b1), .val (.int (6 : Int32)), .val (.int (0 : Int32)), .unset] [(.int (0 : Int32))]))
  refine own_go (fun t k => XS.iloadN X1.here hx rfl (hb hby d1_10) rfl  k) ?_
  show own_Fin p e below _ (T1.setTop (mkF m 11 #[.val (.int (1 : Int32)), .val (.ref b1), .val (.int (6 : Int32)), .val (.int (0 : Int32)), .unset] [(.int (6 : Int32)), (.int (0 : Int32))]))
  refine own_go (fun t k => XS.icmpNo X1.here hx rfl (hb hby d1_11) rfl (tlt (by decide : (0 : Int32) < (6 : Int32))).2.1 (XS.aloadN X1.here hx rfl (hb hby d1_14) rfl rfl  (XS.iloadN X1.here hx rfl (hb hby d1_15) rfl  k))) ?_
  show own_Fin p e below _ (T1.setTop (mkF m 16 #[.val (.int (1 : Int32)), .val (.ref b1), .val (.int (6 : Int32)), .val (.int (0 : Int32)), .unset] [(.int (0 : Int32)), (.ref b1)]))
  obtain ⟨cl21, Ar21, q21, S21, M21, H21, G21⟩ := (id V1)
  have hin21 : ¬ ((0 : Int32) < 0 ∨ cl21.slots.size ≤ ((0 : Int32)).toNatClampNeg) := inb_of S21 ⟨by decide, by decide⟩
  have hat21 : cl21.slots[((0 : Int32)).toNatClampNeg]? = some (.ref (A 0)) := H21.at hin21 rfl
  refine own_go (fun t k => X1.aaload hx (j := (0 : Int32)) (v := (.ref (A 0))) Ar21.1 (State.isArrayOf_alike hZ.alike Ar21.2.1) rfl Ar21.2.2 hin21 hat21 (g := (mkF m 16 #[.val (.int (1 : Int32)), .val (.ref b1), .val (.int (6 : Int32)), .val (.int (0 : Int32)), .unset] [(.int (0 : Int32)), (.ref b1)])) rfl rfl (hb hby d1_16) _ (XS.astore X1.here hx rfl (hb hby d1_17) rfl rfl (l' := #[.val (.int (1 : Int32)), .val (.ref b1), .val (.int (6 : Int32)), .val (.int (0 : Int32)), .val (.ref (A 0))]) rfl (XS.aload X1.here hx rfl (hb hby d1_19) rfl rfl  k))) ?_
  show own_Fin p e below _ (T1.setTop (mkF m 21 #[.val (.int (1 : Int32)), .val (.ref b1), .val (.int (6 : Int32)), .val (.int (0 : Int32)), .val (.ref (A 0))] [(.ref (A 0))]))
  obtain ⟨T22, X22, e22, st22⟩ := getF X1 hx hZ hown (host := "") (Or.inl hw_26) Via.refl rfl f12 (g := (mkF m 21 #[.val (.int (1 : Int32)), .val (.ref b1), .val (.int (6 : Int32)), .val (.int (0 : Int32)), .val (.ref (A 0))] [(.ref (A 0))])) rfl rfl (hb hby d1_21)
  refine own_go st22 ?_
  show own_Fin p e below _ (T22.setTop (mkF m 24 #[.val (.int (1 : Int32)), .val (.ref b1), .val (.int (6 : Int32)), .val (.int (0 : Int32)), .val (.ref (A 0))] [(.int (1 : Int32))]))
  refine own_go (fun t k => XS.iloadN X22.here hx rfl (hb hby d1_24) rfl  k) ?_
  show own_Fin p e below _ (T22.setTop (mkF m 25 #[.val (.int (1 : Int32)), .val (.ref b1), .val (.int (6 : Int32)), .val (.int (0 : Int32)), .val (.ref (A 0))] [(.int (1 : Int32)), (.int (1 : Int32))]))
  refine own_go (fun t k => XS.icmpNo X22.here hx rfl (hb hby d1_25) rfl (teq (by decide : (1 : Int32) = (1 : Int32))).2 (XS.aload X22.here hx rfl (hb hby d1_28) rfl rfl  k)) ?_
  show own_Fin p e below _ (T22.setTop (mkF m 30 #[.val (.int (1 : Int32)), .val (.ref b1), .val (.int (6 : Int32)), .val (.int (0 : Int32)), .val (.ref (A 0))] [(.ref (A 0))]))
  exact own_out X22 (fun h => by rw [Bd.returns] at h; cases h) Bd.notSynchronized (fun fs hr => retOut X22 hx Bd.returns rfl (Or.inr (Or.inr (Or.inr (Or.inr ⟨rfl, rfl, rfl⟩)))) (hb hby d1_30) hr) (by rw [e22]; exact ⟨rfl, N1, K19⟩) (by decide) (by decide)
theorem d1_31 : decode prog_23_method_8_code 31 = .ok (.iinc 3 1, 3) := by decide +kernel
theorem d1_34 : decode prog_23_method_8_code 34 = .ok (.goto (-25), 3) := by decide +kernel
theorem ef_1k1 (m : MethodId) (x0 : Int32)  : entryFrame m #[(.int x0)] 5 = mkF m 0 #[.val (.int x0), .unset, .unset, .unset, .unset] [] := by first | (simp [entryFrame, mkF, argsToLocals, Value.category]; done) | rfl
def own_q1k1 (Z : State) (A : Nat → Addr) (va : Addr) (k1 : ClassId) (h0 : Heap) (n0 : Nat) (v : Option Value) (h : Heap) (L : List Loc) : Prop := v = some (.ref (A 1)) ∧ Fr n0 L ∧ Keep h0 h []
set_option maxRecDepth 65536 in
set_option maxHeartbeats 40000000 in
theorem rm1k1 (l : Launch) (Z : State) (a0 : Array Value) (hw : ∀ d ∈ tables_1, d.before a0 Z = true) (ws : List Jvm.Cond) (A : Nat → Addr) (va : Addr) (k1 : ClassId) (h0 : Heap) (n0 : Nat) (Z0 : n0 ≤ h0.size) (S_v : Sta Z h0 "com/example/palimpsest/palimpsest/chain/TransactionType" "$VALUES" "[Lcom/example/palimpsest/palimpsest/chain/TransactionType;" (.ref va)) (V_v : Arv Z h0 va k1 (.object "com/example/palimpsest/palimpsest/chain/TransactionType") (6 : Int32) [(.ref (A 0)), (.ref (A 1)), (.ref (A 2)), (.ref (A 3)), (.ref (A 4)), (.ref (A 5))] .null) (X_v : Exa Z h0 va "[Lcom/example/palimpsest/palimpsest/chain/TransactionType;") (F_0 : Fld Z h0 (A 0) "com/example/palimpsest/palimpsest/chain/TransactionType" "code" "I" (.int (1 : Int32))) (F_1 : Fld Z h0 (A 1) "com/example/palimpsest/palimpsest/chain/TransactionType" "code" "I" (.int (2 : Int32))) (F_2 : Fld Z h0 (A 2) "com/example/palimpsest/palimpsest/chain/TransactionType" "code" "I" (.int (3 : Int32))) (F_3 : Fld Z h0 (A 3) "com/example/palimpsest/palimpsest/chain/TransactionType" "code" "I" (.int (4 : Int32))) (F_4 : Fld Z h0 (A 4) "com/example/palimpsest/palimpsest/chain/TransactionType" "code" "I" (.int (5 : Int32))) (F_5 : Fld Z h0 (A 5) "com/example/palimpsest/palimpsest/chain/TransactionType" "code" "I" (.int (6 : Int32))) :
    MetFree l (⟨"com/example/palimpsest/palimpsest/chain/TransactionType", "ofCode", "(I)Lcom/example/palimpsest/palimpsest/chain/TransactionType;"⟩ : MethodName) (head1 (Jvm.Cond.code (⟨"com/example/palimpsest/palimpsest/chain/TransactionType", "ofCode", "(I)Lcom/example/palimpsest/palimpsest/chain/TransactionType;"⟩ : MethodName) prog_23_method_8_code 5 (some (.object "com/example/palimpsest/palimpsest/chain/TransactionType")) :: ws) ({ frames := 2, cells := 1, slots := 6, locals := 25 } : Room)) (fun a U => a = #[(.int (2 : Int32))] ∧ Z.Warmed39 U.vm ∧ U.heap = h0) (fun _ _ _ _ _ => True) (fun _ U o U' => ∃ v L, o = .returned v ∧ (own_q1k1 Z A va k1 h0 n0) v U'.heap L ∧ FrameEnd U o U' L ({ frames := 2, cells := 1, slots := 6, locals := 25 } : Room).cells ({ frames := 2, cells := 1, slots := 6, locals := 25 } : Room).slots) := by
  refine MetFree.of_bodySF (plainFor_of_name pn_0) hisR ?_
  intro p e s m args below meth c s₁ Bd hml0 hP hK
  obtain ⟨rfl, hZ, hh⟩ := hP
  have hx := Bd.exec
  have hby := Bd.bytes
  have hml : c.maxLocals = 5 := hml0
  have hown : s.vm.findClass "com/example/palimpsest/palimpsest/chain/TransactionType" = some m.cls := findClass_of_methodNamed Bd.named
  have hnm := (name_of_methodNamed Bd.named Bd.method).1
  have X0 : Stand p l e ({ frames := 2, cells := 1, slots := 6, locals := 25 } : Room) s m #[(.int (2 : Int32))] below meth c s₁ [] 0 0 := Stand.of_body Bd
  have e0 : s₁.heap = h0 := by rw [← hh, Bd.state]; rfl
  have N0 := Fr.nil n0
  have Kz := Keep.refl h0 []
  have hw_3 := hw _ (List.mem_of_getElem? (i := 3) rfl)
  have hw_5 := hw _ (List.mem_of_getElem? (i := 5) rfl)
  have hw_6 := hw _ (List.mem_of_getElem? (i := 6) rfl)
  have hw_7 := hw _ (List.mem_of_getElem? (i := 7) rfl)
  have hw_26 := hw _ (List.mem_of_getElem? (i := 26) rfl)
  show own_Fin p e below (own_A s ({ frames := 2, cells := 1, slots := 6, locals := 25 } : Room).cells ({ frames := 2, cells := 1, slots := 6, locals := 25 } : Room).slots (own_q1k1 Z A va k1 h0 n0)) _
  refine own_go (fun t k => castTop (ef_1k1 m ((2 : Int32))) k) ?_
  show own_Fin p e below _ (s₁.setTop (mkF m 0 #[.val (.int (2 : Int32)), .unset, .unset, .unset, .unset] []))
  obtain ⟨_, _, ⟨T1, L1, k1, n1⟩, -, X1, ⟨Lc1, hQ1, l1, y1, z1⟩, st1⟩ := Jvm.LawKit.callS X0 hx (y := (⟨"com/example/palimpsest/palimpsest/chain/TransactionType", "values", "()[Lcom/example/palimpsest/palimpsest/chain/TransactionType;"⟩ : MethodName)) hown (mvT hZ hw_5) (mvT hZ hw_6) (mvT hZ hw_3) (mvT hZ hw_7) (by decide) (backOf (W := 0) (rm2 l Z a0 hw []  A va k1 h0 n0 Z0 S_v V_v X_v) hZ hw_7 hw_3 (by decide) (by decide)) (g := (mkF m 0 #[.val (.int (2 : Int32)), .unset, .unset, .unset, .unset] [])) rfl (by rw [hml]; rfl) (argsL := []) (rest := []) (lenOf pd_0 rfl) rfl (by show 2 * 0 + _ ≤ _; exact Nat.le_of_eq rfl) (hb hby d1_0) (fun _ _ => ⟨rfl, e0, (by decide : 0 + 1 ≤ _), (by decide : 0 + 6 ≤ _)⟩)
  dsimp only [Pt.U, Pt.locs, Pt.cells, Pt.slots] at X1 l1 y1 z1 st1 hQ1
  subst l1 y1 z1
  obtain ⟨b1, k1, rfl, N1q, sz1, K1, V1⟩ := hQ1
  have N1 := Fr.app N0 N1q
  have g_b1 : n0 ≤ b1 := Nat.le_trans Z0 sz1
  have sz_b1 : h0.size ≤ b1 := Nat.le_trans Kz.1 sz1
  have ne2 : va ≠ b1 := Nat.ne_of_lt (Nat.lt_of_lt_of_le V_v.lt sz1)
  have ne3 : (A 0) ≠ b1 := Nat.ne_of_lt (Nat.lt_of_lt_of_le F_0.lt sz1)
  have ne4 : (A 1) ≠ b1 := Nat.ne_of_lt (Nat.lt_of_lt_of_le F_1.lt sz1)
  have ne5 : (A 2) ≠ b1 := Nat.ne_of_lt (Nat.lt_of_lt_of_le F_2.lt sz1)
  have ne6 : (A 3) ≠ b1 := Nat.ne_of_lt (Nat.lt_of_lt_of_le F_3.lt sz1)
  have ne7 : (A 4) ≠ b1 := Nat.ne_of_lt (Nat.lt_of_lt_of_le F_4.lt sz1)
  have ne8 : (A 5) ≠ b1 := Nat.ne_of_lt (Nat.lt_of_lt_of_le F_5.lt sz1)
  have E1 : Ext _ _ := ⟨K1.1, fun a c q => K1.2.1 a c q nin0⟩
  have f9 := S_v.ext E1
  have f10 := V_v.ext E1
  have f11 := X_v.ext E1
  have f12 := F_0.ext E1
  have f13 := F_1.ext E1
  have f14 := F_2.ext E1
  have f15 := F_3.ext E1
  have f16 := F_4.ext E1
  have f17 := F_5.ext E1
  have Zh18 : n0 ≤ T1.heap.size := Nat.le_trans Z0 K1.1
  have K19 := Kz.ext E1
  refine own_go st1 ?_
  show own_Fin p e below _ (T1.setTop (mkF m 3 #[.val (.int (2 : Int32)), .unset, .unset, .unset, .unset] [(.ref b1)]))
  refine own_go (fun t k => XS.astoreN X1.here hx rfl (hb hby d1_3) rfl rfl (l' := #[.val (.int (2 : Int32)), .val (.ref b1), .unset, .unset, .unset]) rfl (XS.aloadN X1.here hx rfl (hb hby d1_4) rfl rfl  k)) ?_
  show own_Fin p e below _ (T1.setTop (mkF m 5 #[.val (.int (2 : Int32)), .val (.ref b1), .unset, .unset, .unset] [(.ref b1)]))
  obtain ⟨cl20, Ar20, q20, S20, M20, H20, G20⟩ := (id V1)
  refine own_go (fun t k => X1.arraylength hx Ar20.1 (State.isArrayOf_alike hZ.alike Ar20.2.1) (g := (mkF m 5 #[.val (.int (2 : Int32)), .val (.ref b1), .unset, .unset, .unset] [(.ref b1)])) rfl rfl (hb hby d1_5) _ k) ?_
  rw [len_of S20 M20]
  show own_Fin p e below _ (T1.setTop (mkF m 6 #[.val (.int (2 : Int32)), .val (.ref b1), .unset, .unset, .unset] [(.int (6 : Int32))]))
  refine own_go (fun t k => XS.istoreN X1.here hx rfl (hb hby d1_6) rfl (l' := #[.val (.int (2 : Int32)), .val (.ref b1), .val (.int (6 : Int32)), .unset, .unset]) rfl (XS.iconst X1.here hx rfl (hb hby d1_7) (XS.istoreN X1.here hx rfl (hb hby d1_8) rfl (l' := #[.val (.int (2 : Int32)), .val (.ref b1), .val (.int (6 : Int32)), .val (.int (0 : Int32)), .unset]) rfl (XS.iloadN X1.here hx rfl (hb hby d1_9) rfl  k)))) ?_
  show own_Fin p e below _ (T1.setTop (mkF m 10 #[.val (.int (2 : Int32)), .val (.ref b1), .val (.int (6 : Int32)), .val (.int (0 : Int32)), .unset] [(.int (0 : Int32))]))
  refine own_go (fun t k => XS.iloadN X1.here hx rfl (hb hby d1_10) rfl  k) ?_
  show own_Fin p e below _ (T1.setTop (mkF m 11 #[.val (.int (2 : Int32)), .val (.ref b1), .val (.int (6 : Int32)), .val (.int (0 : Int32)), .unset] [(.int (6 : Int32)), (.int (0 : Int32))]))
  refine own_go (fun t k => XS.icmpNo X1.here hx rfl (hb hby d1_11) rfl (tlt (by decide : (0 : Int32) < (6 : Int32))).2.1 (XS.aloadN X1.here hx rfl (hb hby d1_14) rfl rfl  (XS.iloadN X1.here hx rfl (hb hby d1_15) rfl  k))) ?_
  show own_Fin p e below _ (T1.setTop (mkF m 16 #[.val (.int (2 : Int32)), .val (.ref b1), .val (.int (6 : Int32)), .val (.int (0 : Int32)), .unset] [(.int (0 : Int32)), (.ref b1)]))
  obtain ⟨cl21, Ar21, q21, S21, M21, H21, G21⟩ := (id V1)
  have hin21 : ¬ ((0 : Int32) < 0 ∨ cl21.slots.size ≤ ((0 : Int32)).toNatClampNeg) := inb_of S21 ⟨by decide, by decide⟩
  have hat21 : cl21.slots[((0 : Int32)).toNatClampNeg]? = some (.ref (A 0)) := H21.at hin21 rfl
  refine own_go (fun t k => X1.aaload hx (j := (0 : Int32)) (v := (.ref (A 0))) Ar21.1 (State.isArrayOf_alike hZ.alike Ar21.2.1) rfl Ar21.2.2 hin21 hat21 (g := (mkF m 16 #[.val (.int (2 : Int32)), .val (.ref b1), .val (.int (6 : Int32)), .val (.int (0 : Int32)), .unset] [(.int (0 : Int32)), (.ref b1)])) rfl rfl (hb hby d1_16) _ (XS.astore X1.here hx rfl (hb hby d1_17) rfl rfl (l' := #[.val (.int (2 : Int32)), .val (.ref b1), .val (.int (6 : Int32)), .val (.int (0 : Int32)), .val (.ref (A 0))]) rfl (XS.aload X1.here hx rfl (hb hby d1_19) rfl rfl  k))) ?_
  show own_Fin p e below _ (T1.setTop (mkF m 21 #[.val (.int (2 : Int32)), .val (.ref b1), .val (.int (6 : Int32)), .val (.int (0 : Int32)), .val (.ref (A 0))] [(.ref (A 0))]))
  obtain ⟨T22, X22, e22, st22⟩ := getF X1 hx hZ hown (host := "") (Or.inl hw_26) Via.refl rfl f12 (g := (mkF m 21 #[.val (.int (2 : Int32)), .val (.ref b1), .val (.int (6 : Int32)), .val (.int (0 : Int32)), .val (.ref (A 0))] [(.ref (A 0))])) rfl rfl (hb hby d1_21)
  refine own_go st22 ?_
  show own_Fin p e below _ (T22.setTop (mkF m 24 #[.val (.int (2 : Int32)), .val (.ref b1), .val (.int (6 : Int32)), .val (.int (0 : Int32)), .val (.ref (A 0))] [(.int (1 : Int32))]))
  refine own_go (fun t k => XS.iloadN X22.here hx rfl (hb hby d1_24) rfl  k) ?_
  show own_Fin p e below _ (T22.setTop (mkF m 25 #[.val (.int (2 : Int32)), .val (.ref b1), .val (.int (6 : Int32)), .val (.int (0 : Int32)), .val (.ref (A 0))] [(.int (2 : Int32)), (.int (1 : Int32))]))
  refine own_go (fun t k => XS.icmpYes X22.here hx rfl (pc0 := 25) (pc' := 31) rfl (hb hby d1_25) rfl (feq (by decide : ¬ ((1 : Int32) = (2 : Int32)))).2 (by decide) (by decide) (XS.iinc X22.here hx rfl (hb hby d1_31) rfl (l' := #[.val (.int (2 : Int32)), .val (.ref b1), .val (.int (6 : Int32)), .val (.int (1 : Int32)), .val (.ref (A 0))]) rfl (XS.goto X22.here hx rfl (pc0 := 34) (pc' := 9) rfl (hb hby d1_34) (by decide) (by decide) (XS.iloadN X22.here hx rfl (hb hby d1_9) rfl  k)))) ?_
  show own_Fin p e below _ (T22.setTop (mkF m 10 #[.val (.int (2 : Int32)), .val (.ref b1), .val (.int (6 : Int32)), .val (.int (1 : Int32)), .val (.ref (A 0))] [(.int (1 : Int32))]))
  refine own_go (fun t k => XS.iloadN X22.here hx rfl (hb hby d1_10) rfl  k) ?_
  show own_Fin p e below _ (T22.setTop (mkF m 11 #[.val (.int (2 : Int32)), .val (.ref b1), .val (.int (6 : Int32)), .val (.int (1 : Int32)), .val (.ref (A 0))] [(.int (6 : Int32)), (.int (1 : Int32))]))
  refine own_go (fun t k => XS.icmpNo X22.here hx rfl (hb hby d1_11) rfl (tlt (by decide : (1 : Int32) < (6 : Int32))).2.1 (XS.aloadN X22.here hx rfl (hb hby d1_14) rfl rfl  (XS.iloadN X22.here hx rfl (hb hby d1_15) rfl  k))) ?_
  show own_Fin p e below _ (T22.setTop (mkF m 16 #[.val (.int (2 : Int32)), .val (.ref b1), .val (.int (6 : Int32)), .val (.int (1 : Int32)), .val (.ref (A 0))] [(.int (1 : Int32)), (.ref b1)]))
  obtain ⟨cl23, Ar23, q23, S23, M23, H23, G23⟩ := (id V1)
  have hin23 : ¬ ((1 : Int32) < 0 ∨ cl23.slots.size ≤ ((1 : Int32)).toNatClampNeg) := inb_of S23 ⟨by decide, by decide⟩
  have hat23 : cl23.slots[((1 : Int32)).toNatClampNeg]? = some (.ref (A 1)) := H23.at hin23 rfl
  refine own_go (fun t k => X22.aaload hx (j := (1 : Int32)) (v := (.ref (A 1))) (by rw [e22]; exact Ar23.1) (State.isArrayOf_alike hZ.alike Ar23.2.1) rfl Ar23.2.2 hin23 hat23 (g := (mkF m 16 #[.val (.int (2 : Int32)), .val (.ref b1), .val (.int (6 : Int32)), .val (.int (1 : Int32)), .val (.ref (A 0))] [(.int (1 : Int32)), (.ref b1)])) rfl rfl (hb hby d1_16) _ (XS.astore X22.here hx rfl (hb hby d1_17) rfl rfl (l' := #[.val (.int (2 : Int32)), .val (.ref b1), .val (.int (6 : Int32)), .val (.int (1 : Int32)), .val (.ref (A 1))]) rfl (XS.aload X22.here hx rfl (hb hby d1_19) rfl rfl  k))) ?_
  show own_Fin p e below _ (T22.setTop (mkF m 21 #[.val (.int (2 : Int32)), .val (.ref b1), .val (.int (6 : Int32)), .val (.int (1 : Int32)), .val (.ref (A 1))] [(.ref (A 1))]))
  obtain ⟨T24, X24, e24, st24⟩ := getF X22 hx hZ hown (host := "") (Or.inl hw_26) Via.refl e22 f13 (g := (mkF m 21 #[.val (.int (2 : Int32)), .val (.ref b1), .val (.int (6 : Int32)), .val (.int (1 : Int32)), .val (.ref (A 1))] [(.ref (A 1))])) rfl rfl (hb hby d1_21)
  refine own_go st24 ?_
  show own_Fin p e below _ (T24.setTop (mkF m 24 #[.val (.int (2 : Int32)), .val (.ref b1), .val (.int (6 : Int32)), .val (.int (1 : Int32)), .val (.ref (A 1))] [(.int (2 : Int32))]))
  refine own_go (fun t k => XS.iloadN X24.here hx rfl (hb hby d1_24) rfl  k) ?_
  show own_Fin p e below _ (T24.setTop (mkF m 25 #[.val (.int (2 : Int32)), .val (.ref b1), .val (.int (6 : Int32)), .val (.int (1 : Int32)), .val (.ref (A 1))] [(.int (2 : Int32)), (.int (2 : Int32))]))
  refine own_go (fun t k => XS.icmpNo X24.here hx rfl (hb hby d1_25) rfl (teq (by decide : (2 : Int32) = (2 : Int32))).2 (XS.aload X24.here hx rfl (hb hby d1_28) rfl rfl  k)) ?_
  show own_Fin p e below _ (T24.setTop (mkF m 30 #[.val (.int (2 : Int32)), .val (.ref b1), .val (.int (6 : Int32)), .val (.int (1 : Int32)), .val (.ref (A 1))] [(.ref (A 1))]))
  exact own_out X24 (fun h => by rw [Bd.returns] at h; cases h) Bd.notSynchronized (fun fs hr => retOut X24 hx Bd.returns rfl (Or.inr (Or.inr (Or.inr (Or.inr ⟨rfl, rfl, rfl⟩)))) (hb hby d1_30) hr) (by rw [e24]; exact ⟨rfl, N1, K19⟩) (by decide) (by decide)
theorem ef_1k2 (m : MethodId) (x0 : Int32)  : entryFrame m #[(.int x0)] 5 = mkF m 0 #[.val (.int x0), .unset, .unset, .unset, .unset] [] := by first | (simp [entryFrame, mkF, argsToLocals, Value.category]; done) | rfl
def own_q1k2 (Z : State) (A : Nat → Addr) (va : Addr) (k1 : ClassId) (h0 : Heap) (n0 : Nat) (v : Option Value) (h : Heap) (L : List Loc) : Prop := v = some (.ref (A 2)) ∧ Fr n0 L ∧ Keep h0 h []
set_option maxRecDepth 65536 in
set_option maxHeartbeats 40000000 in
theorem rm1k2 (l : Launch) (Z : State) (a0 : Array Value) (hw : ∀ d ∈ tables_1, d.before a0 Z = true) (ws : List Jvm.Cond) (A : Nat → Addr) (va : Addr) (k1 : ClassId) (h0 : Heap) (n0 : Nat) (Z0 : n0 ≤ h0.size) (S_v : Sta Z h0 "com/example/palimpsest/palimpsest/chain/TransactionType" "$VALUES" "[Lcom/example/palimpsest/palimpsest/chain/TransactionType;" (.ref va)) (V_v : Arv Z h0 va k1 (.object "com/example/palimpsest/palimpsest/chain/TransactionType") (6 : Int32) [(.ref (A 0)), (.ref (A 1)), (.ref (A 2)), (.ref (A 3)), (.ref (A 4)), (.ref (A 5))] .null) (X_v : Exa Z h0 va "[Lcom/example/palimpsest/palimpsest/chain/TransactionType;") (F_0 : Fld Z h0 (A 0) "com/example/palimpsest/palimpsest/chain/TransactionType" "code" "I" (.int (1 : Int32))) (F_1 : Fld Z h0 (A 1) "com/example/palimpsest/palimpsest/chain/TransactionType" "code" "I" (.int (2 : Int32))) (F_2 : Fld Z h0 (A 2) "com/example/palimpsest/palimpsest/chain/TransactionType" "code" "I" (.int (3 : Int32))) (F_3 : Fld Z h0 (A 3) "com/example/palimpsest/palimpsest/chain/TransactionType" "code" "I" (.int (4 : Int32))) (F_4 : Fld Z h0 (A 4) "com/example/palimpsest/palimpsest/chain/TransactionType" "code" "I" (.int (5 : Int32))) (F_5 : Fld Z h0 (A 5) "com/example/palimpsest/palimpsest/chain/TransactionType" "code" "I" (.int (6 : Int32))) :
    MetFree l (⟨"com/example/palimpsest/palimpsest/chain/TransactionType", "ofCode", "(I)Lcom/example/palimpsest/palimpsest/chain/TransactionType;"⟩ : MethodName) (head1 (Jvm.Cond.code (⟨"com/example/palimpsest/palimpsest/chain/TransactionType", "ofCode", "(I)Lcom/example/palimpsest/palimpsest/chain/TransactionType;"⟩ : MethodName) prog_23_method_8_code 5 (some (.object "com/example/palimpsest/palimpsest/chain/TransactionType")) :: ws) ({ frames := 2, cells := 1, slots := 6, locals := 25 } : Room)) (fun a U => a = #[(.int (3 : Int32))] ∧ Z.Warmed39 U.vm ∧ U.heap = h0) (fun _ _ _ _ _ => True) (fun _ U o U' => ∃ v L, o = .returned v ∧ (own_q1k2 Z A va k1 h0 n0) v U'.heap L ∧ FrameEnd U o U' L ({ frames := 2, cells := 1, slots := 6, locals := 25 } : Room).cells ({ frames := 2, cells := 1, slots := 6, locals := 25 } : Room).slots) := by
  refine MetFree.of_bodySF (plainFor_of_name pn_0) hisR ?_
  intro p e s m args below meth c s₁ Bd hml0 hP hK
  obtain ⟨rfl, hZ, hh⟩ := hP
  have hx := Bd.exec
  have hby := Bd.bytes
  have hml : c.maxLocals = 5 := hml0
  have hown : s.vm.findClass "com/example/palimpsest/palimpsest/chain/TransactionType" = some m.cls := findClass_of_methodNamed Bd.named
  have hnm := (name_of_methodNamed Bd.named Bd.method).1
  have X0 : Stand p l e ({ frames := 2, cells := 1, slots := 6, locals := 25 } : Room) s m #[(.int (3 : Int32))] below meth c s₁ [] 0 0 := Stand.of_body Bd
  have e0 : s₁.heap = h0 := by rw [← hh, Bd.state]; rfl
  have N0 := Fr.nil n0
  have Kz := Keep.refl h0 []
  have hw_3 := hw _ (List.mem_of_getElem? (i := 3) rfl)
  have hw_5 := hw _ (List.mem_of_getElem? (i := 5) rfl)
  have hw_6 := hw _ (List.mem_of_getElem? (i := 6) rfl)
  have hw_7 := hw _ (List.mem_of_getElem? (i := 7) rfl)
  have hw_26 := hw _ (List.mem_of_getElem? (i := 26) rfl)
  show own_Fin p e below (own_A s ({ frames := 2, cells := 1, slots := 6, locals := 25 } : Room).cells ({ frames := 2, cells := 1, slots := 6, locals := 25 } : Room).slots (own_q1k2 Z A va k1 h0 n0)) _
  refine own_go (fun t k => castTop (ef_1k2 m ((3 : Int32))) k) ?_
  show own_Fin p e below _ (s₁.setTop (mkF m 0 #[.val (.int (3 : Int32)), .unset, .unset, .unset, .unset] []))
  obtain ⟨_, _, ⟨T1, L1, k1, n1⟩, -, X1, ⟨Lc1, hQ1, l1, y1, z1⟩, st1⟩ := Jvm.LawKit.callS X0 hx (y := (⟨"com/example/palimpsest/palimpsest/chain/TransactionType", "values", "()[Lcom/example/palimpsest/palimpsest/chain/TransactionType;"⟩ : MethodName)) hown (mvT hZ hw_5) (mvT hZ hw_6) (mvT hZ hw_3) (mvT hZ hw_7) (by decide) (backOf (W := 0) (rm2 l Z a0 hw []  A va k1 h0 n0 Z0 S_v V_v X_v) hZ hw_7 hw_3 (by decide) (by decide)) (g := (mkF m 0 #[.val (.int (3 : Int32)), .unset, .unset, .unset, .unset] [])) rfl (by rw [hml]; rfl) (argsL := []) (rest := []) (lenOf pd_0 rfl) rfl (by show 2 * 0 + _ ≤ _; exact Nat.le_of_eq rfl) (hb hby d1_0) (fun _ _ => ⟨rfl, e0, (by decide : 0 + 1 ≤ _), (by decide : 0 + 6 ≤ _)⟩)
  dsimp only [Pt.U, Pt.locs, Pt.cells, Pt.slots] at X1 l1 y1 z1 st1 hQ1
  subst l1 y1 z1
  obtain ⟨b1, k1, rfl, N1q, sz1, K1, V1⟩ := hQ1
  have N1 := Fr.app N0 N1q
  have g_b1 : n0 ≤ b1 := Nat.le_trans Z0 sz1
  have sz_b1 : h0.size ≤ b1 := Nat.le_trans Kz.1 sz1
  have ne2 : va ≠ b1 := Nat.ne_of_lt (Nat.lt_of_lt_of_le V_v.lt sz1)
  have ne3 : (A 0) ≠ b1 := Nat.ne_of_lt (Nat.lt_of_lt_of_le F_0.lt sz1)
  have ne4 : (A 1) ≠ b1 := Nat.ne_of_lt (Nat.lt_of_lt_of_le F_1.lt sz1)
  have ne5 : (A 2) ≠ b1 := Nat.ne_of_lt (Nat.lt_of_lt_of_le F_2.lt sz1)
  have ne6 : (A 3) ≠ b1 := Nat.ne_of_lt (Nat.lt_of_lt_of_le F_3.lt sz1)
  have ne7 : (A 4) ≠ b1 := Nat.ne_of_lt (Nat.lt_of_lt_of_le F_4.lt sz1)
  have ne8 : (A 5) ≠ b1 := Nat.ne_of_lt (Nat.lt_of_lt_of_le F_5.lt sz1)
  have E1 : Ext _ _ := ⟨K1.1, fun a c q => K1.2.1 a c q nin0⟩
  have f9 := S_v.ext E1
  have f10 := V_v.ext E1
  have f11 := X_v.ext E1
  have f12 := F_0.ext E1
  have f13 := F_1.ext E1
  have f14 := F_2.ext E1
  have f15 := F_3.ext E1
  have f16 := F_4.ext E1
  have f17 := F_5.ext E1
  have Zh18 : n0 ≤ T1.heap.size := Nat.le_trans Z0 K1.1
  have K19 := Kz.ext E1
  refine own_go st1 ?_
  show own_Fin p e below _ (T1.setTop (mkF m 3 #[.val (.int (3 : Int32)), .unset, .unset, .unset, .unset] [(.ref b1)]))
  refine own_go (fun t k => XS.astoreN X1.here hx rfl (hb hby d1_3) rfl rfl (l' := #[.val (.int (3 : Int32)), .val (.ref b1), .unset, .unset, .unset]) rfl (XS.aloadN X1.here hx rfl (hb hby d1_4) rfl rfl  k)) ?_
  show own_Fin p e below _ (T1.setTop (mkF m 5 #[.val (.int (3 : Int32)), .val (.ref b1), .unset, .unset, .unset] [(.ref b1)]))
  obtain ⟨cl20, Ar20, q20, S20, M20, H20, G20⟩ := (id V1)
  refine own_go (fun t k => X1.arraylength hx Ar20.1 (State.isArrayOf_alike hZ.alike Ar20.2.1) (g := (mkF m 5 #[.val (.int (3 : Int32)), .val (.ref b1), .unset, .unset, .unset] [(.ref b1)])) rfl rfl (hb hby d1_5) _ k) ?_
  rw [len_of S20 M20]
  show own_Fin p e below _ (T1.setTop (mkF m 6 #[.val (.int (3 : Int32)), .val (.ref b1), .unset, .unset, .unset] [(.int (6 : Int32))]))
  refine own_go (fun t k => XS.istoreN X1.here hx rfl (hb hby d1_6) rfl (l' := #[.val (.int (3 : Int32)), .val (.ref b1), .val (.int (6 : Int32)), .unset, .unset]) rfl (XS.iconst X1.here hx rfl (hb hby d1_7) (XS.istoreN X1.here hx rfl (hb hby d1_8) rfl (l' := #[.val (.int (3 : Int32)), .val (.ref b1), .val (.int (6 : Int32)), .val (.int (0 : Int32)), .unset]) rfl (XS.iloadN X1.here hx rfl (hb hby d1_9) rfl  k)))) ?_
  show own_Fin p e below _ (T1.setTop (mkF m 10 #[.val (.int (3 : Int32)), .val (.ref b1), .val (.int (6 : Int32)), .val (.int (0 : Int32)), .unset] [(.int (0 : Int32))]))
  refine own_go (fun t k => XS.iloadN X1.here hx rfl (hb hby d1_10) rfl  k) ?_
  show own_Fin p e below _ (T1.setTop (mkF m 11 #[.val (.int (3 : Int32)), .val (.ref b1), .val (.int (6 : Int32)), .val (.int (0 : Int32)), .unset] [(.int (6 : Int32)), (.int (0 : Int32))]))
  refine own_go (fun t k => XS.icmpNo X1.here hx rfl (hb hby d1_11) rfl (tlt (by decide : (0 : Int32) < (6 : Int32))).2.1 (XS.aloadN X1.here hx rfl (hb hby d1_14) rfl rfl  (XS.iloadN X1.here hx rfl (hb hby d1_15) rfl  k))) ?_
  show own_Fin p e below _ (T1.setTop (mkF m 16 #[.val (.int (3 : Int32)), .val (.ref b1), .val (.int (6 : Int32)), .val (.int (0 : Int32)), .unset] [(.int (0 : Int32)), (.ref b1)]))
  obtain ⟨cl21, Ar21, q21, S21, M21, H21, G21⟩ := (id V1)
  have hin21 : ¬ ((0 : Int32) < 0 ∨ cl21.slots.size ≤ ((0 : Int32)).toNatClampNeg) := inb_of S21 ⟨by decide, by decide⟩
  have hat21 : cl21.slots[((0 : Int32)).toNatClampNeg]? = some (.ref (A 0)) := H21.at hin21 rfl
  refine own_go (fun t k => X1.aaload hx (j := (0 : Int32)) (v := (.ref (A 0))) Ar21.1 (State.isArrayOf_alike hZ.alike Ar21.2.1) rfl Ar21.2.2 hin21 hat21 (g := (mkF m 16 #[.val (.int (3 : Int32)), .val (.ref b1), .val (.int (6 : Int32)), .val (.int (0 : Int32)), .unset] [(.int (0 : Int32)), (.ref b1)])) rfl rfl (hb hby d1_16) _ (XS.astore X1.here hx rfl (hb hby d1_17) rfl rfl (l' := #[.val (.int (3 : Int32)), .val (.ref b1), .val (.int (6 : Int32)), .val (.int (0 : Int32)), .val (.ref (A 0))]) rfl (XS.aload X1.here hx rfl (hb hby d1_19) rfl rfl  k))) ?_
  show own_Fin p e below _ (T1.setTop (mkF m 21 #[.val (.int (3 : Int32)), .val (.ref b1), .val (.int (6 : Int32)), .val (.int (0 : Int32)), .val (.ref (A 0))] [(.ref (A 0))]))
  obtain ⟨T22, X22, e22, st22⟩ := getF X1 hx hZ hown (host := "") (Or.inl hw_26) Via.refl rfl f12 (g := (mkF m 21 #[.val (.int (3 : Int32)), .val (.ref b1), .val (.int (6 : Int32)), .val (.int (0 : Int32)), .val (.ref (A 0))] [(.ref (A 0))])) rfl rfl (hb hby d1_21)
  refine own_go st22 ?_
  show own_Fin p e below _ (T22.setTop (mkF m 24 #[.val (.int (3 : Int32)), .val (.ref b1), .val (.int (6 : Int32)), .val (.int (0 : Int32)), .val (.ref (A 0))] [(.int (1 : Int32))]))
  refine own_go (fun t k => XS.iloadN X22.here hx rfl (hb hby d1_24) rfl  k) ?_
  show own_Fin p e below _ (T22.setTop (mkF m 25 #[.val (.int (3 : Int32)), .val (.ref b1), .val (.int (6 : Int32)), .val (.int (0 : Int32)), .val (.ref (A 0))] [(.int (3 : Int32)), (.int (1 : Int32))]))
  refine own_go (fun t k => XS.icmpYes X22.here hx rfl (pc0 := 25) (pc' := 31) rfl (hb hby d1_25) rfl (feq (by decide : ¬ ((1 : Int32) = (3 : Int32)))).2 (by decide) (by decide) (XS.iinc X22.here hx rfl (hb hby d1_31) rfl (l' := #[.val (.int (3 : Int32)), .val (.ref b1), .val (.int (6 : Int32)), .val (.int (1 : Int32)), .val (.ref (A 0))]) rfl (XS.goto X22.here hx rfl (pc0 := 34) (pc' := 9) rfl (hb hby d1_34) (by decide) (by decide) (XS.iloadN X22.here hx rfl (hb hby d1_9) rfl  k)))) ?_
  show own_Fin p e below _ (T22.setTop (mkF m 10 #[.val (.int (3 : Int32)), .val (.ref b1), .val (.int (6 : Int32)), .val (.int (1 : Int32)), .val (.ref (A 0))] [(.int (1 : Int32))]))
  refine own_go (fun t k => XS.iloadN X22.here hx rfl (hb hby d1_10) rfl  k) ?_
  show own_Fin p e below _ (T22.setTop (mkF m 11 #[.val (.int (3 : Int32)), .val (.ref b1), .val (.int (6 : Int32)), .val (.int (1 : Int32)), .val (.ref (A 0))] [(.int (6 : Int32)), (.int (1 : Int32))]))
  refine own_go (fun t k => XS.icmpNo X22.here hx rfl (hb hby d1_11) rfl (tlt (by decide : (1 : Int32) < (6 : Int32))).2.1 (XS.aloadN X22.here hx rfl (hb hby d1_14) rfl rfl  (XS.iloadN X22.here hx rfl (hb hby d1_15) rfl  k))) ?_
  show own_Fin p e below _ (T22.setTop (mkF m 16 #[.val (.int (3 : Int32)), .val (.ref b1), .val (.int (6 : Int32)), .val (.int (1 : Int32)), .val (.ref (A 0))] [(.int (1 : Int32)), (.ref b1)]))
  obtain ⟨cl23, Ar23, q23, S23, M23, H23, G23⟩ := (id V1)
  have hin23 : ¬ ((1 : Int32) < 0 ∨ cl23.slots.size ≤ ((1 : Int32)).toNatClampNeg) := inb_of S23 ⟨by decide, by decide⟩
  have hat23 : cl23.slots[((1 : Int32)).toNatClampNeg]? = some (.ref (A 1)) := H23.at hin23 rfl
  refine own_go (fun t k => X22.aaload hx (j := (1 : Int32)) (v := (.ref (A 1))) (by rw [e22]; exact Ar23.1) (State.isArrayOf_alike hZ.alike Ar23.2.1) rfl Ar23.2.2 hin23 hat23 (g := (mkF m 16 #[.val (.int (3 : Int32)), .val (.ref b1), .val (.int (6 : Int32)), .val (.int (1 : Int32)), .val (.ref (A 0))] [(.int (1 : Int32)), (.ref b1)])) rfl rfl (hb hby d1_16) _ (XS.astore X22.here hx rfl (hb hby d1_17) rfl rfl (l' := #[.val (.int (3 : Int32)), .val (.ref b1), .val (.int (6 : Int32)), .val (.int (1 : Int32)), .val (.ref (A 1))]) rfl (XS.aload X22.here hx rfl (hb hby d1_19) rfl rfl  k))) ?_
  show own_Fin p e below _ (T22.setTop (mkF m 21 #[.val (.int (3 : Int32)), .val (.ref b1), .val (.int (6 : Int32)), .val (.int (1 : Int32)), .val (.ref (A 1))] [(.ref (A 1))]))
  obtain ⟨T24, X24, e24, st24⟩ := getF X22 hx hZ hown (host := "") (Or.inl hw_26) Via.refl e22 f13 (g := (mkF m 21 #[.val (.int (3 : Int32)), .val (.ref b1), .val (.int (6 : Int32)), .val (.int (1 : Int32)), .val (.ref (A 1))] [(.ref (A 1))])) rfl rfl (hb hby d1_21)
  refine own_go st24 ?_
  show own_Fin p e below _ (T24.setTop (mkF m 24 #[.val (.int (3 : Int32)), .val (.ref b1), .val (.int (6 : Int32)), .val (.int (1 : Int32)), .val (.ref (A 1))] [(.int (2 : Int32))]))
  refine own_go (fun t k => XS.iloadN X24.here hx rfl (hb hby d1_24) rfl  k) ?_
  show own_Fin p e below _ (T24.setTop (mkF m 25 #[.val (.int (3 : Int32)), .val (.ref b1), .val (.int (6 : Int32)), .val (.int (1 : Int32)), .val (.ref (A 1))] [(.int (3 : Int32)), (.int (2 : Int32))]))
  refine own_go (fun t k => XS.icmpYes X24.here hx rfl (pc0 := 25) (pc' := 31) rfl (hb hby d1_25) rfl (feq (by decide : ¬ ((2 : Int32) = (3 : Int32)))).2 (by decide) (by decide) (XS.iinc X24.here hx rfl (hb hby d1_31) rfl (l' := #[.val (.int (3 : Int32)), .val (.ref b1), .val (.int (6 : Int32)), .val (.int (2 : Int32)), .val (.ref (A 1))]) rfl (XS.goto X24.here hx rfl (pc0 := 34) (pc' := 9) rfl (hb hby d1_34) (by decide) (by decide) (XS.iloadN X24.here hx rfl (hb hby d1_9) rfl  k)))) ?_
  show own_Fin p e below _ (T24.setTop (mkF m 10 #[.val (.int (3 : Int32)), .val (.ref b1), .val (.int (6 : Int32)), .val (.int (2 : Int32)), .val (.ref (A 1))] [(.int (2 : Int32))]))
  refine own_go (fun t k => XS.iloadN X24.here hx rfl (hb hby d1_10) rfl  k) ?_
  show own_Fin p e below _ (T24.setTop (mkF m 11 #[.val (.int (3 : Int32)), .val (.ref b1), .val (.int (6 : Int32)), .val (.int (2 : Int32)), .val (.ref (A 1))] [(.int (6 : Int32)), (.int (2 : Int32))]))
  refine own_go (fun t k => XS.icmpNo X24.here hx rfl (hb hby d1_11) rfl (tlt (by decide : (2 : Int32) < (6 : Int32))).2.1 (XS.aloadN X24.here hx rfl (hb hby d1_14) rfl rfl  (XS.iloadN X24.here hx rfl (hb hby d1_15) rfl  k))) ?_
  show own_Fin p e below _ (T24.setTop (mkF m 16 #[.val (.int (3 : Int32)), .val (.ref b1), .val (.int (6 : Int32)), .val (.int (2 : Int32)), .val (.ref (A 1))] [(.int (2 : Int32)), (.ref b1)]))
  obtain ⟨cl25, Ar25, q25, S25, M25, H25, G25⟩ := (id V1)
  have hin25 : ¬ ((2 : Int32) < 0 ∨ cl25.slots.size ≤ ((2 : Int32)).toNatClampNeg) := inb_of S25 ⟨by decide, by decide⟩
  have hat25 : cl25.slots[((2 : Int32)).toNatClampNeg]? = some (.ref (A 2)) := H25.at hin25 rfl
  refine own_go (fun t k => X24.aaload hx (j := (2 : Int32)) (v := (.ref (A 2))) (by rw [e24]; exact Ar25.1) (State.isArrayOf_alike hZ.alike Ar25.2.1) rfl Ar25.2.2 hin25 hat25 (g := (mkF m 16 #[.val (.int (3 : Int32)), .val (.ref b1), .val (.int (6 : Int32)), .val (.int (2 : Int32)), .val (.ref (A 1))] [(.int (2 : Int32)), (.ref b1)])) rfl rfl (hb hby d1_16) _ (XS.astore X24.here hx rfl (hb hby d1_17) rfl rfl (l' := #[.val (.int (3 : Int32)), .val (.ref b1), .val (.int (6 : Int32)), .val (.int (2 : Int32)), .val (.ref (A 2))]) rfl (XS.aload X24.here hx rfl (hb hby d1_19) rfl rfl  k))) ?_
  show own_Fin p e below _ (T24.setTop (mkF m 21 #[.val (.int (3 : Int32)), .val (.ref b1), .val (.int (6 : Int32)), .val (.int (2 : Int32)), .val (.ref (A 2))] [(.ref (A 2))]))
  obtain ⟨T26, X26, e26, st26⟩ := getF X24 hx hZ hown (host := "") (Or.inl hw_26) Via.refl e24 f14 (g := (mkF m 21 #[.val (.int (3 : Int32)), .val (.ref b1), .val (.int (6 : Int32)), .val (.int (2 : Int32)), .val (.ref (A 2))] [(.ref (A 2))])) rfl rfl (hb hby d1_21)
  refine own_go st26 ?_
  show own_Fin p e below _ (T26.setTop (mkF m 24 #[.val (.int (3 : Int32)), .val (.ref b1), .val (.int (6 : Int32)), .val (.int (2 : Int32)), .val (.ref (A 2))] [(.int (3 : Int32))]))
  refine own_go (fun t k => XS.iloadN X26.here hx rfl (hb hby d1_24) rfl  k) ?_
  show own_Fin p e below _ (T26.setTop (mkF m 25 #[.val (.int (3 : Int32)), .val (.ref b1), .val (.int (6 : Int32)), .val (.int (2 : Int32)), .val (.ref (A 2))] [(.int (3 : Int32)), (.int (3 : Int32))]))
  refine own_go (fun t k => XS.icmpNo X26.here hx rfl (hb hby d1_25) rfl (teq (by decide : (3 : Int32) = (3 : Int32))).2 (XS.aload X26.here hx rfl (hb hby d1_28) rfl rfl  k)) ?_
  show own_Fin p e below _ (T26.setTop (mkF m 30 #[.val (.int (3 : Int32)), .val (.ref b1), .val (.int (6 : Int32)), .val (.int (2 : Int32)), .val (.ref (A 2))] [(.ref (A 2))]))
  exact own_out X26 (fun h => by rw [Bd.returns] at h; cases h) Bd.notSynchronized (fun fs hr => retOut X26 hx Bd.returns rfl (Or.inr (Or.inr (Or.inr (Or.inr ⟨rfl, rfl, rfl⟩)))) (hb hby d1_30) hr) (by rw [e26]; exact ⟨rfl, N1, K19⟩) (by decide) (by decide)
theorem ef_1k3 (m : MethodId) (x0 : Int32)  : entryFrame m #[(.int x0)] 5 = mkF m 0 #[.val (.int x0), .unset, .unset, .unset, .unset] [] := by first | (simp [entryFrame, mkF, argsToLocals, Value.category]; done) | rfl
def own_q1k3 (Z : State) (A : Nat → Addr) (va : Addr) (k1 : ClassId) (h0 : Heap) (n0 : Nat) (v : Option Value) (h : Heap) (L : List Loc) : Prop := v = some (.ref (A 3)) ∧ Fr n0 L ∧ Keep h0 h []
set_option maxRecDepth 65536 in
set_option maxHeartbeats 40000000 in
theorem rm1k3 (l : Launch) (Z : State) (a0 : Array Value) (hw : ∀ d ∈ tables_1, d.before a0 Z = true) (ws : List Jvm.Cond) (A : Nat → Addr) (va : Addr) (k1 : ClassId) (h0 : Heap) (n0 : Nat) (Z0 : n0 ≤ h0.size) (S_v : Sta Z h0 "com/example/palimpsest/palimpsest/chain/TransactionType" "$VALUES" "[Lcom/example/palimpsest/palimpsest/chain/TransactionType;" (.ref va)) (V_v : Arv Z h0 va k1 (.object "com/example/palimpsest/palimpsest/chain/TransactionType") (6 : Int32) [(.ref (A 0)), (.ref (A 1)), (.ref (A 2)), (.ref (A 3)), (.ref (A 4)), (.ref (A 5))] .null) (X_v : Exa Z h0 va "[Lcom/example/palimpsest/palimpsest/chain/TransactionType;") (F_0 : Fld Z h0 (A 0) "com/example/palimpsest/palimpsest/chain/TransactionType" "code" "I" (.int (1 : Int32))) (F_1 : Fld Z h0 (A 1) "com/example/palimpsest/palimpsest/chain/TransactionType" "code" "I" (.int (2 : Int32))) (F_2 : Fld Z h0 (A 2) "com/example/palimpsest/palimpsest/chain/TransactionType" "code" "I" (.int (3 : Int32))) (F_3 : Fld Z h0 (A 3) "com/example/palimpsest/palimpsest/chain/TransactionType" "code" "I" (.int (4 : Int32))) (F_4 : Fld Z h0 (A 4) "com/example/palimpsest/palimpsest/chain/TransactionType" "code" "I" (.int (5 : Int32))) (F_5 : Fld Z h0 (A 5) "com/example/palimpsest/palimpsest/chain/TransactionType" "code" "I" (.int (6 : Int32))) :
    MetFree l (⟨"com/example/palimpsest/palimpsest/chain/TransactionType", "ofCode", "(I)Lcom/example/palimpsest/palimpsest/chain/TransactionType;"⟩ : MethodName) (head1 (Jvm.Cond.code (⟨"com/example/palimpsest/palimpsest/chain/TransactionType", "ofCode", "(I)Lcom/example/palimpsest/palimpsest/chain/TransactionType;"⟩ : MethodName) prog_23_method_8_code 5 (some (.object "com/example/palimpsest/palimpsest/chain/TransactionType")) :: ws) ({ frames := 2, cells := 1, slots := 6, locals := 25 } : Room)) (fun a U => a = #[(.int (4 : Int32))] ∧ Z.Warmed39 U.vm ∧ U.heap = h0) (fun _ _ _ _ _ => True) (fun _ U o U' => ∃ v L, o = .returned v ∧ (own_q1k3 Z A va k1 h0 n0) v U'.heap L ∧ FrameEnd U o U' L ({ frames := 2, cells := 1, slots := 6, locals := 25 } : Room).cells ({ frames := 2, cells := 1, slots := 6, locals := 25 } : Room).slots) := by
  refine MetFree.of_bodySF (plainFor_of_name pn_0) hisR ?_
  intro p e s m args below meth c s₁ Bd hml0 hP hK
  obtain ⟨rfl, hZ, hh⟩ := hP
  have hx := Bd.exec
  have hby := Bd.bytes
  have hml : c.maxLocals = 5 := hml0
  have hown : s.vm.findClass "com/example/palimpsest/palimpsest/chain/TransactionType" = some m.cls := findClass_of_methodNamed Bd.named
  have hnm := (name_of_methodNamed Bd.named Bd.method).1
  have X0 : Stand p l e ({ frames := 2, cells := 1, slots := 6, locals := 25 } : Room) s m #[(.int (4 : Int32))] below meth c s₁ [] 0 0 := Stand.of_body Bd
  have e0 : s₁.heap = h0 := by rw [← hh, Bd.state]; rfl
  have N0 := Fr.nil n0
  have Kz := Keep.refl h0 []
  have hw_3 := hw _ (List.mem_of_getElem? (i := 3) rfl)
  have hw_5 := hw _ (List.mem_of_getElem? (i := 5) rfl)
  have hw_6 := hw _ (List.mem_of_getElem? (i := 6) rfl)
  have hw_7 := hw _ (List.mem_of_getElem? (i := 7) rfl)
  have hw_26 := hw _ (List.mem_of_getElem? (i := 26) rfl)
  show own_Fin p e below (own_A s ({ frames := 2, cells := 1, slots := 6, locals := 25 } : Room).cells ({ frames := 2, cells := 1, slots := 6, locals := 25 } : Room).slots (own_q1k3 Z A va k1 h0 n0)) _
  refine own_go (fun t k => castTop (ef_1k3 m ((4 : Int32))) k) ?_
  show own_Fin p e below _ (s₁.setTop (mkF m 0 #[.val (.int (4 : Int32)), .unset, .unset, .unset, .unset] []))
  obtain ⟨_, _, ⟨T1, L1, k1, n1⟩, -, X1, ⟨Lc1, hQ1, l1, y1, z1⟩, st1⟩ := Jvm.LawKit.callS X0 hx (y := (⟨"com/example/palimpsest/palimpsest/chain/TransactionType", "values", "()[Lcom/example/palimpsest/palimpsest/chain/TransactionType;"⟩ : MethodName)) hown (mvT hZ hw_5) (mvT hZ hw_6) (mvT hZ hw_3) (mvT hZ hw_7) (by decide) (backOf (W := 0) (rm2 l Z a0 hw []  A va k1 h0 n0 Z0 S_v V_v X_v) hZ hw_7 hw_3 (by decide) (by decide)) (g := (mkF m 0 #[.val (.int (4 : Int32)), .unset, .unset, .unset, .unset] [])) rfl (by rw [hml]; rfl) (argsL := []) (rest := []) (lenOf pd_0 rfl) rfl (by show 2 * 0 + _ ≤ _; exact Nat.le_of_eq rfl) (hb hby d1_0) (fun _ _ => ⟨rfl, e0, (by decide : 0 + 1 ≤ _), (by decide : 0 + 6 ≤ _)⟩)
  dsimp only [Pt.U, Pt.locs, Pt.cells, Pt.slots] at X1 l1 y1 z1 st1 hQ1
  subst l1 y1 z1
  obtain ⟨b1, k1, rfl, N1q, sz1, K1, V1⟩ := hQ1
  have N1 := Fr.app N0 N1q
  have g_b1 : n0 ≤ b1 := Nat.le_trans Z0 sz1
  have sz_b1 : h0.size ≤ b1 := Nat.le_trans Kz.1 sz1
  have ne2 : va ≠ b1 := Nat.ne_of_lt (Nat.lt_of_lt_of_le V_v.lt sz1)
  have ne3 : (A 0) ≠ b1 := Nat.ne_of_lt (Nat.lt_of_lt_of_le F_0.lt sz1)
  have ne4 : (A 1) ≠ b1 := Nat.ne_of_lt (Nat.lt_of_lt_of_le F_1.lt sz1)
  have ne5 : (A 2) ≠ b1 := Nat.ne_of_lt (Nat.lt_of_lt_of_le F_2.lt sz1)
  have ne6 : (A 3) ≠ b1 := Nat.ne_of_lt (Nat.lt_of_lt_of_le F_3.lt sz1)
  have ne7 : (A 4) ≠ b1 := Nat.ne_of_lt (Nat.lt_of_lt_of_le F_4.lt sz1)
  have ne8 : (A 5) ≠ b1 := Nat.ne_of_lt (Nat.lt_of_lt_of_le F_5.lt sz1)
  have E1 : Ext _ _ := ⟨K1.1, fun a c q => K1.2.1 a c q nin0⟩
  have f9 := S_v.ext E1
  have f10 := V_v.ext E1
  have f11 := X_v.ext E1
  have f12 := F_0.ext E1
  have f13 := F_1.ext E1
  have f14 := F_2.ext E1
  have f15 := F_3.ext E1
  have f16 := F_4.ext E1
  have f17 := F_5.ext E1
  have Zh18 : n0 ≤ T1.heap.size := Nat.le_trans Z0 K1.1
  have K19 := Kz.ext E1
  refine own_go st1 ?_
  show own_Fin p e below _ (T1.setTop (mkF m 3 #[.val (.int (4 : Int32)), .unset, .unset, .unset, .unset] [(.ref b1)]))
  refine own_go (fun t k => XS.astoreN X1.here hx rfl (hb hby d1_3) rfl rfl (l' := #[.val (.int (4 : Int32)), .val (.ref b1), .unset, .unset, .unset]) rfl (XS.aloadN X1.here hx rfl (hb hby d1_4) rfl rfl  k)) ?_
  show own_Fin p e below _ (T1.setTop (mkF m 5 #[.val (.int (4 : Int32)), .val (.ref b1), .unset, .unset, .unset] [(.ref b1)]))
  obtain ⟨cl20, Ar20, q20, S20, M20, H20, G20⟩ := (id V1)
  refine own_go (fun t k => X1.arraylength hx Ar20.1 (State.isArrayOf_alike hZ.alike Ar20.2.1) (g := (mkF m 5 #[.val (.int (4 : Int32)), .val (.ref b1), .unset, .unset, .unset] [(.ref b1)])) rfl rfl (hb hby d1_5) _ k) ?_
  rw [len_of S20 M20]
  show own_Fin p e below _ (T1.setTop (mkF m 6 #[.val (.int (4 : Int32)), .val (.ref b1), .unset, .unset, .unset] [(.int (6 : Int32))]))
  refine own_go (fun t k => XS.istoreN X1.here hx rfl (hb hby d1_6) rfl (l' := #[.val (.int (4 : Int32)), .val (.ref b1), .val (.int (6 : Int32)), .unset, .unset]) rfl (XS.iconst X1.here hx rfl (hb hby d1_7) (XS.istoreN X1.here hx rfl (hb hby d1_8) rfl (l' := #[.val (.int (4 : Int32)), .val (.ref b1), .val (.int (6 : Int32)), .val (.int (0 : Int32)), .unset]) rfl (XS.iloadN X1.here hx rfl (hb hby d1_9) rfl  k)))) ?_
  show own_Fin p e below _ (T1.setTop (mkF m 10 #[.val (.int (4 : Int32)), .val (.ref b1), .val (.int (6 : Int32)), .val (.int (0 : Int32)), .unset] [(.int (0 : Int32))]))
  refine own_go (fun t k => XS.iloadN X1.here hx rfl (hb hby d1_10) rfl  k) ?_
  show own_Fin p e below _ (T1.setTop (mkF m 11 #[.val (.int (4 : Int32)), .val (.ref b1), .val (.int (6 : Int32)), .val (.int (0 : Int32)), .unset] [(.int (6 : Int32)), (.int (0 : Int32))]))
  refine own_go (fun t k => XS.icmpNo X1.here hx rfl (hb hby d1_11) rfl (tlt (by decide : (0 : Int32) < (6 : Int32))).2.1 (XS.aloadN X1.here hx rfl (hb hby d1_14) rfl rfl  (XS.iloadN X1.here hx rfl (hb hby d1_15) rfl  k))) ?_
  show own_Fin p e below _ (T1.setTop (mkF m 16 #[.val (.int (4 : Int32)), .val (.ref b1), .val (.int (6 : Int32)), .val (.int (0 : Int32)), .unset] [(.int (0 : Int32)), (.ref b1)]))
  obtain ⟨cl21, Ar21, q21, S21, M21, H21, G21⟩ := (id V1)
  have hin21 : ¬ ((0 : Int32) < 0 ∨ cl21.slots.size ≤ ((0 : Int32)).toNatClampNeg) := inb_of S21 ⟨by decide, by decide⟩
  have hat21 : cl21.slots[((0 : Int32)).toNatClampNeg]? = some (.ref (A 0)) := H21.at hin21 rfl
  refine own_go (fun t k => X1.aaload hx (j := (0 : Int32)) (v := (.ref (A 0))) Ar21.1 (State.isArrayOf_alike hZ.alike Ar21.2.1) rfl Ar21.2.2 hin21 hat21 (g := (mkF m 16 #[.val (.int (4 : Int32)), .val (.ref b1), .val (.int (6 : Int32)), .val (.int (0 : Int32)), .unset] [(.int (0 : Int32)), (.ref b1)])) rfl rfl (hb hby d1_16) _ (XS.astore X1.here hx rfl (hb hby d1_17) rfl rfl (l' := #[.val (.int (4 : Int32)), .val (.ref b1), .val (.int (6 : Int32)), .val (.int (0 : Int32)), .val (.ref (A 0))]) rfl (XS.aload X1.here hx rfl (hb hby d1_19) rfl rfl  k))) ?_
  show own_Fin p e below _ (T1.setTop (mkF m 21 #[.val (.int (4 : Int32)), .val (.ref b1), .val (.int (6 : Int32)), .val (.int (0 : Int32)), .val (.ref (A 0))] [(.ref (A 0))]))
  obtain ⟨T22, X22, e22, st22⟩ := getF X1 hx hZ hown (host := "") (Or.inl hw_26) Via.refl rfl f12 (g := (mkF m 21 #[.val (.int (4 : Int32)), .val (.ref b1), .val (.int (6 : Int32)), .val (.int (0 : Int32)), .val (.ref (A 0))] [(.ref (A 0))])) rfl rfl (hb hby d1_21)
  refine own_go st22 ?_
  show own_Fin p e below _ (T22.setTop (mkF m 24 #[.val (.int (4 : Int32)), .val (.ref b1), .val (.int (6 : Int32)), .val (.int (0 : Int32)), .val (.ref (A 0))] [(.int (1 : Int32))]))
  refine own_go (fun t k => XS.iloadN X22.here hx rfl (hb hby d1_24) rfl  k) ?_
  show own_Fin p e below _ (T22.setTop (mkF m 25 #[.val (.int (4 : Int32)), .val (.ref b1), .val (.int (6 : Int32)), .val (.int (0 : Int32)), .val (.ref (A 0))] [(.int (4 : Int32)), (.int (1 : Int32))]))
  refine own_go (fun t k => XS.icmpYes X22.here hx rfl (pc0 := 25) (pc' := 31) rfl (hb hby d1_25) rfl (feq (by decide : ¬ ((1 : Int32) = (4 : Int32)))).2 (by decide) (by decide) (XS.iinc X22.here hx rfl (hb hby d1_31) rfl (l' := #[.val (.int (4 : Int32)), .val (.ref b1), .val (.int (6 : Int32)), .val (.int (1 : Int32)), .val (.ref (A 0))]) rfl (XS.goto X22.here hx rfl (pc0 := 34) (pc' := 9) rfl (hb hby d1_34) (by decide) (by decide) (XS.iloadN X22.here hx rfl (hb hby d1_9) rfl  k)))) ?_
  show own_Fin p e below _ (T22.setTop (mkF m 10 #[.val (.int (4 : Int32)), .val (.ref b1), .val (.int (6 : Int32)), .val (.int (1 : Int32)), .val (.ref (A 0))] [(.int (1 : Int32))]))
  refine own_go (fun t k => XS.iloadN X22.here hx rfl (hb hby d1_10) rfl  k) ?_
  show own_Fin p e below _ (T22.setTop (mkF m 11 #[.val (.int (4 : Int32)), .val (.ref b1), .val (.int (6 : Int32)), .val (.int (1 : Int32)), .val (.ref (A 0))] [(.int (6 : Int32)), (.int (1 : Int32))]))
  refine own_go (fun t k => XS.icmpNo X22.here hx rfl (hb hby d1_11) rfl (tlt (by decide : (1 : Int32) < (6 : Int32))).2.1 (XS.aloadN X22.here hx rfl (hb hby d1_14) rfl rfl  (XS.iloadN X22.here hx rfl (hb hby d1_15) rfl  k))) ?_
  show own_Fin p e below _ (T22.setTop (mkF m 16 #[.val (.int (4 : Int32)), .val (.ref b1), .val (.int (6 : Int32)), .val (.int (1 : Int32)), .val (.ref (A 0))] [(.int (1 : Int32)), (.ref b1)]))
  obtain ⟨cl23, Ar23, q23, S23, M23, H23, G23⟩ := (id V1)
  have hin23 : ¬ ((1 : Int32) < 0 ∨ cl23.slots.size ≤ ((1 : Int32)).toNatClampNeg) := inb_of S23 ⟨by decide, by decide⟩
  have hat23 : cl23.slots[((1 : Int32)).toNatClampNeg]? = some (.ref (A 1)) := H23.at hin23 rfl
  refine own_go (fun t k => X22.aaload hx (j := (1 : Int32)) (v := (.ref (A 1))) (by rw [e22]; exact Ar23.1) (State.isArrayOf_alike hZ.alike Ar23.2.1) rfl Ar23.2.2 hin23 hat23 (g := (mkF m 16 #[.val (.int (4 : Int32)), .val (.ref b1), .val (.int (6 : Int32)), .val (.int (1 : Int32)), .val (.ref (A 0))] [(.int (1 : Int32)), (.ref b1)])) rfl rfl (hb hby d1_16) _ (XS.astore X22.here hx rfl (hb hby d1_17) rfl rfl (l' := #[.val (.int (4 : Int32)), .val (.ref b1), .val (.int (6 : Int32)), .val (.int (1 : Int32)), .val (.ref (A 1))]) rfl (XS.aload X22.here hx rfl (hb hby d1_19) rfl rfl  k))) ?_
  show own_Fin p e below _ (T22.setTop (mkF m 21 #[.val (.int (4 : Int32)), .val (.ref b1), .val (.int (6 : Int32)), .val (.int (1 : Int32)), .val (.ref (A 1))] [(.ref (A 1))]))
  obtain ⟨T24, X24, e24, st24⟩ := getF X22 hx hZ hown (host := "") (Or.inl hw_26) Via.refl e22 f13 (g := (mkF m 21 #[.val (.int (4 : Int32)), .val (.ref b1), .val (.int (6 : Int32)), .val (.int (1 : Int32)), .val (.ref (A 1))] [(.ref (A 1))])) rfl rfl (hb hby d1_21)
  refine own_go st24 ?_
  show own_Fin p e below _ (T24.setTop (mkF m 24 #[.val (.int (4 : Int32)), .val (.ref b1), .val (.int (6 : Int32)), .val (.int (1 : Int32)), .val (.ref (A 1))] [(.int (2 : Int32))]))
  refine own_go (fun t k => XS.iloadN X24.here hx rfl (hb hby d1_24) rfl  k) ?_
  show own_Fin p e below _ (T24.setTop (mkF m 25 #[.val (.int (4 : Int32)), .val (.ref b1), .val (.int (6 : Int32)), .val (.int (1 : Int32)), .val (.ref (A 1))] [(.int (4 : Int32)), (.int (2 : Int32))]))
  refine own_go (fun t k => XS.icmpYes X24.here hx rfl (pc0 := 25) (pc' := 31) rfl (hb hby d1_25) rfl (feq (by decide : ¬ ((2 : Int32) = (4 : Int32)))).2 (by decide) (by decide) (XS.iinc X24.here hx rfl (hb hby d1_31) rfl (l' := #[.val (.int (4 : Int32)), .val (.ref b1), .val (.int (6 : Int32)), .val (.int (2 : Int32)), .val (.ref (A 1))]) rfl (XS.goto X24.here hx rfl (pc0 := 34) (pc' := 9) rfl (hb hby d1_34) (by decide) (by decide) (XS.iloadN X24.here hx rfl (hb hby d1_9) rfl  k)))) ?_
  show own_Fin p e below _ (T24.setTop (mkF m 10 #[.val (.int (4 : Int32)), .val (.ref b1), .val (.int (6 : Int32)), .val (.int (2 : Int32)), .val (.ref (A 1))] [(.int (2 : Int32))]))
  refine own_go (fun t k => XS.iloadN X24.here hx rfl (hb hby d1_10) rfl  k) ?_
  show own_Fin p e below _ (T24.setTop (mkF m 11 #[.val (.int (4 : Int32)), .val (.ref b1), .val (.int (6 : Int32)), .val (.int (2 : Int32)), .val (.ref (A 1))] [(.int (6 : Int32)), (.int (2 : Int32))]))
  refine own_go (fun t k => XS.icmpNo X24.here hx rfl (hb hby d1_11) rfl (tlt (by decide : (2 : Int32) < (6 : Int32))).2.1 (XS.aloadN X24.here hx rfl (hb hby d1_14) rfl rfl  (XS.iloadN X24.here hx rfl (hb hby d1_15) rfl  k))) ?_
  show own_Fin p e below _ (T24.setTop (mkF m 16 #[.val (.int (4 : Int32)), .val (.ref b1), .val (.int (6 : Int32)), .val (.int (2 : Int32)), .val (.ref (A 1))] [(.int (2 : Int32)), (.ref b1)]))
  obtain ⟨cl25, Ar25, q25, S25, M25, H25, G25⟩ := (id V1)
  have hin25 : ¬ ((2 : Int32) < 0 ∨ cl25.slots.size ≤ ((2 : Int32)).toNatClampNeg) := inb_of S25 ⟨by decide, by decide⟩
  have hat25 : cl25.slots[((2 : Int32)).toNatClampNeg]? = some (.ref (A 2)) := H25.at hin25 rfl
  refine own_go (fun t k => X24.aaload hx (j := (2 : Int32)) (v := (.ref (A 2))) (by rw [e24]; exact Ar25.1) (State.isArrayOf_alike hZ.alike Ar25.2.1) rfl Ar25.2.2 hin25 hat25 (g := (mkF m 16 #[.val (.int (4 : Int32)), .val (.ref b1), .val (.int (6 : Int32)), .val (.int (2 : Int32)), .val (.ref (A 1))] [(.int (2 : Int32)), (.ref b1)])) rfl rfl (hb hby d1_16) _ (XS.astore X24.here hx rfl (hb hby d1_17) rfl rfl (l' := #[.val (.int (4 : Int32)), .val (.ref b1), .val (.int (6 : Int32)), .val (.int (2 : Int32)), .val (.ref (A 2))]) rfl (XS.aload X24.here hx rfl (hb hby d1_19) rfl rfl  k))) ?_
  show own_Fin p e below _ (T24.setTop (mkF m 21 #[.val (.int (4 : Int32)), .val (.ref b1), .val (.int (6 : Int32)), .val (.int (2 : Int32)), .val (.ref (A 2))] [(.ref (A 2))]))
  obtain ⟨T26, X26, e26, st26⟩ := getF X24 hx hZ hown (host := "") (Or.inl hw_26) Via.refl e24 f14 (g := (mkF m 21 #[.val (.int (4 : Int32)), .val (.ref b1), .val (.int (6 : Int32)), .val (.int (2 : Int32)), .val (.ref (A 2))] [(.ref (A 2))])) rfl rfl (hb hby d1_21)
  refine own_go st26 ?_
  show own_Fin p e below _ (T26.setTop (mkF m 24 #[.val (.int (4 : Int32)), .val (.ref b1), .val (.int (6 : Int32)), .val (.int (2 : Int32)), .val (.ref (A 2))] [(.int (3 : Int32))]))
  refine own_go (fun t k => XS.iloadN X26.here hx rfl (hb hby d1_24) rfl  k) ?_
  show own_Fin p e below _ (T26.setTop (mkF m 25 #[.val (.int (4 : Int32)), .val (.ref b1), .val (.int (6 : Int32)), .val (.int (2 : Int32)), .val (.ref (A 2))] [(.int (4 : Int32)), (.int (3 : Int32))]))
  refine own_go (fun t k => XS.icmpYes X26.here hx rfl (pc0 := 25) (pc' := 31) rfl (hb hby d1_25) rfl (feq (by decide : ¬ ((3 : Int32) = (4 : Int32)))).2 (by decide) (by decide) (XS.iinc X26.here hx rfl (hb hby d1_31) rfl (l' := #[.val (.int (4 : Int32)), .val (.ref b1), .val (.int (6 : Int32)), .val (.int (3 : Int32)), .val (.ref (A 2))]) rfl (XS.goto X26.here hx rfl (pc0 := 34) (pc' := 9) rfl (hb hby d1_34) (by decide) (by decide) (XS.iloadN X26.here hx rfl (hb hby d1_9) rfl  k)))) ?_
  show own_Fin p e below _ (T26.setTop (mkF m 10 #[.val (.int (4 : Int32)), .val (.ref b1), .val (.int (6 : Int32)), .val (.int (3 : Int32)), .val (.ref (A 2))] [(.int (3 : Int32))]))
  refine own_go (fun t k => XS.iloadN X26.here hx rfl (hb hby d1_10) rfl  k) ?_
  show own_Fin p e below _ (T26.setTop (mkF m 11 #[.val (.int (4 : Int32)), .val (.ref b1), .val (.int (6 : Int32)), .val (.int (3 : Int32)), .val (.ref (A 2))] [(.int (6 : Int32)), (.int (3 : Int32))]))
  refine own_go (fun t k => XS.icmpNo X26.here hx rfl (hb hby d1_11) rfl (tlt (by decide : (3 : Int32) < (6 : Int32))).2.1 (XS.aloadN X26.here hx rfl (hb hby d1_14) rfl rfl  (XS.iloadN X26.here hx rfl (hb hby d1_15) rfl  k))) ?_
  show own_Fin p e below _ (T26.setTop (mkF m 16 #[.val (.int (4 : Int32)), .val (.ref b1), .val (.int (6 : Int32)), .val (.int (3 : Int32)), .val (.ref (A 2))] [(.int (3 : Int32)), (.ref b1)]))
  obtain ⟨cl27, Ar27, q27, S27, M27, H27, G27⟩ := (id V1)
  have hin27 : ¬ ((3 : Int32) < 0 ∨ cl27.slots.size ≤ ((3 : Int32)).toNatClampNeg) := inb_of S27 ⟨by decide, by decide⟩
  have hat27 : cl27.slots[((3 : Int32)).toNatClampNeg]? = some (.ref (A 3)) := H27.at hin27 rfl
  refine own_go (fun t k => X26.aaload hx (j := (3 : Int32)) (v := (.ref (A 3))) (by rw [e26]; exact Ar27.1) (State.isArrayOf_alike hZ.alike Ar27.2.1) rfl Ar27.2.2 hin27 hat27 (g := (mkF m 16 #[.val (.int (4 : Int32)), .val (.ref b1), .val (.int (6 : Int32)), .val (.int (3 : Int32)), .val (.ref (A 2))] [(.int (3 : Int32)), (.ref b1)])) rfl rfl (hb hby d1_16) _ (XS.astore X26.here hx rfl (hb hby d1_17) rfl rfl (l' := #[.val (.int (4 : Int32)), .val (.ref b1), .val (.int (6 : Int32)), .val (.int (3 : Int32)), .val (.ref (A 3))]) rfl (XS.aload X26.here hx rfl (hb hby d1_19) rfl rfl  k))) ?_
  show own_Fin p e below _ (T26.setTop (mkF m 21 #[.val (.int (4 : Int32)), .val (.ref b1), .val (.int (6 : Int32)), .val (.int (3 : Int32)), .val (.ref (A 3))] [(.ref (A 3))]))
  obtain ⟨T28, X28, e28, st28⟩ := getF X26 hx hZ hown (host := "") (Or.inl hw_26) Via.refl e26 f15 (g := (mkF m 21 #[.val (.int (4 : Int32)), .val (.ref b1), .val (.int (6 : Int32)), .val (.int (3 : Int32)), .val (.ref (A 3))] [(.ref (A 3))])) rfl rfl (hb hby d1_21)
  refine own_go st28 ?_
  show own_Fin p e below _ (T28.setTop (mkF m 24 #[.val (.int (4 : Int32)), .val (.ref b1), .val (.int (6 : Int32)), .val (.int (3 : Int32)), .val (.ref (A 3))] [(.int (4 : Int32))]))
  refine own_go (fun t k => XS.iloadN X28.here hx rfl (hb hby d1_24) rfl  k) ?_
  show own_Fin p e below _ (T28.setTop (mkF m 25 #[.val (.int (4 : Int32)), .val (.ref b1), .val (.int (6 : Int32)), .val (.int (3 : Int32)), .val (.ref (A 3))] [(.int (4 : Int32)), (.int (4 : Int32))]))
  refine own_go (fun t k => XS.icmpNo X28.here hx rfl (hb hby d1_25) rfl (teq (by decide : (4 : Int32) = (4 : Int32))).2 (XS.aload X28.here hx rfl (hb hby d1_28) rfl rfl  k)) ?_
  show own_Fin p e below _ (T28.setTop (mkF m 30 #[.val (.int (4 : Int32)), .val (.ref b1), .val (.int (6 : Int32)), .val (.int (3 : Int32)), .val (.ref (A 3))] [(.ref (A 3))]))
  exact own_out X28 (fun h => by rw [Bd.returns] at h; cases h) Bd.notSynchronized (fun fs hr => retOut X28 hx Bd.returns rfl (Or.inr (Or.inr (Or.inr (Or.inr ⟨rfl, rfl, rfl⟩)))) (hb hby d1_30) hr) (by rw [e28]; exact ⟨rfl, N1, K19⟩) (by decide) (by decide)
theorem ef_1k4 (m : MethodId) (x0 : Int32)  : entryFrame m #[(.int x0)] 5 = mkF m 0 #[.val (.int x0), .unset, .unset, .unset, .unset] [] := by first | (simp [entryFrame, mkF, argsToLocals, Value.category]; done) | rfl
def own_q1k4 (Z : State) (A : Nat → Addr) (va : Addr) (k1 : ClassId) (h0 : Heap) (n0 : Nat) (v : Option Value) (h : Heap) (L : List Loc) : Prop := v = some (.ref (A 4)) ∧ Fr n0 L ∧ Keep h0 h []
set_option maxRecDepth 65536 in
set_option maxHeartbeats 40000000 in
theorem rm1k4 (l : Launch) (Z : State) (a0 : Array Value) (hw : ∀ d ∈ tables_1, d.before a0 Z = true) (ws : List Jvm.Cond) (A : Nat → Addr) (va : Addr) (k1 : ClassId) (h0 : Heap) (n0 : Nat) (Z0 : n0 ≤ h0.size) (S_v : Sta Z h0 "com/example/palimpsest/palimpsest/chain/TransactionType" "$VALUES" "[Lcom/example/palimpsest/palimpsest/chain/TransactionType;" (.ref va)) (V_v : Arv Z h0 va k1 (.object "com/example/palimpsest/palimpsest/chain/TransactionType") (6 : Int32) [(.ref (A 0)), (.ref (A 1)), (.ref (A 2)), (.ref (A 3)), (.ref (A 4)), (.ref (A 5))] .null) (X_v : Exa Z h0 va "[Lcom/example/palimpsest/palimpsest/chain/TransactionType;") (F_0 : Fld Z h0 (A 0) "com/example/palimpsest/palimpsest/chain/TransactionType" "code" "I" (.int (1 : Int32))) (F_1 : Fld Z h0 (A 1) "com/example/palimpsest/palimpsest/chain/TransactionType" "code" "I" (.int (2 : Int32))) (F_2 : Fld Z h0 (A 2) "com/example/palimpsest/palimpsest/chain/TransactionType" "code" "I" (.int (3 : Int32))) (F_3 : Fld Z h0 (A 3) "com/example/palimpsest/palimpsest/chain/TransactionType" "code" "I" (.int (4 : Int32))) (F_4 : Fld Z h0 (A 4) "com/example/palimpsest/palimpsest/chain/TransactionType" "code" "I" (.int (5 : Int32))) (F_5 : Fld Z h0 (A 5) "com/example/palimpsest/palimpsest/chain/TransactionType" "code" "I" (.int (6 : Int32))) :
    MetFree l (⟨"com/example/palimpsest/palimpsest/chain/TransactionType", "ofCode", "(I)Lcom/example/palimpsest/palimpsest/chain/TransactionType;"⟩ : MethodName) (head1 (Jvm.Cond.code (⟨"com/example/palimpsest/palimpsest/chain/TransactionType", "ofCode", "(I)Lcom/example/palimpsest/palimpsest/chain/TransactionType;"⟩ : MethodName) prog_23_method_8_code 5 (some (.object "com/example/palimpsest/palimpsest/chain/TransactionType")) :: ws) ({ frames := 2, cells := 1, slots := 6, locals := 25 } : Room)) (fun a U => a = #[(.int (5 : Int32))] ∧ Z.Warmed39 U.vm ∧ U.heap = h0) (fun _ _ _ _ _ => True) (fun _ U o U' => ∃ v L, o = .returned v ∧ (own_q1k4 Z A va k1 h0 n0) v U'.heap L ∧ FrameEnd U o U' L ({ frames := 2, cells := 1, slots := 6, locals := 25 } : Room).cells ({ frames := 2, cells := 1, slots := 6, locals := 25 } : Room).slots) := by
  refine MetFree.of_bodySF (plainFor_of_name pn_0) hisR ?_
  intro p e s m args below meth c s₁ Bd hml0 hP hK
  obtain ⟨rfl, hZ, hh⟩ := hP
  have hx := Bd.exec
  have hby := Bd.bytes
  have hml : c.maxLocals = 5 := hml0
  have hown : s.vm.findClass "com/example/palimpsest/palimpsest/chain/TransactionType" = some m.cls := findClass_of_methodNamed Bd.named
  have hnm := (name_of_methodNamed Bd.named Bd.method).1
  have X0 : Stand p l e ({ frames := 2, cells := 1, slots := 6, locals := 25 } : Room) s m #[(.int (5 : Int32))] below meth c s₁ [] 0 0 := Stand.of_body Bd
  have e0 : s₁.heap = h0 := by rw [← hh, Bd.state]; rfl
  have N0 := Fr.nil n0
  have Kz := Keep.refl h0 []
  have hw_3 := hw _ (List.mem_of_getElem? (i := 3) rfl)
  have hw_5 := hw _ (List.mem_of_getElem? (i := 5) rfl)
  have hw_6 := hw _ (List.mem_of_getElem? (i := 6) rfl)
  have hw_7 := hw _ (List.mem_of_getElem? (i := 7) rfl)
  have hw_26 := hw _ (List.mem_of_getElem? (i := 26) rfl)
  show own_Fin p e below (own_A s ({ frames := 2, cells := 1, slots := 6, locals := 25 } : Room).cells ({ frames := 2, cells := 1, slots := 6, locals := 25 } : Room).slots (own_q1k4 Z A va k1 h0 n0)) _
  refine own_go (fun t k => castTop (ef_1k4 m ((5 : Int32))) k) ?_
  show own_Fin p e below _ (s₁.setTop (mkF m 0 #[.val (.int (5 : Int32)), .unset, .unset, .unset, .unset] []))
  obtain ⟨_, _, ⟨T1, L1, k1, n1⟩, -, X1, ⟨Lc1, hQ1, l1, y1, z1⟩, st1⟩ := Jvm.LawKit.callS X0 hx (y := (⟨"com/example/palimpsest/palimpsest/chain/TransactionType", "values", "()[Lcom/example/palimpsest/palimpsest/chain/TransactionType;"⟩ : MethodName)) hown (mvT hZ hw_5) (mvT hZ hw_6) (mvT hZ hw_3) (mvT hZ hw_7) (by decide) (backOf (W := 0) (rm2 l Z a0 hw []  A va k1 h0 n0 Z0 S_v V_v X_v) hZ hw_7 hw_3 (by decide) (by decide)) (g := (mkF m 0 #[.val (.int (5 : Int32)), .unset, .unset, .unset, .unset] [])) rfl (by rw [hml]; rfl) (argsL := []) (rest := []) (lenOf pd_0 rfl) rfl (by show 2 * 0 + _ ≤ _; exact Nat.le_of_eq rfl) (hb hby d1_0) (fun _ _ => ⟨rfl, e0, (by decide : 0 + 1 ≤ _), (by decide : 0 + 6 ≤ _)⟩)
  dsimp only [Pt.U, Pt.locs, Pt.cells, Pt.slots] at X1 l1 y1 z1 st1 hQ1
  subst l1 y1 z1
  obtain ⟨b1, k1, rfl, N1q, sz1, K1, V1⟩ := hQ1
  have N1 := Fr.app N0 N1q
  have g_b1 : n0 ≤ b1 := Nat.le_trans Z0 sz1
  have sz_b1 : h0.size ≤ b1 := Nat.le_trans Kz.1 sz1
  have ne2 : va ≠ b1 := Nat.ne_of_lt (Nat.lt_of_lt_of_le V_v.lt sz1)
  have ne3 : (A 0) ≠ b1 := Nat.ne_of_lt (Nat.lt_of_lt_of_le F_0.lt sz1)
  have ne4 : (A 1) ≠ b1 := Nat.ne_of_lt (Nat.lt_of_lt_of_le F_1.lt sz1)
  have ne5 : (A 2) ≠ b1 := Nat.ne_of_lt (Nat.lt_of_lt_of_le F_2.lt sz1)
  have ne6 : (A 3) ≠ b1 := Nat.ne_of_lt (Nat.lt_of_lt_of_le F_3.lt sz1)
  have ne7 : (A 4) ≠ b1 := Nat.ne_of_lt (Nat.lt_of_lt_of_le F_4.lt sz1)
  have ne8 : (A 5) ≠ b1 := Nat.ne_of_lt (Nat.lt_of_lt_of_le F_5.lt sz1)
  have E1 : Ext _ _ := ⟨K1.1, fun a c q => K1.2.1 a c q nin0⟩
  have f9 := S_v.ext E1
  have f10 := V_v.ext E1
  have f11 := X_v.ext E1
  have f12 := F_0.ext E1
  have f13 := F_1.ext E1
  have f14 := F_2.ext E1
  have f15 := F_3.ext E1
  have f16 := F_4.ext E1
  have f17 := F_5.ext E1
  have Zh18 : n0 ≤ T1.heap.size := Nat.le_trans Z0 K1.1
  have K19 := Kz.ext E1
  refine own_go st1 ?_
  show own_Fin p e below _ (T1.setTop (mkF m 3 #[.val (.int (5 : Int32)), .unset, .unset, .unset, .unset] [(.ref b1)]))
  refine own_go (fun t k => XS.astoreN X1.here hx rfl (hb hby d1_3) rfl rfl (l' := #[.val (.int (5 : Int32)), .val (.ref b1), .unset, .unset, .unset]) rfl (XS.aloadN X1.here hx rfl (hb hby d1_4) rfl rfl  k)) ?_
  show own_Fin p e below _ (T1.setTop (mkF m 5 #[.val (.int (5 : Int32)), .val (.ref b1), .unset, .unset, .unset] [(.ref b1)]))
  obtain ⟨cl20, Ar20, q20, S20, M20, H20, G20⟩ := (id V1)
  refine own_go (fun t k => X1.arraylength hx Ar20.1 (State.isArrayOf_alike hZ.alike Ar20.2.1) (g := (mkF m 5 #[.val (.int (5 : Int32)), .val (.ref b1), .unset, .unset, .unset] [(.ref b1)])) rfl rfl (hb hby d1_5) _ k) ?_
  rw [len_of S20 M20]
  show own_Fin p e below _ (T1.setTop (mkF m 6 #[.val (.int (5 : Int32)), .val (.ref b1), .unset, .unset, .unset] [(.int (6 : Int32))]))
  refine own_go (fun t k => XS.istoreN X1.here hx rfl (hb hby d1_6) rfl (l' := #[.val (.int (5 : Int32)), .val (.ref b1), .val (.int (6 : Int32)), .unset, .unset]) rfl (XS.iconst X1.here hx rfl (hb hby d1_7) (XS.istoreN X1.here hx rfl (hb hby d1_8) rfl (l' := #[.val (.int (5 : Int32)), .val (.ref b1), .val (.int (6 : Int32)), .val (.int (0 : Int32)), .unset]) rfl (XS.iloadN X1.here hx rfl (hb hby d1_9) rfl  k)))) ?_
  show own_Fin p e below _ (T1.setTop (mkF m 10 #[.val (.int (5 : Int32)), .val (.ref b1), .val (.int (6 : Int32)), .val (.int (0 : Int32)), .unset] [(.int (0 : Int32))]))
  refine own_go (fun t k => XS.iloadN X1.here hx rfl (hb hby d1_10) rfl  k) ?_
  show own_Fin p e below _ (T1.setTop (mkF m 11 #[.val (.int (5 : Int32)), .val (.ref b1), .val (.int (6 : Int32)), .val (.int (0 : Int32)), .unset] [(.int (6 : Int32)), (.int (0 : Int32))]))
  refine own_go (fun t k => XS.icmpNo X1.here hx rfl (hb hby d1_11) rfl (tlt (by decide : (0 : Int32) < (6 : Int32))).2.1 (XS.aloadN X1.here hx rfl (hb hby d1_14) rfl rfl  (XS.iloadN X1.here hx rfl (hb hby d1_15) rfl  k))) ?_
  show own_Fin p e below _ (T1.setTop (mkF m 16 #[.val (.int (5 : Int32)), .val (.ref b1), .val (.int (6 : Int32)), .val (.int (0 : Int32)), .unset] [(.int (0 : Int32)), (.ref b1)]))
  obtain ⟨cl21, Ar21, q21, S21, M21, H21, G21⟩ := (id V1)
  have hin21 : ¬ ((0 : Int32) < 0 ∨ cl21.slots.size ≤ ((0 : Int32)).toNatClampNeg) := inb_of S21 ⟨by decide, by decide⟩
  have hat21 : cl21.slots[((0 : Int32)).toNatClampNeg]? = some (.ref (A 0)) := H21.at hin21 rfl
  refine own_go (fun t k => X1.aaload hx (j := (0 : Int32)) (v := (.ref (A 0))) Ar21.1 (State.isArrayOf_alike hZ.alike Ar21.2.1) rfl Ar21.2.2 hin21 hat21 (g := (mkF m 16 #[.val (.int (5 : Int32)), .val (.ref b1), .val (.int (6 : Int32)), .val (.int (0 : Int32)), .unset] [(.int (0 : Int32)), (.ref b1)])) rfl rfl (hb hby d1_16) _ (XS.astore X1.here hx rfl (hb hby d1_17) rfl rfl (l' := #[.val (.int (5 : Int32)), .val (.ref b1), .val (.int (6 : Int32)), .val (.int (0 : Int32)), .val (.ref (A 0))]) rfl (XS.aload X1.here hx rfl (hb hby d1_19) rfl rfl  k))) ?_
  show own_Fin p e below _ (T1.setTop (mkF m 21 #[.val (.int (5 : Int32)), .val (.ref b1), .val (.int (6 : Int32)), .val (.int (0 : Int32)), .val (.ref (A 0))] [(.ref (A 0))]))
  obtain ⟨T22, X22, e22, st22⟩ := getF X1 hx hZ hown (host := "") (Or.inl hw_26) Via.refl rfl f12 (g := (mkF m 21 #[.val (.int (5 : Int32)), .val (.ref b1), .val (.int (6 : Int32)), .val (.int (0 : Int32)), .val (.ref (A 0))] [(.ref (A 0))])) rfl rfl (hb hby d1_21)
  refine own_go st22 ?_
  show own_Fin p e below _ (T22.setTop (mkF m 24 #[.val (.int (5 : Int32)), .val (.ref b1), .val (.int (6 : Int32)), .val (.int (0 : Int32)), .val (.ref (A 0))] [(.int (1 : Int32))]))
  refine own_go (fun t k => XS.iloadN X22.here hx rfl (hb hby d1_24) rfl  k) ?_
  show own_Fin p e below _ (T22.setTop (mkF m 25 #[.val (.int (5 : Int32)), .val (.ref b1), .val (.int (6 : Int32)), .val (.int (0 : Int32)), .val (.ref (A 0))] [(.int (5 : Int32)), (.int (1 : Int32))]))
  refine own_go (fun t k => XS.icmpYes X22.here hx rfl (pc0 := 25) (pc' := 31) rfl (hb hby d1_25) rfl (feq (by decide : ¬ ((1 : Int32) = (5 : Int32)))).2 (by decide) (by decide) (XS.iinc X22.here hx rfl (hb hby d1_31) rfl (l' := #[.val (.int (5 : Int32)), .val (.ref b1), .val (.int (6 : Int32)), .val (.int (1 : Int32)), .val (.ref (A 0))]) rfl (XS.goto X22.here hx rfl (pc0 := 34) (pc' := 9) rfl (hb hby d1_34) (by decide) (by decide) (XS.iloadN X22.here hx rfl (hb hby d1_9) rfl  k)))) ?_
  show own_Fin p e below _ (T22.setTop (mkF m 10 #[.val (.int (5 : Int32)), .val (.ref b1), .val (.int (6 : Int32)), .val (.int (1 : Int32)), .val (.ref (A 0))] [(.int (1 : Int32))]))
  refine own_go (fun t k => XS.iloadN X22.here hx rfl (hb hby d1_10) rfl  k) ?_
  show own_Fin p e below _ (T22.setTop (mkF m 11 #[.val (.int (5 : Int32)), .val (.ref b1), .val (.int (6 : Int32)), .val (.int (1 : Int32)), .val (.ref (A 0))] [(.int (6 : Int32)), (.int (1 : Int32))]))
  refine own_go (fun t k => XS.icmpNo X22.here hx rfl (hb hby d1_11) rfl (tlt (by decide : (1 : Int32) < (6 : Int32))).2.1 (XS.aloadN X22.here hx rfl (hb hby d1_14) rfl rfl  (XS.iloadN X22.here hx rfl (hb hby d1_15) rfl  k))) ?_
  show own_Fin p e below _ (T22.setTop (mkF m 16 #[.val (.int (5 : Int32)), .val (.ref b1), .val (.int (6 : Int32)), .val (.int (1 : Int32)), .val (.ref (A 0))] [(.int (1 : Int32)), (.ref b1)]))
  obtain ⟨cl23, Ar23, q23, S23, M23, H23, G23⟩ := (id V1)
  have hin23 : ¬ ((1 : Int32) < 0 ∨ cl23.slots.size ≤ ((1 : Int32)).toNatClampNeg) := inb_of S23 ⟨by decide, by decide⟩
  have hat23 : cl23.slots[((1 : Int32)).toNatClampNeg]? = some (.ref (A 1)) := H23.at hin23 rfl
  refine own_go (fun t k => X22.aaload hx (j := (1 : Int32)) (v := (.ref (A 1))) (by rw [e22]; exact Ar23.1) (State.isArrayOf_alike hZ.alike Ar23.2.1) rfl Ar23.2.2 hin23 hat23 (g := (mkF m 16 #[.val (.int (5 : Int32)), .val (.ref b1), .val (.int (6 : Int32)), .val (.int (1 : Int32)), .val (.ref (A 0))] [(.int (1 : Int32)), (.ref b1)])) rfl rfl (hb hby d1_16) _ (XS.astore X22.here hx rfl (hb hby d1_17) rfl rfl (l' := #[.val (.int (5 : Int32)), .val (.ref b1), .val (.int (6 : Int32)), .val (.int (1 : Int32)), .val (.ref (A 1))]) rfl (XS.aload X22.here hx rfl (hb hby d1_19) rfl rfl  k))) ?_
  show own_Fin p e below _ (T22.setTop (mkF m 21 #[.val (.int (5 : Int32)), .val (.ref b1), .val (.int (6 : Int32)), .val (.int (1 : Int32)), .val (.ref (A 1))] [(.ref (A 1))]))
  obtain ⟨T24, X24, e24, st24⟩ := getF X22 hx hZ hown (host := "") (Or.inl hw_26) Via.refl e22 f13 (g := (mkF m 21 #[.val (.int (5 : Int32)), .val (.ref b1), .val (.int (6 : Int32)), .val (.int (1 : Int32)), .val (.ref (A 1))] [(.ref (A 1))])) rfl rfl (hb hby d1_21)
  refine own_go st24 ?_
  show own_Fin p e below _ (T24.setTop (mkF m 24 #[.val (.int (5 : Int32)), .val (.ref b1), .val (.int (6 : Int32)), .val (.int (1 : Int32)), .val (.ref (A 1))] [(.int (2 : Int32))]))
  refine own_go (fun t k => XS.iloadN X24.here hx rfl (hb hby d1_24) rfl  k) ?_
  show own_Fin p e below _ (T24.setTop (mkF m 25 #[.val (.int (5 : Int32)), .val (.ref b1), .val (.int (6 : Int32)), .val (.int (1 : Int32)), .val (.ref (A 1))] [(.int (5 : Int32)), (.int (2 : Int32))]))
  refine own_go (fun t k => XS.icmpYes X24.here hx rfl (pc0 := 25) (pc' := 31) rfl (hb hby d1_25) rfl (feq (by decide : ¬ ((2 : Int32) = (5 : Int32)))).2 (by decide) (by decide) (XS.iinc X24.here hx rfl (hb hby d1_31) rfl (l' := #[.val (.int (5 : Int32)), .val (.ref b1), .val (.int (6 : Int32)), .val (.int (2 : Int32)), .val (.ref (A 1))]) rfl (XS.goto X24.here hx rfl (pc0 := 34) (pc' := 9) rfl (hb hby d1_34) (by decide) (by decide) (XS.iloadN X24.here hx rfl (hb hby d1_9) rfl  k)))) ?_
  show own_Fin p e below _ (T24.setTop (mkF m 10 #[.val (.int (5 : Int32)), .val (.ref b1), .val (.int (6 : Int32)), .val (.int (2 : Int32)), .val (.ref (A 1))] [(.int (2 : Int32))]))
  refine own_go (fun t k => XS.iloadN X24.here hx rfl (hb hby d1_10) rfl  k) ?_
  show own_Fin p e below _ (T24.setTop (mkF m 11 #[.val (.int (5 : Int32)), .val (.ref b1), .val (.int (6 : Int32)), .val (.int (2 : Int32)), .val (.ref (A 1))] [(.int (6 : Int32)), (.int (2 : Int32))]))
  refine own_go (fun t k => XS.icmpNo X24.here hx rfl (hb hby d1_11) rfl (tlt (by decide : (2 : Int32) < (6 : Int32))).2.1 (XS.aloadN X24.here hx rfl (hb hby d1_14) rfl rfl  (XS.iloadN X24.here hx rfl (hb hby d1_15) rfl  k))) ?_
  show own_Fin p e below _ (T24.setTop (mkF m 16 #[.val (.int (5 : Int32)), .val (.ref b1), .val (.int (6 : Int32)), .val (.int (2 : Int32)), .val (.ref (A 1))] [(.int (2 : Int32)), (.ref b1)]))
  obtain ⟨cl25, Ar25, q25, S25, M25, H25, G25⟩ := (id V1)
  have hin25 : ¬ ((2 : Int32) < 0 ∨ cl25.slots.size ≤ ((2 : Int32)).toNatClampNeg) := inb_of S25 ⟨by decide, by decide⟩
  have hat25 : cl25.slots[((2 : Int32)).toNatClampNeg]? = some (.ref (A 2)) := H25.at hin25 rfl
  refine own_go (fun t k => X24.aaload hx (j := (2 : Int32)) (v := (.ref (A 2))) (by rw [e24]; exact Ar25.1) (State.isArrayOf_alike hZ.alike Ar25.2.1) rfl Ar25.2.2 hin25 hat25 (g := (mkF m 16 #[.val (.int (5 : Int32)), .val (.ref b1), .val (.int (6 : Int32)), .val (.int (2 : Int32)), .val (.ref (A 1))] [(.int (2 : Int32)), (.ref b1)])) rfl rfl (hb hby d1_16) _ (XS.astore X24.here hx rfl (hb hby d1_17) rfl rfl (l' := #[.val (.int (5 : Int32)), .val (.ref b1), .val (.int (6 : Int32)), .val (.int (2 : Int32)), .val (.ref (A 2))]) rfl (XS.aload X24.here hx rfl (hb hby d1_19) rfl rfl  k))) ?_
  show own_Fin p e below _ (T24.setTop (mkF m 21 #[.val (.int (5 : Int32)), .val (.ref b1), .val (.int (6 : Int32)), .val (.int (2 : Int32)), .val (.ref (A 2))] [(.ref (A 2))]))
  obtain ⟨T26, X26, e26, st26⟩ := getF X24 hx hZ hown (host := "") (Or.inl hw_26) Via.refl e24 f14 (g := (mkF m 21 #[.val (.int (5 : Int32)), .val (.ref b1), .val (.int (6 : Int32)), .val (.int (2 : Int32)), .val (.ref (A 2))] [(.ref (A 2))])) rfl rfl (hb hby d1_21)
  refine own_go st26 ?_
  show own_Fin p e below _ (T26.setTop (mkF m 24 #[.val (.int (5 : Int32)), .val (.ref b1), .val (.int (6 : Int32)), .val (.int (2 : Int32)), .val (.ref (A 2))] [(.int (3 : Int32))]))
  refine own_go (fun t k => XS.iloadN X26.here hx rfl (hb hby d1_24) rfl  k) ?_
  show own_Fin p e below _ (T26.setTop (mkF m 25 #[.val (.int (5 : Int32)), .val (.ref b1), .val (.int (6 : Int32)), .val (.int (2 : Int32)), .val (.ref (A 2))] [(.int (5 : Int32)), (.int (3 : Int32))]))
  refine own_go (fun t k => XS.icmpYes X26.here hx rfl (pc0 := 25) (pc' := 31) rfl (hb hby d1_25) rfl (feq (by decide : ¬ ((3 : Int32) = (5 : Int32)))).2 (by decide) (by decide) (XS.iinc X26.here hx rfl (hb hby d1_31) rfl (l' := #[.val (.int (5 : Int32)), .val (.ref b1), .val (.int (6 : Int32)), .val (.int (3 : Int32)), .val (.ref (A 2))]) rfl (XS.goto X26.here hx rfl (pc0 := 34) (pc' := 9) rfl (hb hby d1_34) (by decide) (by decide) (XS.iloadN X26.here hx rfl (hb hby d1_9) rfl  k)))) ?_
  show own_Fin p e below _ (T26.setTop (mkF m 10 #[.val (.int (5 : Int32)), .val (.ref b1), .val (.int (6 : Int32)), .val (.int (3 : Int32)), .val (.ref (A 2))] [(.int (3 : Int32))]))
  refine own_go (fun t k => XS.iloadN X26.here hx rfl (hb hby d1_10) rfl  k) ?_
  show own_Fin p e below _ (T26.setTop (mkF m 11 #[.val (.int (5 : Int32)), .val (.ref b1), .val (.int (6 : Int32)), .val (.int (3 : Int32)), .val (.ref (A 2))] [(.int (6 : Int32)), (.int (3 : Int32))]))
  refine own_go (fun t k => XS.icmpNo X26.here hx rfl (hb hby d1_11) rfl (tlt (by decide : (3 : Int32) < (6 : Int32))).2.1 (XS.aloadN X26.here hx rfl (hb hby d1_14) rfl rfl  (XS.iloadN X26.here hx rfl (hb hby d1_15) rfl  k))) ?_
  show own_Fin p e below _ (T26.setTop (mkF m 16 #[.val (.int (5 : Int32)), .val (.ref b1), .val (.int (6 : Int32)), .val (.int (3 : Int32)), .val (.ref (A 2))] [(.int (3 : Int32)), (.ref b1)]))
  obtain ⟨cl27, Ar27, q27, S27, M27, H27, G27⟩ := (id V1)
  have hin27 : ¬ ((3 : Int32) < 0 ∨ cl27.slots.size ≤ ((3 : Int32)).toNatClampNeg) := inb_of S27 ⟨by decide, by decide⟩
  have hat27 : cl27.slots[((3 : Int32)).toNatClampNeg]? = some (.ref (A 3)) := H27.at hin27 rfl
  refine own_go (fun t k => X26.aaload hx (j := (3 : Int32)) (v := (.ref (A 3))) (by rw [e26]; exact Ar27.1) (State.isArrayOf_alike hZ.alike Ar27.2.1) rfl Ar27.2.2 hin27 hat27 (g := (mkF m 16 #[.val (.int (5 : Int32)), .val (.ref b1), .val (.int (6 : Int32)), .val (.int (3 : Int32)), .val (.ref (A 2))] [(.int (3 : Int32)), (.ref b1)])) rfl rfl (hb hby d1_16) _ (XS.astore X26.here hx rfl (hb hby d1_17) rfl rfl (l' := #[.val (.int (5 : Int32)), .val (.ref b1), .val (.int (6 : Int32)), .val (.int (3 : Int32)), .val (.ref (A 3))]) rfl (XS.aload X26.here hx rfl (hb hby d1_19) rfl rfl  k))) ?_
  show own_Fin p e below _ (T26.setTop (mkF m 21 #[.val (.int (5 : Int32)), .val (.ref b1), .val (.int (6 : Int32)), .val (.int (3 : Int32)), .val (.ref (A 3))] [(.ref (A 3))]))
  obtain ⟨T28, X28, e28, st28⟩ := getF X26 hx hZ hown (host := "") (Or.inl hw_26) Via.refl e26 f15 (g := (mkF m 21 #[.val (.int (5 : Int32)), .val (.ref b1), .val (.int (6 : Int32)), .val (.int (3 : Int32)), .val (.ref (A 3))] [(.ref (A 3))])) rfl rfl (hb hby d1_21)
  refine own_go st28 ?_
  show own_Fin p e below _ (T28.setTop (mkF m 24 #[.val (.int (5 : Int32)), .val (.ref b1), .val (.int (6 : Int32)), .val (.int (3 : Int32)), .val (.ref (A 3))] [(.int (4 : Int32))]))
  refine own_go (fun t k => XS.iloadN X28.here hx rfl (hb hby d1_24) rfl  k) ?_
  show own_Fin p e below _ (T28.setTop (mkF m 25 #[.val (.int (5 : Int32)), .val (.ref b1), .val (.int (6 : Int32)), .val (.int (3 : Int32)), .val (.ref (A 3))] [(.int (5 : Int32)), (.int (4 : Int32))]))
  refine own_go (fun t k => XS.icmpYes X28.here hx rfl (pc0 := 25) (pc' := 31) rfl (hb hby d1_25) rfl (feq (by decide : ¬ ((4 : Int32) = (5 : Int32)))).2 (by decide) (by decide) (XS.iinc X28.here hx rfl (hb hby d1_31) rfl (l' := #[.val (.int (5 : Int32)), .val (.ref b1), .val (.int (6 : Int32)), .val (.int (4 : Int32)), .val (.ref (A 3))]) rfl (XS.goto X28.here hx rfl (pc0 := 34) (pc' := 9) rfl (hb hby d1_34) (by decide) (by decide) (XS.iloadN X28.here hx rfl (hb hby d1_9) rfl  k)))) ?_
  show own_Fin p e below _ (T28.setTop (mkF m 10 #[.val (.int (5 : Int32)), .val (.ref b1), .val (.int (6 : Int32)), .val (.int (4 : Int32)), .val (.ref (A 3))] [(.int (4 : Int32))]))
  refine own_go (fun t k => XS.iloadN X28.here hx rfl (hb hby d1_10) rfl  k) ?_
  show own_Fin p e below _ (T28.setTop (mkF m 11 #[.val (.int (5 : Int32)), .val (.ref b1), .val (.int (6 : Int32)), .val (.int (4 : Int32)), .val (.ref (A 3))] [(.int (6 : Int32)), (.int (4 : Int32))]))
  refine own_go (fun t k => XS.icmpNo X28.here hx rfl (hb hby d1_11) rfl (tlt (by decide : (4 : Int32) < (6 : Int32))).2.1 (XS.aloadN X28.here hx rfl (hb hby d1_14) rfl rfl  (XS.iloadN X28.here hx rfl (hb hby d1_15) rfl  k))) ?_
  show own_Fin p e below _ (T28.setTop (mkF m 16 #[.val (.int (5 : Int32)), .val (.ref b1), .val (.int (6 : Int32)), .val (.int (4 : Int32)), .val (.ref (A 3))] [(.int (4 : Int32)), (.ref b1)]))
  obtain ⟨cl29, Ar29, q29, S29, M29, H29, G29⟩ := (id V1)
  have hin29 : ¬ ((4 : Int32) < 0 ∨ cl29.slots.size ≤ ((4 : Int32)).toNatClampNeg) := inb_of S29 ⟨by decide, by decide⟩
  have hat29 : cl29.slots[((4 : Int32)).toNatClampNeg]? = some (.ref (A 4)) := H29.at hin29 rfl
  refine own_go (fun t k => X28.aaload hx (j := (4 : Int32)) (v := (.ref (A 4))) (by rw [e28]; exact Ar29.1) (State.isArrayOf_alike hZ.alike Ar29.2.1) rfl Ar29.2.2 hin29 hat29 (g := (mkF m 16 #[.val (.int (5 : Int32)), .val (.ref b1), .val (.int (6 : Int32)), .val (.int (4 : Int32)), .val (.ref (A 3))] [(.int (4 : Int32)), (.ref b1)])) rfl rfl (hb hby d1_16) _ (XS.astore X28.here hx rfl (hb hby d1_17) rfl rfl (l' := #[.val (.int (5 : Int32)), .val (.ref b1), .val (.int (6 : Int32)), .val (.int (4 : Int32)), .val (.ref (A 4))]) rfl (XS.aload X28.here hx rfl (hb hby d1_19) rfl rfl  k))) ?_
  show own_Fin p e below _ (T28.setTop (mkF m 21 #[.val (.int (5 : Int32)), .val (.ref b1), .val (.int (6 : Int32)), .val (.int (4 : Int32)), .val (.ref (A 4))] [(.ref (A 4))]))
  obtain ⟨T30, X30, e30, st30⟩ := getF X28 hx hZ hown (host := "") (Or.inl hw_26) Via.refl e28 f16 (g := (mkF m 21 #[.val (.int (5 : Int32)), .val (.ref b1), .val (.int (6 : Int32)), .val (.int (4 : Int32)), .val (.ref (A 4))] [(.ref (A 4))])) rfl rfl (hb hby d1_21)
  refine own_go st30 ?_
  show own_Fin p e below _ (T30.setTop (mkF m 24 #[.val (.int (5 : Int32)), .val (.ref b1), .val (.int (6 : Int32)), .val (.int (4 : Int32)), .val (.ref (A 4))] [(.int (5 : Int32))]))
  refine own_go (fun t k => XS.iloadN X30.here hx rfl (hb hby d1_24) rfl  k) ?_
  show own_Fin p e below _ (T30.setTop (mkF m 25 #[.val (.int (5 : Int32)), .val (.ref b1), .val (.int (6 : Int32)), .val (.int (4 : Int32)), .val (.ref (A 4))] [(.int (5 : Int32)), (.int (5 : Int32))]))
  refine own_go (fun t k => XS.icmpNo X30.here hx rfl (hb hby d1_25) rfl (teq (by decide : (5 : Int32) = (5 : Int32))).2 (XS.aload X30.here hx rfl (hb hby d1_28) rfl rfl  k)) ?_
  show own_Fin p e below _ (T30.setTop (mkF m 30 #[.val (.int (5 : Int32)), .val (.ref b1), .val (.int (6 : Int32)), .val (.int (4 : Int32)), .val (.ref (A 4))] [(.ref (A 4))]))
  exact own_out X30 (fun h => by rw [Bd.returns] at h; cases h) Bd.notSynchronized (fun fs hr => retOut X30 hx Bd.returns rfl (Or.inr (Or.inr (Or.inr (Or.inr ⟨rfl, rfl, rfl⟩)))) (hb hby d1_30) hr) (by rw [e30]; exact ⟨rfl, N1, K19⟩) (by decide) (by decide)
theorem ef_1k5 (m : MethodId) (x0 : Int32)  : entryFrame m #[(.int x0)] 5 = mkF m 0 #[.val (.int x0), .unset, .unset, .unset, .unset] [] := by first | (simp [entryFrame, mkF, argsToLocals, Value.category]; done) | rfl
def own_q1k5 (Z : State) (A : Nat → Addr) (va : Addr) (k1 : ClassId) (h0 : Heap) (n0 : Nat) (v : Option Value) (h : Heap) (L : List Loc) : Prop := v = some (.ref (A 5)) ∧ Fr n0 L ∧ Keep h0 h []
set_option maxRecDepth 65536 in
set_option maxHeartbeats 40000000 in
theorem rm1k5 (l : Launch) (Z : State) (a0 : Array Value) (hw : ∀ d ∈ tables_1, d.before a0 Z = true) (ws : List Jvm.Cond) (A : Nat → Addr) (va : Addr) (k1 : ClassId) (h0 : Heap) (n0 : Nat) (Z0 : n0 ≤ h0.size) (S_v : Sta Z h0 "com/example/palimpsest/palimpsest/chain/TransactionType" "$VALUES" "[Lcom/example/palimpsest/palimpsest/chain/TransactionType;" (.ref va)) (V_v : Arv Z h0 va k1 (.object "com/example/palimpsest/palimpsest/chain/TransactionType") (6 : Int32) [(.ref (A 0)), (.ref (A 1)), (.ref (A 2)), (.ref (A 3)), (.ref (A 4)), (.ref (A 5))] .null) (X_v : Exa Z h0 va "[Lcom/example/palimpsest/palimpsest/chain/TransactionType;") (F_0 : Fld Z h0 (A 0) "com/example/palimpsest/palimpsest/chain/TransactionType" "code" "I" (.int (1 : Int32))) (F_1 : Fld Z h0 (A 1) "com/example/palimpsest/palimpsest/chain/TransactionType" "code" "I" (.int (2 : Int32))) (F_2 : Fld Z h0 (A 2) "com/example/palimpsest/palimpsest/chain/TransactionType" "code" "I" (.int (3 : Int32))) (F_3 : Fld Z h0 (A 3) "com/example/palimpsest/palimpsest/chain/TransactionType" "code" "I" (.int (4 : Int32))) (F_4 : Fld Z h0 (A 4) "com/example/palimpsest/palimpsest/chain/TransactionType" "code" "I" (.int (5 : Int32))) (F_5 : Fld Z h0 (A 5) "com/example/palimpsest/palimpsest/chain/TransactionType" "code" "I" (.int (6 : Int32))) :
    MetFree l (⟨"com/example/palimpsest/palimpsest/chain/TransactionType", "ofCode", "(I)Lcom/example/palimpsest/palimpsest/chain/TransactionType;"⟩ : MethodName) (head1 (Jvm.Cond.code (⟨"com/example/palimpsest/palimpsest/chain/TransactionType", "ofCode", "(I)Lcom/example/palimpsest/palimpsest/chain/TransactionType;"⟩ : MethodName) prog_23_method_8_code 5 (some (.object "com/example/palimpsest/palimpsest/chain/TransactionType")) :: ws) ({ frames := 2, cells := 1, slots := 6, locals := 25 } : Room)) (fun a U => a = #[(.int (6 : Int32))] ∧ Z.Warmed39 U.vm ∧ U.heap = h0) (fun _ _ _ _ _ => True) (fun _ U o U' => ∃ v L, o = .returned v ∧ (own_q1k5 Z A va k1 h0 n0) v U'.heap L ∧ FrameEnd U o U' L ({ frames := 2, cells := 1, slots := 6, locals := 25 } : Room).cells ({ frames := 2, cells := 1, slots := 6, locals := 25 } : Room).slots) := by
  refine MetFree.of_bodySF (plainFor_of_name pn_0) hisR ?_
  intro p e s m args below meth c s₁ Bd hml0 hP hK
  obtain ⟨rfl, hZ, hh⟩ := hP
  have hx := Bd.exec
  have hby := Bd.bytes
  have hml : c.maxLocals = 5 := hml0
  have hown : s.vm.findClass "com/example/palimpsest/palimpsest/chain/TransactionType" = some m.cls := findClass_of_methodNamed Bd.named
  have hnm := (name_of_methodNamed Bd.named Bd.method).1
  have X0 : Stand p l e ({ frames := 2, cells := 1, slots := 6, locals := 25 } : Room) s m #[(.int (6 : Int32))] below meth c s₁ [] 0 0 := Stand.of_body Bd
  have e0 : s₁.heap = h0 := by rw [← hh, Bd.state]; rfl
  have N0 := Fr.nil n0
  have Kz := Keep.refl h0 []
  have hw_3 := hw _ (List.mem_of_getElem? (i := 3) rfl)
  have hw_5 := hw _ (List.mem_of_getElem? (i := 5) rfl)
  have hw_6 := hw _ (List.mem_of_getElem? (i := 6) rfl)
  have hw_7 := hw _ (List.mem_of_getElem? (i := 7) rfl)
  have hw_26 := hw _ (List.mem_of_getElem? (i := 26) rfl)
  show own_Fin p e below (own_A s ({ frames := 2, cells := 1, slots := 6, locals := 25 } : Room).cells ({ frames := 2, cells := 1, slots := 6, locals := 25 } : Room).slots (own_q1k5 Z A va k1 h0 n0)) _
  refine own_go (fun t k => castTop (ef_1k5 m ((6 : Int32))) k) ?_
  show own_Fin p e below _ (s₁.setTop (mkF m 0 #[.val (.int (6 : Int32)), .unset, .unset, .unset, .unset] []))
  obtain ⟨_, _, ⟨T1, L1, k1, n1⟩, -, X1, ⟨Lc1, hQ1, l1, y1, z1⟩, st1⟩ := Jvm.LawKit.callS X0 hx (y := (⟨"com/example/palimpsest/palimpsest/chain/TransactionType", "values", "()[Lcom/example/palimpsest/palimpsest/chain/TransactionType;"⟩ : MethodName)) hown (mvT hZ hw_5) (mvT hZ hw_6) (mvT hZ hw_3) (mvT hZ hw_7) (by decide) (backOf (W := 0) (rm2 l Z a0 hw []  A va k1 h0 n0 Z0 S_v V_v X_v) hZ hw_7 hw_3 (by decide) (by decide)) (g := (mkF m 0 #[.val (.int (6 : Int32)), .unset, .unset, .unset, .unset] [])) rfl (by rw [hml]; rfl) (argsL := []) (rest := []) (lenOf pd_0 rfl) rfl (by show 2 * 0 + _ ≤ _; exact Nat.le_of_eq rfl) (hb hby d1_0) (fun _ _ => ⟨rfl, e0, (by decide : 0 + 1 ≤ _), (by decide : 0 + 6 ≤ _)⟩)
  dsimp only [Pt.U, Pt.locs, Pt.cells, Pt.slots] at X1 l1 y1 z1 st1 hQ1
  subst l1 y1 z1
  obtain ⟨b1, k1, rfl, N1q, sz1, K1, V1⟩ := hQ1
  have N1 := Fr.app N0 N1q
  have g_b1 : n0 ≤ b1 := Nat.le_trans Z0 sz1
  have sz_b1 : h0.size ≤ b1 := Nat.le_trans Kz.1 sz1
  have ne2 : va ≠ b1 := Nat.ne_of_lt (Nat.lt_of_lt_of_le V_v.lt sz1)
  have ne3 : (A 0) ≠ b1 := Nat.ne_of_lt (Nat.lt_of_lt_of_le F_0.lt sz1)
  have ne4 : (A 1) ≠ b1 := Nat.ne_of_lt (Nat.lt_of_lt_of_le F_1.lt sz1)
  have ne5 : (A 2) ≠ b1 := Nat.ne_of_lt (Nat.lt_of_lt_of_le F_2.lt sz1)
  have ne6 : (A 3) ≠ b1 := Nat.ne_of_lt (Nat.lt_of_lt_of_le F_3.lt sz1)
  have ne7 : (A 4) ≠ b1 := Nat.ne_of_lt (Nat.lt_of_lt_of_le F_4.lt sz1)
  have ne8 : (A 5) ≠ b1 := Nat.ne_of_lt (Nat.lt_of_lt_of_le F_5.lt sz1)
  have E1 : Ext _ _ := ⟨K1.1, fun a c q => K1.2.1 a c q nin0⟩
  have f9 := S_v.ext E1
  have f10 := V_v.ext E1
  have f11 := X_v.ext E1
  have f12 := F_0.ext E1
  have f13 := F_1.ext E1
  have f14 := F_2.ext E1
  have f15 := F_3.ext E1
  have f16 := F_4.ext E1
  have f17 := F_5.ext E1
  have Zh18 : n0 ≤ T1.heap.size := Nat.le_trans Z0 K1.1
  have K19 := Kz.ext E1
  refine own_go st1 ?_
  show own_Fin p e below _ (T1.setTop (mkF m 3 #[.val (.int (6 : Int32)), .unset, .unset, .unset, .unset] [(.ref b1)]))
  refine own_go (fun t k => XS.astoreN X1.here hx rfl (hb hby d1_3) rfl rfl (l' := #[.val (.int (6 : Int32)), .val (.ref b1), .unset, .unset, .unset]) rfl (XS.aloadN X1.here hx rfl (hb hby d1_4) rfl rfl  k)) ?_
  show own_Fin p e below _ (T1.setTop (mkF m 5 #[.val (.int (6 : Int32)), .val (.ref b1), .unset, .unset, .unset] [(.ref b1)]))
  obtain ⟨cl20, Ar20, q20, S20, M20, H20, G20⟩ := (id V1)
  refine own_go (fun t k => X1.arraylength hx Ar20.1 (State.isArrayOf_alike hZ.alike Ar20.2.1) (g := (mkF m 5 #[.val (.int (6 : Int32)), .val (.ref b1), .unset, .unset, .unset] [(.ref b1)])) rfl rfl (hb hby d1_5) _ k) ?_
  rw [len_of S20 M20]
  show own_Fin p e below _ (T1.setTop (mkF m 6 #[.val (.int (6 : Int32)), .val (.ref b1), .unset, .unset, .unset] [(.int (6 : Int32))]))
  refine own_go (fun t k => XS.istoreN X1.here hx rfl (hb hby d1_6) rfl (l' := #[.val (.int (6 : Int32)), .val (.ref b1), .val (.int (6 : Int32)), .unset, .unset]) rfl (XS.iconst X1.here hx rfl (hb hby d1_7) (XS.istoreN X1.here hx rfl (hb hby d1_8) rfl (l' := #[.val (.int (6 : Int32)), .val (.ref b1), .val (.int (6 : Int32)), .val (.int (0 : Int32)), .unset]) rfl (XS.iloadN X1.here hx rfl (hb hby d1_9) rfl  k)))) ?_
  show own_Fin p e below _ (T1.setTop (mkF m 10 #[.val (.int (6 : Int32)), .val (.ref b1), .val (.int (6 : Int32)), .val (.int (0 : Int32)), .unset] [(.int (0 : Int32))]))
  refine own_go (fun t k => XS.iloadN X1.here hx rfl (hb hby d1_10) rfl  k) ?_
  show own_Fin p e below _ (T1.setTop (mkF m 11 #[.val (.int (6 : Int32)), .val (.ref b1), .val (.int (6 : Int32)), .val (.int (0 : Int32)), .unset] [(.int (6 : Int32)), (.int (0 : Int32))]))
  refine own_go (fun t k => XS.icmpNo X1.here hx rfl (hb hby d1_11) rfl (tlt (by decide : (0 : Int32) < (6 : Int32))).2.1 (XS.aloadN X1.here hx rfl (hb hby d1_14) rfl rfl  (XS.iloadN X1.here hx rfl (hb hby d1_15) rfl  k))) ?_
  show own_Fin p e below _ (T1.setTop (mkF m 16 #[.val (.int (6 : Int32)), .val (.ref b1), .val (.int (6 : Int32)), .val (.int (0 : Int32)), .unset] [(.int (0 : Int32)), (.ref b1)]))
  obtain ⟨cl21, Ar21, q21, S21, M21, H21, G21⟩ := (id V1)
  have hin21 : ¬ ((0 : Int32) < 0 ∨ cl21.slots.size ≤ ((0 : Int32)).toNatClampNeg) := inb_of S21 ⟨by decide, by decide⟩
  have hat21 : cl21.slots[((0 : Int32)).toNatClampNeg]? = some (.ref (A 0)) := H21.at hin21 rfl
  refine own_go (fun t k => X1.aaload hx (j := (0 : Int32)) (v := (.ref (A 0))) Ar21.1 (State.isArrayOf_alike hZ.alike Ar21.2.1) rfl Ar21.2.2 hin21 hat21 (g := (mkF m 16 #[.val (.int (6 : Int32)), .val (.ref b1), .val (.int (6 : Int32)), .val (.int (0 : Int32)), .unset] [(.int (0 : Int32)), (.ref b1)])) rfl rfl (hb hby d1_16) _ (XS.astore X1.here hx rfl (hb hby d1_17) rfl rfl (l' := #[.val (.int (6 : Int32)), .val (.ref b1), .val (.int (6 : Int32)), .val (.int (0 : Int32)), .val (.ref (A 0))]) rfl (XS.aload X1.here hx rfl (hb hby d1_19) rfl rfl  k))) ?_
  show own_Fin p e below _ (T1.setTop (mkF m 21 #[.val (.int (6 : Int32)), .val (.ref b1), .val (.int (6 : Int32)), .val (.int (0 : Int32)), .val (.ref (A 0))] [(.ref (A 0))]))
  obtain ⟨T22, X22, e22, st22⟩ := getF X1 hx hZ hown (host := "") (Or.inl hw_26) Via.refl rfl f12 (g := (mkF m 21 #[.val (.int (6 : Int32)), .val (.ref b1), .val (.int (6 : Int32)), .val (.int (0 : Int32)), .val (.ref (A 0))] [(.ref (A 0))])) rfl rfl (hb hby d1_21)
  refine own_go st22 ?_
  show own_Fin p e below _ (T22.setTop (mkF m 24 #[.val (.int (6 : Int32)), .val (.ref b1), .val (.int (6 : Int32)), .val (.int (0 : Int32)), .val (.ref (A 0))] [(.int (1 : Int32))]))
  refine own_go (fun t k => XS.iloadN X22.here hx rfl (hb hby d1_24) rfl  k) ?_
  show own_Fin p e below _ (T22.setTop (mkF m 25 #[.val (.int (6 : Int32)), .val (.ref b1), .val (.int (6 : Int32)), .val (.int (0 : Int32)), .val (.ref (A 0))] [(.int (6 : Int32)), (.int (1 : Int32))]))
  refine own_go (fun t k => XS.icmpYes X22.here hx rfl (pc0 := 25) (pc' := 31) rfl (hb hby d1_25) rfl (feq (by decide : ¬ ((1 : Int32) = (6 : Int32)))).2 (by decide) (by decide) (XS.iinc X22.here hx rfl (hb hby d1_31) rfl (l' := #[.val (.int (6 : Int32)), .val (.ref b1), .val (.int (6 : Int32)), .val (.int (1 : Int32)), .val (.ref (A 0))]) rfl (XS.goto X22.here hx rfl (pc0 := 34) (pc' := 9) rfl (hb hby d1_34) (by decide) (by decide) (XS.iloadN X22.here hx rfl (hb hby d1_9) rfl  k)))) ?_
  show own_Fin p e below _ (T22.setTop (mkF m 10 #[.val (.int (6 : Int32)), .val (.ref b1), .val (.int (6 : Int32)), .val (.int (1 : Int32)), .val (.ref (A 0))] [(.int (1 : Int32))]))
  refine own_go (fun t k => XS.iloadN X22.here hx rfl (hb hby d1_10) rfl  k) ?_
  show own_Fin p e below _ (T22.setTop (mkF m 11 #[.val (.int (6 : Int32)), .val (.ref b1), .val (.int (6 : Int32)), .val (.int (1 : Int32)), .val (.ref (A 0))] [(.int (6 : Int32)), (.int (1 : Int32))]))
  refine own_go (fun t k => XS.icmpNo X22.here hx rfl (hb hby d1_11) rfl (tlt (by decide : (1 : Int32) < (6 : Int32))).2.1 (XS.aloadN X22.here hx rfl (hb hby d1_14) rfl rfl  (XS.iloadN X22.here hx rfl (hb hby d1_15) rfl  k))) ?_
  show own_Fin p e below _ (T22.setTop (mkF m 16 #[.val (.int (6 : Int32)), .val (.ref b1), .val (.int (6 : Int32)), .val (.int (1 : Int32)), .val (.ref (A 0))] [(.int (1 : Int32)), (.ref b1)]))
  obtain ⟨cl23, Ar23, q23, S23, M23, H23, G23⟩ := (id V1)
  have hin23 : ¬ ((1 : Int32) < 0 ∨ cl23.slots.size ≤ ((1 : Int32)).toNatClampNeg) := inb_of S23 ⟨by decide, by decide⟩
  have hat23 : cl23.slots[((1 : Int32)).toNatClampNeg]? = some (.ref (A 1)) := H23.at hin23 rfl
  refine own_go (fun t k => X22.aaload hx (j := (1 : Int32)) (v := (.ref (A 1))) (by rw [e22]; exact Ar23.1) (State.isArrayOf_alike hZ.alike Ar23.2.1) rfl Ar23.2.2 hin23 hat23 (g := (mkF m 16 #[.val (.int (6 : Int32)), .val (.ref b1), .val (.int (6 : Int32)), .val (.int (1 : Int32)), .val (.ref (A 0))] [(.int (1 : Int32)), (.ref b1)])) rfl rfl (hb hby d1_16) _ (XS.astore X22.here hx rfl (hb hby d1_17) rfl rfl (l' := #[.val (.int (6 : Int32)), .val (.ref b1), .val (.int (6 : Int32)), .val (.int (1 : Int32)), .val (.ref (A 1))]) rfl (XS.aload X22.here hx rfl (hb hby d1_19) rfl rfl  k))) ?_
  show own_Fin p e below _ (T22.setTop (mkF m 21 #[.val (.int (6 : Int32)), .val (.ref b1), .val (.int (6 : Int32)), .val (.int (1 : Int32)), .val (.ref (A 1))] [(.ref (A 1))]))
  obtain ⟨T24, X24, e24, st24⟩ := getF X22 hx hZ hown (host := "") (Or.inl hw_26) Via.refl e22 f13 (g := (mkF m 21 #[.val (.int (6 : Int32)), .val (.ref b1), .val (.int (6 : Int32)), .val (.int (1 : Int32)), .val (.ref (A 1))] [(.ref (A 1))])) rfl rfl (hb hby d1_21)
  refine own_go st24 ?_
  show own_Fin p e below _ (T24.setTop (mkF m 24 #[.val (.int (6 : Int32)), .val (.ref b1), .val (.int (6 : Int32)), .val (.int (1 : Int32)), .val (.ref (A 1))] [(.int (2 : Int32))]))
  refine own_go (fun t k => XS.iloadN X24.here hx rfl (hb hby d1_24) rfl  k) ?_
  show own_Fin p e below _ (T24.setTop (mkF m 25 #[.val (.int (6 : Int32)), .val (.ref b1), .val (.int (6 : Int32)), .val (.int (1 : Int32)), .val (.ref (A 1))] [(.int (6 : Int32)), (.int (2 : Int32))]))
  refine own_go (fun t k => XS.icmpYes X24.here hx rfl (pc0 := 25) (pc' := 31) rfl (hb hby d1_25) rfl (feq (by decide : ¬ ((2 : Int32) = (6 : Int32)))).2 (by decide) (by decide) (XS.iinc X24.here hx rfl (hb hby d1_31) rfl (l' := #[.val (.int (6 : Int32)), .val (.ref b1), .val (.int (6 : Int32)), .val (.int (2 : Int32)), .val (.ref (A 1))]) rfl (XS.goto X24.here hx rfl (pc0 := 34) (pc' := 9) rfl (hb hby d1_34) (by decide) (by decide) (XS.iloadN X24.here hx rfl (hb hby d1_9) rfl  k)))) ?_
  show own_Fin p e below _ (T24.setTop (mkF m 10 #[.val (.int (6 : Int32)), .val (.ref b1), .val (.int (6 : Int32)), .val (.int (2 : Int32)), .val (.ref (A 1))] [(.int (2 : Int32))]))
  refine own_go (fun t k => XS.iloadN X24.here hx rfl (hb hby d1_10) rfl  k) ?_
  show own_Fin p e below _ (T24.setTop (mkF m 11 #[.val (.int (6 : Int32)), .val (.ref b1), .val (.int (6 : Int32)), .val (.int (2 : Int32)), .val (.ref (A 1))] [(.int (6 : Int32)), (.int (2 : Int32))]))
  refine own_go (fun t k => XS.icmpNo X24.here hx rfl (hb hby d1_11) rfl (tlt (by decide : (2 : Int32) < (6 : Int32))).2.1 (XS.aloadN X24.here hx rfl (hb hby d1_14) rfl rfl  (XS.iloadN X24.here hx rfl (hb hby d1_15) rfl  k))) ?_
  show own_Fin p e below _ (T24.setTop (mkF m 16 #[.val (.int (6 : Int32)), .val (.ref b1), .val (.int (6 : Int32)), .val (.int (2 : Int32)), .val (.ref (A 1))] [(.int (2 : Int32)), (.ref b1)]))
  obtain ⟨cl25, Ar25, q25, S25, M25, H25, G25⟩ := (id V1)
  have hin25 : ¬ ((2 : Int32) < 0 ∨ cl25.slots.size ≤ ((2 : Int32)).toNatClampNeg) := inb_of S25 ⟨by decide, by decide⟩
  have hat25 : cl25.slots[((2 : Int32)).toNatClampNeg]? = some (.ref (A 2)) := H25.at hin25 rfl
  refine own_go (fun t k => X24.aaload hx (j := (2 : Int32)) (v := (.ref (A 2))) (by rw [e24]; exact Ar25.1) (State.isArrayOf_alike hZ.alike Ar25.2.1) rfl Ar25.2.2 hin25 hat25 (g := (mkF m 16 #[.val (.int (6 : Int32)), .val (.ref b1), .val (.int (6 : Int32)), .val (.int (2 : Int32)), .val (.ref (A 1))] [(.int (2 : Int32)), (.ref b1)])) rfl rfl (hb hby d1_16) _ (XS.astore X24.here hx rfl (hb hby d1_17) rfl rfl (l' := #[.val (.int (6 : Int32)), .val (.ref b1), .val (.int (6 : Int32)), .val (.int (2 : Int32)), .val (.ref (A 2))]) rfl (XS.aload X24.here hx rfl (hb hby d1_19) rfl rfl  k))) ?_
  show own_Fin p e below _ (T24.setTop (mkF m 21 #[.val (.int (6 : Int32)), .val (.ref b1), .val (.int (6 : Int32)), .val (.int (2 : Int32)), .val (.ref (A 2))] [(.ref (A 2))]))
  obtain ⟨T26, X26, e26, st26⟩ := getF X24 hx hZ hown (host := "") (Or.inl hw_26) Via.refl e24 f14 (g := (mkF m 21 #[.val (.int (6 : Int32)), .val (.ref b1), .val (.int (6 : Int32)), .val (.int (2 : Int32)), .val (.ref (A 2))] [(.ref (A 2))])) rfl rfl (hb hby d1_21)
  refine own_go st26 ?_
  show own_Fin p e below _ (T26.setTop (mkF m 24 #[.val (.int (6 : Int32)), .val (.ref b1), .val (.int (6 : Int32)), .val (.int (2 : Int32)), .val (.ref (A 2))] [(.int (3 : Int32))]))
  refine own_go (fun t k => XS.iloadN X26.here hx rfl (hb hby d1_24) rfl  k) ?_
  show own_Fin p e below _ (T26.setTop (mkF m 25 #[.val (.int (6 : Int32)), .val (.ref b1), .val (.int (6 : Int32)), .val (.int (2 : Int32)), .val (.ref (A 2))] [(.int (6 : Int32)), (.int (3 : Int32))]))
  refine own_go (fun t k => XS.icmpYes X26.here hx rfl (pc0 := 25) (pc' := 31) rfl (hb hby d1_25) rfl (feq (by decide : ¬ ((3 : Int32) = (6 : Int32)))).2 (by decide) (by decide) (XS.iinc X26.here hx rfl (hb hby d1_31) rfl (l' := #[.val (.int (6 : Int32)), .val (.ref b1), .val (.int (6 : Int32)), .val (.int (3 : Int32)), .val (.ref (A 2))]) rfl (XS.goto X26.here hx rfl (pc0 := 34) (pc' := 9) rfl (hb hby d1_34) (by decide) (by decide) (XS.iloadN X26.here hx rfl (hb hby d1_9) rfl  k)))) ?_
  show own_Fin p e below _ (T26.setTop (mkF m 10 #[.val (.int (6 : Int32)), .val (.ref b1), .val (.int (6 : Int32)), .val (.int (3 : Int32)), .val (.ref (A 2))] [(.int (3 : Int32))]))
  refine own_go (fun t k => XS.iloadN X26.here hx rfl (hb hby d1_10) rfl  k) ?_
  show own_Fin p e below _ (T26.setTop (mkF m 11 #[.val (.int (6 : Int32)), .val (.ref b1), .val (.int (6 : Int32)), .val (.int (3 : Int32)), .val (.ref (A 2))] [(.int (6 : Int32)), (.int (3 : Int32))]))
  refine own_go (fun t k => XS.icmpNo X26.here hx rfl (hb hby d1_11) rfl (tlt (by decide : (3 : Int32) < (6 : Int32))).2.1 (XS.aloadN X26.here hx rfl (hb hby d1_14) rfl rfl  (XS.iloadN X26.here hx rfl (hb hby d1_15) rfl  k))) ?_
  show own_Fin p e below _ (T26.setTop (mkF m 16 #[.val (.int (6 : Int32)), .val (.ref b1), .val (.int (6 : Int32)), .val (.int (3 : Int32)), .val (.ref (A 2))] [(.int (3 : Int32)), (.ref b1)]))
  obtain ⟨cl27, Ar27, q27, S27, M27, H27, G27⟩ := (id V1)
  have hin27 : ¬ ((3 : Int32) < 0 ∨ cl27.slots.size ≤ ((3 : Int32)).toNatClampNeg) := inb_of S27 ⟨by decide, by decide⟩
  have hat27 : cl27.slots[((3 : Int32)).toNatClampNeg]? = some (.ref (A 3)) := H27.at hin27 rfl
  refine own_go (fun t k => X26.aaload hx (j := (3 : Int32)) (v := (.ref (A 3))) (by rw [e26]; exact Ar27.1) (State.isArrayOf_alike hZ.alike Ar27.2.1) rfl Ar27.2.2 hin27 hat27 (g := (mkF m 16 #[.val (.int (6 : Int32)), .val (.ref b1), .val (.int (6 : Int32)), .val (.int (3 : Int32)), .val (.ref (A 2))] [(.int (3 : Int32)), (.ref b1)])) rfl rfl (hb hby d1_16) _ (XS.astore X26.here hx rfl (hb hby d1_17) rfl rfl (l' := #[.val (.int (6 : Int32)), .val (.ref b1), .val (.int (6 : Int32)), .val (.int (3 : Int32)), .val (.ref (A 3))]) rfl (XS.aload X26.here hx rfl (hb hby d1_19) rfl rfl  k))) ?_
  show own_Fin p e below _ (T26.setTop (mkF m 21 #[.val (.int (6 : Int32)), .val (.ref b1), .val (.int (6 : Int32)), .val (.int (3 : Int32)), .val (.ref (A 3))] [(.ref (A 3))]))
  obtain ⟨T28, X28, e28, st28⟩ := getF X26 hx hZ hown (host := "") (Or.inl hw_26) Via.refl e26 f15 (g := (mkF m 21 #[.val (.int (6 : Int32)), .val (.ref b1), .val (.int (6 : Int32)), .val (.int (3 : Int32)), .val (.ref (A 3))] [(.ref (A 3))])) rfl rfl (hb hby d1_21)
  refine own_go st28 ?_
  show own_Fin p e below _ (T28.setTop (mkF m 24 #[.val (.int (6 : Int32)), .val (.ref b1), .val (.int (6 : Int32)), .val (.int (3 : Int32)), .val (.ref (A 3))] [(.int (4 : Int32))]))
  refine own_go (fun t k => XS.iloadN X28.here hx rfl (hb hby d1_24) rfl  k) ?_
  show own_Fin p e below _ (T28.setTop (mkF m 25 #[.val (.int (6 : Int32)), .val (.ref b1), .val (.int (6 : Int32)), .val (.int (3 : Int32)), .val (.ref (A 3))] [(.int (6 : Int32)), (.int (4 : Int32))]))
  refine own_go (fun t k => XS.icmpYes X28.here hx rfl (pc0 := 25) (pc' := 31) rfl (hb hby d1_25) rfl (feq (by decide : ¬ ((4 : Int32) = (6 : Int32)))).2 (by decide) (by decide) (XS.iinc X28.here hx rfl (hb hby d1_31) rfl (l' := #[.val (.int (6 : Int32)), .val (.ref b1), .val (.int (6 : Int32)), .val (.int (4 : Int32)), .val (.ref (A 3))]) rfl (XS.goto X28.here hx rfl (pc0 := 34) (pc' := 9) rfl (hb hby d1_34) (by decide) (by decide) (XS.iloadN X28.here hx rfl (hb hby d1_9) rfl  k)))) ?_
  show own_Fin p e below _ (T28.setTop (mkF m 10 #[.val (.int (6 : Int32)), .val (.ref b1), .val (.int (6 : Int32)), .val (.int (4 : Int32)), .val (.ref (A 3))] [(.int (4 : Int32))]))
  refine own_go (fun t k => XS.iloadN X28.here hx rfl (hb hby d1_10) rfl  k) ?_
  show own_Fin p e below _ (T28.setTop (mkF m 11 #[.val (.int (6 : Int32)), .val (.ref b1), .val (.int (6 : Int32)), .val (.int (4 : Int32)), .val (.ref (A 3))] [(.int (6 : Int32)), (.int (4 : Int32))]))
  refine own_go (fun t k => XS.icmpNo X28.here hx rfl (hb hby d1_11) rfl (tlt (by decide : (4 : Int32) < (6 : Int32))).2.1 (XS.aloadN X28.here hx rfl (hb hby d1_14) rfl rfl  (XS.iloadN X28.here hx rfl (hb hby d1_15) rfl  k))) ?_
  show own_Fin p e below _ (T28.setTop (mkF m 16 #[.val (.int (6 : Int32)), .val (.ref b1), .val (.int (6 : Int32)), .val (.int (4 : Int32)), .val (.ref (A 3))] [(.int (4 : Int32)), (.ref b1)]))
  obtain ⟨cl29, Ar29, q29, S29, M29, H29, G29⟩ := (id V1)
  have hin29 : ¬ ((4 : Int32) < 0 ∨ cl29.slots.size ≤ ((4 : Int32)).toNatClampNeg) := inb_of S29 ⟨by decide, by decide⟩
  have hat29 : cl29.slots[((4 : Int32)).toNatClampNeg]? = some (.ref (A 4)) := H29.at hin29 rfl
  refine own_go (fun t k => X28.aaload hx (j := (4 : Int32)) (v := (.ref (A 4))) (by rw [e28]; exact Ar29.1) (State.isArrayOf_alike hZ.alike Ar29.2.1) rfl Ar29.2.2 hin29 hat29 (g := (mkF m 16 #[.val (.int (6 : Int32)), .val (.ref b1), .val (.int (6 : Int32)), .val (.int (4 : Int32)), .val (.ref (A 3))] [(.int (4 : Int32)), (.ref b1)])) rfl rfl (hb hby d1_16) _ (XS.astore X28.here hx rfl (hb hby d1_17) rfl rfl (l' := #[.val (.int (6 : Int32)), .val (.ref b1), .val (.int (6 : Int32)), .val (.int (4 : Int32)), .val (.ref (A 4))]) rfl (XS.aload X28.here hx rfl (hb hby d1_19) rfl rfl  k))) ?_
  show own_Fin p e below _ (T28.setTop (mkF m 21 #[.val (.int (6 : Int32)), .val (.ref b1), .val (.int (6 : Int32)), .val (.int (4 : Int32)), .val (.ref (A 4))] [(.ref (A 4))]))
  obtain ⟨T30, X30, e30, st30⟩ := getF X28 hx hZ hown (host := "") (Or.inl hw_26) Via.refl e28 f16 (g := (mkF m 21 #[.val (.int (6 : Int32)), .val (.ref b1), .val (.int (6 : Int32)), .val (.int (4 : Int32)), .val (.ref (A 4))] [(.ref (A 4))])) rfl rfl (hb hby d1_21)
  refine own_go st30 ?_
  show own_Fin p e below _ (T30.setTop (mkF m 24 #[.val (.int (6 : Int32)), .val (.ref b1), .val (.int (6 : Int32)), .val (.int (4 : Int32)), .val (.ref (A 4))] [(.int (5 : Int32))]))
  refine own_go (fun t k => XS.iloadN X30.here hx rfl (hb hby d1_24) rfl  k) ?_
  show own_Fin p e below _ (T30.setTop (mkF m 25 #[.val (.int (6 : Int32)), .val (.ref b1), .val (.int (6 : Int32)), .val (.int (4 : Int32)), .val (.ref (A 4))] [(.int (6 : Int32)), (.int (5 : Int32))]))
  refine own_go (fun t k => XS.icmpYes X30.here hx rfl (pc0 := 25) (pc' := 31) rfl (hb hby d1_25) rfl (feq (by decide : ¬ ((5 : Int32) = (6 : Int32)))).2 (by decide) (by decide) (XS.iinc X30.here hx rfl (hb hby d1_31) rfl (l' := #[.val (.int (6 : Int32)), .val (.ref b1), .val (.int (6 : Int32)), .val (.int (5 : Int32)), .val (.ref (A 4))]) rfl (XS.goto X30.here hx rfl (pc0 := 34) (pc' := 9) rfl (hb hby d1_34) (by decide) (by decide) (XS.iloadN X30.here hx rfl (hb hby d1_9) rfl  k)))) ?_
  show own_Fin p e below _ (T30.setTop (mkF m 10 #[.val (.int (6 : Int32)), .val (.ref b1), .val (.int (6 : Int32)), .val (.int (5 : Int32)), .val (.ref (A 4))] [(.int (5 : Int32))]))
  refine own_go (fun t k => XS.iloadN X30.here hx rfl (hb hby d1_10) rfl  k) ?_
  show own_Fin p e below _ (T30.setTop (mkF m 11 #[.val (.int (6 : Int32)), .val (.ref b1), .val (.int (6 : Int32)), .val (.int (5 : Int32)), .val (.ref (A 4))] [(.int (6 : Int32)), (.int (5 : Int32))]))
  refine own_go (fun t k => XS.icmpNo X30.here hx rfl (hb hby d1_11) rfl (tlt (by decide : (5 : Int32) < (6 : Int32))).2.1 (XS.aloadN X30.here hx rfl (hb hby d1_14) rfl rfl  (XS.iloadN X30.here hx rfl (hb hby d1_15) rfl  k))) ?_
  show own_Fin p e below _ (T30.setTop (mkF m 16 #[.val (.int (6 : Int32)), .val (.ref b1), .val (.int (6 : Int32)), .val (.int (5 : Int32)), .val (.ref (A 4))] [(.int (5 : Int32)), (.ref b1)]))
  obtain ⟨cl31, Ar31, q31, S31, M31, H31, G31⟩ := (id V1)
  have hin31 : ¬ ((5 : Int32) < 0 ∨ cl31.slots.size ≤ ((5 : Int32)).toNatClampNeg) := inb_of S31 ⟨by decide, by decide⟩
  have hat31 : cl31.slots[((5 : Int32)).toNatClampNeg]? = some (.ref (A 5)) := H31.at hin31 rfl
  refine own_go (fun t k => X30.aaload hx (j := (5 : Int32)) (v := (.ref (A 5))) (by rw [e30]; exact Ar31.1) (State.isArrayOf_alike hZ.alike Ar31.2.1) rfl Ar31.2.2 hin31 hat31 (g := (mkF m 16 #[.val (.int (6 : Int32)), .val (.ref b1), .val (.int (6 : Int32)), .val (.int (5 : Int32)), .val (.ref (A 4))] [(.int (5 : Int32)), (.ref b1)])) rfl rfl (hb hby d1_16) _ (XS.astore X30.here hx rfl (hb hby d1_17) rfl rfl (l' := #[.val (.int (6 : Int32)), .val (.ref b1), .val (.int (6 : Int32)), .val (.int (5 : Int32)), .val (.ref (A 5))]) rfl (XS.aload X30.here hx rfl (hb hby d1_19) rfl rfl  k))) ?_
  show own_Fin p e below _ (T30.setTop (mkF m 21 #[.val (.int (6 : Int32)), .val (.ref b1), .val (.int (6 : Int32)), .val (.int (5 : Int32)), .val (.ref (A 5))] [(.ref (A 5))]))
  obtain ⟨T32, X32, e32, st32⟩ := getF X30 hx hZ hown (host := "") (Or.inl hw_26) Via.refl e30 f17 (g := (mkF m 21 #[.val (.int (6 : Int32)), .val (.ref b1), .val (.int (6 : Int32)), .val (.int (5 : Int32)), .val (.ref (A 5))] [(.ref (A 5))])) rfl rfl (hb hby d1_21)
  refine own_go st32 ?_
  show own_Fin p e below _ (T32.setTop (mkF m 24 #[.val (.int (6 : Int32)), .val (.ref b1), .val (.int (6 : Int32)), .val (.int (5 : Int32)), .val (.ref (A 5))] [(.int (6 : Int32))]))
  refine own_go (fun t k => XS.iloadN X32.here hx rfl (hb hby d1_24) rfl  k) ?_
  show own_Fin p e below _ (T32.setTop (mkF m 25 #[.val (.int (6 : Int32)), .val (.ref b1), .val (.int (6 : Int32)), .val (.int (5 : Int32)), .val (.ref (A 5))] [(.int (6 : Int32)), (.int (6 : Int32))]))
  refine own_go (fun t k => XS.icmpNo X32.here hx rfl (hb hby d1_25) rfl (teq (by decide : (6 : Int32) = (6 : Int32))).2 (XS.aload X32.here hx rfl (hb hby d1_28) rfl rfl  k)) ?_
  show own_Fin p e below _ (T32.setTop (mkF m 30 #[.val (.int (6 : Int32)), .val (.ref b1), .val (.int (6 : Int32)), .val (.int (5 : Int32)), .val (.ref (A 5))] [(.ref (A 5))]))
  exact own_out X32 (fun h => by rw [Bd.returns] at h; cases h) Bd.notSynchronized (fun fs hr => retOut X32 hx Bd.returns rfl (Or.inr (Or.inr (Or.inr (Or.inr ⟨rfl, rfl, rfl⟩)))) (hb hby d1_30) hr) (by rw [e32]; exact ⟨rfl, N1, K19⟩) (by decide) (by decide)
theorem d3_0 : decode method_3_code 0 = .ok (.iload_n 0, 1) := by decide +kernel
theorem d3_1 : decode method_3_code 1 = .ok (.iconst 1, 1) := by decide +kernel
theorem d3_2 : decode method_3_code 2 = .ok (.if_icmp .ne 7, 3) := by decide +kernel
theorem d3_5 : decode method_3_code 5 = .ok (.getstatic 23, 3) := by decide +kernel
theorem d3_8 : decode method_3_code 8 = .ok (.areturn, 1) := by decide +kernel
theorem d3_9 : decode method_3_code 9 = .ok (.iload_n 0, 1) := by decide +kernel
theorem d3_10 : decode method_3_code 10 = .ok (.iconst 2, 1) := by decide +kernel
theorem d3_11 : decode method_3_code 11 = .ok (.if_icmp .ne 7, 3) := by decide +kernel
theorem d3_14 : decode method_3_code 14 = .ok (.getstatic 27, 3) := by decide +kernel
theorem d3_17 : decode method_3_code 17 = .ok (.areturn, 1) := by decide +kernel
theorem d3_18 : decode method_3_code 18 = .ok (.iload_n 0, 1) := by decide +kernel
theorem d3_19 : decode method_3_code 19 = .ok (.iconst 3, 1) := by decide +kernel
theorem d3_20 : decode method_3_code 20 = .ok (.if_icmp .ne 7, 3) := by decide +kernel
theorem d3_23 : decode method_3_code 23 = .ok (.getstatic 30, 3) := by decide +kernel
theorem d3_26 : decode method_3_code 26 = .ok (.areturn, 1) := by decide +kernel
theorem d3_27 : decode method_3_code 27 = .ok (.iload_n 0, 1) := by decide +kernel
theorem d3_28 : decode method_3_code 28 = .ok (.iconst 4, 1) := by decide +kernel
theorem d3_29 : decode method_3_code 29 = .ok (.if_icmp .ne 7, 3) := by decide +kernel
theorem d3_32 : decode method_3_code 32 = .ok (.getstatic 33, 3) := by decide +kernel
theorem d3_35 : decode method_3_code 35 = .ok (.areturn, 1) := by decide +kernel
theorem d3_36 : decode method_3_code 36 = .ok (.iload_n 0, 1) := by decide +kernel
theorem d3_37 : decode method_3_code 37 = .ok (.iconst 5, 1) := by decide +kernel
theorem d3_38 : decode method_3_code 38 = .ok (.if_icmp .ne 7, 3) := by decide +kernel
theorem d3_41 : decode method_3_code 41 = .ok (.getstatic 36, 3) := by decide +kernel
theorem d3_44 : decode method_3_code 44 = .ok (.areturn, 1) := by decide +kernel
theorem d3_45 : decode method_3_code 45 = .ok (.getstatic 39, 3) := by decide +kernel
theorem d3_48 : decode method_3_code 48 = .ok (.areturn, 1) := by decide +kernel
theorem pn_1 : plainName "com/example/palimpsest/palimpsest/chain/TransactionTypeOfCodePinLaw" = true := by first | (simp [plainName, overriddenIn]; done) | decide +kernel
theorem ef_3 (m : MethodId) (x0 : Int32)  : entryFrame m #[(.int x0)] 1 = mkF m 0 #[.val (.int x0)] [] := by first | (simp [entryFrame, mkF, argsToLocals, Value.category]; done) | rfl
def own_ex_38 (p1 : Int32) (A : Nat → Addr) : Addr := if p1 = (5 : Int32) then (A 4) else (A 5)
def own_ex_29 (p1 : Int32) (A : Nat → Addr) : Addr := if p1 = (4 : Int32) then (A 3) else (own_ex_38 p1 A)
def own_ex_20 (p1 : Int32) (A : Nat → Addr) : Addr := if p1 = (3 : Int32) then (A 2) else (own_ex_29 p1 A)
def own_ex_11 (p1 : Int32) (A : Nat → Addr) : Addr := if p1 = (2 : Int32) then (A 1) else (own_ex_20 p1 A)
def own_ex_2 (p1 : Int32) (A : Nat → Addr) : Addr := if p1 = (1 : Int32) then (A 0) else (own_ex_11 p1 A)
set_option maxRecDepth 65536 in
set_option maxHeartbeats 40000000 in
theorem rm3 (l : Launch) (Z : State) (a0 : Array Value) (hw : ∀ d ∈ tables_1, d.before a0 Z = true) (ws : List Jvm.Cond) (p1 : Int32) (A : Nat → Addr) (h0 : Heap) (n0 : Nat) (Z0 : n0 ≤ h0.size) (HS : own_St Z h0 A) :
    MetFree l (⟨"com/example/palimpsest/palimpsest/chain/TransactionTypeOfCodePinLaw", "expected", "(I)Lcom/example/palimpsest/palimpsest/chain/TransactionType;"⟩ : MethodName) (head1 (Jvm.Cond.code (⟨"com/example/palimpsest/palimpsest/chain/TransactionTypeOfCodePinLaw", "expected", "(I)Lcom/example/palimpsest/palimpsest/chain/TransactionType;"⟩ : MethodName) method_3_code 1 (some (.object "com/example/palimpsest/palimpsest/chain/TransactionType")) :: ws) ({ frames := 0, cells := 0, slots := 0, locals := 0 } : Room)) (fun a U => a = #[(.int p1)] ∧ Z.Warmed39 U.vm ∧ U.heap = h0) (fun _ _ _ _ _ => True) (fun _ U o U' => ∃ v L, o = .returned v ∧ (own_P h0 n0 (.ref (own_ex_2 p1 A))) v U'.heap L ∧ FrameEnd U o U' L ({ frames := 0, cells := 0, slots := 0, locals := 0 } : Room).cells ({ frames := 0, cells := 0, slots := 0, locals := 0 } : Room).slots) := by
  refine MetFree.of_bodySF (plainFor_of_name pn_1) hisR ?_
  intro p e s m args below meth c s₁ Bd hml0 hP hK
  obtain ⟨rfl, hZ, hh⟩ := hP
  have hx := Bd.exec
  have hby := Bd.bytes
  have hml : c.maxLocals = 1 := hml0
  have hown : s.vm.findClass "com/example/palimpsest/palimpsest/chain/TransactionTypeOfCodePinLaw" = some m.cls := findClass_of_methodNamed Bd.named
  have hnm := (name_of_methodNamed Bd.named Bd.method).1
  have X0 : Stand p l e ({ frames := 0, cells := 0, slots := 0, locals := 0 } : Room) s m #[(.int p1)] below meth c s₁ [] 0 0 := Stand.of_body Bd
  have e0 : s₁.heap = h0 := by rw [← hh, Bd.state]; rfl
  have N0 := Fr.nil n0
  have hw_32 := hw _ (List.mem_of_getElem? (i := 32) rfl)
  have hw_38 := hw _ (List.mem_of_getElem? (i := 38) rfl)
  have hw_39 := hw _ (List.mem_of_getElem? (i := 39) rfl)
  have hw_40 := hw _ (List.mem_of_getElem? (i := 40) rfl)
  have hw_41 := hw _ (List.mem_of_getElem? (i := 41) rfl)
  have hw_42 := hw _ (List.mem_of_getElem? (i := 42) rfl)
  show own_Fin p e below (own_A s ({ frames := 0, cells := 0, slots := 0, locals := 0 } : Room).cells ({ frames := 0, cells := 0, slots := 0, locals := 0 } : Room).slots (own_P h0 n0 (.ref (own_ex_2 p1 A)))) _
  refine own_go (fun t k => castTop (ef_3 m (p1)) k) ?_
  show own_Fin p e below _ (s₁.setTop (mkF m 0 #[.val (.int p1)] []))
  refine own_go (fun t k => XS.iloadN X0.here hx rfl (hb hby d3_0) rfl  (XS.iconst X0.here hx rfl (hb hby d3_1) k)) ?_
  show own_Fin p e below _ (s₁.setTop (mkF m 2 #[.val (.int p1)] [(.int (1 : Int32)), (.int p1)]))
  by_cases hc1 : p1 = (1 : Int32)
  · skip
    rw [(show (own_ex_2 p1 A) = (A 0) from if_pos hc1)]
    refine own_go (fun t k => XS.icmpNo X0.here hx rfl (hb hby d3_2) rfl (teq hc1).2 k) ?_
    show own_Fin p e below _ (s₁.setTop (mkF m 5 #[.val (.int p1)] []))
    obtain ⟨T2, X2, e2, st2⟩ := getS2 X0 hx hZ hown (host := "") (Or.inl hw_32) Via.refl e0 HS.1 (g := (mkF m 5 #[.val (.int p1)] [])) rfl (hb hby d3_5)
    refine own_go st2 ?_
    show own_Fin p e below _ (T2.setTop (mkF m 8 #[.val (.int p1)] [(.ref (A 0))]))
    exact own_out X2 (fun h => by rw [Bd.returns] at h; cases h) Bd.notSynchronized (fun fs hr => retOut X2 hx Bd.returns rfl (Or.inr (Or.inr (Or.inr (Or.inr ⟨rfl, rfl, rfl⟩)))) (hb hby d3_8) hr) ⟨rfl, N0, e2⟩ (by decide) (by decide)
  · skip
    rw [(show (own_ex_2 p1 A) = (own_ex_11 p1 A) from if_neg hc1)]
    refine own_go (fun t k => XS.icmpYes X0.here hx rfl (pc0 := 2) (pc' := 9) rfl (hb hby d3_2) rfl (feq hc1).2 (by decide) (by decide) (XS.iloadN X0.here hx rfl (hb hby d3_9) rfl  (XS.iconst X0.here hx rfl (hb hby d3_10) k))) ?_
    show own_Fin p e below _ (s₁.setTop (mkF m 11 #[.val (.int p1)] [(.int (2 : Int32)), (.int p1)]))
    by_cases hc3 : p1 = (2 : Int32)
    · skip
      rw [(show (own_ex_11 p1 A) = (A 1) from if_pos hc3)]
      refine own_go (fun t k => XS.icmpNo X0.here hx rfl (hb hby d3_11) rfl (teq hc3).2 k) ?_
      show own_Fin p e below _ (s₁.setTop (mkF m 14 #[.val (.int p1)] []))
      obtain ⟨T4, X4, e4, st4⟩ := getS2 X0 hx hZ hown (host := "") (Or.inl hw_40) Via.refl e0 HS.2.1 (g := (mkF m 14 #[.val (.int p1)] [])) rfl (hb hby d3_14)
      refine own_go st4 ?_
      show own_Fin p e below _ (T4.setTop (mkF m 17 #[.val (.int p1)] [(.ref (A 1))]))
      exact own_out X4 (fun h => by rw [Bd.returns] at h; cases h) Bd.notSynchronized (fun fs hr => retOut X4 hx Bd.returns rfl (Or.inr (Or.inr (Or.inr (Or.inr ⟨rfl, rfl, rfl⟩)))) (hb hby d3_17) hr) ⟨rfl, N0, e4⟩ (by decide) (by decide)
    · skip
      rw [(show (own_ex_11 p1 A) = (own_ex_20 p1 A) from if_neg hc3)]
      refine own_go (fun t k => XS.icmpYes X0.here hx rfl (pc0 := 11) (pc' := 18) rfl (hb hby d3_11) rfl (feq hc3).2 (by decide) (by decide) (XS.iloadN X0.here hx rfl (hb hby d3_18) rfl  (XS.iconst X0.here hx rfl (hb hby d3_19) k))) ?_
      show own_Fin p e below _ (s₁.setTop (mkF m 20 #[.val (.int p1)] [(.int (3 : Int32)), (.int p1)]))
      by_cases hc5 : p1 = (3 : Int32)
      · skip
        rw [(show (own_ex_20 p1 A) = (A 2) from if_pos hc5)]
        refine own_go (fun t k => XS.icmpNo X0.here hx rfl (hb hby d3_20) rfl (teq hc5).2 k) ?_
        show own_Fin p e below _ (s₁.setTop (mkF m 23 #[.val (.int p1)] []))
        obtain ⟨T6, X6, e6, st6⟩ := getS2 X0 hx hZ hown (host := "") (Or.inl hw_39) Via.refl e0 HS.2.2.1 (g := (mkF m 23 #[.val (.int p1)] [])) rfl (hb hby d3_23)
        refine own_go st6 ?_
        show own_Fin p e below _ (T6.setTop (mkF m 26 #[.val (.int p1)] [(.ref (A 2))]))
        exact own_out X6 (fun h => by rw [Bd.returns] at h; cases h) Bd.notSynchronized (fun fs hr => retOut X6 hx Bd.returns rfl (Or.inr (Or.inr (Or.inr (Or.inr ⟨rfl, rfl, rfl⟩)))) (hb hby d3_26) hr) ⟨rfl, N0, e6⟩ (by decide) (by decide)
      · skip
        rw [(show (own_ex_20 p1 A) = (own_ex_29 p1 A) from if_neg hc5)]
        refine own_go (fun t k => XS.icmpYes X0.here hx rfl (pc0 := 20) (pc' := 27) rfl (hb hby d3_20) rfl (feq hc5).2 (by decide) (by decide) (XS.iloadN X0.here hx rfl (hb hby d3_27) rfl  (XS.iconst X0.here hx rfl (hb hby d3_28) k))) ?_
        show own_Fin p e below _ (s₁.setTop (mkF m 29 #[.val (.int p1)] [(.int (4 : Int32)), (.int p1)]))
        by_cases hc7 : p1 = (4 : Int32)
        · skip
          rw [(show (own_ex_29 p1 A) = (A 3) from if_pos hc7)]
          refine own_go (fun t k => XS.icmpNo X0.here hx rfl (hb hby d3_29) rfl (teq hc7).2 k) ?_
          show own_Fin p e below _ (s₁.setTop (mkF m 32 #[.val (.int p1)] []))
          obtain ⟨T8, X8, e8, st8⟩ := getS2 X0 hx hZ hown (host := "") (Or.inl hw_38) Via.refl e0 HS.2.2.2.1 (g := (mkF m 32 #[.val (.int p1)] [])) rfl (hb hby d3_32)
          refine own_go st8 ?_
          show own_Fin p e below _ (T8.setTop (mkF m 35 #[.val (.int p1)] [(.ref (A 3))]))
          exact own_out X8 (fun h => by rw [Bd.returns] at h; cases h) Bd.notSynchronized (fun fs hr => retOut X8 hx Bd.returns rfl (Or.inr (Or.inr (Or.inr (Or.inr ⟨rfl, rfl, rfl⟩)))) (hb hby d3_35) hr) ⟨rfl, N0, e8⟩ (by decide) (by decide)
        · skip
          rw [(show (own_ex_29 p1 A) = (own_ex_38 p1 A) from if_neg hc7)]
          refine own_go (fun t k => XS.icmpYes X0.here hx rfl (pc0 := 29) (pc' := 36) rfl (hb hby d3_29) rfl (feq hc7).2 (by decide) (by decide) (XS.iloadN X0.here hx rfl (hb hby d3_36) rfl  (XS.iconst X0.here hx rfl (hb hby d3_37) k))) ?_
          show own_Fin p e below _ (s₁.setTop (mkF m 38 #[.val (.int p1)] [(.int (5 : Int32)), (.int p1)]))
          by_cases hc9 : p1 = (5 : Int32)
          · skip
            rw [(show (own_ex_38 p1 A) = (A 4) from if_pos hc9)]
            refine own_go (fun t k => XS.icmpNo X0.here hx rfl (hb hby d3_38) rfl (teq hc9).2 k) ?_
            show own_Fin p e below _ (s₁.setTop (mkF m 41 #[.val (.int p1)] []))
            obtain ⟨T10, X10, e10, st10⟩ := getS2 X0 hx hZ hown (host := "") (Or.inl hw_42) Via.refl e0 HS.2.2.2.2.1 (g := (mkF m 41 #[.val (.int p1)] [])) rfl (hb hby d3_41)
            refine own_go st10 ?_
            show own_Fin p e below _ (T10.setTop (mkF m 44 #[.val (.int p1)] [(.ref (A 4))]))
            exact own_out X10 (fun h => by rw [Bd.returns] at h; cases h) Bd.notSynchronized (fun fs hr => retOut X10 hx Bd.returns rfl (Or.inr (Or.inr (Or.inr (Or.inr ⟨rfl, rfl, rfl⟩)))) (hb hby d3_44) hr) ⟨rfl, N0, e10⟩ (by decide) (by decide)
          · skip
            rw [(show (own_ex_38 p1 A) = (A 5) from if_neg hc9)]
            refine own_go (fun t k => XS.icmpYes X0.here hx rfl (pc0 := 38) (pc' := 45) rfl (hb hby d3_38) rfl (feq hc9).2 (by decide) (by decide) k) ?_
            show own_Fin p e below _ (s₁.setTop (mkF m 45 #[.val (.int p1)] []))
            obtain ⟨T11, X11, e11, st11⟩ := getS2 X0 hx hZ hown (host := "") (Or.inl hw_41) Via.refl e0 HS.2.2.2.2.2 (g := (mkF m 45 #[.val (.int p1)] [])) rfl (hb hby d3_45)
            refine own_go st11 ?_
            show own_Fin p e below _ (T11.setTop (mkF m 48 #[.val (.int p1)] [(.ref (A 5))]))
            exact own_out X11 (fun h => by rw [Bd.returns] at h; cases h) Bd.notSynchronized (fun fs hr => retOut X11 hx Bd.returns rfl (Or.inr (Or.inr (Or.inr (Or.inr ⟨rfl, rfl, rfl⟩)))) (hb hby d3_48) hr) ⟨rfl, N0, e11⟩ (by decide) (by decide)
theorem d4_0 : decode prog_23_method_4_code 0 = .ok (.aload_n 0, 1) := by decide +kernel
theorem d4_1 : decode prog_23_method_4_code 1 = .ok (.getfield 41, 3) := by decide +kernel
theorem d4_4 : decode prog_23_method_4_code 4 = .ok (.ireturn, 1) := by decide +kernel
theorem ef_4 (m : MethodId) (x0 : Addr)  : entryFrame m #[(.ref x0)] 1 = mkF m 0 #[.val (.ref x0)] [] := by first | (simp [entryFrame, mkF, argsToLocals, Value.category]; done) | rfl
set_option maxRecDepth 65536 in
set_option maxHeartbeats 40000000 in
theorem rm4 (l : Launch) (Z : State) (a0 : Array Value) (hw : ∀ d ∈ tables_1, d.before a0 Z = true) (ws : List Jvm.Cond) (a1 : Addr) (w1 : Int32) (h0 : Heap) (n0 : Nat) (Z0 : n0 ≤ h0.size) (F_1 : Fld Z h0 a1 "com/example/palimpsest/palimpsest/chain/TransactionType" "code" "I" (.int w1)) :
    MetFree l (⟨"com/example/palimpsest/palimpsest/chain/TransactionType", "code", "()I"⟩ : MethodName) (head1 (Jvm.Cond.code (⟨"com/example/palimpsest/palimpsest/chain/TransactionType", "code", "()I"⟩ : MethodName) prog_23_method_4_code 1 (some .int) :: ws) ({ frames := 0, cells := 0, slots := 0, locals := 0 } : Room)) (fun a U => a = #[(.ref a1)] ∧ Z.Warmed39 U.vm ∧ U.heap = h0) (fun _ _ _ _ _ => True) (fun _ U o U' => ∃ v L, o = .returned v ∧ (own_P h0 n0 (.int w1)) v U'.heap L ∧ FrameEnd U o U' L ({ frames := 0, cells := 0, slots := 0, locals := 0 } : Room).cells ({ frames := 0, cells := 0, slots := 0, locals := 0 } : Room).slots) := by
  refine MetFree.of_bodySF (plainFor_of_name pn_0) hisR ?_
  intro p e s m args below meth c s₁ Bd hml0 hP hK
  obtain ⟨rfl, hZ, hh⟩ := hP
  have hx := Bd.exec
  have hby := Bd.bytes
  have hml : c.maxLocals = 1 := hml0
  have hown : s.vm.findClass "com/example/palimpsest/palimpsest/chain/TransactionType" = some m.cls := findClass_of_methodNamed Bd.named
  have hnm := (name_of_methodNamed Bd.named Bd.method).1
  have X0 : Stand p l e ({ frames := 0, cells := 0, slots := 0, locals := 0 } : Room) s m #[(.ref a1)] below meth c s₁ [] 0 0 := Stand.of_body Bd
  have e0 : s₁.heap = h0 := by rw [← hh, Bd.state]; rfl
  have N0 := Fr.nil n0
  have hw_26 := hw _ (List.mem_of_getElem? (i := 26) rfl)
  show own_Fin p e below (own_A s ({ frames := 0, cells := 0, slots := 0, locals := 0 } : Room).cells ({ frames := 0, cells := 0, slots := 0, locals := 0 } : Room).slots (own_P h0 n0 (.int w1))) _
  refine own_go (fun t k => castTop (ef_4 m (a1)) k) ?_
  show own_Fin p e below _ (s₁.setTop (mkF m 0 #[.val (.ref a1)] []))
  refine own_go (fun t k => XS.aloadN X0.here hx rfl (hb hby d4_0) rfl rfl  k) ?_
  show own_Fin p e below _ (s₁.setTop (mkF m 1 #[.val (.ref a1)] [(.ref a1)]))
  obtain ⟨T1, X1, e1, st1⟩ := getF X0 hx hZ hown (host := "") (Or.inl hw_26) Via.refl e0 F_1 (g := (mkF m 1 #[.val (.ref a1)] [(.ref a1)])) rfl rfl (hb hby d4_1)
  refine own_go st1 ?_
  show own_Fin p e below _ (T1.setTop (mkF m 4 #[.val (.ref a1)] [(.int w1)]))
  exact own_out X1 (fun h => by rw [Bd.returns] at h; cases h) Bd.notSynchronized (fun fs hr => retI X1 hx Bd.returns (hb hby d4_4) hr) ⟨rfl, N0, e1⟩ (by decide) (by decide)
theorem own_fldI {s : State} {args : Array Value} {t : Term} {C n d : String} {k : Int32} {a : Addr} (ht : t.eval args s none [] s = some (.ref a)) (h : (Jvm.Cond.eq (.field t C n d) (.int k)).value args s none s [] = some true) : Fld s s.heap a C n d (.int k) := by
  refine Fld.start ?_
  obtain ⟨x, y, h1, h2, h3, h4⟩ := cmp_v (Or.inl h)
  rw [fld_at ht] at h1
  have e2 : y = .int k := (Option.some.inj h2).symm
  subst e2
  obtain ⟨z, rfl⟩ := (h4 : ∃ z, x = .int z)
  have h5 : (Jvm.Cond.eq (.field t C n d) (.int k)).value args s none s [] = some (decide (z = k)) := by
    simp only [Jvm.Cond.value, Term.eval, ht]
    simp [h1]
  rw [h5] at h
  have h6 : z = k := by simpa using h
  rw [h1, h6]
theorem own_fldN {s : State} {args : Array Value} {t : Term} {C n d : String} {a : Addr} (ht : t.eval args s none [] s = some (.ref a)) (h : (Jvm.Cond.eq (.field t C n d) .null).value args s none s [] = some true) : Fld s s.heap a C n d .null := Fld.start (by rw [← fld_at ht]; exact null_v h)
theorem own_fldR {s : State} {args : Array Value} {t : Term} {C n d : String} {a b : Addr} (ht : t.eval args s none [] s = some (.ref a)) (h : (Term.field t C n d).eval args s none [] s = some (.ref b)) : Fld s s.heap a C n d (.ref b) := Fld.start (by rw [← fld_at ht]; exact h)

theorem own_six (p1 : Int32) : (((p1 &&& (2147483647 : Int32)) % (6 : Int32)) + (1 : Int32)) = (1 : Int32) ∨ (((p1 &&& (2147483647 : Int32)) % (6 : Int32)) + (1 : Int32)) = (2 : Int32) ∨ (((p1 &&& (2147483647 : Int32)) % (6 : Int32)) + (1 : Int32)) = (3 : Int32) ∨ (((p1 &&& (2147483647 : Int32)) % (6 : Int32)) + (1 : Int32)) = (4 : Int32) ∨ (((p1 &&& (2147483647 : Int32)) % (6 : Int32)) + (1 : Int32)) = (5 : Int32) ∨ (((p1 &&& (2147483647 : Int32)) % (6 : Int32)) + (1 : Int32)) = (6 : Int32) := by
  have a := c_mask p1 2147483647 31 (by decide) (by decide)
  have b := (c_irem (p1 &&& (2147483647 : Int32)) 6 6 rfl).1 (by omega)
  have c := c_iadd ((p1 &&& (2147483647 : Int32)) % (6 : Int32)) 1
  have r := rng32 (((p1 &&& (2147483647 : Int32)) % (6 : Int32)) + (1 : Int32))
  have e1 : (1 : Int32).toInt = 1 := rfl
  have e2 : (2 : Int32).toInt = 2 := rfl
  have e3 : (3 : Int32).toInt = 3 := rfl
  have e4 : (4 : Int32).toInt = 4 := rfl
  have e5 : (5 : Int32).toInt = 5 := rfl
  have e6 : (6 : Int32).toInt = 6 := rfl
  simp only [← Int32.toInt_inj]
  omega
theorem own_len {s : State} {args : Array Value} {t : Term} {v : Addr} {cl : Cell} {ty : FieldType} {k : Int32} (Ar : Arr s s.heap v cl ty) (vv : t.eval args s none [] s = some (.ref v)) (h : (Jvm.Cond.eq (.length t) (.int k)).value args s none s [] = some true) : cl.slots.size < 2 ^ 31 ∧ cl.slots.size.toInt32 = k := by
  have ha : s.arrayAt? v = some cl := Ar.fin (Vm.Alike.refl _)
  obtain ⟨x, y, h1, h2, h3, h4⟩ := cmp_v (Or.inl h)
  have hl : cl.slots.size < 2 ^ 31 := by
    by_cases q : cl.slots.size < 2 ^ 31
    · exact q
    · simp [Term.eval, vv, ha] at h1; omega
  have e := Cond.eq_ints (len_f vv ha hl) (Term.int_eval k) (o := none) (first := s)
  rw [e] at h
  exact ⟨hl, by simpa using h⟩
theorem own_elem {s : State} {args : Array Value} {t u : Term} {v a : Addr} {cl : Cell} {ty : FieldType} {j : Int32} (Ar : Arr s s.heap v cl ty) (vv : t.eval args s none [] s = some (.ref v)) (va : u.eval args s none [] s = some (.ref a)) (h : (Jvm.Cond.eq (.elem t (.int j)) u).value args s none s [] = some true) : cl.slots[j.toNatClampNeg]? = some (.ref a) := by
  obtain ⟨x, y, h1, h2, h3, h4⟩ := cmp_v (Or.inl h)
  have q := (elem_in h1 vv (Term.int_eval j) Ar.1).2
  cases h2.symm.trans va
  have hr : x.isRef = true := (h4 : Value.isRef _ = true ∧ x.isRef = true).2
  have e := eq_R h1 va hr rfl
  rw [e] at h
  have e2 : x = .ref a := by simpa using h
  rw [q, e2]

theorem pd_1 : parseMethodDescriptor "(I)Lcom/example/palimpsest/palimpsest/chain/TransactionType;" = some ⟨[.int], some (.object "com/example/palimpsest/palimpsest/chain/TransactionType")⟩ := by decide +kernel
theorem pd_2 : parseMethodDescriptor "()I" = some ⟨[], some .int⟩ := by decide +kernel
theorem ef_0 (m : MethodId) (x0 : Int32)  : entryFrame m #[(.int x0)] maxLocals = mkF m 0 #[.val (.int x0), .unset, .unset, .unset] [] := by first | (simp [entryFrame, mkF, argsToLocals, Value.category, maxLocals]; done) | rfl
def own_q0 (Z : State) (p1 : Int32) (A : Nat → Addr) (va : Addr) (k1 : ClassId) (h0 : Heap) (n0 : Nat) (v : Option Value) (h : Heap) (L : List Loc) : Prop := v = some (.int (1 : Int32)) ∧ Fr n0 L
set_option maxRecDepth 65536 in
set_option maxHeartbeats 40000000 in
theorem rm0 (l : Launch) (Z : State) (a0 : Array Value) (hw : ∀ d ∈ tables_1, d.before a0 Z = true) (ws : List Jvm.Cond) (p1 : Int32) (A : Nat → Addr) (va : Addr) (k1 : ClassId) (h0 : Heap) (n0 : Nat) (Z0 : n0 ≤ h0.size) (S_v : Sta Z h0 "com/example/palimpsest/palimpsest/chain/TransactionType" "$VALUES" "[Lcom/example/palimpsest/palimpsest/chain/TransactionType;" (.ref va)) (V_v : Arv Z h0 va k1 (.object "com/example/palimpsest/palimpsest/chain/TransactionType") (6 : Int32) [(.ref (A 0)), (.ref (A 1)), (.ref (A 2)), (.ref (A 3)), (.ref (A 4)), (.ref (A 5))] .null) (X_v : Exa Z h0 va "[Lcom/example/palimpsest/palimpsest/chain/TransactionType;") (F_0 : Fld Z h0 (A 0) "com/example/palimpsest/palimpsest/chain/TransactionType" "code" "I" (.int (1 : Int32))) (F_1 : Fld Z h0 (A 1) "com/example/palimpsest/palimpsest/chain/TransactionType" "code" "I" (.int (2 : Int32))) (F_2 : Fld Z h0 (A 2) "com/example/palimpsest/palimpsest/chain/TransactionType" "code" "I" (.int (3 : Int32))) (F_3 : Fld Z h0 (A 3) "com/example/palimpsest/palimpsest/chain/TransactionType" "code" "I" (.int (4 : Int32))) (F_4 : Fld Z h0 (A 4) "com/example/palimpsest/palimpsest/chain/TransactionType" "code" "I" (.int (5 : Int32))) (F_5 : Fld Z h0 (A 5) "com/example/palimpsest/palimpsest/chain/TransactionType" "code" "I" (.int (6 : Int32))) (HS : own_St Z h0 A) (E_0 : Exa Z h0 (A 0) "com/example/palimpsest/palimpsest/chain/TransactionType") (E_1 : Exa Z h0 (A 1) "com/example/palimpsest/palimpsest/chain/TransactionType") (E_2 : Exa Z h0 (A 2) "com/example/palimpsest/palimpsest/chain/TransactionType") (E_3 : Exa Z h0 (A 3) "com/example/palimpsest/palimpsest/chain/TransactionType") (E_4 : Exa Z h0 (A 4) "com/example/palimpsest/palimpsest/chain/TransactionType") (E_5 : Exa Z h0 (A 5) "com/example/palimpsest/palimpsest/chain/TransactionType") :
    MetFree l x (head1 (Jvm.Cond.code x code maxLocals ret :: ws) room_1) (fun a U => a = #[(.int p1)] ∧ Z.Warmed39 U.vm ∧ U.heap = h0) (fun _ _ _ _ _ => True) (fun _ U o U' => ∃ v L, o = .returned v ∧ (own_q0 Z p1 A va k1 h0 n0) v U'.heap L ∧ FrameEnd U o U' L room_1.cells room_1.slots) := by
  refine MetFree.of_bodySF (plainFor_of_name pn_1) hisR ?_
  intro p e s m args below meth c s₁ Bd hml0 hP hK
  obtain ⟨rfl, hZ, hh⟩ := hP
  have hx := Bd.exec
  have hby := Bd.bytes
  have hml : c.maxLocals = 4 := hml0
  have hown : s.vm.findClass "com/example/palimpsest/palimpsest/chain/TransactionTypeOfCodePinLaw" = some m.cls := findClass_of_methodNamed Bd.named
  have hnm := (name_of_methodNamed Bd.named Bd.method).1
  have X0 : Stand p l e room_1 s m #[(.int p1)] below meth c s₁ [] 0 0 := Stand.of_body Bd
  have e0 : s₁.heap = h0 := by rw [← hh, Bd.state]; rfl
  have N0 := Fr.nil n0
  have hw_0 := hw _ (List.mem_of_getElem? (i := 0) rfl)
  have hw_1 := hw _ (List.mem_of_getElem? (i := 1) rfl)
  have hw_2 := hw _ (List.mem_of_getElem? (i := 2) rfl)
  have hw_3 := hw _ (List.mem_of_getElem? (i := 3) rfl)
  have hw_4 := hw _ (List.mem_of_getElem? (i := 4) rfl)
  have hw_28 := hw _ (List.mem_of_getElem? (i := 28) rfl)
  have hw_29 := hw _ (List.mem_of_getElem? (i := 29) rfl)
  have hw_30 := hw _ (List.mem_of_getElem? (i := 30) rfl)
  have hw_31 := hw _ (List.mem_of_getElem? (i := 31) rfl)
  have hw_33 := hw _ (List.mem_of_getElem? (i := 33) rfl)
  have hw_34 := hw _ (List.mem_of_getElem? (i := 34) rfl)
  have hw_35 := hw _ (List.mem_of_getElem? (i := 35) rfl)
  have hw_36 := hw _ (List.mem_of_getElem? (i := 36) rfl)
  have hw_37 := hw _ (List.mem_of_getElem? (i := 37) rfl)
  show own_Fin p e below (own_A s room_1.cells room_1.slots (own_q0 Z p1 A va k1 h0 n0)) _
  refine own_go (fun t k => castTop (ef_0 m (p1)) k) ?_
  show own_Fin p e below _ (s₁.setTop (mkF m 0 #[.val (.int p1), .unset, .unset, .unset] []))
  refine own_go (fun t k => XS.iloadN X0.here hx rfl (hb hby at_0) rfl  k) ?_
  show own_Fin p e below _ (s₁.setTop (mkF m 1 #[.val (.int p1), .unset, .unset, .unset] [(.int p1)]))
  refine own_go (fun t k => X0.ldcInt hx hown (mvT hZ hw_0) (g := (mkF m 1 #[.val (.int p1), .unset, .unset, .unset] [(.int p1)])) rfl (hb hby at_1) _ (XS.iand X0.here hx rfl (hb hby at_3) rfl (XS.bipush X0.here hx rfl (hb hby at_4) (iremM X0 hx rfl (hb hby at_6) rfl (by decide) k)))) ?_
  show own_Fin p e below _ (s₁.setTop (mkF m 7 #[.val (.int p1), .unset, .unset, .unset] [(.int ((p1 &&& (2147483647 : Int32)) % (6 : Int32)))]))
  refine own_go (fun t k => XS.iconst X0.here hx rfl (hb hby at_7) (XS.iadd X0.here hx rfl (hb hby at_8) rfl k)) ?_
  show own_Fin p e below _ (s₁.setTop (mkF m 9 #[.val (.int p1), .unset, .unset, .unset] [(.int (((p1 &&& (2147483647 : Int32)) % (6 : Int32)) + (1 : Int32)))]))
  rcases own_six p1 with h | h | h | h | h | h
  · skip
    rw [h]
    show own_Fin p e below _ (s₁.setTop (mkF m 9 #[.val (.int p1), .unset, .unset, .unset] [(.int (1 : Int32))]))
    refine own_go (fun t k => XS.istoreN X0.here hx rfl (hb hby at_9) rfl (l' := #[.val (.int p1), .val (.int (1 : Int32)), .unset, .unset]) rfl (XS.iloadN X0.here hx rfl (hb hby at_10) rfl  k)) ?_
    show own_Fin p e below _ (s₁.setTop (mkF m 11 #[.val (.int p1), .val (.int (1 : Int32)), .unset, .unset] [(.int (1 : Int32))]))
    obtain ⟨_, _, ⟨T1, L1, k1, n1⟩, -, X1, ⟨Lc1, hQ1, l1, y1, z1⟩, st1⟩ := Jvm.LawKit.callS X0 hx (y := (⟨"com/example/palimpsest/palimpsest/chain/TransactionType", "ofCode", "(I)Lcom/example/palimpsest/palimpsest/chain/TransactionType;"⟩ : MethodName)) hown (mvT hZ hw_1) (mvT hZ hw_2) (mvT hZ hw_3) (mvT hZ hw_4) (by decide) (backOf (W := 0) (rm1k0 l Z a0 hw []  A va k1 h0 n0 Z0 S_v V_v X_v F_0 F_1 F_2 F_3 F_4 F_5) hZ hw_4 hw_3 (by decide) (by decide)) (g := (mkF m 11 #[.val (.int p1), .val (.int (1 : Int32)), .unset, .unset] [(.int (1 : Int32))])) rfl (by rw [hml]; rfl) (argsL := [(.int (1 : Int32))]) (rest := []) (lenOf pd_1 rfl) rfl (by show 2 * 0 + _ ≤ _; exact Nat.le_of_eq rfl) (hb hby at_11) (fun _ _ => ⟨rfl, e0, (by decide : 0 + 1 ≤ _), (by decide : 0 + 6 ≤ _)⟩)
    dsimp only [Pt.U, Pt.locs, Pt.cells, Pt.slots] at X1 l1 y1 z1 st1 hQ1
    subst l1 y1 z1
    obtain ⟨rfl, N1q, K1⟩ := hQ1
    have N1 := Fr.app N0 N1q
    have E1 : Ext _ _ := ⟨K1.1, fun a c q => K1.2.1 a c q nin0⟩
    have HS1 := HS.ext E1
    have f2 := S_v.ext E1
    have f3 := V_v.ext E1
    have f4 := X_v.ext E1
    have f5 := F_0.ext E1
    have f6 := F_1.ext E1
    have f7 := F_2.ext E1
    have f8 := F_3.ext E1
    have f9 := F_4.ext E1
    have f10 := F_5.ext E1
    have f11 := E_0.ext E1
    have f12 := E_1.ext E1
    have f13 := E_2.ext E1
    have f14 := E_3.ext E1
    have f15 := E_4.ext E1
    have f16 := E_5.ext E1
    have Zh17 : n0 ≤ T1.heap.size := Nat.le_trans Z0 K1.1
    refine own_go st1 ?_
    show own_Fin p e below _ (T1.setTop (mkF m 14 #[.val (.int p1), .val (.int (1 : Int32)), .unset, .unset] [(.ref (A 0))]))
    refine own_go (fun t k => XS.astoreN X1.here hx rfl (hb hby at_14) rfl rfl (l' := #[.val (.int p1), .val (.int (1 : Int32)), .val (.ref (A 0)), .unset]) rfl (XS.iloadN X1.here hx rfl (hb hby at_15) rfl  k)) ?_
    show own_Fin p e below _ (T1.setTop (mkF m 16 #[.val (.int p1), .val (.int (1 : Int32)), .val (.ref (A 0)), .unset] [(.int (1 : Int32))]))
    obtain ⟨_, _, ⟨T18, L18, k18, n18⟩, -, X18, ⟨Lc18, hQ18, l18, y18, z18⟩, st18⟩ := Jvm.LawKit.callS X1 hx (y := (⟨"com/example/palimpsest/palimpsest/chain/TransactionTypeOfCodePinLaw", "expected", "(I)Lcom/example/palimpsest/palimpsest/chain/TransactionType;"⟩ : MethodName)) hown (mvT hZ hw_28) (mvT hZ hw_29) (mvT hZ hw_30) (mvT hZ hw_31) (by decide) (backOf (W := 0) (rm3 l Z a0 hw [] ((1 : Int32)) A T1.heap n0 Zh17 HS1) hZ hw_31 hw_30 (by decide) (by decide)) (g := (mkF m 16 #[.val (.int p1), .val (.int (1 : Int32)), .val (.ref (A 0)), .unset] [(.int (1 : Int32))])) rfl (by rw [hml]; rfl) (argsL := [(.int (1 : Int32))]) (rest := []) (lenOf pd_1 rfl) rfl (by show 2 * 0 + _ ≤ _; exact Nat.le_of_eq rfl) (hb hby at_16) (fun _ _ => ⟨rfl, rfl, (by decide : 1 + 0 ≤ _), (by decide : 6 + 0 ≤ _)⟩)
    dsimp only [Pt.U, Pt.locs, Pt.cells, Pt.slots] at X18 l18 y18 z18 st18 hQ18
    subst l18 y18 z18
    obtain ⟨rfl, N18q, e18⟩ := hQ18
    have N18 := Fr.app N1 N18q
    refine own_go st18 ?_
    show own_Fin p e below _ (T18.setTop (mkF m 19 #[.val (.int p1), .val (.int (1 : Int32)), .val (.ref (A 0)), .unset] [(.ref (A 0))]))
    refine own_go (fun t k => XS.astoreN X18.here hx rfl (hb hby at_19) rfl rfl (l' := #[.val (.int p1), .val (.int (1 : Int32)), .val (.ref (A 0)), .val (.ref (A 0))]) rfl (XS.aloadN X18.here hx rfl (hb hby at_20) rfl rfl  (XS.aloadN X18.here hx rfl (hb hby at_21) rfl rfl  k))) ?_
    show own_Fin p e below _ (T18.setTop (mkF m 22 #[.val (.int p1), .val (.int (1 : Int32)), .val (.ref (A 0)), .val (.ref (A 0))] [(.ref (A 0)), (.ref (A 0))]))
    refine own_go (fun t k => Jvm.RoadKit.acmp (g := (mkF m 22 #[.val (.int p1), .val (.int (1 : Int32)), .val (.ref (A 0)), .val (.ref (A 0))] [(.ref (A 0)), (.ref (A 0))])) X18 hx rfl rfl rfl (pc0 := 22) (pc' := 25) (same := true) rfl (hb hby at_22) rfl (decide_eq_true rfl) (by decide) (by decide) (XS.aloadN X18.here hx rfl (hb hby at_25) rfl rfl  k)) ?_
    show own_Fin p e below _ (T18.setTop (mkF m 26 #[.val (.int p1), .val (.int (1 : Int32)), .val (.ref (A 0)), .val (.ref (A 0))] [(.ref (A 0))]))
    obtain ⟨cq19, kq19, q19a, q19b, q19c⟩ := isOf hZ e18 f11
    obtain ⟨_, _, ⟨T19, L19, k19, n19⟩, -, X19, ⟨Lc19, hQ19, l19, y19, z19⟩, st19⟩ := X18.virtualBack hx (y := (⟨"com/example/palimpsest/palimpsest/chain/TransactionType", "code", "()I"⟩ : MethodName)) (z := (⟨"com/example/palimpsest/palimpsest/chain/TransactionType", "code", "()I"⟩ : MethodName)) hown (mvT hZ hw_33) (mvT hZ hw_34) (notFace_of_selects (args := #[]) (mvT hZ hw_36)) (mvT hZ hw_36) (mvT hZ hw_35) (by decide) (backOf (W := 0) (rm4 l Z a0 hw [] ((A 0)) (1 : Int32) T1.heap n0 Zh17 f5) hZ hw_37 hw_3 (by decide) (by decide)) q19a q19c (g := (mkF m 26 #[.val (.int p1), .val (.int (1 : Int32)), .val (.ref (A 0)), .val (.ref (A 0))] [(.ref (A 0))])) rfl (by rw [hml]; rfl) (Steps.refl _) (argsL := []) (rest := []) (lenOf pd_2 rfl) rfl (by show 2 * 0 + _ ≤ _; exact Nat.le_of_eq rfl) (hb hby at_26) (fun _ _ => ⟨rfl, e18, (by decide : 1 + 0 ≤ _), (by decide : 6 + 0 ≤ _)⟩)
    dsimp only [Pt.U, Pt.locs, Pt.cells, Pt.slots] at X19 l19 y19 z19 st19 hQ19
    subst l19 y19 z19
    obtain ⟨rfl, N19q, e19⟩ := hQ19
    have N19 := Fr.app N18 N19q
    refine own_go (fun t k => st19.trans k) ?_
    show own_Fin p e below _ (T19.setTop (mkF m 29 #[.val (.int p1), .val (.int (1 : Int32)), .val (.ref (A 0)), .val (.ref (A 0))] [(.int (1 : Int32))]))
    refine own_go (fun t k => XS.iloadN X19.here hx rfl (hb hby at_29) rfl  k) ?_
    show own_Fin p e below _ (T19.setTop (mkF m 30 #[.val (.int p1), .val (.int (1 : Int32)), .val (.ref (A 0)), .val (.ref (A 0))] [(.int (1 : Int32)), (.int (1 : Int32))]))
    refine own_go (fun t k => XS.icmpNo X19.here hx rfl (hb hby at_30) rfl (teq (by decide : (1 : Int32) = (1 : Int32))).2 (XS.iconst X19.here hx rfl (hb hby at_33) (XS.goto X19.here hx rfl (pc0 := 34) (pc' := 38) rfl (hb hby at_34) (by decide) (by decide) k))) ?_
    show own_Fin p e below _ (T19.setTop (mkF m 38 #[.val (.int p1), .val (.int (1 : Int32)), .val (.ref (A 0)), .val (.ref (A 0))] [(.int (1 : Int32))]))
    exact own_out X19 (fun h => by rw [Bd.returns] at h; cases h) Bd.notSynchronized (fun fs hr => retN X19 hx (t := .boolean) Bd.returns (by simp) (hb hby at_38) hr) ⟨rfl, N19⟩ (by decide) (by decide)
  · skip
    rw [h]
    show own_Fin p e below _ (s₁.setTop (mkF m 9 #[.val (.int p1), .unset, .unset, .unset] [(.int (2 : Int32))]))
    refine own_go (fun t k => XS.istoreN X0.here hx rfl (hb hby at_9) rfl (l' := #[.val (.int p1), .val (.int (2 : Int32)), .unset, .unset]) rfl (XS.iloadN X0.here hx rfl (hb hby at_10) rfl  k)) ?_
    show own_Fin p e below _ (s₁.setTop (mkF m 11 #[.val (.int p1), .val (.int (2 : Int32)), .unset, .unset] [(.int (2 : Int32))]))
    obtain ⟨_, _, ⟨T20, L20, k20, n20⟩, -, X20, ⟨Lc20, hQ20, l20, y20, z20⟩, st20⟩ := Jvm.LawKit.callS X0 hx (y := (⟨"com/example/palimpsest/palimpsest/chain/TransactionType", "ofCode", "(I)Lcom/example/palimpsest/palimpsest/chain/TransactionType;"⟩ : MethodName)) hown (mvT hZ hw_1) (mvT hZ hw_2) (mvT hZ hw_3) (mvT hZ hw_4) (by decide) (backOf (W := 0) (rm1k1 l Z a0 hw []  A va k1 h0 n0 Z0 S_v V_v X_v F_0 F_1 F_2 F_3 F_4 F_5) hZ hw_4 hw_3 (by decide) (by decide)) (g := (mkF m 11 #[.val (.int p1), .val (.int (2 : Int32)), .unset, .unset] [(.int (2 : Int32))])) rfl (by rw [hml]; rfl) (argsL := [(.int (2 : Int32))]) (rest := []) (lenOf pd_1 rfl) rfl (by show 2 * 0 + _ ≤ _; exact Nat.le_of_eq rfl) (hb hby at_11) (fun _ _ => ⟨rfl, e0, (by decide : 0 + 1 ≤ _), (by decide : 0 + 6 ≤ _)⟩)
    dsimp only [Pt.U, Pt.locs, Pt.cells, Pt.slots] at X20 l20 y20 z20 st20 hQ20
    subst l20 y20 z20
    obtain ⟨rfl, N20q, K20⟩ := hQ20
    have N20 := Fr.app N0 N20q
    have E20 : Ext _ _ := ⟨K20.1, fun a c q => K20.2.1 a c q nin0⟩
    have HS20 := HS.ext E20
    have f21 := S_v.ext E20
    have f22 := V_v.ext E20
    have f23 := X_v.ext E20
    have f24 := F_0.ext E20
    have f25 := F_1.ext E20
    have f26 := F_2.ext E20
    have f27 := F_3.ext E20
    have f28 := F_4.ext E20
    have f29 := F_5.ext E20
    have f30 := E_0.ext E20
    have f31 := E_1.ext E20
    have f32 := E_2.ext E20
    have f33 := E_3.ext E20
    have f34 := E_4.ext E20
    have f35 := E_5.ext E20
    have Zh36 : n0 ≤ T20.heap.size := Nat.le_trans Z0 K20.1
    refine own_go st20 ?_
    show own_Fin p e below _ (T20.setTop (mkF m 14 #[.val (.int p1), .val (.int (2 : Int32)), .unset, .unset] [(.ref (A 1))]))
    refine own_go (fun t k => XS.astoreN X20.here hx rfl (hb hby at_14) rfl rfl (l' := #[.val (.int p1), .val (.int (2 : Int32)), .val (.ref (A 1)), .unset]) rfl (XS.iloadN X20.here hx rfl (hb hby at_15) rfl  k)) ?_
    show own_Fin p e below _ (T20.setTop (mkF m 16 #[.val (.int p1), .val (.int (2 : Int32)), .val (.ref (A 1)), .unset] [(.int (2 : Int32))]))
    obtain ⟨_, _, ⟨T37, L37, k37, n37⟩, -, X37, ⟨Lc37, hQ37, l37, y37, z37⟩, st37⟩ := Jvm.LawKit.callS X20 hx (y := (⟨"com/example/palimpsest/palimpsest/chain/TransactionTypeOfCodePinLaw", "expected", "(I)Lcom/example/palimpsest/palimpsest/chain/TransactionType;"⟩ : MethodName)) hown (mvT hZ hw_28) (mvT hZ hw_29) (mvT hZ hw_30) (mvT hZ hw_31) (by decide) (backOf (W := 0) (rm3 l Z a0 hw [] ((2 : Int32)) A T20.heap n0 Zh36 HS20) hZ hw_31 hw_30 (by decide) (by decide)) (g := (mkF m 16 #[.val (.int p1), .val (.int (2 : Int32)), .val (.ref (A 1)), .unset] [(.int (2 : Int32))])) rfl (by rw [hml]; rfl) (argsL := [(.int (2 : Int32))]) (rest := []) (lenOf pd_1 rfl) rfl (by show 2 * 0 + _ ≤ _; exact Nat.le_of_eq rfl) (hb hby at_16) (fun _ _ => ⟨rfl, rfl, (by decide : 1 + 0 ≤ _), (by decide : 6 + 0 ≤ _)⟩)
    dsimp only [Pt.U, Pt.locs, Pt.cells, Pt.slots] at X37 l37 y37 z37 st37 hQ37
    subst l37 y37 z37
    obtain ⟨rfl, N37q, e37⟩ := hQ37
    have N37 := Fr.app N20 N37q
    refine own_go st37 ?_
    show own_Fin p e below _ (T37.setTop (mkF m 19 #[.val (.int p1), .val (.int (2 : Int32)), .val (.ref (A 1)), .unset] [(.ref (A 1))]))
    refine own_go (fun t k => XS.astoreN X37.here hx rfl (hb hby at_19) rfl rfl (l' := #[.val (.int p1), .val (.int (2 : Int32)), .val (.ref (A 1)), .val (.ref (A 1))]) rfl (XS.aloadN X37.here hx rfl (hb hby at_20) rfl rfl  (XS.aloadN X37.here hx rfl (hb hby at_21) rfl rfl  k))) ?_
    show own_Fin p e below _ (T37.setTop (mkF m 22 #[.val (.int p1), .val (.int (2 : Int32)), .val (.ref (A 1)), .val (.ref (A 1))] [(.ref (A 1)), (.ref (A 1))]))
    refine own_go (fun t k => Jvm.RoadKit.acmp (g := (mkF m 22 #[.val (.int p1), .val (.int (2 : Int32)), .val (.ref (A 1)), .val (.ref (A 1))] [(.ref (A 1)), (.ref (A 1))])) X37 hx rfl rfl rfl (pc0 := 22) (pc' := 25) (same := true) rfl (hb hby at_22) rfl (decide_eq_true rfl) (by decide) (by decide) (XS.aloadN X37.here hx rfl (hb hby at_25) rfl rfl  k)) ?_
    show own_Fin p e below _ (T37.setTop (mkF m 26 #[.val (.int p1), .val (.int (2 : Int32)), .val (.ref (A 1)), .val (.ref (A 1))] [(.ref (A 1))]))
    obtain ⟨cq38, kq38, q38a, q38b, q38c⟩ := isOf hZ e37 f31
    obtain ⟨_, _, ⟨T38, L38, k38, n38⟩, -, X38, ⟨Lc38, hQ38, l38, y38, z38⟩, st38⟩ := X37.virtualBack hx (y := (⟨"com/example/palimpsest/palimpsest/chain/TransactionType", "code", "()I"⟩ : MethodName)) (z := (⟨"com/example/palimpsest/palimpsest/chain/TransactionType", "code", "()I"⟩ : MethodName)) hown (mvT hZ hw_33) (mvT hZ hw_34) (notFace_of_selects (args := #[]) (mvT hZ hw_36)) (mvT hZ hw_36) (mvT hZ hw_35) (by decide) (backOf (W := 0) (rm4 l Z a0 hw [] ((A 1)) (2 : Int32) T20.heap n0 Zh36 f25) hZ hw_37 hw_3 (by decide) (by decide)) q38a q38c (g := (mkF m 26 #[.val (.int p1), .val (.int (2 : Int32)), .val (.ref (A 1)), .val (.ref (A 1))] [(.ref (A 1))])) rfl (by rw [hml]; rfl) (Steps.refl _) (argsL := []) (rest := []) (lenOf pd_2 rfl) rfl (by show 2 * 0 + _ ≤ _; exact Nat.le_of_eq rfl) (hb hby at_26) (fun _ _ => ⟨rfl, e37, (by decide : 1 + 0 ≤ _), (by decide : 6 + 0 ≤ _)⟩)
    dsimp only [Pt.U, Pt.locs, Pt.cells, Pt.slots] at X38 l38 y38 z38 st38 hQ38
    subst l38 y38 z38
    obtain ⟨rfl, N38q, e38⟩ := hQ38
    have N38 := Fr.app N37 N38q
    refine own_go (fun t k => st38.trans k) ?_
    show own_Fin p e below _ (T38.setTop (mkF m 29 #[.val (.int p1), .val (.int (2 : Int32)), .val (.ref (A 1)), .val (.ref (A 1))] [(.int (2 : Int32))]))
    refine own_go (fun t k => XS.iloadN X38.here hx rfl (hb hby at_29) rfl  k) ?_
    show own_Fin p e below _ (T38.setTop (mkF m 30 #[.val (.int p1), .val (.int (2 : Int32)), .val (.ref (A 1)), .val (.ref (A 1))] [(.int (2 : Int32)), (.int (2 : Int32))]))
    refine own_go (fun t k => XS.icmpNo X38.here hx rfl (hb hby at_30) rfl (teq (by decide : (2 : Int32) = (2 : Int32))).2 (XS.iconst X38.here hx rfl (hb hby at_33) (XS.goto X38.here hx rfl (pc0 := 34) (pc' := 38) rfl (hb hby at_34) (by decide) (by decide) k))) ?_
    show own_Fin p e below _ (T38.setTop (mkF m 38 #[.val (.int p1), .val (.int (2 : Int32)), .val (.ref (A 1)), .val (.ref (A 1))] [(.int (1 : Int32))]))
    exact own_out X38 (fun h => by rw [Bd.returns] at h; cases h) Bd.notSynchronized (fun fs hr => retN X38 hx (t := .boolean) Bd.returns (by simp) (hb hby at_38) hr) ⟨rfl, N38⟩ (by decide) (by decide)
  · skip
    rw [h]
    show own_Fin p e below _ (s₁.setTop (mkF m 9 #[.val (.int p1), .unset, .unset, .unset] [(.int (3 : Int32))]))
    refine own_go (fun t k => XS.istoreN X0.here hx rfl (hb hby at_9) rfl (l' := #[.val (.int p1), .val (.int (3 : Int32)), .unset, .unset]) rfl (XS.iloadN X0.here hx rfl (hb hby at_10) rfl  k)) ?_
    show own_Fin p e below _ (s₁.setTop (mkF m 11 #[.val (.int p1), .val (.int (3 : Int32)), .unset, .unset] [(.int (3 : Int32))]))
    obtain ⟨_, _, ⟨T39, L39, k39, n39⟩, -, X39, ⟨Lc39, hQ39, l39, y39, z39⟩, st39⟩ := Jvm.LawKit.callS X0 hx (y := (⟨"com/example/palimpsest/palimpsest/chain/TransactionType", "ofCode", "(I)Lcom/example/palimpsest/palimpsest/chain/TransactionType;"⟩ : MethodName)) hown (mvT hZ hw_1) (mvT hZ hw_2) (mvT hZ hw_3) (mvT hZ hw_4) (by decide) (backOf (W := 0) (rm1k2 l Z a0 hw []  A va k1 h0 n0 Z0 S_v V_v X_v F_0 F_1 F_2 F_3 F_4 F_5) hZ hw_4 hw_3 (by decide) (by decide)) (g := (mkF m 11 #[.val (.int p1), .val (.int (3 : Int32)), .unset, .unset] [(.int (3 : Int32))])) rfl (by rw [hml]; rfl) (argsL := [(.int (3 : Int32))]) (rest := []) (lenOf pd_1 rfl) rfl (by show 2 * 0 + _ ≤ _; exact Nat.le_of_eq rfl) (hb hby at_11) (fun _ _ => ⟨rfl, e0, (by decide : 0 + 1 ≤ _), (by decide : 0 + 6 ≤ _)⟩)
    dsimp only [Pt.U, Pt.locs, Pt.cells, Pt.slots] at X39 l39 y39 z39 st39 hQ39
    subst l39 y39 z39
    obtain ⟨rfl, N39q, K39⟩ := hQ39
    have N39 := Fr.app N0 N39q
    have E39 : Ext _ _ := ⟨K39.1, fun a c q => K39.2.1 a c q nin0⟩
    have HS39 := HS.ext E39
    have f40 := S_v.ext E39
    have f41 := V_v.ext E39
    have f42 := X_v.ext E39
    have f43 := F_0.ext E39
    have f44 := F_1.ext E39
    have f45 := F_2.ext E39
    have f46 := F_3.ext E39
    have f47 := F_4.ext E39
    have f48 := F_5.ext E39
    have f49 := E_0.ext E39
    have f50 := E_1.ext E39
    have f51 := E_2.ext E39
    have f52 := E_3.ext E39
    have f53 := E_4.ext E39
    have f54 := E_5.ext E39
    have Zh55 : n0 ≤ T39.heap.size := Nat.le_trans Z0 K39.1
    refine own_go st39 ?_
    show own_Fin p e below _ (T39.setTop (mkF m 14 #[.val (.int p1), .val (.int (3 : Int32)), .unset, .unset] [(.ref (A 2))]))
    refine own_go (fun t k => XS.astoreN X39.here hx rfl (hb hby at_14) rfl rfl (l' := #[.val (.int p1), .val (.int (3 : Int32)), .val (.ref (A 2)), .unset]) rfl (XS.iloadN X39.here hx rfl (hb hby at_15) rfl  k)) ?_
    show own_Fin p e below _ (T39.setTop (mkF m 16 #[.val (.int p1), .val (.int (3 : Int32)), .val (.ref (A 2)), .unset] [(.int (3 : Int32))]))
    obtain ⟨_, _, ⟨T56, L56, k56, n56⟩, -, X56, ⟨Lc56, hQ56, l56, y56, z56⟩, st56⟩ := Jvm.LawKit.callS X39 hx (y := (⟨"com/example/palimpsest/palimpsest/chain/TransactionTypeOfCodePinLaw", "expected", "(I)Lcom/example/palimpsest/palimpsest/chain/TransactionType;"⟩ : MethodName)) hown (mvT hZ hw_28) (mvT hZ hw_29) (mvT hZ hw_30) (mvT hZ hw_31) (by decide) (backOf (W := 0) (rm3 l Z a0 hw [] ((3 : Int32)) A T39.heap n0 Zh55 HS39) hZ hw_31 hw_30 (by decide) (by decide)) (g := (mkF m 16 #[.val (.int p1), .val (.int (3 : Int32)), .val (.ref (A 2)), .unset] [(.int (3 : Int32))])) rfl (by rw [hml]; rfl) (argsL := [(.int (3 : Int32))]) (rest := []) (lenOf pd_1 rfl) rfl (by show 2 * 0 + _ ≤ _; exact Nat.le_of_eq rfl) (hb hby at_16) (fun _ _ => ⟨rfl, rfl, (by decide : 1 + 0 ≤ _), (by decide : 6 + 0 ≤ _)⟩)
    dsimp only [Pt.U, Pt.locs, Pt.cells, Pt.slots] at X56 l56 y56 z56 st56 hQ56
    subst l56 y56 z56
    obtain ⟨rfl, N56q, e56⟩ := hQ56
    have N56 := Fr.app N39 N56q
    refine own_go st56 ?_
    show own_Fin p e below _ (T56.setTop (mkF m 19 #[.val (.int p1), .val (.int (3 : Int32)), .val (.ref (A 2)), .unset] [(.ref (A 2))]))
    refine own_go (fun t k => XS.astoreN X56.here hx rfl (hb hby at_19) rfl rfl (l' := #[.val (.int p1), .val (.int (3 : Int32)), .val (.ref (A 2)), .val (.ref (A 2))]) rfl (XS.aloadN X56.here hx rfl (hb hby at_20) rfl rfl  (XS.aloadN X56.here hx rfl (hb hby at_21) rfl rfl  k))) ?_
    show own_Fin p e below _ (T56.setTop (mkF m 22 #[.val (.int p1), .val (.int (3 : Int32)), .val (.ref (A 2)), .val (.ref (A 2))] [(.ref (A 2)), (.ref (A 2))]))
    refine own_go (fun t k => Jvm.RoadKit.acmp (g := (mkF m 22 #[.val (.int p1), .val (.int (3 : Int32)), .val (.ref (A 2)), .val (.ref (A 2))] [(.ref (A 2)), (.ref (A 2))])) X56 hx rfl rfl rfl (pc0 := 22) (pc' := 25) (same := true) rfl (hb hby at_22) rfl (decide_eq_true rfl) (by decide) (by decide) (XS.aloadN X56.here hx rfl (hb hby at_25) rfl rfl  k)) ?_
    show own_Fin p e below _ (T56.setTop (mkF m 26 #[.val (.int p1), .val (.int (3 : Int32)), .val (.ref (A 2)), .val (.ref (A 2))] [(.ref (A 2))]))
    obtain ⟨cq57, kq57, q57a, q57b, q57c⟩ := isOf hZ e56 f51
    obtain ⟨_, _, ⟨T57, L57, k57, n57⟩, -, X57, ⟨Lc57, hQ57, l57, y57, z57⟩, st57⟩ := X56.virtualBack hx (y := (⟨"com/example/palimpsest/palimpsest/chain/TransactionType", "code", "()I"⟩ : MethodName)) (z := (⟨"com/example/palimpsest/palimpsest/chain/TransactionType", "code", "()I"⟩ : MethodName)) hown (mvT hZ hw_33) (mvT hZ hw_34) (notFace_of_selects (args := #[]) (mvT hZ hw_36)) (mvT hZ hw_36) (mvT hZ hw_35) (by decide) (backOf (W := 0) (rm4 l Z a0 hw [] ((A 2)) (3 : Int32) T39.heap n0 Zh55 f45) hZ hw_37 hw_3 (by decide) (by decide)) q57a q57c (g := (mkF m 26 #[.val (.int p1), .val (.int (3 : Int32)), .val (.ref (A 2)), .val (.ref (A 2))] [(.ref (A 2))])) rfl (by rw [hml]; rfl) (Steps.refl _) (argsL := []) (rest := []) (lenOf pd_2 rfl) rfl (by show 2 * 0 + _ ≤ _; exact Nat.le_of_eq rfl) (hb hby at_26) (fun _ _ => ⟨rfl, e56, (by decide : 1 + 0 ≤ _), (by decide : 6 + 0 ≤ _)⟩)
    dsimp only [Pt.U, Pt.locs, Pt.cells, Pt.slots] at X57 l57 y57 z57 st57 hQ57
    subst l57 y57 z57
    obtain ⟨rfl, N57q, e57⟩ := hQ57
    have N57 := Fr.app N56 N57q
    refine own_go (fun t k => st57.trans k) ?_
    show own_Fin p e below _ (T57.setTop (mkF m 29 #[.val (.int p1), .val (.int (3 : Int32)), .val (.ref (A 2)), .val (.ref (A 2))] [(.int (3 : Int32))]))
    refine own_go (fun t k => XS.iloadN X57.here hx rfl (hb hby at_29) rfl  k) ?_
    show own_Fin p e below _ (T57.setTop (mkF m 30 #[.val (.int p1), .val (.int (3 : Int32)), .val (.ref (A 2)), .val (.ref (A 2))] [(.int (3 : Int32)), (.int (3 : Int32))]))
    refine own_go (fun t k => XS.icmpNo X57.here hx rfl (hb hby at_30) rfl (teq (by decide : (3 : Int32) = (3 : Int32))).2 (XS.iconst X57.here hx rfl (hb hby at_33) (XS.goto X57.here hx rfl (pc0 := 34) (pc' := 38) rfl (hb hby at_34) (by decide) (by decide) k))) ?_
    show own_Fin p e below _ (T57.setTop (mkF m 38 #[.val (.int p1), .val (.int (3 : Int32)), .val (.ref (A 2)), .val (.ref (A 2))] [(.int (1 : Int32))]))
    exact own_out X57 (fun h => by rw [Bd.returns] at h; cases h) Bd.notSynchronized (fun fs hr => retN X57 hx (t := .boolean) Bd.returns (by simp) (hb hby at_38) hr) ⟨rfl, N57⟩ (by decide) (by decide)
  · skip
    rw [h]
    show own_Fin p e below _ (s₁.setTop (mkF m 9 #[.val (.int p1), .unset, .unset, .unset] [(.int (4 : Int32))]))
    refine own_go (fun t k => XS.istoreN X0.here hx rfl (hb hby at_9) rfl (l' := #[.val (.int p1), .val (.int (4 : Int32)), .unset, .unset]) rfl (XS.iloadN X0.here hx rfl (hb hby at_10) rfl  k)) ?_
    show own_Fin p e below _ (s₁.setTop (mkF m 11 #[.val (.int p1), .val (.int (4 : Int32)), .unset, .unset] [(.int (4 : Int32))]))
    obtain ⟨_, _, ⟨T58, L58, k58, n58⟩, -, X58, ⟨Lc58, hQ58, l58, y58, z58⟩, st58⟩ := Jvm.LawKit.callS X0 hx (y := (⟨"com/example/palimpsest/palimpsest/chain/TransactionType", "ofCode", "(I)Lcom/example/palimpsest/palimpsest/chain/TransactionType;"⟩ : MethodName)) hown (mvT hZ hw_1) (mvT hZ hw_2) (mvT hZ hw_3) (mvT hZ hw_4) (by decide) (backOf (W := 0) (rm1k3 l Z a0 hw []  A va k1 h0 n0 Z0 S_v V_v X_v F_0 F_1 F_2 F_3 F_4 F_5) hZ hw_4 hw_3 (by decide) (by decide)) (g := (mkF m 11 #[.val (.int p1), .val (.int (4 : Int32)), .unset, .unset] [(.int (4 : Int32))])) rfl (by rw [hml]; rfl) (argsL := [(.int (4 : Int32))]) (rest := []) (lenOf pd_1 rfl) rfl (by show 2 * 0 + _ ≤ _; exact Nat.le_of_eq rfl) (hb hby at_11) (fun _ _ => ⟨rfl, e0, (by decide : 0 + 1 ≤ _), (by decide : 0 + 6 ≤ _)⟩)
    dsimp only [Pt.U, Pt.locs, Pt.cells, Pt.slots] at X58 l58 y58 z58 st58 hQ58
    subst l58 y58 z58
    obtain ⟨rfl, N58q, K58⟩ := hQ58
    have N58 := Fr.app N0 N58q
    have E58 : Ext _ _ := ⟨K58.1, fun a c q => K58.2.1 a c q nin0⟩
    have HS58 := HS.ext E58
    have f59 := S_v.ext E58
    have f60 := V_v.ext E58
    have f61 := X_v.ext E58
    have f62 := F_0.ext E58
    have f63 := F_1.ext E58
    have f64 := F_2.ext E58
    have f65 := F_3.ext E58
    have f66 := F_4.ext E58
    have f67 := F_5.ext E58
    have f68 := E_0.ext E58
    have f69 := E_1.ext E58
    have f70 := E_2.ext E58
    have f71 := E_3.ext E58
    have f72 := E_4.ext E58
    have f73 := E_5.ext E58
    have Zh74 : n0 ≤ T58.heap.size := Nat.le_trans Z0 K58.1
    refine own_go st58 ?_
    show own_Fin p e below _ (T58.setTop (mkF m 14 #[.val (.int p1), .val (.int (4 : Int32)), .unset, .unset] [(.ref (A 3))]))
    refine own_go (fun t k => XS.astoreN X58.here hx rfl (hb hby at_14) rfl rfl (l' := #[.val (.int p1), .val (.int (4 : Int32)), .val (.ref (A 3)), .unset]) rfl (XS.iloadN X58.here hx rfl (hb hby at_15) rfl  k)) ?_
    show own_Fin p e below _ (T58.setTop (mkF m 16 #[.val (.int p1), .val (.int (4 : Int32)), .val (.ref (A 3)), .unset] [(.int (4 : Int32))]))
    obtain ⟨_, _, ⟨T75, L75, k75, n75⟩, -, X75, ⟨Lc75, hQ75, l75, y75, z75⟩, st75⟩ := Jvm.LawKit.callS X58 hx (y := (⟨"com/example/palimpsest/palimpsest/chain/TransactionTypeOfCodePinLaw", "expected", "(I)Lcom/example/palimpsest/palimpsest/chain/TransactionType;"⟩ : MethodName)) hown (mvT hZ hw_28) (mvT hZ hw_29) (mvT hZ hw_30) (mvT hZ hw_31) (by decide) (backOf (W := 0) (rm3 l Z a0 hw [] ((4 : Int32)) A T58.heap n0 Zh74 HS58) hZ hw_31 hw_30 (by decide) (by decide)) (g := (mkF m 16 #[.val (.int p1), .val (.int (4 : Int32)), .val (.ref (A 3)), .unset] [(.int (4 : Int32))])) rfl (by rw [hml]; rfl) (argsL := [(.int (4 : Int32))]) (rest := []) (lenOf pd_1 rfl) rfl (by show 2 * 0 + _ ≤ _; exact Nat.le_of_eq rfl) (hb hby at_16) (fun _ _ => ⟨rfl, rfl, (by decide : 1 + 0 ≤ _), (by decide : 6 + 0 ≤ _)⟩)
    dsimp only [Pt.U, Pt.locs, Pt.cells, Pt.slots] at X75 l75 y75 z75 st75 hQ75
    subst l75 y75 z75
    obtain ⟨rfl, N75q, e75⟩ := hQ75
    have N75 := Fr.app N58 N75q
    refine own_go st75 ?_
    show own_Fin p e below _ (T75.setTop (mkF m 19 #[.val (.int p1), .val (.int (4 : Int32)), .val (.ref (A 3)), .unset] [(.ref (A 3))]))
    refine own_go (fun t k => XS.astoreN X75.here hx rfl (hb hby at_19) rfl rfl (l' := #[.val (.int p1), .val (.int (4 : Int32)), .val (.ref (A 3)), .val (.ref (A 3))]) rfl (XS.aloadN X75.here hx rfl (hb hby at_20) rfl rfl  (XS.aloadN X75.here hx rfl (hb hby at_21) rfl rfl  k))) ?_
    show own_Fin p e below _ (T75.setTop (mkF m 22 #[.val (.int p1), .val (.int (4 : Int32)), .val (.ref (A 3)), .val (.ref (A 3))] [(.ref (A 3)), (.ref (A 3))]))
    refine own_go (fun t k => Jvm.RoadKit.acmp (g := (mkF m 22 #[.val (.int p1), .val (.int (4 : Int32)), .val (.ref (A 3)), .val (.ref (A 3))] [(.ref (A 3)), (.ref (A 3))])) X75 hx rfl rfl rfl (pc0 := 22) (pc' := 25) (same := true) rfl (hb hby at_22) rfl (decide_eq_true rfl) (by decide) (by decide) (XS.aloadN X75.here hx rfl (hb hby at_25) rfl rfl  k)) ?_
    show own_Fin p e below _ (T75.setTop (mkF m 26 #[.val (.int p1), .val (.int (4 : Int32)), .val (.ref (A 3)), .val (.ref (A 3))] [(.ref (A 3))]))
    obtain ⟨cq76, kq76, q76a, q76b, q76c⟩ := isOf hZ e75 f71
    obtain ⟨_, _, ⟨T76, L76, k76, n76⟩, -, X76, ⟨Lc76, hQ76, l76, y76, z76⟩, st76⟩ := X75.virtualBack hx (y := (⟨"com/example/palimpsest/palimpsest/chain/TransactionType", "code", "()I"⟩ : MethodName)) (z := (⟨"com/example/palimpsest/palimpsest/chain/TransactionType", "code", "()I"⟩ : MethodName)) hown (mvT hZ hw_33) (mvT hZ hw_34) (notFace_of_selects (args := #[]) (mvT hZ hw_36)) (mvT hZ hw_36) (mvT hZ hw_35) (by decide) (backOf (W := 0) (rm4 l Z a0 hw [] ((A 3)) (4 : Int32) T58.heap n0 Zh74 f65) hZ hw_37 hw_3 (by decide) (by decide)) q76a q76c (g := (mkF m 26 #[.val (.int p1), .val (.int (4 : Int32)), .val (.ref (A 3)), .val (.ref (A 3))] [(.ref (A 3))])) rfl (by rw [hml]; rfl) (Steps.refl _) (argsL := []) (rest := []) (lenOf pd_2 rfl) rfl (by show 2 * 0 + _ ≤ _; exact Nat.le_of_eq rfl) (hb hby at_26) (fun _ _ => ⟨rfl, e75, (by decide : 1 + 0 ≤ _), (by decide : 6 + 0 ≤ _)⟩)
    dsimp only [Pt.U, Pt.locs, Pt.cells, Pt.slots] at X76 l76 y76 z76 st76 hQ76
    subst l76 y76 z76
    obtain ⟨rfl, N76q, e76⟩ := hQ76
    have N76 := Fr.app N75 N76q
    refine own_go (fun t k => st76.trans k) ?_
    show own_Fin p e below _ (T76.setTop (mkF m 29 #[.val (.int p1), .val (.int (4 : Int32)), .val (.ref (A 3)), .val (.ref (A 3))] [(.int (4 : Int32))]))
    refine own_go (fun t k => XS.iloadN X76.here hx rfl (hb hby at_29) rfl  k) ?_
    show own_Fin p e below _ (T76.setTop (mkF m 30 #[.val (.int p1), .val (.int (4 : Int32)), .val (.ref (A 3)), .val (.ref (A 3))] [(.int (4 : Int32)), (.int (4 : Int32))]))
    refine own_go (fun t k => XS.icmpNo X76.here hx rfl (hb hby at_30) rfl (teq (by decide : (4 : Int32) = (4 : Int32))).2 (XS.iconst X76.here hx rfl (hb hby at_33) (XS.goto X76.here hx rfl (pc0 := 34) (pc' := 38) rfl (hb hby at_34) (by decide) (by decide) k))) ?_
    show own_Fin p e below _ (T76.setTop (mkF m 38 #[.val (.int p1), .val (.int (4 : Int32)), .val (.ref (A 3)), .val (.ref (A 3))] [(.int (1 : Int32))]))
    exact own_out X76 (fun h => by rw [Bd.returns] at h; cases h) Bd.notSynchronized (fun fs hr => retN X76 hx (t := .boolean) Bd.returns (by simp) (hb hby at_38) hr) ⟨rfl, N76⟩ (by decide) (by decide)
  · skip
    rw [h]
    show own_Fin p e below _ (s₁.setTop (mkF m 9 #[.val (.int p1), .unset, .unset, .unset] [(.int (5 : Int32))]))
    refine own_go (fun t k => XS.istoreN X0.here hx rfl (hb hby at_9) rfl (l' := #[.val (.int p1), .val (.int (5 : Int32)), .unset, .unset]) rfl (XS.iloadN X0.here hx rfl (hb hby at_10) rfl  k)) ?_
    show own_Fin p e below _ (s₁.setTop (mkF m 11 #[.val (.int p1), .val (.int (5 : Int32)), .unset, .unset] [(.int (5 : Int32))]))
    obtain ⟨_, _, ⟨T77, L77, k77, n77⟩, -, X77, ⟨Lc77, hQ77, l77, y77, z77⟩, st77⟩ := Jvm.LawKit.callS X0 hx (y := (⟨"com/example/palimpsest/palimpsest/chain/TransactionType", "ofCode", "(I)Lcom/example/palimpsest/palimpsest/chain/TransactionType;"⟩ : MethodName)) hown (mvT hZ hw_1) (mvT hZ hw_2) (mvT hZ hw_3) (mvT hZ hw_4) (by decide) (backOf (W := 0) (rm1k4 l Z a0 hw []  A va k1 h0 n0 Z0 S_v V_v X_v F_0 F_1 F_2 F_3 F_4 F_5) hZ hw_4 hw_3 (by decide) (by decide)) (g := (mkF m 11 #[.val (.int p1), .val (.int (5 : Int32)), .unset, .unset] [(.int (5 : Int32))])) rfl (by rw [hml]; rfl) (argsL := [(.int (5 : Int32))]) (rest := []) (lenOf pd_1 rfl) rfl (by show 2 * 0 + _ ≤ _; exact Nat.le_of_eq rfl) (hb hby at_11) (fun _ _ => ⟨rfl, e0, (by decide : 0 + 1 ≤ _), (by decide : 0 + 6 ≤ _)⟩)
    dsimp only [Pt.U, Pt.locs, Pt.cells, Pt.slots] at X77 l77 y77 z77 st77 hQ77
    subst l77 y77 z77
    obtain ⟨rfl, N77q, K77⟩ := hQ77
    have N77 := Fr.app N0 N77q
    have E77 : Ext _ _ := ⟨K77.1, fun a c q => K77.2.1 a c q nin0⟩
    have HS77 := HS.ext E77
    have f78 := S_v.ext E77
    have f79 := V_v.ext E77
    have f80 := X_v.ext E77
    have f81 := F_0.ext E77
    have f82 := F_1.ext E77
    have f83 := F_2.ext E77
    have f84 := F_3.ext E77
    have f85 := F_4.ext E77
    have f86 := F_5.ext E77
    have f87 := E_0.ext E77
    have f88 := E_1.ext E77
    have f89 := E_2.ext E77
    have f90 := E_3.ext E77
    have f91 := E_4.ext E77
    have f92 := E_5.ext E77
    have Zh93 : n0 ≤ T77.heap.size := Nat.le_trans Z0 K77.1
    refine own_go st77 ?_
    show own_Fin p e below _ (T77.setTop (mkF m 14 #[.val (.int p1), .val (.int (5 : Int32)), .unset, .unset] [(.ref (A 4))]))
    refine own_go (fun t k => XS.astoreN X77.here hx rfl (hb hby at_14) rfl rfl (l' := #[.val (.int p1), .val (.int (5 : Int32)), .val (.ref (A 4)), .unset]) rfl (XS.iloadN X77.here hx rfl (hb hby at_15) rfl  k)) ?_
    show own_Fin p e below _ (T77.setTop (mkF m 16 #[.val (.int p1), .val (.int (5 : Int32)), .val (.ref (A 4)), .unset] [(.int (5 : Int32))]))
    obtain ⟨_, _, ⟨T94, L94, k94, n94⟩, -, X94, ⟨Lc94, hQ94, l94, y94, z94⟩, st94⟩ := Jvm.LawKit.callS X77 hx (y := (⟨"com/example/palimpsest/palimpsest/chain/TransactionTypeOfCodePinLaw", "expected", "(I)Lcom/example/palimpsest/palimpsest/chain/TransactionType;"⟩ : MethodName)) hown (mvT hZ hw_28) (mvT hZ hw_29) (mvT hZ hw_30) (mvT hZ hw_31) (by decide) (backOf (W := 0) (rm3 l Z a0 hw [] ((5 : Int32)) A T77.heap n0 Zh93 HS77) hZ hw_31 hw_30 (by decide) (by decide)) (g := (mkF m 16 #[.val (.int p1), .val (.int (5 : Int32)), .val (.ref (A 4)), .unset] [(.int (5 : Int32))])) rfl (by rw [hml]; rfl) (argsL := [(.int (5 : Int32))]) (rest := []) (lenOf pd_1 rfl) rfl (by show 2 * 0 + _ ≤ _; exact Nat.le_of_eq rfl) (hb hby at_16) (fun _ _ => ⟨rfl, rfl, (by decide : 1 + 0 ≤ _), (by decide : 6 + 0 ≤ _)⟩)
    dsimp only [Pt.U, Pt.locs, Pt.cells, Pt.slots] at X94 l94 y94 z94 st94 hQ94
    subst l94 y94 z94
    obtain ⟨rfl, N94q, e94⟩ := hQ94
    have N94 := Fr.app N77 N94q
    refine own_go st94 ?_
    show own_Fin p e below _ (T94.setTop (mkF m 19 #[.val (.int p1), .val (.int (5 : Int32)), .val (.ref (A 4)), .unset] [(.ref (A 4))]))
    refine own_go (fun t k => XS.astoreN X94.here hx rfl (hb hby at_19) rfl rfl (l' := #[.val (.int p1), .val (.int (5 : Int32)), .val (.ref (A 4)), .val (.ref (A 4))]) rfl (XS.aloadN X94.here hx rfl (hb hby at_20) rfl rfl  (XS.aloadN X94.here hx rfl (hb hby at_21) rfl rfl  k))) ?_
    show own_Fin p e below _ (T94.setTop (mkF m 22 #[.val (.int p1), .val (.int (5 : Int32)), .val (.ref (A 4)), .val (.ref (A 4))] [(.ref (A 4)), (.ref (A 4))]))
    refine own_go (fun t k => Jvm.RoadKit.acmp (g := (mkF m 22 #[.val (.int p1), .val (.int (5 : Int32)), .val (.ref (A 4)), .val (.ref (A 4))] [(.ref (A 4)), (.ref (A 4))])) X94 hx rfl rfl rfl (pc0 := 22) (pc' := 25) (same := true) rfl (hb hby at_22) rfl (decide_eq_true rfl) (by decide) (by decide) (XS.aloadN X94.here hx rfl (hb hby at_25) rfl rfl  k)) ?_
    show own_Fin p e below _ (T94.setTop (mkF m 26 #[.val (.int p1), .val (.int (5 : Int32)), .val (.ref (A 4)), .val (.ref (A 4))] [(.ref (A 4))]))
    obtain ⟨cq95, kq95, q95a, q95b, q95c⟩ := isOf hZ e94 f91
    obtain ⟨_, _, ⟨T95, L95, k95, n95⟩, -, X95, ⟨Lc95, hQ95, l95, y95, z95⟩, st95⟩ := X94.virtualBack hx (y := (⟨"com/example/palimpsest/palimpsest/chain/TransactionType", "code", "()I"⟩ : MethodName)) (z := (⟨"com/example/palimpsest/palimpsest/chain/TransactionType", "code", "()I"⟩ : MethodName)) hown (mvT hZ hw_33) (mvT hZ hw_34) (notFace_of_selects (args := #[]) (mvT hZ hw_36)) (mvT hZ hw_36) (mvT hZ hw_35) (by decide) (backOf (W := 0) (rm4 l Z a0 hw [] ((A 4)) (5 : Int32) T77.heap n0 Zh93 f85) hZ hw_37 hw_3 (by decide) (by decide)) q95a q95c (g := (mkF m 26 #[.val (.int p1), .val (.int (5 : Int32)), .val (.ref (A 4)), .val (.ref (A 4))] [(.ref (A 4))])) rfl (by rw [hml]; rfl) (Steps.refl _) (argsL := []) (rest := []) (lenOf pd_2 rfl) rfl (by show 2 * 0 + _ ≤ _; exact Nat.le_of_eq rfl) (hb hby at_26) (fun _ _ => ⟨rfl, e94, (by decide : 1 + 0 ≤ _), (by decide : 6 + 0 ≤ _)⟩)
    dsimp only [Pt.U, Pt.locs, Pt.cells, Pt.slots] at X95 l95 y95 z95 st95 hQ95
    subst l95 y95 z95
    obtain ⟨rfl, N95q, e95⟩ := hQ95
    have N95 := Fr.app N94 N95q
    refine own_go (fun t k => st95.trans k) ?_
    show own_Fin p e below _ (T95.setTop (mkF m 29 #[.val (.int p1), .val (.int (5 : Int32)), .val (.ref (A 4)), .val (.ref (A 4))] [(.int (5 : Int32))]))
    refine own_go (fun t k => XS.iloadN X95.here hx rfl (hb hby at_29) rfl  k) ?_
    show own_Fin p e below _ (T95.setTop (mkF m 30 #[.val (.int p1), .val (.int (5 : Int32)), .val (.ref (A 4)), .val (.ref (A 4))] [(.int (5 : Int32)), (.int (5 : Int32))]))
    refine own_go (fun t k => XS.icmpNo X95.here hx rfl (hb hby at_30) rfl (teq (by decide : (5 : Int32) = (5 : Int32))).2 (XS.iconst X95.here hx rfl (hb hby at_33) (XS.goto X95.here hx rfl (pc0 := 34) (pc' := 38) rfl (hb hby at_34) (by decide) (by decide) k))) ?_
    show own_Fin p e below _ (T95.setTop (mkF m 38 #[.val (.int p1), .val (.int (5 : Int32)), .val (.ref (A 4)), .val (.ref (A 4))] [(.int (1 : Int32))]))
    exact own_out X95 (fun h => by rw [Bd.returns] at h; cases h) Bd.notSynchronized (fun fs hr => retN X95 hx (t := .boolean) Bd.returns (by simp) (hb hby at_38) hr) ⟨rfl, N95⟩ (by decide) (by decide)
  · skip
    rw [h]
    show own_Fin p e below _ (s₁.setTop (mkF m 9 #[.val (.int p1), .unset, .unset, .unset] [(.int (6 : Int32))]))
    refine own_go (fun t k => XS.istoreN X0.here hx rfl (hb hby at_9) rfl (l' := #[.val (.int p1), .val (.int (6 : Int32)), .unset, .unset]) rfl (XS.iloadN X0.here hx rfl (hb hby at_10) rfl  k)) ?_
    show own_Fin p e below _ (s₁.setTop (mkF m 11 #[.val (.int p1), .val (.int (6 : Int32)), .unset, .unset] [(.int (6 : Int32))]))
    obtain ⟨_, _, ⟨T96, L96, k96, n96⟩, -, X96, ⟨Lc96, hQ96, l96, y96, z96⟩, st96⟩ := Jvm.LawKit.callS X0 hx (y := (⟨"com/example/palimpsest/palimpsest/chain/TransactionType", "ofCode", "(I)Lcom/example/palimpsest/palimpsest/chain/TransactionType;"⟩ : MethodName)) hown (mvT hZ hw_1) (mvT hZ hw_2) (mvT hZ hw_3) (mvT hZ hw_4) (by decide) (backOf (W := 0) (rm1k5 l Z a0 hw []  A va k1 h0 n0 Z0 S_v V_v X_v F_0 F_1 F_2 F_3 F_4 F_5) hZ hw_4 hw_3 (by decide) (by decide)) (g := (mkF m 11 #[.val (.int p1), .val (.int (6 : Int32)), .unset, .unset] [(.int (6 : Int32))])) rfl (by rw [hml]; rfl) (argsL := [(.int (6 : Int32))]) (rest := []) (lenOf pd_1 rfl) rfl (by show 2 * 0 + _ ≤ _; exact Nat.le_of_eq rfl) (hb hby at_11) (fun _ _ => ⟨rfl, e0, (by decide : 0 + 1 ≤ _), (by decide : 0 + 6 ≤ _)⟩)
    dsimp only [Pt.U, Pt.locs, Pt.cells, Pt.slots] at X96 l96 y96 z96 st96 hQ96
    subst l96 y96 z96
    obtain ⟨rfl, N96q, K96⟩ := hQ96
    have N96 := Fr.app N0 N96q
    have E96 : Ext _ _ := ⟨K96.1, fun a c q => K96.2.1 a c q nin0⟩
    have HS96 := HS.ext E96
    have f97 := S_v.ext E96
    have f98 := V_v.ext E96
    have f99 := X_v.ext E96
    have f100 := F_0.ext E96
    have f101 := F_1.ext E96
    have f102 := F_2.ext E96
    have f103 := F_3.ext E96
    have f104 := F_4.ext E96
    have f105 := F_5.ext E96
    have f106 := E_0.ext E96
    have f107 := E_1.ext E96
    have f108 := E_2.ext E96
    have f109 := E_3.ext E96
    have f110 := E_4.ext E96
    have f111 := E_5.ext E96
    have Zh112 : n0 ≤ T96.heap.size := Nat.le_trans Z0 K96.1
    refine own_go st96 ?_
    show own_Fin p e below _ (T96.setTop (mkF m 14 #[.val (.int p1), .val (.int (6 : Int32)), .unset, .unset] [(.ref (A 5))]))
    refine own_go (fun t k => XS.astoreN X96.here hx rfl (hb hby at_14) rfl rfl (l' := #[.val (.int p1), .val (.int (6 : Int32)), .val (.ref (A 5)), .unset]) rfl (XS.iloadN X96.here hx rfl (hb hby at_15) rfl  k)) ?_
    show own_Fin p e below _ (T96.setTop (mkF m 16 #[.val (.int p1), .val (.int (6 : Int32)), .val (.ref (A 5)), .unset] [(.int (6 : Int32))]))
    obtain ⟨_, _, ⟨T113, L113, k113, n113⟩, -, X113, ⟨Lc113, hQ113, l113, y113, z113⟩, st113⟩ := Jvm.LawKit.callS X96 hx (y := (⟨"com/example/palimpsest/palimpsest/chain/TransactionTypeOfCodePinLaw", "expected", "(I)Lcom/example/palimpsest/palimpsest/chain/TransactionType;"⟩ : MethodName)) hown (mvT hZ hw_28) (mvT hZ hw_29) (mvT hZ hw_30) (mvT hZ hw_31) (by decide) (backOf (W := 0) (rm3 l Z a0 hw [] ((6 : Int32)) A T96.heap n0 Zh112 HS96) hZ hw_31 hw_30 (by decide) (by decide)) (g := (mkF m 16 #[.val (.int p1), .val (.int (6 : Int32)), .val (.ref (A 5)), .unset] [(.int (6 : Int32))])) rfl (by rw [hml]; rfl) (argsL := [(.int (6 : Int32))]) (rest := []) (lenOf pd_1 rfl) rfl (by show 2 * 0 + _ ≤ _; exact Nat.le_of_eq rfl) (hb hby at_16) (fun _ _ => ⟨rfl, rfl, (by decide : 1 + 0 ≤ _), (by decide : 6 + 0 ≤ _)⟩)
    dsimp only [Pt.U, Pt.locs, Pt.cells, Pt.slots] at X113 l113 y113 z113 st113 hQ113
    subst l113 y113 z113
    obtain ⟨rfl, N113q, e113⟩ := hQ113
    have N113 := Fr.app N96 N113q
    refine own_go st113 ?_
    show own_Fin p e below _ (T113.setTop (mkF m 19 #[.val (.int p1), .val (.int (6 : Int32)), .val (.ref (A 5)), .unset] [(.ref (A 5))]))
    refine own_go (fun t k => XS.astoreN X113.here hx rfl (hb hby at_19) rfl rfl (l' := #[.val (.int p1), .val (.int (6 : Int32)), .val (.ref (A 5)), .val (.ref (A 5))]) rfl (XS.aloadN X113.here hx rfl (hb hby at_20) rfl rfl  (XS.aloadN X113.here hx rfl (hb hby at_21) rfl rfl  k))) ?_
    show own_Fin p e below _ (T113.setTop (mkF m 22 #[.val (.int p1), .val (.int (6 : Int32)), .val (.ref (A 5)), .val (.ref (A 5))] [(.ref (A 5)), (.ref (A 5))]))
    refine own_go (fun t k => Jvm.RoadKit.acmp (g := (mkF m 22 #[.val (.int p1), .val (.int (6 : Int32)), .val (.ref (A 5)), .val (.ref (A 5))] [(.ref (A 5)), (.ref (A 5))])) X113 hx rfl rfl rfl (pc0 := 22) (pc' := 25) (same := true) rfl (hb hby at_22) rfl (decide_eq_true rfl) (by decide) (by decide) (XS.aloadN X113.here hx rfl (hb hby at_25) rfl rfl  k)) ?_
    show own_Fin p e below _ (T113.setTop (mkF m 26 #[.val (.int p1), .val (.int (6 : Int32)), .val (.ref (A 5)), .val (.ref (A 5))] [(.ref (A 5))]))
    obtain ⟨cq114, kq114, q114a, q114b, q114c⟩ := isOf hZ e113 f111
    obtain ⟨_, _, ⟨T114, L114, k114, n114⟩, -, X114, ⟨Lc114, hQ114, l114, y114, z114⟩, st114⟩ := X113.virtualBack hx (y := (⟨"com/example/palimpsest/palimpsest/chain/TransactionType", "code", "()I"⟩ : MethodName)) (z := (⟨"com/example/palimpsest/palimpsest/chain/TransactionType", "code", "()I"⟩ : MethodName)) hown (mvT hZ hw_33) (mvT hZ hw_34) (notFace_of_selects (args := #[]) (mvT hZ hw_36)) (mvT hZ hw_36) (mvT hZ hw_35) (by decide) (backOf (W := 0) (rm4 l Z a0 hw [] ((A 5)) (6 : Int32) T96.heap n0 Zh112 f105) hZ hw_37 hw_3 (by decide) (by decide)) q114a q114c (g := (mkF m 26 #[.val (.int p1), .val (.int (6 : Int32)), .val (.ref (A 5)), .val (.ref (A 5))] [(.ref (A 5))])) rfl (by rw [hml]; rfl) (Steps.refl _) (argsL := []) (rest := []) (lenOf pd_2 rfl) rfl (by show 2 * 0 + _ ≤ _; exact Nat.le_of_eq rfl) (hb hby at_26) (fun _ _ => ⟨rfl, e113, (by decide : 1 + 0 ≤ _), (by decide : 6 + 0 ≤ _)⟩)
    dsimp only [Pt.U, Pt.locs, Pt.cells, Pt.slots] at X114 l114 y114 z114 st114 hQ114
    subst l114 y114 z114
    obtain ⟨rfl, N114q, e114⟩ := hQ114
    have N114 := Fr.app N113 N114q
    refine own_go (fun t k => st114.trans k) ?_
    show own_Fin p e below _ (T114.setTop (mkF m 29 #[.val (.int p1), .val (.int (6 : Int32)), .val (.ref (A 5)), .val (.ref (A 5))] [(.int (6 : Int32))]))
    refine own_go (fun t k => XS.iloadN X114.here hx rfl (hb hby at_29) rfl  k) ?_
    show own_Fin p e below _ (T114.setTop (mkF m 30 #[.val (.int p1), .val (.int (6 : Int32)), .val (.ref (A 5)), .val (.ref (A 5))] [(.int (6 : Int32)), (.int (6 : Int32))]))
    refine own_go (fun t k => XS.icmpNo X114.here hx rfl (hb hby at_30) rfl (teq (by decide : (6 : Int32) = (6 : Int32))).2 (XS.iconst X114.here hx rfl (hb hby at_33) (XS.goto X114.here hx rfl (pc0 := 34) (pc' := 38) rfl (hb hby at_34) (by decide) (by decide) k))) ?_
    show own_Fin p e below _ (T114.setTop (mkF m 38 #[.val (.int p1), .val (.int (6 : Int32)), .val (.ref (A 5)), .val (.ref (A 5))] [(.int (1 : Int32))]))
    exact own_out X114 (fun h => by rw [Bd.returns] at h; cases h) Bd.notSynchronized (fun fs hr => retN X114 hx (t := .boolean) Bd.returns (by simp) (hb hby at_38) hr) ⟨rfl, N114⟩ (by decide) (by decide)
set_option maxRecDepth 65536 in
set_option maxHeartbeats 40000000 in
theorem comes_1 {Post : Tables → Env → Array Value → State → Outcome → State → Prop} (hpost : ∀ tb e args s v u, (limb_1_1.after args s (.returned v) u = true ∧ limb_1_2.after args s (.returned v) u = true ∧ True) → FrameEnd s (.returned v) u (Jvm.fieldLocs frame_1_writes args s ++ Jvm.arrayLocs frame_1_arrays args s ++ Jvm.staticLocs frame_1_statics s) 16 128 → Post tb e args s (.returned v) u) :
    ArmFor flags0 classFile x code maxLocals ret World_1 tables_1 room_1 Calls_1 rest_1 Pre_1 Post := by
  intro l hfl _ _ p e ha hc hk s m args below hf hA hF happ hP
  obtain ⟨hcalls, hrest, hpre⟩ := hP
  obtain ⟨-, -, -, hnamed, -, -, -, hat⟩ := (Spec.applies_iff hf).mp happ
  obtain ⟨hg, hn⟩ := and_e (Cond.before_iff.mp (show (Jvm.Cond.and given_1 narrow_1).before args s = true from hpre))
  obtain ⟨g0, r0⟩ := and_e hg
  obtain ⟨w0, rfl⟩ : ∃ w0 : Value, args = #[w0] := by
    have hs : args.size = 1 := by simpa [Cond.value, given_1] using g0
    obtain ⟨L⟩ := args
    match L, hs with
    | [w0], _ => exact ⟨w0, rfl⟩
  have hw := fun d (hd : d ∈ tables_1) => atoms_spec (ws := Jvm.Cond.code x code maxLocals ret :: tables_1) hat d (List.mem_cons_of_mem _ hd)
  have hfit : Fit s := fun {y c} hc i hi => by
    obtain ⟨ha, rfl⟩ := Array.getElem?_eq_some_iff.mp hc
    have q := List.all_eq_true.mp ((Array.all_eq_true_iff_forall_mem.mp hF) _ (Array.getElem_mem ha)) i (List.mem_range.mpr hi)
    simpa [Array.getElem?_eq_getElem hi] using q
  obtain ⟨i0, ei0⟩ := is_v r0
  obtain rfl : w0 = (.int i0) := Option.some.inj ei0
  obtain ⟨n0, m0⟩ := and_e hn
  obtain ⟨n1, m1⟩ := and_e m0
  obtain ⟨n2, m2⟩ := and_e m1
  obtain ⟨n3, m3⟩ := and_e m2
  obtain ⟨n4, m4⟩ := and_e m3
  obtain ⟨n5, m5⟩ := and_e m4
  obtain ⟨n6, m6⟩ := and_e m5
  obtain ⟨n7, m7⟩ := and_e m6
  obtain ⟨n8, m8⟩ := and_e m7
  obtain ⟨n9, m9⟩ := and_e m8
  obtain ⟨n10, m10⟩ := and_e m9
  obtain ⟨n11, m11⟩ := and_e m10
  obtain ⟨n12, m12⟩ := and_e m11
  obtain ⟨n13, m13⟩ := and_e m12
  obtain ⟨n14, m14⟩ := and_e m13
  obtain ⟨n15, m15⟩ := and_e m14
  obtain ⟨n16, m16⟩ := and_e m15
  obtain ⟨n17, m17⟩ := and_e m16
  obtain ⟨n18, m18⟩ := and_e m17
  obtain ⟨n19, m19⟩ := and_e m18
  obtain ⟨a0, v0⟩ := exa_v n3
  obtain ⟨a1, v1⟩ := exa_v n5
  obtain ⟨a2, v2⟩ := exa_v n7
  obtain ⟨a3, v3⟩ := exa_v n9
  obtain ⟨a4, v4⟩ := exa_v n11
  obtain ⟨a5, v5⟩ := exa_v n13
  let A : Nat → Addr := fun k => [a0, a1, a2, a3, a4, a5].getD k 0
  have HS : own_St s s.heap A := ⟨Sta.start v0 (Or.inr ⟨(hw _ (List.mem_of_getElem? (i := 3) rfl)), (hw _ (List.mem_of_getElem? (i := 17) rfl))⟩), Sta.start v1 (Or.inr ⟨(hw _ (List.mem_of_getElem? (i := 3) rfl)), (hw _ (List.mem_of_getElem? (i := 18) rfl))⟩), Sta.start v2 (Or.inr ⟨(hw _ (List.mem_of_getElem? (i := 3) rfl)), (hw _ (List.mem_of_getElem? (i := 19) rfl))⟩), Sta.start v3 (Or.inr ⟨(hw _ (List.mem_of_getElem? (i := 3) rfl)), (hw _ (List.mem_of_getElem? (i := 20) rfl))⟩), Sta.start v4 (Or.inr ⟨(hw _ (List.mem_of_getElem? (i := 3) rfl)), (hw _ (List.mem_of_getElem? (i := 21) rfl))⟩), Sta.start v5 (Or.inr ⟨(hw _ (List.mem_of_getElem? (i := 3) rfl)), (hw _ (List.mem_of_getElem? (i := 22) rfl))⟩)⟩
  obtain ⟨va, vv⟩ := arr_v n0
  obtain ⟨cl, Ar⟩ := Arr.start vv n0
  have S_v := Sta.start vv (Or.inr ⟨(hw _ (List.mem_of_getElem? (i := 3) rfl)), (hw _ (List.mem_of_getElem? (i := 9) rfl))⟩)
  have X_v := Exa.start vv n1
  obtain ⟨ql, qe⟩ := own_len Ar vv n2
  have l0 := own_elem Ar vv v0 (j := (0 : Int32)) n4
  have l1 := own_elem Ar vv v1 (j := (1 : Int32)) n6
  have l2 := own_elem Ar vv v2 (j := (2 : Int32)) n8
  have l3 := own_elem Ar vv v3 (j := (3 : Int32)) n10
  have l4 := own_elem Ar vv v4 (j := (4 : Int32)) n12
  have l5 := own_elem Ar vv v5 (j := (5 : Int32)) n14
  have V_v : Arv s s.heap va cl.cls (.object "com/example/palimpsest/palimpsest/chain/TransactionType") (6 : Int32) [(.ref (A 0)), (.ref (A 1)), (.ref (A 2)), (.ref (A 3)), (.ref (A 4)), (.ref (A 5))] .null := Arv.start hfit Ar ql qe (by decide) rfl ⟨l0, l1, l2, l3, l4, l5, trivial⟩
  have F_0 : Fld s s.heap (A 0) "com/example/palimpsest/palimpsest/chain/TransactionType" "code" "I" (.int (1 : Int32)) := own_fldI v0 n15
  have E_0 : Exa s s.heap (A 0) "com/example/palimpsest/palimpsest/chain/TransactionType" := Exa.start v0 n3
  have F_1 : Fld s s.heap (A 1) "com/example/palimpsest/palimpsest/chain/TransactionType" "code" "I" (.int (2 : Int32)) := own_fldI v1 n16
  have E_1 : Exa s s.heap (A 1) "com/example/palimpsest/palimpsest/chain/TransactionType" := Exa.start v1 n5
  have F_2 : Fld s s.heap (A 2) "com/example/palimpsest/palimpsest/chain/TransactionType" "code" "I" (.int (3 : Int32)) := own_fldI v2 n17
  have E_2 : Exa s s.heap (A 2) "com/example/palimpsest/palimpsest/chain/TransactionType" := Exa.start v2 n7
  have F_3 : Fld s s.heap (A 3) "com/example/palimpsest/palimpsest/chain/TransactionType" "code" "I" (.int (4 : Int32)) := own_fldI v3 n18
  have E_3 : Exa s s.heap (A 3) "com/example/palimpsest/palimpsest/chain/TransactionType" := Exa.start v3 n9
  have F_4 : Fld s s.heap (A 4) "com/example/palimpsest/palimpsest/chain/TransactionType" "code" "I" (.int (5 : Int32)) := own_fldI v4 n19
  have E_4 : Exa s s.heap (A 4) "com/example/palimpsest/palimpsest/chain/TransactionType" := Exa.start v4 n11
  have F_5 : Fld s s.heap (A 5) "com/example/palimpsest/palimpsest/chain/TransactionType" "code" "I" (.int (6 : Int32)) := own_fldI v5 m19
  have E_5 : Exa s s.heap (A 5) "com/example/palimpsest/palimpsest/chain/TransactionType" := Exa.start v5 n13
  obtain ⟨n, o, h1, h2, h3, _, L, rfl, ⟨rfl, N⟩, hq⟩ := rm0 l s _ hw tables_1 i0 A va cl.cls s.heap s.heap.size (Nat.le_refl _) S_v V_v X_v F_0 F_1 F_2 F_3 F_4 F_5 HS E_0 E_1 E_2 E_3 E_4 E_5 p e ha hc hk s m _ below hf ((Spec.applies_iff_loose hf).mp happ).1 ⟨rfl, State.Warmed39.refl s, rfl⟩ trivial
  refine ⟨n, _, h1, h2, h3, hpost _ _ _ _ _ _ ⟨Cond.after_iff.mpr rfl, Cond.after_iff.mpr (eq_i res_at (Term.int_eval (1)) rfl), trivial⟩ ⟨hq.1, hq.2.1, (hq.2.2.sift fun y hy => Or.inr (N y hy)).mono (by decide) (by decide)⟩⟩
theorem main_1_1 : Claimed_1_1 := comes_1 fun _ _ _ _ _ _ h hF => ⟨h.1, hF⟩
theorem main_1_2 : Claimed_1_2 := comes_1 fun _ _ _ _ _ _ h hF => ⟨h.2.1, hF⟩
end Jvm.Pilot.@@N@@
namespace Jvm.Pilot.@@N@@
open Jvm Jvm.ClassFile Sem Op Lib Jvm.Free Jvm.Stand Jvm.Pilot.@@N@@.Jvm.D
/-! MADE BY PROGRAM (witnessworld.py) out of the Statement's table words and the real class files: 13 classes; the members and pool entries that the words name. The judged class is class 1, her method 1. -/
namespace start1
open Jvm.ClassFile
def u (s : String) : CpInfo := .utf8 (stringToUtf16 s)
/-- a pool by its gaps: so many unusable entries, then the entry; so many at the end -/
def gap : Nat → List CpInfo → List CpInfo
  | 0, r => r
  | n + 1, r => .unusable :: gap n r
def poolList (es : List (Nat × CpInfo)) (last : Nat) : List CpInfo := es.foldr (fun e r => gap e.1 (e.2 :: r)) (gap last [])
def pool (es : List (Nat × CpInfo)) (last : Nat) : Array CpInfo := ⟨poolList es last⟩
def fileOf (pool : Array CpInfo) (this : Nat) (attrs : Array Attribute := #[]) (ms : Array MethodInfo := #[]) (fl : Nat := 33) (sup : Nat := 0) (ifs : Array Nat := #[]) (fds : Array FieldInfo := #[]) : ClassFile where
  minorVersion := 0
  majorVersion := 65
  constantPool := pool
  accessFlags := fl
  thisClass := this
  superClass := sup
  interfaces := ifs
  fields := fds
  methods := ms
  attributes := attrs
def plain (name : String) (sup : Option ClassId) : Class where
  name := name
  kind := .ordinary
  loader := none
  accessFlags := 33
  super := sup
  interfaces := #[]
  cf := none
  fields := #[]
  methods := #[]
  instanceTypes := #[]
  staticTypes := #[]
  resolved := #[]
  callSites := []
  init := .initialized
  statics := none
  mirror := none

def pool0 : Array CpInfo := pool [(5, u "<init>"), (0, u "()V"), (1, .class_ 10), (1, u "java/lang/Object"), (85, u "clone"), (0, u "()Ljava/lang/Object;")] 26

def k0m0 : Method := { name := "<init>", desc := "()V", sig := { parameters := [], returnType := none }, accessFlags := 1, code := none }
def k0m1 : Method := { name := "clone", desc := "()Ljava/lang/Object;", sig := { parameters := [], returnType := some (.object "java/lang/Object") }, accessFlags := 260, code := none }
/-- java/lang/Object -/
def k0 : Class := { plain "java/lang/Object" none with
  accessFlags := 33
  interfaces := #[]
  cf := some (fileOf pool0 8 #[] #[{ accessFlags := 1, nameIndex := 5, descriptorIndex := 6, attributes := #[] }, { accessFlags := 260, nameIndex := 96, descriptorIndex := 97, attributes := #[] }] 33 0 #[] #[])
  fields := #[]
  methods := #[k0m0, k0m1]
  instanceTypes := #[]
  staticTypes := #[]
  resolved := Array.replicate 124 none
  statics := none }

def pool1 : Array CpInfo := pool [(2, .class_ 4), (1, u "java/lang/Object"), (0, u "<init>"), (0, u "()V"), (0, .integer 2147483647), (0, .methodref 9 10), (0, .class_ 11), (0, .nameAndType 12 13), (0, u "com/example/palimpsest/palimpsest/chain/TransactionType"), (0, u "ofCode"), (0, u "(I)Lcom/example/palimpsest/palimpsest/chain/TransactionType;"), (0, .methodref 15 16), (0, .class_ 17), (0, .nameAndType 18 13), (0, u "com/example/palimpsest/palimpsest/chain/TransactionTypeOfCodePinLaw"), (0, u "expected"), (0, .methodref 9 20), (0, .nameAndType 21 22), (0, u "code"), (0, u "()I"), (0, .fieldref 9 24), (0, .nameAndType 25 26), (0, u "REGISTER"), (0, u "Lcom/example/palimpsest/palimpsest/chain/TransactionType;"), (0, .fieldref 9 28), (0, .nameAndType 29 26), (0, u "REMOVABLE"), (0, .fieldref 9 31), (0, .nameAndType 32 26), (0, u "DELETE"), (0, .fieldref 9 34), (0, .nameAndType 35 26), (0, u "PREPARE"), (0, .fieldref 9 37), (0, .nameAndType 38 26), (0, u "CONSENT_INFO"), (0, .fieldref 9 40), (0, .nameAndType 41 26), (0, u "CONSENT"), (2, u "law"), (0, u "(I)Z")] 6

def k1m0 : Method := { name := "<init>", desc := "()V", sig := { parameters := [], returnType := none }, accessFlags := 2, code := none }
def k1c1 : Code := { maxStack := 2, maxLocals := 4, code := code, exceptionTable := #[], attributes := #[] }
def k1m1 : Method := { name := "law", desc := "(I)Z", sig := { parameters := [.int], returnType := some .boolean }, accessFlags := 9, code := some k1c1 }
def k1c2 : Code := { maxStack := 2, maxLocals := 1, code := method_3_code, exceptionTable := #[], attributes := #[] }
def k1m2 : Method := { name := "expected", desc := "(I)Lcom/example/palimpsest/palimpsest/chain/TransactionType;", sig := { parameters := [.int], returnType := some (.object "com/example/palimpsest/palimpsest/chain/TransactionType") }, accessFlags := 10, code := some k1c2 }
/-- com/example/palimpsest/palimpsest/chain/TransactionTypeOfCodePinLaw -/
def k1 : Class := { plain "com/example/palimpsest/palimpsest/chain/TransactionTypeOfCodePinLaw" (some 0) with
  accessFlags := 49
  interfaces := #[]
  cf := some (fileOf pool1 15 #[] #[{ accessFlags := 2, nameIndex := 5, descriptorIndex := 6, attributes := #[] }, { accessFlags := 9, nameIndex := 44, descriptorIndex := 45, attributes := #[] }, { accessFlags := 10, nameIndex := 18, descriptorIndex := 13, attributes := #[] }] 49 2 #[] #[])
  fields := #[]
  methods := #[k1m0, k1m1, k1m2]
  instanceTypes := #[]
  staticTypes := #[]
  resolved := Array.replicate 52 none
  statics := none }

def pool2 : Array CpInfo := pool [(1, .class_ 2), (0, u "java/lang/constant/Constable"), (0, .class_ 4), (0, u "java/lang/Object")] 6

/-- java/lang/constant/Constable -/
def k2 : Class := { plain "java/lang/constant/Constable" (some 0) with
  accessFlags := 1537
  interfaces := #[]
  cf := some (fileOf pool2 1 #[] #[] 1537 3 #[] #[])
  fields := #[]
  methods := #[]
  instanceTypes := #[]
  staticTypes := #[]
  resolved := Array.replicate 11 none
  statics := none }

def pool3 : Array CpInfo := pool [(1, .class_ 2), (0, u "java/lang/Comparable"), (0, .class_ 4), (0, u "java/lang/Object")] 7

/-- java/lang/Comparable -/
def k3 : Class := { plain "java/lang/Comparable" (some 0) with
  accessFlags := 1537
  interfaces := #[]
  cf := some (fileOf pool3 1 #[] #[] 1537 3 #[] #[])
  fields := #[]
  methods := #[]
  instanceTypes := #[]
  staticTypes := #[]
  resolved := Array.replicate 12 none
  statics := none }

def pool4 : Array CpInfo := pool [(1, .class_ 2), (0, u "java/io/Serializable"), (0, .class_ 4), (0, u "java/lang/Object")] 2

/-- java/io/Serializable -/
def k4 : Class := { plain "java/io/Serializable" (some 0) with
  accessFlags := 1537
  interfaces := #[]
  cf := some (fileOf pool4 1 #[] #[] 1537 3 #[] #[])
  fields := #[]
  methods := #[]
  instanceTypes := #[]
  staticTypes := #[]
  resolved := Array.replicate 7 none
  statics := none }

def pool5 : Array CpInfo := pool [(2, .class_ 4), (1, u "java/lang/Enum"), (0, u "name"), (0, u "Ljava/lang/String;"), (2, u "ordinal"), (0, u "I"), (1, .class_ 14), (1, u "java/lang/Object"), (4, u "hash"), (86, .class_ 108), (1, u "java/lang/Enum$EnumDesc"), (2, .class_ 112), (0, u "java/lang/constant/Constable"), (0, .class_ 114), (0, u "java/lang/Comparable"), (0, .class_ 116), (0, u "java/io/Serializable")] 87

/-- java/lang/Enum -/
def k5 : Class := { plain "java/lang/Enum" (some 0) with
  accessFlags := 1057
  interfaces := #[2, 3, 4]
  cf := some (fileOf pool5 2 #[.nestMembers #[106]] #[] 1057 12 #[111, 113, 115] #[{ accessFlags := 18, nameIndex := 5, descriptorIndex := 6, attributes := #[] }, { accessFlags := 18, nameIndex := 9, descriptorIndex := 10, attributes := #[] }, { accessFlags := 2, nameIndex := 19, descriptorIndex := 10, attributes := #[] }])
  fields := #[{ name := "name", type := (.object "java/lang/String"), accessFlags := 18, slot := 0, constantValue := 0 }, { name := "ordinal", type := .int, accessFlags := 18, slot := 1, constantValue := 0 }, { name := "hash", type := .int, accessFlags := 2, slot := 2, constantValue := 0 }]
  methods := #[]
  instanceTypes := #[(.object "java/lang/String"), .int, .int]
  staticTypes := #[]
  resolved := Array.replicate 204 none
  statics := none }

def pool6 : Array CpInfo := pool [(1, .class_ 2), (0, u "com/example/palimpsest/palimpsest/chain/TransactionType"), (2, u "REGISTER"), (0, u "Lcom/example/palimpsest/palimpsest/chain/TransactionType;"), (2, u "REMOVABLE"), (2, u "DELETE"), (2, u "PREPARE"), (2, u "CONSENT_INFO"), (2, u "CONSENT"), (0, .fieldref 1 23), (0, .nameAndType 24 25), (0, u "$VALUES"), (0, u "[Lcom/example/palimpsest/palimpsest/chain/TransactionType;"), (0, .methodref 27 28), (0, .class_ 25), (0, .nameAndType 29 30), (0, u "clone"), (0, u "()Ljava/lang/Object;"), (1, .class_ 34), (1, u "java/lang/Enum"), (6, .fieldref 1 42), (0, .nameAndType 43 44), (0, u "code"), (0, u "I"), (2, u "label"), (0, u "Ljava/lang/String;"), (2, u "removable"), (0, u "Z"), (2, u "namesInterval"), (0, .methodref 1 57), (0, .nameAndType 58 59), (0, u "values"), (0, u "()[Lcom/example/palimpsest/palimpsest/chain/TransactionType;"), (38, u "()I"), (2, u "ofCode"), (0, u "(I)Lcom/example/palimpsest/palimpsest/chain/TransactionType;")] 22

def k6c0 : Code := { maxStack := 1, maxLocals := 0, code := prog_23_method_1_code, exceptionTable := #[], attributes := #[] }
def k6m0 : Method := { name := "values", desc := "()[Lcom/example/palimpsest/palimpsest/chain/TransactionType;", sig := { parameters := [], returnType := some (.array (.object "com/example/palimpsest/palimpsest/chain/TransactionType")) }, accessFlags := 9, code := some k6c0 }
def k6c1 : Code := { maxStack := 1, maxLocals := 1, code := prog_23_method_4_code, exceptionTable := #[], attributes := #[] }
def k6m1 : Method := { name := "code", desc := "()I", sig := { parameters := [], returnType := some .int }, accessFlags := 0, code := some k6c1 }
def k6c2 : Code := { maxStack := 3, maxLocals := 5, code := prog_23_method_8_code, exceptionTable := #[], attributes := #[] }
def k6m2 : Method := { name := "ofCode", desc := "(I)Lcom/example/palimpsest/palimpsest/chain/TransactionType;", sig := { parameters := [.int], returnType := some (.object "com/example/palimpsest/palimpsest/chain/TransactionType") }, accessFlags := 8, code := some k6c2 }
/-- com/example/palimpsest/palimpsest/chain/TransactionType -/
def k6 : Class := { plain "com/example/palimpsest/palimpsest/chain/TransactionType" (some 5) with
  accessFlags := 16433
  interfaces := #[]
  cf := some (fileOf pool6 1 #[] #[{ accessFlags := 9, nameIndex := 58, descriptorIndex := 59, attributes := #[] }, { accessFlags := 0, nameIndex := 43, descriptorIndex := 98, attributes := #[] }, { accessFlags := 8, nameIndex := 101, descriptorIndex := 102, attributes := #[] }] 16433 32 #[] #[{ accessFlags := 16409, nameIndex := 5, descriptorIndex := 6, attributes := #[] }, { accessFlags := 16409, nameIndex := 9, descriptorIndex := 6, attributes := #[] }, { accessFlags := 16409, nameIndex := 12, descriptorIndex := 6, attributes := #[] }, { accessFlags := 16409, nameIndex := 15, descriptorIndex := 6, attributes := #[] }, { accessFlags := 16409, nameIndex := 18, descriptorIndex := 6, attributes := #[] }, { accessFlags := 16409, nameIndex := 21, descriptorIndex := 6, attributes := #[] }, { accessFlags := 18, nameIndex := 43, descriptorIndex := 44, attributes := #[] }, { accessFlags := 18, nameIndex := 47, descriptorIndex := 48, attributes := #[] }, { accessFlags := 18, nameIndex := 51, descriptorIndex := 52, attributes := #[] }, { accessFlags := 18, nameIndex := 55, descriptorIndex := 52, attributes := #[] }, { accessFlags := 4122, nameIndex := 24, descriptorIndex := 25, attributes := #[] }])
  fields := #[{ name := "REGISTER", type := (.object "com/example/palimpsest/palimpsest/chain/TransactionType"), accessFlags := 16409, slot := 0, constantValue := 0 }, { name := "REMOVABLE", type := (.object "com/example/palimpsest/palimpsest/chain/TransactionType"), accessFlags := 16409, slot := 1, constantValue := 0 }, { name := "DELETE", type := (.object "com/example/palimpsest/palimpsest/chain/TransactionType"), accessFlags := 16409, slot := 2, constantValue := 0 }, { name := "PREPARE", type := (.object "com/example/palimpsest/palimpsest/chain/TransactionType"), accessFlags := 16409, slot := 3, constantValue := 0 }, { name := "CONSENT_INFO", type := (.object "com/example/palimpsest/palimpsest/chain/TransactionType"), accessFlags := 16409, slot := 4, constantValue := 0 }, { name := "CONSENT", type := (.object "com/example/palimpsest/palimpsest/chain/TransactionType"), accessFlags := 16409, slot := 5, constantValue := 0 }, { name := "code", type := .int, accessFlags := 18, slot := 3, constantValue := 0 }, { name := "label", type := (.object "java/lang/String"), accessFlags := 18, slot := 4, constantValue := 0 }, { name := "removable", type := .boolean, accessFlags := 18, slot := 5, constantValue := 0 }, { name := "namesInterval", type := .boolean, accessFlags := 18, slot := 6, constantValue := 0 }, { name := "$VALUES", type := (.array (.object "com/example/palimpsest/palimpsest/chain/TransactionType")), accessFlags := 4122, slot := 6, constantValue := 0 }]
  methods := #[k6m0, k6m1, k6m2]
  instanceTypes := #[(.object "java/lang/String"), .int, .int, .int, (.object "java/lang/String"), .boolean, .boolean]
  staticTypes := #[(.object "com/example/palimpsest/palimpsest/chain/TransactionType"), (.object "com/example/palimpsest/palimpsest/chain/TransactionType"), (.object "com/example/palimpsest/palimpsest/chain/TransactionType"), (.object "com/example/palimpsest/palimpsest/chain/TransactionType"), (.object "com/example/palimpsest/palimpsest/chain/TransactionType"), (.object "com/example/palimpsest/palimpsest/chain/TransactionType"), (.array (.object "com/example/palimpsest/palimpsest/chain/TransactionType"))]
  resolved := Array.replicate 125 none
  statics := some 0 }

def pool7 : Array CpInfo := pool [(1, .class_ 2), (0, u "java/lang/Cloneable"), (0, .class_ 4), (0, u "java/lang/Object")] 2

/-- java/lang/Cloneable -/
def k7 : Class := { plain "java/lang/Cloneable" (some 0) with
  accessFlags := 1537
  interfaces := #[]
  cf := some (fileOf pool7 1 #[] #[] 1537 3 #[] #[])
  fields := #[]
  methods := #[]
  instanceTypes := #[]
  staticTypes := #[]
  resolved := Array.replicate 7 none
  statics := none }

/-- the primitive byte -/
def k8 : Class := { plain "byte" none with kind := .primitive 'B', accessFlags := 0x411 }
/-- [B -/
def k9 : Class := { plain "[B" (some 0) with kind := .array 8 .byte, interfaces := #[7, 4], accessFlags := 1041 }

/-- the primitive int -/
def k10 : Class := { plain "int" none with kind := .primitive 'I', accessFlags := 0x411 }
/-- [I -/
def k11 : Class := { plain "[I" (some 0) with kind := .array 10 .int, interfaces := #[7, 4], accessFlags := 1041 }

/-- [Lcom/example/palimpsest/palimpsest/chain/TransactionType; -/
def k12 : Class := { plain "[Lcom/example/palimpsest/palimpsest/chain/TransactionType;" (some 0) with kind := .array 6 (.object "com/example/palimpsest/palimpsest/chain/TransactionType"), interfaces := #[7, 4], accessFlags := 1041 }

def heap : Heap := #[{ cls := 6, slots := #[.ref 2, .ref 3, .ref 4, .ref 5, .ref 6, .ref 7, .ref 1], vm := .statics 6 },
  { cls := 12, slots := #[.ref 2, .ref 3, .ref 4, .ref 5, .ref 6, .ref 7], vm := .none },
  { cls := 6, slots := #[.null, .int 0, .int 0, .int 1, .null, .int 0, .int 0], vm := .none },
  { cls := 6, slots := #[.null, .int 1, .int 0, .int 2, .null, .int 0, .int 0], vm := .none },
  { cls := 6, slots := #[.null, .int 2, .int 0, .int 3, .null, .int 0, .int 0], vm := .none },
  { cls := 6, slots := #[.null, .int 3, .int 0, .int 4, .null, .int 0, .int 0], vm := .none },
  { cls := 6, slots := #[.null, .int 4, .int 0, .int 5, .null, .int 0, .int 0], vm := .none },
  { cls := 6, slots := #[.null, .int 5, .int 0, .int 6, .null, .int 0, .int 0], vm := .none }]
def classes : Array Class := #[k0, k1, k2, k3, k4, k5, k6, k7, k8, k9, k10, k11, k12]
def interned : List (Array UInt16 × Addr) := []
def slotsUsed : Nat := 55
def theMethod : MethodId := ⟨1, 1⟩
def args0 : Array Value := #[.int 5]
def aboutOver (below : List Frame) : State where
  vm := { classes := classes, interned := interned.toArray }
  heap := heap
  slotsUsed := slotsUsed
  threads := #[{ frames := .invoking theMethod args0 :: below }]
def below0 : List Frame := [.native { method := ⟨0, 0⟩, args := #[] }]
def about1 : State := aboutOver below0
def p0 : Program := .bare "" "" ""
def e0 : Env := launch0.env 0 0 0
theorem w_frames : about1.frames = Frame.invoking theMethod args0 :: below0 := rfl
set_option maxRecDepth 65536 in
theorem w_args : argsFit about1.vm theMethod args0 = true := by decide +kernel
set_option maxRecDepth 65536 in
theorem w_heap : heapFits about1 = true := by decide +kernel
set_option maxRecDepth 65536 in
theorem w_runnable : about1.curStatus? = some .runnable := by decide +kernel
set_option maxRecDepth 65536 in
theorem w_alone : about1.alone = true := by decide +kernel
set_option maxRecDepth 65536 in
theorem w_named : about1.methodNamed? x = some theMethod := by decide +kernel
set_option maxRecDepth 65536 in
theorem w_hears : about1.hears theMethod below0 = true := by decide +kernel
set_option maxRecDepth 65536 in
theorem w_ripe : about1.ripe theMethod args0 below0 = true := by decide +kernel
theorem w_running : about1.status = .running := rfl
set_option maxRecDepth 65536 in
theorem w_room : about1.hasRoom e0.platform room_1 = true :=
  launch0.hasRoom_least _ room_1 (by decide +kernel) (by decide +kernel) (by decide +kernel) (by decide +kernel) (by decide +kernel) (by decide +kernel)
theorem allAtoms_all (ts : List Jvm.Cond) (a : Array Jvm.Value) (st : Jvm.State) : (allAtoms ts).before a st = ts.all (fun c => c.before a st) := by
  induction ts with
  | nil => rfl
  | cons c t ih =>
    show (Jvm.Cond.and c (allAtoms t)).before a st = _
    rw [Jvm.Cond.before_and, ih, List.all_cons]
def words1 : List Jvm.Cond := Jvm.Cond.code x code maxLocals ret :: tables_1
/-- a 'code' word, met by the world's own term for the bytes: nothing is compared byte by byte -/
theorem code_word {y : MethodName} {bytes : ByteArray} {mx : Nat} {rt : Option FieldType} {a : Array Value} {s : State} {m : MethodId} {meth : Method} {c : Code} (h1 : s.methodNamed? y = some m) (h2 : s.vm.method? m = some meth) (h3 : meth.code = some c) (h4 : c.code = bytes)
    (h5 : (c.maxLocals == mx && c.exceptionTable.isEmpty && decide (c.maxStack ≤ mostOperands) && decide (meth.sig.returnType = rt) && !meth.locks && decide (parseMethodDescriptor y.desc = some meth.sig)) = true) : (Jvm.Cond.code y bytes mx rt).before a s = true := by
  simp only [Bool.and_eq_true, beq_iff_eq, Bool.not_eq_true', decide_eq_true_eq] at h5
  obtain ⟨⟨⟨⟨⟨g1, g2⟩, g3⟩, g4⟩, g5⟩, g6⟩ := h5
  simp [Cond.before, Cond.holds, Cond.value, h1, h2, h3, h4, g1, g2, g3, g4, g5, g6]
def isCode : Jvm.Cond → Bool
  | .code _ _ _ _ => true
  | _ => false
theorem all_split {L : List Jvm.Cond} {P : Jvm.Cond → Bool} (h1 : L.all (fun c => isCode c || P c) = true) (h2 : ∀ c ∈ L.filter isCode, P c = true) : L.all P = true := by
  refine List.all_eq_true.mpr fun c hc => ?_
  have h := List.all_eq_true.mp h1 c hc
  rcases Bool.eq_false_or_eq_true (isCode c) with hi | hi
  · exact h2 c (List.mem_filter.mpr ⟨hc, hi⟩)
  · simpa [hi] using h
set_option maxRecDepth 65536 in
theorem w_c0 : (Jvm.Cond.code x code maxLocals ret).before args0 about1 = true := code_word (m := ⟨1, 1⟩) (meth := k1m1) (c := k1c1) (by decide +kernel) rfl rfl rfl (by decide +kernel)
set_option maxRecDepth 65536 in
theorem w_c1 : (Jvm.Cond.code ({ cls := "com/example/palimpsest/palimpsest/chain/TransactionType", name := "ofCode", desc := "(I)Lcom/example/palimpsest/palimpsest/chain/TransactionType;" } : Jvm.MethodName) prog_23_method_8_code (5 : Nat) (Option.some (Jvm.ClassFile.FieldType.object "com/example/palimpsest/palimpsest/chain/TransactionType"))).before args0 about1 = true := code_word (m := ⟨6, 2⟩) (meth := k6m2) (c := k6c2) (by decide +kernel) rfl rfl rfl (by decide +kernel)
set_option maxRecDepth 65536 in
theorem w_c2 : (Jvm.Cond.code ({ cls := "com/example/palimpsest/palimpsest/chain/TransactionType", name := "values", desc := "()[Lcom/example/palimpsest/palimpsest/chain/TransactionType;" } : Jvm.MethodName) prog_23_method_1_code (0 : Nat) (Option.some (Jvm.ClassFile.FieldType.array (Jvm.ClassFile.FieldType.object "com/example/palimpsest/palimpsest/chain/TransactionType")))).before args0 about1 = true := code_word (m := ⟨6, 0⟩) (meth := k6m0) (c := k6c0) (by decide +kernel) rfl rfl rfl (by decide +kernel)
set_option maxRecDepth 65536 in
theorem w_c3 : (Jvm.Cond.code ({ cls := "com/example/palimpsest/palimpsest/chain/TransactionTypeOfCodePinLaw", name := "expected", desc := "(I)Lcom/example/palimpsest/palimpsest/chain/TransactionType;" } : Jvm.MethodName) method_3_code (1 : Nat) (Option.some (Jvm.ClassFile.FieldType.object "com/example/palimpsest/palimpsest/chain/TransactionType"))).before args0 about1 = true := code_word (m := ⟨1, 2⟩) (meth := k1m2) (c := k1c2) (by decide +kernel) rfl rfl rfl (by decide +kernel)
set_option maxRecDepth 65536 in
theorem w_c4 : (Jvm.Cond.code ({ cls := "com/example/palimpsest/palimpsest/chain/TransactionType", name := "code", desc := "()I" } : Jvm.MethodName) prog_23_method_4_code (1 : Nat) (Option.some Jvm.ClassFile.FieldType.int)).before args0 about1 = true := code_word (m := ⟨6, 1⟩) (meth := k6m1) (c := k6c1) (by decide +kernel) rfl rfl rfl (by decide +kernel)
def codes1 : List Jvm.Cond := [Jvm.Cond.code x code maxLocals ret, Jvm.Cond.code ({ cls := "com/example/palimpsest/palimpsest/chain/TransactionType", name := "ofCode", desc := "(I)Lcom/example/palimpsest/palimpsest/chain/TransactionType;" } : Jvm.MethodName) prog_23_method_8_code (5 : Nat) (Option.some (Jvm.ClassFile.FieldType.object "com/example/palimpsest/palimpsest/chain/TransactionType")), Jvm.Cond.code ({ cls := "com/example/palimpsest/palimpsest/chain/TransactionType", name := "values", desc := "()[Lcom/example/palimpsest/palimpsest/chain/TransactionType;" } : Jvm.MethodName) prog_23_method_1_code (0 : Nat) (Option.some (Jvm.ClassFile.FieldType.array (Jvm.ClassFile.FieldType.object "com/example/palimpsest/palimpsest/chain/TransactionType"))), Jvm.Cond.code ({ cls := "com/example/palimpsest/palimpsest/chain/TransactionTypeOfCodePinLaw", name := "expected", desc := "(I)Lcom/example/palimpsest/palimpsest/chain/TransactionType;" } : Jvm.MethodName) method_3_code (1 : Nat) (Option.some (Jvm.ClassFile.FieldType.object "com/example/palimpsest/palimpsest/chain/TransactionType")), Jvm.Cond.code ({ cls := "com/example/palimpsest/palimpsest/chain/TransactionType", name := "code", desc := "()I" } : Jvm.MethodName) prog_23_method_4_code (1 : Nat) (Option.some Jvm.ClassFile.FieldType.int)]
set_option maxRecDepth 65536 in
theorem codes_eq : words1.filter isCode = codes1 := rfl
theorem w_codes : ∀ c ∈ words1.filter isCode, c.before args0 about1 = true := by
  rw [codes_eq]
  intro c hc
  simp only [codes1, List.mem_cons, List.not_mem_nil, or_false] at hc
  rcases hc with rfl | rfl | rfl | rfl | rfl
  · exact w_c0
  · exact w_c1
  · exact w_c2
  · exact w_c3
  · exact w_c4
set_option maxRecDepth 65536 in
theorem w_t1 : (words1.take 24).all (fun c => isCode c || c.before args0 about1) = true := by decide +kernel
set_option maxRecDepth 65536 in
theorem w_t2 : (words1.drop 24).all (fun c => isCode c || c.before args0 about1) = true := by decide +kernel
theorem w_tables : (allAtoms (Jvm.Cond.code x code maxLocals ret :: tables_1)).before args0 about1 = true := by
  rw [allAtoms_all]
  show words1.all (fun c => c.before args0 about1) = true
  refine all_split ?_ w_codes
  rw [← List.take_append_drop 24 words1, List.all_append, w_t1, w_t2]
  rfl
set_option maxRecDepth 65536 in
theorem w_case : (Jvm.Cond.and given_1 narrow_1).before args0 about1 = true := by decide +kernel
theorem w_applies : (headSpec (Jvm.Cond.code x code maxLocals ret :: tables_1) room_1).applies x e0.platform about1 = true :=
  (Spec.applies_iff w_frames).mpr ⟨w_running, w_runnable, w_alone, w_named, w_hears, w_ripe, w_room, w_tables⟩
theorem atStart : AtStart classFile x code maxLocals ret World_1 tables_1 room_1 Calls_1 rest_1 Pre_1 launch0 p0 e0 about1 theMethod args0 below0 :=
  ⟨lists_1, trivial, launch0.admits_env _ _ _, launch0.least_env, fairChoices_fair.cas, fairChoices_fair.clock, w_frames, w_args, w_heap, w_applies, trivial, trivial, w_case⟩
end start1
theorem witness_1 : WitnessClaimed_1 := ⟨start1.p0, start1.e0, start1.about1, start1.theMethod, start1.args0, start1.below0, start1.atStart⟩
end Jvm.Pilot.@@N@@
