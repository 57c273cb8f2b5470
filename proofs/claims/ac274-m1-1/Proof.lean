import JvmDerived
import JvmDerived.Pilot.@@N@@Statement
import JvmDerived.Pilot.@@N@@Code
set_option linter.unusedVariables false
set_option linter.unusedSimpArgs false
namespace Jvm.RoadKit
open Sem ClassFile Op Lib Jvm.Stand Jvm.Free Jvm.LawKit
section New
variable {p : Program} {l : Launch} {e : Env} {R : Room} {s : State} {m : MethodId} {args : Array Value} {below : List Frame} {meth : Method} {c : Code} {T : State} {locs : List Loc} {cells slots : Nat}
theorem retI (X : Stand p l e R s m args below meth c T locs cells slots) (hx : p.tables.exec = Jvm.exec) {pc : Nat} {Ls : Array Slot} {z : Int32} {rest : List Value} (hret : meth.sig.returnType = some .int) (hd : decode c.code pc = .ok (.ireturn, 1)) {fs : List Frame}
    (hl : ∀ (f : JFrame) (acts : List Action), f.method = m → f.locked = none → f.entered = [] → (doReturn e (T.setTop f) acts (some (.int z))).1 = T.setFrames fs) : Steps p.tables e below (T.setTop (mkF m pc Ls (.int z :: rest))) (T.setFrames fs) := by
  have hm' : T.vm.method? m = some meth := X.method'
  have hn : narrow .int (.int z) = .int z := rfl
  show Steps p.tables e below (T.setTop { method := m, pc := pc, locals := Ls, stack := _ :: rest, locked := none }) _
  jvm_step X.here [X.here.top, hx, hd, hm', hret, hn]
  first | (intro acts; rw [hl _ acts rfl rfl rfl]) | rw [hl _ _ rfl rfl rfl]
  exact Steps.refl _
/-- from the state S the run comes to an end at which A holds -/
def own_Fin (p : Program) (e : Env) (below : List Frame) (A : State → Outcome → Prop) (S : State) : Prop := ∃ s₂ o, Steps p.tables e below S s₂ ∧ s₂.status = .running ∧ Ended s₂ below o ∧ A s₂ o
theorem own_go {A : State → Outcome → Prop} {S S' : State} (k : ∀ t, Steps p.tables e below S' t → Steps p.tables e below S t) (h : own_Fin p e below A S') : own_Fin p e below A S := by
  obtain ⟨t, o, h1, h2⟩ := h; exact ⟨t, o, k t h1, h2⟩
/-- what a walk leaves: Q of the value, the heap and the written places -/
def own_A (s : State) (C S : Nat) (Q : Option Value → Heap → List Loc → Prop) : State → Outcome → Prop := fun U' o => ∃ v L, o = .returned v ∧ Q v U'.heap L ∧ FrameEnd s o U' L C S
/-- a body that writes nothing: its value, the heap as it was -/
def own_P (h0 : Heap) (n0 : Nat) (w : Value) (v : Option Value) (h : Heap) (L : List Loc) : Prop := v = some w ∧ Fr n0 L ∧ h = h0
theorem own_out (X : Stand p l e R s m args below meth c T locs cells slots) {v : Option Value} {Q : Option Value → Heap → List Loc → Prop} {C S : Nat} {g : JFrame}
    (hv : meth.sig.returnType = none → v = none) (hlocks : meth.locks = false)
    (st : ∀ fs, (∀ (f : JFrame) (acts : List Action), f.method = m → f.locked = none → f.entered = [] → (doReturn e (T.setTop f) acts v).1 = T.setFrames fs) → Steps p.tables e below (T.setTop g) (T.setFrames fs))
    (hQ : Q v T.heap locs) (hc : cells ≤ C) (hs : slots ≤ S) : own_Fin p e below (own_A s C S Q) (T.setTop g) := by
  obtain ⟨fs, hr, hrun, hended, hW, hsame⟩ := X.leave (v := v) hv hlocks
  exact ⟨_, _, st fs hr, hrun, hended, _, _, rfl, hQ, ⟨_, rfl⟩, hW, hsame.mono hc hs⟩
end New
end Jvm.RoadKit
namespace Jvm.Pilot.@@N@@
open Jvm Jvm.ClassFile Sem Op Lib Jvm.Free Jvm.Stand Jvm.LawKit Jvm.RoadKit Bundle Jvm.Pilot.@@N@@.Jvm.D
theorem d2_0 : decode jdk_30_method_1_code 0 = .ok (.aload_n 0, 1) := by decide +kernel
theorem d2_1 : decode jdk_30_method_1_code 1 = .ok (.invokespecial 1, 3) := by decide +kernel
theorem d2_4 : decode jdk_30_method_1_code 4 = .ok (.return_, 1) := by decide +kernel
theorem pn_0 : plainName "java/lang/Record" = true := by first | (simp [plainName, overriddenIn]; done) | decide +kernel
theorem ef_2 (m : MethodId) (x0 : Addr)  : entryFrame m #[(.ref x0)] 1 = mkF m 0 #[.val (.ref x0)] [] := by first | (simp [entryFrame, mkF, argsToLocals, Value.category]; done) | rfl
def own_q2 (Z : State) (a1 : Addr) (h0 : Heap) (n0 : Nat) (v : Option Value) (h : Heap) (L : List Loc) : Prop := v = none ∧ Fr n0 L ∧ h = h0
set_option maxRecDepth 65536 in
set_option maxHeartbeats 40000000 in
theorem rm2 (l : Launch) (Z : State) (a0 : Array Value) (hw : ∀ d ∈ tables_1, d.before a0 Z = true) (ws : List Jvm.Cond) (a1 : Addr) (h0 : Heap) (n0 : Nat) (Z0 : n0 ≤ h0.size) :
    MetFree l (⟨"java/lang/Record", "<init>", "()V"⟩ : MethodName) (head1 (Jvm.Cond.code (⟨"java/lang/Record", "<init>", "()V"⟩ : MethodName) jdk_30_method_1_code 1 none :: ws) ({ frames := 1, cells := 0, slots := 0, locals := 12 } : Room)) (fun a U => a = #[(.ref a1)] ∧ Z.Warmed39 U.vm ∧ U.heap = h0) (fun _ _ _ _ _ => True) (fun _ U o U' => ∃ v L, o = .returned v ∧ (own_q2 Z a1 h0 n0) v U'.heap L ∧ FrameEnd U o U' L ({ frames := 1, cells := 0, slots := 0, locals := 12 } : Room).cells ({ frames := 1, cells := 0, slots := 0, locals := 12 } : Room).slots) := by
  refine MetFree.of_bodySF (plainFor_of_name pn_0) hisR ?_
  intro p e s m args below meth c s₁ Bd hml0 hP hK
  obtain ⟨rfl, hZ, hh⟩ := hP
  have hx := Bd.exec
  have hby := Bd.bytes
  have hml : c.maxLocals = 1 := hml0
  have hown : s.vm.findClass "java/lang/Record" = some m.cls := findClass_of_methodNamed Bd.named
  have hnm := (name_of_methodNamed Bd.named Bd.method).1
  have X0 : Stand p l e ({ frames := 1, cells := 0, slots := 0, locals := 12 } : Room) s m #[(.ref a1)] below meth c s₁ [] 0 0 := Stand.of_body Bd
  have e0 : s₁.heap = h0 := by rw [← hh, Bd.state]; rfl
  have N0 := Fr.nil n0
  have hw_11 := hw _ (List.mem_of_getElem? (i := 11) rfl)
  have hw_12 := hw _ (List.mem_of_getElem? (i := 12) rfl)
  have hw_13 := hw _ (List.mem_of_getElem? (i := 13) rfl)
  show own_Fin p e below (own_A s ({ frames := 1, cells := 0, slots := 0, locals := 12 } : Room).cells ({ frames := 1, cells := 0, slots := 0, locals := 12 } : Room).slots (own_q2 Z a1 h0 n0)) _
  refine own_go (fun t k => castTop (ef_2 m (a1)) k) ?_
  show own_Fin p e below _ (s₁.setTop (mkF m 0 #[.val (.ref a1)] []))
  refine own_go (fun t k => XS.aloadN X0.here hx rfl (hb hby d2_0) rfl rfl  k) ?_
  show own_Fin p e below _ (s₁.setTop (mkF m 1 #[.val (.ref a1)] [(.ref a1)]))
  obtain ⟨T1, X1, e1, st1⟩ := initO X0 hx hZ hown hw_11 hw_12 hw_13 e0 (g := (mkF m 1 #[.val (.ref a1)] [(.ref a1)])) rfl (by rw [hml]; rfl) rfl (hb hby d2_1) (by decide) (W := 0) (by show 2 * 0 + _ ≤ _; exact Nat.le_of_eq rfl) (by decide)
  refine own_go st1 ?_
  show own_Fin p e below _ (T1.setTop (mkF m 4 #[.val (.ref a1)] []))
  exact own_out X1 (fun _ => rfl) Bd.notSynchronized (fun fs hr => X1.returnOut hx Bd.returns (hb hby d2_4) hr) ⟨rfl, N0, e1⟩ (by decide) (by decide)
theorem pd_0 : parseMethodDescriptor "()V" = some ⟨[], none⟩ := by decide +kernel
theorem d1_0 : decode prog_68_method_1_code 0 = .ok (.aload_n 0, 1) := by decide +kernel
theorem d1_1 : decode prog_68_method_1_code 1 = .ok (.invokespecial 1, 3) := by decide +kernel
theorem d1_4 : decode prog_68_method_1_code 4 = .ok (.aload_n 0, 1) := by decide +kernel
theorem d1_5 : decode prog_68_method_1_code 5 = .ok (.lload_n 1, 1) := by decide +kernel
theorem d1_6 : decode prog_68_method_1_code 6 = .ok (.putfield 7, 3) := by decide +kernel
theorem d1_9 : decode prog_68_method_1_code 9 = .ok (.aload_n 0, 1) := by decide +kernel
theorem d1_10 : decode prog_68_method_1_code 10 = .ok (.lload_n 3, 1) := by decide +kernel
theorem d1_11 : decode prog_68_method_1_code 11 = .ok (.putfield 13, 3) := by decide +kernel
theorem d1_14 : decode prog_68_method_1_code 14 = .ok (.return_, 1) := by decide +kernel
theorem pn_1 : plainName "com/example/atropos/atropos/time/SliceNumbers" = true := by first | (simp [plainName, overriddenIn]; done) | decide +kernel
theorem ef_1 (m : MethodId) (x0 : Addr) (x1 : Int64) (x2 : Int64)  : entryFrame m #[(.ref x0), (.long x1), (.long x2)] 5 = mkF m 0 #[.val (.ref x0), .val (.long x1), .second, .val (.long x2), .second] [] := by first | (simp [entryFrame, mkF, argsToLocals, Value.category]; done) | rfl
def own_q1 (Z : State) (a1 : Addr) (q2 : Int64) (q3 : Int64) (h0 : Heap) (n0 : Nat) (v : Option Value) (h : Heap) (L : List Loc) : Prop := v = none ∧ Fr n0 L ∧ Keep h0 h [a1] ∧ Exa Z h a1 "com/example/atropos/atropos/time/SliceNumbers" ∧ Fld Z h a1 "com/example/atropos/atropos/time/SliceNumbers" "first" "J" (.long q2) ∧ Fld Z h a1 "com/example/atropos/atropos/time/SliceNumbers" "end" "J" (.long q3)
set_option maxRecDepth 65536 in
set_option maxHeartbeats 40000000 in
theorem rm1 (l : Launch) (Z : State) (a0 : Array Value) (hw : ∀ d ∈ tables_1, d.before a0 Z = true) (ws : List Jvm.Cond) (a1 : Addr) (q2 : Int64) (q3 : Int64) (h0 : Heap) (n0 : Nat) (Z0 : n0 ≤ h0.size) (F_first : Fld Z h0 a1 "com/example/atropos/atropos/time/SliceNumbers" "first" "J" (.long (0 : Int64))) (F_end : Fld Z h0 a1 "com/example/atropos/atropos/time/SliceNumbers" "end" "J" (.long (0 : Int64))) (E_a1 : Exa Z h0 a1 "com/example/atropos/atropos/time/SliceNumbers") (g_a1 : n0 ≤ a1) :
    MetFree l (⟨"com/example/atropos/atropos/time/SliceNumbers", "<init>", "(JJ)V"⟩ : MethodName) (head1 (Jvm.Cond.code (⟨"com/example/atropos/atropos/time/SliceNumbers", "<init>", "(JJ)V"⟩ : MethodName) prog_68_method_1_code 5 none :: ws) ({ frames := 2, cells := 0, slots := 0, locals := 24 } : Room)) (fun a U => a = #[(.ref a1), (.long q2), (.long q3)] ∧ Z.Warmed39 U.vm ∧ U.heap = h0) (fun _ _ _ _ _ => True) (fun _ U o U' => ∃ v L, o = .returned v ∧ (own_q1 Z a1 q2 q3 h0 n0) v U'.heap L ∧ FrameEnd U o U' L ({ frames := 2, cells := 0, slots := 0, locals := 24 } : Room).cells ({ frames := 2, cells := 0, slots := 0, locals := 24 } : Room).slots) := by
  refine MetFree.of_bodySF (plainFor_of_name pn_1) hisR ?_
  intro p e s m args below meth c s₁ Bd hml0 hP hK
  obtain ⟨rfl, hZ, hh⟩ := hP
  have hx := Bd.exec
  have hby := Bd.bytes
  have hml : c.maxLocals = 5 := hml0
  have hown : s.vm.findClass "com/example/atropos/atropos/time/SliceNumbers" = some m.cls := findClass_of_methodNamed Bd.named
  have hnm := (name_of_methodNamed Bd.named Bd.method).1
  have X0 : Stand p l e ({ frames := 2, cells := 0, slots := 0, locals := 24 } : Room) s m #[(.ref a1), (.long q2), (.long q3)] below meth c s₁ [] 0 0 := Stand.of_body Bd
  have e0 : s₁.heap = h0 := by rw [← hh, Bd.state]; rfl
  have N0 := Fr.nil n0
  have Kz := Keep.refl h0 [a1]
  have hw_1 := hw _ (List.mem_of_getElem? (i := 1) rfl)
  have hw_6 := hw _ (List.mem_of_getElem? (i := 6) rfl)
  have hw_7 := hw _ (List.mem_of_getElem? (i := 7) rfl)
  have hw_9 := hw _ (List.mem_of_getElem? (i := 9) rfl)
  have hw_10 := hw _ (List.mem_of_getElem? (i := 10) rfl)
  have hw_14 := hw _ (List.mem_of_getElem? (i := 14) rfl)
  have hw_15 := hw _ (List.mem_of_getElem? (i := 15) rfl)
  have hw_16 := hw _ (List.mem_of_getElem? (i := 16) rfl)
  have hw_17 := hw _ (List.mem_of_getElem? (i := 17) rfl)
  show own_Fin p e below (own_A s ({ frames := 2, cells := 0, slots := 0, locals := 24 } : Room).cells ({ frames := 2, cells := 0, slots := 0, locals := 24 } : Room).slots (own_q1 Z a1 q2 q3 h0 n0)) _
  refine own_go (fun t k => castTop (ef_1 m (a1) (q2) (q3)) k) ?_
  show own_Fin p e below _ (s₁.setTop (mkF m 0 #[.val (.ref a1), .val (.long q2), .second, .val (.long q3), .second] []))
  refine own_go (fun t k => XS.aloadN X0.here hx rfl (hb hby d1_0) rfl rfl  k) ?_
  show own_Fin p e below _ (s₁.setTop (mkF m 1 #[.val (.ref a1), .val (.long q2), .second, .val (.long q3), .second] [(.ref a1)]))
  obtain ⟨_, _, ⟨T1, L1, k1, n1⟩, -, X1, ⟨Lc1, hQ1, l1, y1, z1⟩, st1⟩ := X0.specialBack hx (y := (⟨"java/lang/Record", "<init>", "()V"⟩ : MethodName)) rfl hown (mvT hZ hw_6) (mvT hZ hw_7) (mvT hZ hw_10) (by decide) (backOf (W := 0) (rm2 l Z a0 hw [] (a1)  h0 n0 Z0 ) hZ hw_10 hw_9 (by decide) (by decide)) (g := (mkF m 1 #[.val (.ref a1), .val (.long q2), .second, .val (.long q3), .second] [(.ref a1)])) rfl (by rw [hml]; rfl) (Steps.refl _) (a := a1) (argsL := []) (rest := []) (lenOf pd_0 rfl) rfl (by show 2 * 0 + _ ≤ _; exact Nat.le_of_eq rfl) (hb hby d1_1) (fun _ _ => ⟨rfl, e0, (by decide : 0 + 0 ≤ _), (by decide : 0 + 0 ≤ _)⟩)
  dsimp only [Pt.U, Pt.locs, Pt.cells, Pt.slots] at X1 l1 y1 z1 st1 hQ1
  subst l1 y1 z1
  obtain ⟨rfl, N1q, e1⟩ := hQ1
  have N1 := Fr.app N0 N1q
  refine own_go (fun t k => st1.trans k) ?_
  show own_Fin p e below _ (T1.setTop (mkF m 4 #[.val (.ref a1), .val (.long q2), .second, .val (.long q3), .second] []))
  refine own_go (fun t k => XS.aloadN X1.here hx rfl (hb hby d1_4) rfl rfl  (XS.lloadN X1.here hx rfl (hb hby d1_5) rfl  k)) ?_
  show own_Fin p e below _ (T1.setTop (mkF m 6 #[.val (.ref a1), .val (.long q2), .second, .val (.long q3), .second] [(.long q2), (.ref a1)]))
  obtain ⟨T2, h2, X2, e2, W2, st2⟩ := putF X1 hx hZ hown (host := "") (Or.inl hw_14) Via.refl e1 F_first E_a1 (Or.inr ⟨hw_15, rfl, hnm⟩) hw_1 (ty := .long) (by decide) rfl rfl (g := (mkF m 6 #[.val (.ref a1), .val (.long q2), .second, .val (.long q3), .second] [(.long q2), (.ref a1)])) rfl rfl (hb hby d1_6)
  have f4 := F_end.other W2 (Or.inr (slot_ne (Or.inr hw_17) (Or.inr hw_15) (by decide) (t := .long) (t' := .long) (by decide) (by decide)))
  have f5 := E_a1.wr W2
  have f6 := F_first.same W2
  have Zh7 : n0 ≤ h2.size := Nat.le_trans Z0 (Nat.le_of_eq W2.size.symm)
  have N2 := Fr.snoc X2 N1 g_a1
  have K8 := Kz.wr W2 (Or.inl (List.mem_of_getElem? (i := 0) rfl))
  refine own_go st2 ?_
  show own_Fin p e below _ (T2.setTop (mkF m 9 #[.val (.ref a1), .val (.long q2), .second, .val (.long q3), .second] []))
  refine own_go (fun t k => XS.aloadN X2.here hx rfl (hb hby d1_9) rfl rfl  (XS.lloadN X2.here hx rfl (hb hby d1_10) rfl  k)) ?_
  show own_Fin p e below _ (T2.setTop (mkF m 11 #[.val (.ref a1), .val (.long q2), .second, .val (.long q3), .second] [(.long q3), (.ref a1)]))
  obtain ⟨T9, h9, X9, e9, W9, st9⟩ := putF X2 hx hZ hown (host := "") (Or.inl hw_16) Via.refl e2 f4 f5 (Or.inr ⟨hw_17, rfl, hnm⟩) hw_1 (ty := .long) (by decide) rfl rfl (g := (mkF m 11 #[.val (.ref a1), .val (.long q2), .second, .val (.long q3), .second] [(.long q3), (.ref a1)])) rfl rfl (hb hby d1_11)
  have f10 := f6.other W9 (Or.inr (slot_ne (Or.inr hw_15) (Or.inr hw_17) (by decide) (t := .long) (t' := .long) (by decide) (by decide)))
  have f12 := f5.wr W9
  have f13 := f4.same W9
  have Zh14 : n0 ≤ h9.size := Nat.le_trans Zh7 (Nat.le_of_eq W9.size.symm)
  have N9 := Fr.snoc X9 N2 g_a1
  have K15 := K8.wr W9 (Or.inl (List.mem_of_getElem? (i := 0) rfl))
  refine own_go st9 ?_
  show own_Fin p e below _ (T9.setTop (mkF m 14 #[.val (.ref a1), .val (.long q2), .second, .val (.long q3), .second] []))
  exact own_out X9 (fun _ => rfl) Bd.notSynchronized (fun fs hr => X9.returnOut hx Bd.returns (hb hby d1_14) hr) (by rw [e9]; exact ⟨rfl, N9, K15, f12, f10, f13⟩) (by decide) (by decide)
theorem d4_0 : decode prog_68_method_3_code 0 = .ok (.aload_n 0, 1) := by decide +kernel
theorem d4_1 : decode prog_68_method_3_code 1 = .ok (.getfield 7, 3) := by decide +kernel
theorem d4_4 : decode prog_68_method_3_code 4 = .ok (.lload_n 1, 1) := by decide +kernel
theorem d4_5 : decode prog_68_method_3_code 5 = .ok (.lcmp, 1) := by decide +kernel
theorem d4_6 : decode prog_68_method_3_code 6 = .ok (.ifCond .gt 16, 3) := by decide +kernel
theorem d4_9 : decode prog_68_method_3_code 9 = .ok (.lload_n 1, 1) := by decide +kernel
theorem d4_10 : decode prog_68_method_3_code 10 = .ok (.aload_n 0, 1) := by decide +kernel
theorem d4_11 : decode prog_68_method_3_code 11 = .ok (.getfield 13, 3) := by decide +kernel
theorem d4_14 : decode prog_68_method_3_code 14 = .ok (.lcmp, 1) := by decide +kernel
theorem d4_15 : decode prog_68_method_3_code 15 = .ok (.ifCond .ge 7, 3) := by decide +kernel
theorem d4_18 : decode prog_68_method_3_code 18 = .ok (.iconst 1, 1) := by decide +kernel
theorem d4_19 : decode prog_68_method_3_code 19 = .ok (.goto 4, 3) := by decide +kernel
theorem d4_22 : decode prog_68_method_3_code 22 = .ok (.iconst 0, 1) := by decide +kernel
theorem d4_23 : decode prog_68_method_3_code 23 = .ok (.ireturn, 1) := by decide +kernel
theorem ef_4 (m : MethodId) (x0 : Addr) (x1 : Int64)  : entryFrame m #[(.ref x0), (.long x1)] 3 = mkF m 0 #[.val (.ref x0), .val (.long x1), .second] [] := by first | (simp [entryFrame, mkF, argsToLocals, Value.category]; done) | rfl
def own_c_15 (a1 : Addr) (q2 : Int64) (w1 : Int64) (w2 : Int64) : Int32 := if q2 < w2 then (1 : Int32) else (0 : Int32)
def own_c_6 (a1 : Addr) (q2 : Int64) (w1 : Int64) (w2 : Int64) : Int32 := if q2 < w1 then (0 : Int32) else (own_c_15 a1 q2 w1 w2)
set_option maxRecDepth 65536 in
set_option maxHeartbeats 40000000 in
theorem rm4 (l : Launch) (Z : State) (a0 : Array Value) (hw : ∀ d ∈ tables_1, d.before a0 Z = true) (ws : List Jvm.Cond) (a1 : Addr) (q2 : Int64) (w1 : Int64) (w2 : Int64) (h0 : Heap) (n0 : Nat) (Z0 : n0 ≤ h0.size) (F_first : Fld Z h0 a1 "com/example/atropos/atropos/time/SliceNumbers" "first" "J" (.long w1)) (F_end : Fld Z h0 a1 "com/example/atropos/atropos/time/SliceNumbers" "end" "J" (.long w2)) :
    MetFree l (⟨"com/example/atropos/atropos/time/SliceNumbers", "contains", "(J)Z"⟩ : MethodName) (head1 (Jvm.Cond.code (⟨"com/example/atropos/atropos/time/SliceNumbers", "contains", "(J)Z"⟩ : MethodName) prog_68_method_3_code 3 (some .boolean) :: ws) ({ frames := 0, cells := 0, slots := 0, locals := 0 } : Room)) (fun a U => a = #[(.ref a1), (.long q2)] ∧ Z.Warmed39 U.vm ∧ U.heap = h0) (fun _ _ _ _ _ => True) (fun _ U o U' => ∃ v L, o = .returned v ∧ (own_P h0 n0 (.int (own_c_6 a1 q2 w1 w2))) v U'.heap L ∧ FrameEnd U o U' L ({ frames := 0, cells := 0, slots := 0, locals := 0 } : Room).cells ({ frames := 0, cells := 0, slots := 0, locals := 0 } : Room).slots) := by
  refine MetFree.of_bodySF (plainFor_of_name pn_1) hisR ?_
  intro p e s m args below meth c s₁ Bd hml0 hP hK
  obtain ⟨rfl, hZ, hh⟩ := hP
  have hx := Bd.exec
  have hby := Bd.bytes
  have hml : c.maxLocals = 3 := hml0
  have hown : s.vm.findClass "com/example/atropos/atropos/time/SliceNumbers" = some m.cls := findClass_of_methodNamed Bd.named
  have hnm := (name_of_methodNamed Bd.named Bd.method).1
  have X0 : Stand p l e ({ frames := 0, cells := 0, slots := 0, locals := 0 } : Room) s m #[(.ref a1), (.long q2)] below meth c s₁ [] 0 0 := Stand.of_body Bd
  have e0 : s₁.heap = h0 := by rw [← hh, Bd.state]; rfl
  have N0 := Fr.nil n0
  have hw_14 := hw _ (List.mem_of_getElem? (i := 14) rfl)
  have hw_16 := hw _ (List.mem_of_getElem? (i := 16) rfl)
  show own_Fin p e below (own_A s ({ frames := 0, cells := 0, slots := 0, locals := 0 } : Room).cells ({ frames := 0, cells := 0, slots := 0, locals := 0 } : Room).slots (own_P h0 n0 (.int (own_c_6 a1 q2 w1 w2)))) _
  refine own_go (fun t k => castTop (ef_4 m (a1) (q2)) k) ?_
  show own_Fin p e below _ (s₁.setTop (mkF m 0 #[.val (.ref a1), .val (.long q2), .second] []))
  refine own_go (fun t k => XS.aloadN X0.here hx rfl (hb hby d4_0) rfl rfl  k) ?_
  show own_Fin p e below _ (s₁.setTop (mkF m 1 #[.val (.ref a1), .val (.long q2), .second] [(.ref a1)]))
  obtain ⟨T1, X1, e1, st1⟩ := getF X0 hx hZ hown (host := "") (Or.inl hw_14) Via.refl e0 F_first (g := (mkF m 1 #[.val (.ref a1), .val (.long q2), .second] [(.ref a1)])) rfl rfl (hb hby d4_1)
  refine own_go st1 ?_
  show own_Fin p e below _ (T1.setTop (mkF m 4 #[.val (.ref a1), .val (.long q2), .second] [(.long w1)]))
  refine own_go (fun t k => XS.lloadN X1.here hx rfl (hb hby d4_4) rfl  (XS.lcmp X1.here hx rfl (hb hby d4_5) rfl k)) ?_
  show own_Fin p e below _ (T1.setTop (mkF m 6 #[.val (.ref a1), .val (.long q2), .second] [(.int (lcmpW w1 q2))]))
  by_cases hc2 : q2 < w1
  · skip
    rw [(show (own_c_6 a1 q2 w1 w2) = (0 : Int32) from if_pos hc2)]
    refine own_go (fun t k => XS.ifYes X1.here hx rfl (pc0 := 6) (pc' := 22) rfl (hb hby d4_6) rfl ((if0 _ _).trans (tlt ((lw_gt _ _).mpr hc2)).2.2.1) (by decide) (by decide) (XS.iconst X1.here hx rfl (hb hby d4_22) k)) ?_
    show own_Fin p e below _ (T1.setTop (mkF m 23 #[.val (.ref a1), .val (.long q2), .second] [(.int (0 : Int32))]))
    exact own_out X1 (fun h => by rw [Bd.returns] at h; cases h) Bd.notSynchronized (fun fs hr => retN X1 hx (t := .boolean) Bd.returns (by simp) (hb hby d4_23) hr) ⟨rfl, N0, e1⟩ (by decide) (by decide)
  · skip
    rw [(show (own_c_6 a1 q2 w1 w2) = (own_c_15 a1 q2 w1 w2) from if_neg hc2)]
    refine own_go (fun t k => XS.ifNo X1.here hx rfl (hb hby d4_6) rfl ((if0 _ _).trans (flt (fun q => hc2 ((lw_gt _ _).mp q))).2.2.1) (XS.lloadN X1.here hx rfl (hb hby d4_9) rfl  (XS.aloadN X1.here hx rfl (hb hby d4_10) rfl rfl  k))) ?_
    show own_Fin p e below _ (T1.setTop (mkF m 11 #[.val (.ref a1), .val (.long q2), .second] [(.ref a1), (.long q2)]))
    obtain ⟨T3, X3, e3, st3⟩ := getF X1 hx hZ hown (host := "") (Or.inl hw_16) Via.refl e1 F_end (g := (mkF m 11 #[.val (.ref a1), .val (.long q2), .second] [(.ref a1), (.long q2)])) rfl rfl (hb hby d4_11)
    refine own_go st3 ?_
    show own_Fin p e below _ (T3.setTop (mkF m 14 #[.val (.ref a1), .val (.long q2), .second] [(.long w2), (.long q2)]))
    refine own_go (fun t k => XS.lcmp X3.here hx rfl (hb hby d4_14) rfl k) ?_
    show own_Fin p e below _ (T3.setTop (mkF m 15 #[.val (.ref a1), .val (.long q2), .second] [(.int (lcmpW q2 w2))]))
    by_cases hc4 : q2 < w2
    · skip
      rw [(show (own_c_15 a1 q2 w1 w2) = (1 : Int32) from if_pos hc4)]
      refine own_go (fun t k => XS.ifNo X3.here hx rfl (hb hby d4_15) rfl ((if0 _ _).trans (tlt ((lw_lt _ _).mpr hc4)).2.1) (XS.iconst X3.here hx rfl (hb hby d4_18) (XS.goto X3.here hx rfl (pc0 := 19) (pc' := 23) rfl (hb hby d4_19) (by decide) (by decide) k))) ?_
      show own_Fin p e below _ (T3.setTop (mkF m 23 #[.val (.ref a1), .val (.long q2), .second] [(.int (1 : Int32))]))
      exact own_out X3 (fun h => by rw [Bd.returns] at h; cases h) Bd.notSynchronized (fun fs hr => retN X3 hx (t := .boolean) Bd.returns (by simp) (hb hby d4_23) hr) ⟨rfl, N0, e3⟩ (by decide) (by decide)
    · skip
      rw [(show (own_c_15 a1 q2 w1 w2) = (0 : Int32) from if_neg hc4)]
      refine own_go (fun t k => XS.ifYes X3.here hx rfl (pc0 := 15) (pc' := 22) rfl (hb hby d4_15) rfl ((if0 _ _).trans (flt (fun q => hc4 ((lw_lt _ _).mp q))).2.1) (by decide) (by decide) (XS.iconst X3.here hx rfl (hb hby d4_22) k)) ?_
      show own_Fin p e below _ (T3.setTop (mkF m 23 #[.val (.ref a1), .val (.long q2), .second] [(.int (0 : Int32))]))
      exact own_out X3 (fun h => by rw [Bd.returns] at h; cases h) Bd.notSynchronized (fun fs hr => retN X3 hx (t := .boolean) Bd.returns (by simp) (hb hby d4_23) hr) ⟨rfl, N0, e3⟩ (by decide) (by decide)
theorem d5_0 : decode method_2_code 0 = .ok (.lload_n 0, 1) := by decide +kernel
theorem d5_1 : decode method_2_code 1 = .ok (.ldc2_w 9, 3) := by decide +kernel
theorem d5_4 : decode method_2_code 4 = .ok (.lxor, 1) := by decide +kernel
theorem d5_5 : decode method_2_code 5 = .ok (.lload_n 2, 1) := by decide +kernel
theorem d5_6 : decode method_2_code 6 = .ok (.ldc2_w 9, 3) := by decide +kernel
theorem d5_9 : decode method_2_code 9 = .ok (.lxor, 1) := by decide +kernel
theorem d5_10 : decode method_2_code 10 = .ok (.lcmp, 1) := by decide +kernel
theorem d5_11 : decode method_2_code 11 = .ok (.ifCond .ge 7, 3) := by decide +kernel
theorem d5_14 : decode method_2_code 14 = .ok (.iconst 1, 1) := by decide +kernel
theorem d5_15 : decode method_2_code 15 = .ok (.goto 4, 3) := by decide +kernel
theorem d5_18 : decode method_2_code 18 = .ok (.iconst 0, 1) := by decide +kernel
theorem d5_19 : decode method_2_code 19 = .ok (.ireturn, 1) := by decide +kernel
theorem pn_2 : plainName "com/example/atropos/atropos/time/SliceNumbersContainsPinLaw" = true := by first | (simp [plainName, overriddenIn]; done) | decide +kernel
theorem ef_5 (m : MethodId) (x0 : Int64) (x1 : Int64)  : entryFrame m #[(.long x0), (.long x1)] 4 = mkF m 0 #[.val (.long x0), .second, .val (.long x1), .second] [] := by first | (simp [entryFrame, mkF, argsToLocals, Value.category]; done) | rfl
def own_u_11 (q1 : Int64) (q2 : Int64) : Int32 := if (q1 ^^^ (-9223372036854775808 : Int64)) < (q2 ^^^ (-9223372036854775808 : Int64)) then (1 : Int32) else (0 : Int32)
set_option maxRecDepth 65536 in
set_option maxHeartbeats 40000000 in
theorem rm5 (l : Launch) (Z : State) (a0 : Array Value) (hw : ∀ d ∈ tables_1, d.before a0 Z = true) (ws : List Jvm.Cond) (q1 : Int64) (q2 : Int64) (h0 : Heap) (n0 : Nat) (Z0 : n0 ≤ h0.size) :
    MetFree l (⟨"com/example/atropos/atropos/time/SliceNumbersContainsPinLaw", "unsignedLess", "(JJ)Z"⟩ : MethodName) (head1 (Jvm.Cond.code (⟨"com/example/atropos/atropos/time/SliceNumbersContainsPinLaw", "unsignedLess", "(JJ)Z"⟩ : MethodName) method_2_code 4 (some .boolean) :: ws) ({ frames := 0, cells := 0, slots := 0, locals := 0 } : Room)) (fun a U => a = #[(.long q1), (.long q2)] ∧ Z.Warmed39 U.vm ∧ U.heap = h0) (fun _ _ _ _ _ => True) (fun _ U o U' => ∃ v L, o = .returned v ∧ (own_P h0 n0 (.int (own_u_11 q1 q2))) v U'.heap L ∧ FrameEnd U o U' L ({ frames := 0, cells := 0, slots := 0, locals := 0 } : Room).cells ({ frames := 0, cells := 0, slots := 0, locals := 0 } : Room).slots) := by
  refine MetFree.of_bodySF (plainFor_of_name pn_2) hisR ?_
  intro p e s m args below meth c s₁ Bd hml0 hP hK
  obtain ⟨rfl, hZ, hh⟩ := hP
  have hx := Bd.exec
  have hby := Bd.bytes
  have hml : c.maxLocals = 4 := hml0
  have hown : s.vm.findClass "com/example/atropos/atropos/time/SliceNumbersContainsPinLaw" = some m.cls := findClass_of_methodNamed Bd.named
  have hnm := (name_of_methodNamed Bd.named Bd.method).1
  have X0 : Stand p l e ({ frames := 0, cells := 0, slots := 0, locals := 0 } : Room) s m #[(.long q1), (.long q2)] below meth c s₁ [] 0 0 := Stand.of_body Bd
  have e0 : s₁.heap = h0 := by rw [← hh, Bd.state]; rfl
  have N0 := Fr.nil n0
  have hw_27 := hw _ (List.mem_of_getElem? (i := 27) rfl)
  show own_Fin p e below (own_A s ({ frames := 0, cells := 0, slots := 0, locals := 0 } : Room).cells ({ frames := 0, cells := 0, slots := 0, locals := 0 } : Room).slots (own_P h0 n0 (.int (own_u_11 q1 q2)))) _
  refine own_go (fun t k => castTop (ef_5 m (q1) (q2)) k) ?_
  show own_Fin p e below _ (s₁.setTop (mkF m 0 #[.val (.long q1), .second, .val (.long q2), .second] []))
  refine own_go (fun t k => XS.lloadN X0.here hx rfl (hb hby d5_0) rfl  k) ?_
  show own_Fin p e below _ (s₁.setTop (mkF m 1 #[.val (.long q1), .second, .val (.long q2), .second] [(.long q1)]))
  refine own_go (fun t k => X0.ldc2Long hx hown (mvT hZ hw_27) (g := (mkF m 1 #[.val (.long q1), .second, .val (.long q2), .second] [(.long q1)])) rfl (hb hby d5_1) _ (XS.lxor X0.here hx rfl (hb hby d5_4) rfl (XS.lloadN X0.here hx rfl (hb hby d5_5) rfl  k))) ?_
  show own_Fin p e below _ (s₁.setTop (mkF m 6 #[.val (.long q1), .second, .val (.long q2), .second] [(.long q2), (.long (q1 ^^^ (-9223372036854775808 : Int64)))]))
  refine own_go (fun t k => X0.ldc2Long hx hown (mvT hZ hw_27) (g := (mkF m 6 #[.val (.long q1), .second, .val (.long q2), .second] [(.long q2), (.long (q1 ^^^ (-9223372036854775808 : Int64)))])) rfl (hb hby d5_6) _ (XS.lxor X0.here hx rfl (hb hby d5_9) rfl (XS.lcmp X0.here hx rfl (hb hby d5_10) rfl k))) ?_
  show own_Fin p e below _ (s₁.setTop (mkF m 11 #[.val (.long q1), .second, .val (.long q2), .second] [(.int (lcmpW (q1 ^^^ (-9223372036854775808 : Int64)) (q2 ^^^ (-9223372036854775808 : Int64))))]))
  by_cases hc1 : (q1 ^^^ (-9223372036854775808 : Int64)) < (q2 ^^^ (-9223372036854775808 : Int64))
  · skip
    rw [(show (own_u_11 q1 q2) = (1 : Int32) from if_pos hc1)]
    refine own_go (fun t k => XS.ifNo X0.here hx rfl (hb hby d5_11) rfl ((if0 _ _).trans (tlt ((lw_lt _ _).mpr hc1)).2.1) (XS.iconst X0.here hx rfl (hb hby d5_14) (XS.goto X0.here hx rfl (pc0 := 15) (pc' := 19) rfl (hb hby d5_15) (by decide) (by decide) k))) ?_
    show own_Fin p e below _ (s₁.setTop (mkF m 19 #[.val (.long q1), .second, .val (.long q2), .second] [(.int (1 : Int32))]))
    exact own_out X0 (fun h => by rw [Bd.returns] at h; cases h) Bd.notSynchronized (fun fs hr => retN X0 hx (t := .boolean) Bd.returns (by simp) (hb hby d5_19) hr) ⟨rfl, N0, e0⟩ (by decide) (by decide)
  · skip
    rw [(show (own_u_11 q1 q2) = (0 : Int32) from if_neg hc1)]
    refine own_go (fun t k => XS.ifYes X0.here hx rfl (pc0 := 11) (pc' := 18) rfl (hb hby d5_11) rfl ((if0 _ _).trans (flt (fun q => hc1 ((lw_lt _ _).mp q))).2.1) (by decide) (by decide) (XS.iconst X0.here hx rfl (hb hby d5_18) k)) ?_
    show own_Fin p e below _ (s₁.setTop (mkF m 19 #[.val (.long q1), .second, .val (.long q2), .second] [(.int (0 : Int32))]))
    exact own_out X0 (fun h => by rw [Bd.returns] at h; cases h) Bd.notSynchronized (fun fs hr => retN X0 hx (t := .boolean) Bd.returns (by simp) (hb hby d5_19) hr) ⟨rfl, N0, e0⟩ (by decide) (by decide)
theorem own_xorN (x : Nat) (h : x < 2 ^ 64) : x ^^^ 2 ^ 63 = if x < 2 ^ 63 then x + 2 ^ 63 else x - 2 ^ 63 := by
  have h1 : (x ^^^ 2 ^ 63) % 2 ^ 63 = x % 2 ^ 63 := by rw [Nat.xor_mod_two_pow]; simp
  have h2 : (x ^^^ 2 ^ 63) / 2 ^ 63 = (x / 2 ^ 63) ^^^ 1 := by rw [Nat.xor_div_two_pow]
  have h3 : x / 2 ^ 63 = 0 ∨ x / 2 ^ 63 = 1 := by omega
  rcases h3 with h3 | h3 <;> rw [h3] at h2
  · have h4 : (0 : Nat) ^^^ 1 = 1 := by decide
    split <;> omega
  · have h4 : (1 : Nat) ^^^ 1 = 0 := by decide
    split <;> omega
theorem own_xor (x : Int64) : (x ^^^ (-9223372036854775808 : Int64)).toInt = if x.toInt < 0 then x.toInt + 9223372036854775808 else x.toInt - 9223372036854775808 := by
  have e1 : (x ^^^ (-9223372036854775808 : Int64)).toInt = ((x ^^^ (-9223372036854775808 : Int64)).toBitVec).toInt := rfl
  have e2 : x.toInt = x.toBitVec.toInt := rfl
  have e3 : ((-9223372036854775808 : Int64).toBitVec).toNat = 2 ^ 63 := by decide
  rw [e1, e2, Int64.toBitVec_xor, BitVec.toInt_eq_toNat_cond, BitVec.toInt_eq_toNat_cond, BitVec.toNat_xor, e3, own_xorN _ x.toBitVec.isLt]
  have := x.toBitVec.isLt
  generalize x.toBitVec.toNat = n at *
  by_cases q : n < 2 ^ 63
  · simp only [q, if_true]; split <;> split <;> omega
  · simp only [q, if_false]; split <;> split <;> omega
theorem own_m1 {b : Addr} {x y n : Int64} (h : ¬ x < y) : own_c_6 b n x y = (0 : Int32) := by
  rw [Int64.lt_iff_toInt_lt] at h
  by_cases q1 : n < x
  · exact if_pos q1
  · have q2 : ¬ n < y := by rw [Int64.lt_iff_toInt_lt] at q1 ⊢; omega
    rw [(show own_c_6 b n x y = own_c_15 b n x y from if_neg q1)]; exact if_neg q2
theorem own_uw (x y n : Int64) (h : x < y) : (((n - x) ^^^ (-9223372036854775808 : Int64)) < ((y - x) ^^^ (-9223372036854775808 : Int64))) ↔ (¬ n < x ∧ n < y) := by
  rw [Int64.lt_iff_toInt_lt] at h
  simp only [Int64.lt_iff_toInt_lt]
  have a1 := own_xor (n - x)
  have a2 := own_xor (y - x)
  have c1 := c_lsub n x
  have c2 := c_lsub y x
  have r1 := rng64 (n - x)
  have r2 := rng64 (y - x)
  have r3 := rng64 n
  have r4 := rng64 x
  have r5 := rng64 y
  rw [a1, a2]
  generalize (n - x).toInt = A at *
  generalize (y - x).toInt = B at *
  generalize n.toInt = N at *
  generalize x.toInt = X at *
  generalize y.toInt = Y at *
  split <;> split <;> omega
theorem own_m2 {b : Addr} {x y n : Int64} (h : x < y) (h2 : own_u_11 (n - x) (y - x) = (0 : Int32)) : own_c_6 b n x y = (0 : Int32) := by
  have q : ¬ (((n - x) ^^^ (-9223372036854775808 : Int64)) < ((y - x) ^^^ (-9223372036854775808 : Int64))) := fun q => by
    rw [(show own_u_11 (n - x) (y - x) = (1 : Int32) from if_pos q)] at h2; exact absurd h2 (by decide)
  rw [own_uw x y n h] at q
  by_cases q1 : n < x
  · exact if_pos q1
  · rw [(show own_c_6 b n x y = own_c_15 b n x y from if_neg q1)]; exact if_neg fun q2 => q ⟨q1, q2⟩
theorem own_m3 {b : Addr} {x y n : Int64} (h : x < y) (h2 : ¬ own_u_11 (n - x) (y - x) = (0 : Int32)) : own_c_6 b n x y = (1 : Int32) := by
  have q : (((n - x) ^^^ (-9223372036854775808 : Int64)) < ((y - x) ^^^ (-9223372036854775808 : Int64))) := Decidable.by_contra fun q => h2 (if_neg q)
  rw [own_uw x y n h] at q
  rw [(show own_c_6 b n x y = own_c_15 b n x y from if_neg q.1)]; exact if_pos q.2

theorem pd_1 : parseMethodDescriptor "(JJ)V" = some ⟨[.long, .long], none⟩ := by decide +kernel
theorem pd_2 : parseMethodDescriptor "(JJ)Z" = some ⟨[.long, .long], some .boolean⟩ := by decide +kernel
theorem pd_3 : parseMethodDescriptor "(J)Z" = some ⟨[.long], some .boolean⟩ := by decide +kernel
theorem ef_0 (m : MethodId) (x0 : Int64) (x1 : Int64) (x2 : Int64) (x3 : Int32)  : entryFrame m #[(.long x0), (.long x1), (.long x2), (.int x3)] maxLocals = mkF m 0 #[.val (.long x0), .second, .val (.long x1), .second, .val (.long x2), .second, .val (.int x3), .unset, .unset, .unset, .unset, .unset] [] := by first | (simp [entryFrame, mkF, argsToLocals, Value.category, maxLocals]; done) | rfl
def own_q0 (Z : State) (q1 : Int64) (q2 : Int64) (q3 : Int64) (p4 : Int32) (h0 : Heap) (n0 : Nat) (v : Option Value) (h : Heap) (L : List Loc) : Prop := v = some (.int (1 : Int32)) ∧ Fr n0 L
set_option maxRecDepth 65536 in
set_option maxHeartbeats 40000000 in
theorem rm0 (l : Launch) (Z : State) (a0 : Array Value) (hw : ∀ d ∈ tables_1, d.before a0 Z = true) (ws : List Jvm.Cond) (q1 : Int64) (q2 : Int64) (q3 : Int64) (p4 : Int32) (h0 : Heap) (n0 : Nat) (Z0 : n0 ≤ h0.size) :
    MetFree l x (head1 (Jvm.Cond.code x code maxLocals ret :: ws) room_1) (fun a U => a = #[(.long q1), (.long q2), (.long q3), (.int p4)] ∧ Z.Warmed39 U.vm ∧ U.heap = h0) (fun _ _ _ _ _ => True) (fun _ U o U' => ∃ v L, o = .returned v ∧ (own_q0 Z q1 q2 q3 p4 h0 n0) v U'.heap L ∧ FrameEnd U o U' L room_1.cells room_1.slots) := by
  refine MetFree.of_bodySF (plainFor_of_name pn_2) hisR ?_
  intro p e s m args below meth c s₁ Bd hml0 hP hK
  obtain ⟨rfl, hZ, hh⟩ := hP
  have hx := Bd.exec
  have hby := Bd.bytes
  have hml : c.maxLocals = 12 := hml0
  have hown : s.vm.findClass "com/example/atropos/atropos/time/SliceNumbersContainsPinLaw" = some m.cls := findClass_of_methodNamed Bd.named
  have hnm := (name_of_methodNamed Bd.named Bd.method).1
  have X0 : Stand p l e room_1 s m #[(.long q1), (.long q2), (.long q3), (.int p4)] below meth c s₁ [] 0 0 := Stand.of_body Bd
  have e0 : s₁.heap = h0 := by rw [← hh, Bd.state]; rfl
  have N0 := Fr.nil n0
  have hw_0 := hw _ (List.mem_of_getElem? (i := 0) rfl)
  have hw_1 := hw _ (List.mem_of_getElem? (i := 1) rfl)
  have hw_2 := hw _ (List.mem_of_getElem? (i := 2) rfl)
  have hw_3 := hw _ (List.mem_of_getElem? (i := 3) rfl)
  have hw_4 := hw _ (List.mem_of_getElem? (i := 4) rfl)
  have hw_5 := hw _ (List.mem_of_getElem? (i := 5) rfl)
  have hw_15 := hw _ (List.mem_of_getElem? (i := 15) rfl)
  have hw_17 := hw _ (List.mem_of_getElem? (i := 17) rfl)
  have hw_18 := hw _ (List.mem_of_getElem? (i := 18) rfl)
  have hw_19 := hw _ (List.mem_of_getElem? (i := 19) rfl)
  have hw_20 := hw _ (List.mem_of_getElem? (i := 20) rfl)
  have hw_21 := hw _ (List.mem_of_getElem? (i := 21) rfl)
  have hw_22 := hw _ (List.mem_of_getElem? (i := 22) rfl)
  have hw_23 := hw _ (List.mem_of_getElem? (i := 23) rfl)
  have hw_24 := hw _ (List.mem_of_getElem? (i := 24) rfl)
  have hw_25 := hw _ (List.mem_of_getElem? (i := 25) rfl)
  have hw_26 := hw _ (List.mem_of_getElem? (i := 26) rfl)
  show own_Fin p e below (own_A s room_1.cells room_1.slots (own_q0 Z q1 q2 q3 p4 h0 n0)) _
  refine own_go (fun t k => castTop (ef_0 m (q1) (q2) (q3) (p4)) k) ?_
  show own_Fin p e below _ (s₁.setTop (mkF m 0 #[.val (.long q1), .second, .val (.long q2), .second, .val (.long q3), .second, .val (.int p4), .unset, .unset, .unset, .unset, .unset] []))
  obtain ⟨T1, h1, X1, e1, E1, A1, D1, -, st1⟩ := newO X0 hx hZ hown hw_0 hw_1 hw_2 e0 (g := (mkF m 0 #[.val (.long q1), .second, .val (.long q2), .second, .val (.long q3), .second, .val (.int p4), .unset, .unset, .unset, .unset, .unset] [])) rfl (hb hby at_0) (by decide) (by decide)
  obtain ⟨b1, g1⟩ : ∃ z, z = h0.size := ⟨_, rfl⟩
  rw [← g1] at A1 D1 st1
  have g_b1 : n0 ≤ b1 := Nat.le_trans Z0 (Nat.le_of_eq g1.symm)
  have Zh2 : n0 ≤ h1.size := Nat.le_trans Z0 E1.1
  have f3 : Fld Z h1 b1 "com/example/atropos/atropos/time/SliceNumbers" "first" "J" (.long (0 : Int64)) := D1 (Or.inr hw_15) (ty := .long) (by decide)
  have f4 : Fld Z h1 b1 "com/example/atropos/atropos/time/SliceNumbers" "end" "J" (.long (0 : Int64)) := D1 (Or.inr hw_17) (ty := .long) (by decide)
  refine own_go st1 ?_
  show own_Fin p e below _ (T1.setTop (mkF m 3 #[.val (.long q1), .second, .val (.long q2), .second, .val (.long q3), .second, .val (.int p4), .unset, .unset, .unset, .unset, .unset] [(.ref b1)]))
  refine own_go (fun t k => XS.dup X1.here hx rfl (hb hby at_3) rfl rfl (XS.lloadN X1.here hx rfl (hb hby at_4) rfl  (XS.lloadN X1.here hx rfl (hb hby at_5) rfl  k))) ?_
  show own_Fin p e below _ (T1.setTop (mkF m 6 #[.val (.long q1), .second, .val (.long q2), .second, .val (.long q3), .second, .val (.int p4), .unset, .unset, .unset, .unset, .unset] [(.long q2), (.long q1), (.ref b1), (.ref b1)]))
  obtain ⟨_, _, ⟨T5, L5, k5, n5⟩, -, X5, ⟨Lc5, hQ5, l5, y5, z5⟩, st5⟩ := X1.specialBack hx (y := (⟨"com/example/atropos/atropos/time/SliceNumbers", "<init>", "(JJ)V"⟩ : MethodName)) rfl hown (mvT hZ hw_3) (mvT hZ hw_4) (mvT hZ hw_5) (by decide) (backOf (W := 1) (rm1 l Z a0 hw [] (b1) (q1) (q2)  h1 n0 Zh2 f3 f4 A1 g_b1) hZ hw_5 hw_2 (by decide) (by decide)) (g := (mkF m 6 #[.val (.long q1), .second, .val (.long q2), .second, .val (.long q3), .second, .val (.int p4), .unset, .unset, .unset, .unset, .unset] [(.long q2), (.long q1), (.ref b1), (.ref b1)])) rfl (by rw [hml]; rfl) (Steps.refl _) (a := b1) (argsL := [(.long q1), (.long q2)]) (rest := [(.ref b1)]) (lenOf pd_1 rfl) rfl (by show 2 * 0 + _ ≤ _; exact Nat.le_of_eq rfl) (hb hby at_6) (fun _ _ => ⟨rfl, e1, (by decide : 1 + 0 ≤ _), (by decide : 2 + 0 ≤ _)⟩)
  dsimp only [Pt.U, Pt.locs, Pt.cells, Pt.slots] at X5 l5 y5 z5 st5 hQ5
  subst l5 y5 z5
  obtain ⟨rfl, N5q, K5, x8, x6, x7⟩ := hQ5
  have N5 := Fr.app N0 N5q
  have Zh11 : n0 ≤ T5.heap.size := Nat.le_trans Zh2 K5.1
  refine own_go (fun t k => st5.trans k) ?_
  show own_Fin p e below _ (T5.setTop (mkF m 9 #[.val (.long q1), .second, .val (.long q2), .second, .val (.long q3), .second, .val (.int p4), .unset, .unset, .unset, .unset, .unset] [(.ref b1)]))
  refine own_go (fun t k => XS.astore X5.here hx rfl (hb hby at_9) rfl rfl (l' := #[.val (.long q1), .second, .val (.long q2), .second, .val (.long q3), .second, .val (.int p4), .val (.ref b1), .unset, .unset, .unset, .unset]) rfl (XS.iload X5.here hx rfl (hb hby at_11) rfl  (XS.bipush X5.here hx rfl (hb hby at_13) (XS.iand X5.here hx rfl (hb hby at_15) rfl k)))) ?_
  show own_Fin p e below _ (T5.setTop (mkF m 16 #[.val (.long q1), .second, .val (.long q2), .second, .val (.long q3), .second, .val (.int p4), .val (.ref b1), .unset, .unset, .unset, .unset] [(.int (p4 &&& (7 : Int32)))]))
  refine own_go (fun t k => XS.istore X5.here hx rfl (hb hby at_16) rfl (l' := #[.val (.long q1), .second, .val (.long q2), .second, .val (.long q3), .second, .val (.int p4), .val (.ref b1), .val (.int (p4 &&& (7 : Int32))), .unset, .unset, .unset]) rfl k) ?_
  show own_Fin p e below _ (T5.setTop (mkF m 18 #[.val (.long q1), .second, .val (.long q2), .second, .val (.long q3), .second, .val (.int p4), .val (.ref b1), .val (.int (p4 &&& (7 : Int32))), .unset, .unset, .unset] []))
  have Jn12 : ∀ (y : Int64), own_Fin p e below (own_A s room_1.cells room_1.slots (own_q0 Z q1 q2 q3 p4 h0 n0)) (T5.setTop (mkF m 88 #[.val (.long q1), .second, .val (.long q2), .second, .val (.long q3), .second, .val (.int p4), .val (.ref b1), .val (.int (p4 &&& (7 : Int32))), .val (.long y), .second, .unset] [])) := by
    intro y
    refine own_go (fun t k => XS.lloadN X5.here hx rfl (hb hby at_88) rfl  (XS.lloadN X5.here hx rfl (hb hby at_89) rfl  (XS.lcmp X5.here hx rfl (hb hby at_90) rfl k))) ?_
    show own_Fin p e below _ (T5.setTop (mkF m 91 #[.val (.long q1), .second, .val (.long q2), .second, .val (.long q3), .second, .val (.int p4), .val (.ref b1), .val (.int (p4 &&& (7 : Int32))), .val (.long y), .second, .unset] [(.int (lcmpW q2 q1))]))
    by_cases hc13 : q1 < q2
    · skip
      refine own_go (fun t k => XS.ifNo X5.here hx rfl (hb hby at_91) rfl ((if0 _ _).trans (tlt ((lw_gt _ _).mpr hc13)).2.2.2) (XS.lload X5.here hx rfl (hb hby at_94) rfl  (XS.lloadN X5.here hx rfl (hb hby at_96) rfl  (XS.lsub X5.here hx rfl (hb hby at_97) rfl k)))) ?_
      show own_Fin p e below _ (T5.setTop (mkF m 98 #[.val (.long q1), .second, .val (.long q2), .second, .val (.long q3), .second, .val (.int p4), .val (.ref b1), .val (.int (p4 &&& (7 : Int32))), .val (.long y), .second, .unset] [(.long (y - q1))]))
      refine own_go (fun t k => XS.lloadN X5.here hx rfl (hb hby at_98) rfl  (XS.lloadN X5.here hx rfl (hb hby at_99) rfl  (XS.lsub X5.here hx rfl (hb hby at_100) rfl k))) ?_
      show own_Fin p e below _ (T5.setTop (mkF m 101 #[.val (.long q1), .second, .val (.long q2), .second, .val (.long q3), .second, .val (.int p4), .val (.ref b1), .val (.int (p4 &&& (7 : Int32))), .val (.long y), .second, .unset] [(.long (q2 - q1)), (.long (y - q1))]))
      obtain ⟨_, _, ⟨T14, L14, k14, n14⟩, -, X14, ⟨Lc14, hQ14, l14, y14, z14⟩, st14⟩ := Jvm.LawKit.callS X5 hx (y := (⟨"com/example/atropos/atropos/time/SliceNumbersContainsPinLaw", "unsignedLess", "(JJ)Z"⟩ : MethodName)) hown (mvT hZ hw_23) (mvT hZ hw_24) (mvT hZ hw_25) (mvT hZ hw_26) (by decide) (backOf (W := 0) (rm5 l Z a0 hw [] ((y - q1)) ((q2 - q1))  T5.heap n0 Zh11 ) hZ hw_26 hw_25 (by decide) (by decide)) (g := (mkF m 101 #[.val (.long q1), .second, .val (.long q2), .second, .val (.long q3), .second, .val (.int p4), .val (.ref b1), .val (.int (p4 &&& (7 : Int32))), .val (.long y), .second, .unset] [(.long (q2 - q1)), (.long (y - q1))])) rfl (by rw [hml]; rfl) (argsL := [(.long (y - q1)), (.long (q2 - q1))]) (rest := []) (lenOf pd_2 rfl) rfl (by show 2 * 0 + _ ≤ _; exact Nat.le_of_eq rfl) (hb hby at_101) (fun _ _ => ⟨rfl, rfl, (by decide : 1 + 0 ≤ _), (by decide : 2 + 0 ≤ _)⟩)
      dsimp only [Pt.U, Pt.locs, Pt.cells, Pt.slots] at X14 l14 y14 z14 st14 hQ14
      subst l14 y14 z14
      obtain ⟨rfl, N14q, e14⟩ := hQ14
      have N14 := Fr.app N5 N14q
      refine own_go st14 ?_
      show own_Fin p e below _ (T14.setTop (mkF m 104 #[.val (.long q1), .second, .val (.long q2), .second, .val (.long q3), .second, .val (.int p4), .val (.ref b1), .val (.int (p4 &&& (7 : Int32))), .val (.long y), .second, .unset] [(.int (own_u_11 (y - q1) (q2 - q1)))]))
      by_cases hc15 : (own_u_11 (y - q1) (q2 - q1)) = (0 : Int32)
      · skip
        refine own_go (fun t k => XS.ifYes X14.here hx rfl (pc0 := 104) (pc' := 111) rfl (hb hby at_104) rfl ((if0 _ _).trans (teq hc15).1) (by decide) (by decide) (XS.iconst X14.here hx rfl (hb hby at_111) (XS.istore X14.here hx rfl (hb hby at_112) rfl (l' := #[.val (.long q1), .second, .val (.long q2), .second, .val (.long q3), .second, .val (.int p4), .val (.ref b1), .val (.int (p4 &&& (7 : Int32))), .val (.long y), .second, .val (.int (0 : Int32))]) rfl (XS.aload X14.here hx rfl (hb hby at_114) rfl rfl  k)))) ?_
        show own_Fin p e below _ (T14.setTop (mkF m 116 #[.val (.long q1), .second, .val (.long q2), .second, .val (.long q3), .second, .val (.int p4), .val (.ref b1), .val (.int (p4 &&& (7 : Int32))), .val (.long y), .second, .val (.int (0 : Int32))] [(.ref b1)]))
        refine own_go (fun t k => XS.lload X14.here hx rfl (hb hby at_116) rfl  k) ?_
        show own_Fin p e below _ (T14.setTop (mkF m 118 #[.val (.long q1), .second, .val (.long q2), .second, .val (.long q3), .second, .val (.int p4), .val (.ref b1), .val (.int (p4 &&& (7 : Int32))), .val (.long y), .second, .val (.int (0 : Int32))] [(.long y), (.ref b1)]))
        obtain ⟨cq16, kq16, q16a, q16b, q16c⟩ := isOf hZ e14 x8
        obtain ⟨_, _, ⟨T16, L16, k16, n16⟩, -, X16, ⟨Lc16, hQ16, l16, y16, z16⟩, st16⟩ := X14.virtualBack hx (y := (⟨"com/example/atropos/atropos/time/SliceNumbers", "contains", "(J)Z"⟩ : MethodName)) (z := (⟨"com/example/atropos/atropos/time/SliceNumbers", "contains", "(J)Z"⟩ : MethodName)) hown (mvT hZ hw_18) (mvT hZ hw_19) (notFace_of_selects (args := #[]) (mvT hZ hw_21)) (mvT hZ hw_21) (mvT hZ hw_20) (by decide) (backOf (W := 0) (rm4 l Z a0 hw [] (b1) (y) q1 q2 T5.heap n0 Zh11 x6 x7) hZ hw_22 hw_2 (by decide) (by decide)) q16a q16c (g := (mkF m 118 #[.val (.long q1), .second, .val (.long q2), .second, .val (.long q3), .second, .val (.int p4), .val (.ref b1), .val (.int (p4 &&& (7 : Int32))), .val (.long y), .second, .val (.int (0 : Int32))] [(.long y), (.ref b1)])) rfl (by rw [hml]; rfl) (Steps.refl _) (argsL := [(.long y)]) (rest := []) (lenOf pd_3 rfl) rfl (by show 2 * 0 + _ ≤ _; exact Nat.le_of_eq rfl) (hb hby at_118) (fun _ _ => ⟨rfl, e14, (by decide : 1 + 0 ≤ _), (by decide : 2 + 0 ≤ _)⟩)
        dsimp only [Pt.U, Pt.locs, Pt.cells, Pt.slots] at X16 l16 y16 z16 st16 hQ16
        subst l16 y16 z16
        obtain ⟨rfl, N16q, e16⟩ := hQ16
        have N16 := Fr.app N14 N16q
        refine own_go (fun t k => st16.trans k) ?_
        show own_Fin p e below _ (T16.setTop (mkF m 121 #[.val (.long q1), .second, .val (.long q2), .second, .val (.long q3), .second, .val (.int p4), .val (.ref b1), .val (.int (p4 &&& (7 : Int32))), .val (.long y), .second, .val (.int (0 : Int32))] [(.int (own_c_6 b1 y q1 q2))]))
        refine own_go (fun t k => XS.iload X16.here hx rfl (hb hby at_121) rfl  k) ?_
        show own_Fin p e below _ (T16.setTop (mkF m 123 #[.val (.long q1), .second, .val (.long q2), .second, .val (.long q3), .second, .val (.int p4), .val (.ref b1), .val (.int (p4 &&& (7 : Int32))), .val (.long y), .second, .val (.int (0 : Int32))] [(.int (0 : Int32)), (.int (own_c_6 b1 y q1 q2))]))
        refine own_go (fun t k => XS.icmpNo X16.here hx rfl (hb hby at_123) rfl (teq (own_m2 hc13 hc15)).2 (XS.iconst X16.here hx rfl (hb hby at_126) (XS.goto X16.here hx rfl (pc0 := 127) (pc' := 131) rfl (hb hby at_127) (by decide) (by decide) k))) ?_
        show own_Fin p e below _ (T16.setTop (mkF m 131 #[.val (.long q1), .second, .val (.long q2), .second, .val (.long q3), .second, .val (.int p4), .val (.ref b1), .val (.int (p4 &&& (7 : Int32))), .val (.long y), .second, .val (.int (0 : Int32))] [(.int (1 : Int32))]))
        exact own_out X16 (fun h => by rw [Bd.returns] at h; cases h) Bd.notSynchronized (fun fs hr => retN X16 hx (t := .boolean) Bd.returns (by simp) (hb hby at_131) hr) ⟨rfl, N16⟩ (by decide) (by decide)
      · skip
        refine own_go (fun t k => XS.ifNo X14.here hx rfl (hb hby at_104) rfl ((if0 _ _).trans (feq hc15).1) (XS.iconst X14.here hx rfl (hb hby at_107) (XS.goto X14.here hx rfl (pc0 := 108) (pc' := 112) rfl (hb hby at_108) (by decide) (by decide) (XS.istore X14.here hx rfl (hb hby at_112) rfl (l' := #[.val (.long q1), .second, .val (.long q2), .second, .val (.long q3), .second, .val (.int p4), .val (.ref b1), .val (.int (p4 &&& (7 : Int32))), .val (.long y), .second, .val (.int (1 : Int32))]) rfl k)))) ?_
        show own_Fin p e below _ (T14.setTop (mkF m 114 #[.val (.long q1), .second, .val (.long q2), .second, .val (.long q3), .second, .val (.int p4), .val (.ref b1), .val (.int (p4 &&& (7 : Int32))), .val (.long y), .second, .val (.int (1 : Int32))] []))
        refine own_go (fun t k => XS.aload X14.here hx rfl (hb hby at_114) rfl rfl  (XS.lload X14.here hx rfl (hb hby at_116) rfl  k)) ?_
        show own_Fin p e below _ (T14.setTop (mkF m 118 #[.val (.long q1), .second, .val (.long q2), .second, .val (.long q3), .second, .val (.int p4), .val (.ref b1), .val (.int (p4 &&& (7 : Int32))), .val (.long y), .second, .val (.int (1 : Int32))] [(.long y), (.ref b1)]))
        obtain ⟨cq17, kq17, q17a, q17b, q17c⟩ := isOf hZ e14 x8
        obtain ⟨_, _, ⟨T17, L17, k17, n17⟩, -, X17, ⟨Lc17, hQ17, l17, y17, z17⟩, st17⟩ := X14.virtualBack hx (y := (⟨"com/example/atropos/atropos/time/SliceNumbers", "contains", "(J)Z"⟩ : MethodName)) (z := (⟨"com/example/atropos/atropos/time/SliceNumbers", "contains", "(J)Z"⟩ : MethodName)) hown (mvT hZ hw_18) (mvT hZ hw_19) (notFace_of_selects (args := #[]) (mvT hZ hw_21)) (mvT hZ hw_21) (mvT hZ hw_20) (by decide) (backOf (W := 0) (rm4 l Z a0 hw [] (b1) (y) q1 q2 T5.heap n0 Zh11 x6 x7) hZ hw_22 hw_2 (by decide) (by decide)) q17a q17c (g := (mkF m 118 #[.val (.long q1), .second, .val (.long q2), .second, .val (.long q3), .second, .val (.int p4), .val (.ref b1), .val (.int (p4 &&& (7 : Int32))), .val (.long y), .second, .val (.int (1 : Int32))] [(.long y), (.ref b1)])) rfl (by rw [hml]; rfl) (Steps.refl _) (argsL := [(.long y)]) (rest := []) (lenOf pd_3 rfl) rfl (by show 2 * 0 + _ ≤ _; exact Nat.le_of_eq rfl) (hb hby at_118) (fun _ _ => ⟨rfl, e14, (by decide : 1 + 0 ≤ _), (by decide : 2 + 0 ≤ _)⟩)
        dsimp only [Pt.U, Pt.locs, Pt.cells, Pt.slots] at X17 l17 y17 z17 st17 hQ17
        subst l17 y17 z17
        obtain ⟨rfl, N17q, e17⟩ := hQ17
        have N17 := Fr.app N14 N17q
        refine own_go (fun t k => st17.trans k) ?_
        show own_Fin p e below _ (T17.setTop (mkF m 121 #[.val (.long q1), .second, .val (.long q2), .second, .val (.long q3), .second, .val (.int p4), .val (.ref b1), .val (.int (p4 &&& (7 : Int32))), .val (.long y), .second, .val (.int (1 : Int32))] [(.int (own_c_6 b1 y q1 q2))]))
        refine own_go (fun t k => XS.iload X17.here hx rfl (hb hby at_121) rfl  k) ?_
        show own_Fin p e below _ (T17.setTop (mkF m 123 #[.val (.long q1), .second, .val (.long q2), .second, .val (.long q3), .second, .val (.int p4), .val (.ref b1), .val (.int (p4 &&& (7 : Int32))), .val (.long y), .second, .val (.int (1 : Int32))] [(.int (1 : Int32)), (.int (own_c_6 b1 y q1 q2))]))
        refine own_go (fun t k => XS.icmpNo X17.here hx rfl (hb hby at_123) rfl (teq (own_m3 hc13 hc15)).2 (XS.iconst X17.here hx rfl (hb hby at_126) (XS.goto X17.here hx rfl (pc0 := 127) (pc' := 131) rfl (hb hby at_127) (by decide) (by decide) k))) ?_
        show own_Fin p e below _ (T17.setTop (mkF m 131 #[.val (.long q1), .second, .val (.long q2), .second, .val (.long q3), .second, .val (.int p4), .val (.ref b1), .val (.int (p4 &&& (7 : Int32))), .val (.long y), .second, .val (.int (1 : Int32))] [(.int (1 : Int32))]))
        exact own_out X17 (fun h => by rw [Bd.returns] at h; cases h) Bd.notSynchronized (fun fs hr => retN X17 hx (t := .boolean) Bd.returns (by simp) (hb hby at_131) hr) ⟨rfl, N17⟩ (by decide) (by decide)
    · skip
      refine own_go (fun t k => XS.ifYes X5.here hx rfl (pc0 := 91) (pc' := 111) rfl (hb hby at_91) rfl ((if0 _ _).trans (flt (fun q => hc13 ((lw_gt _ _).mp q))).2.2.2) (by decide) (by decide) (XS.iconst X5.here hx rfl (hb hby at_111) (XS.istore X5.here hx rfl (hb hby at_112) rfl (l' := #[.val (.long q1), .second, .val (.long q2), .second, .val (.long q3), .second, .val (.int p4), .val (.ref b1), .val (.int (p4 &&& (7 : Int32))), .val (.long y), .second, .val (.int (0 : Int32))]) rfl (XS.aload X5.here hx rfl (hb hby at_114) rfl rfl  k)))) ?_
      show own_Fin p e below _ (T5.setTop (mkF m 116 #[.val (.long q1), .second, .val (.long q2), .second, .val (.long q3), .second, .val (.int p4), .val (.ref b1), .val (.int (p4 &&& (7 : Int32))), .val (.long y), .second, .val (.int (0 : Int32))] [(.ref b1)]))
      refine own_go (fun t k => XS.lload X5.here hx rfl (hb hby at_116) rfl  k) ?_
      show own_Fin p e below _ (T5.setTop (mkF m 118 #[.val (.long q1), .second, .val (.long q2), .second, .val (.long q3), .second, .val (.int p4), .val (.ref b1), .val (.int (p4 &&& (7 : Int32))), .val (.long y), .second, .val (.int (0 : Int32))] [(.long y), (.ref b1)]))
      obtain ⟨cq18, kq18, q18a, q18b, q18c⟩ := isOf hZ rfl x8
      obtain ⟨_, _, ⟨T18, L18, k18, n18⟩, -, X18, ⟨Lc18, hQ18, l18, y18, z18⟩, st18⟩ := X5.virtualBack hx (y := (⟨"com/example/atropos/atropos/time/SliceNumbers", "contains", "(J)Z"⟩ : MethodName)) (z := (⟨"com/example/atropos/atropos/time/SliceNumbers", "contains", "(J)Z"⟩ : MethodName)) hown (mvT hZ hw_18) (mvT hZ hw_19) (notFace_of_selects (args := #[]) (mvT hZ hw_21)) (mvT hZ hw_21) (mvT hZ hw_20) (by decide) (backOf (W := 0) (rm4 l Z a0 hw [] (b1) (y) q1 q2 T5.heap n0 Zh11 x6 x7) hZ hw_22 hw_2 (by decide) (by decide)) q18a q18c (g := (mkF m 118 #[.val (.long q1), .second, .val (.long q2), .second, .val (.long q3), .second, .val (.int p4), .val (.ref b1), .val (.int (p4 &&& (7 : Int32))), .val (.long y), .second, .val (.int (0 : Int32))] [(.long y), (.ref b1)])) rfl (by rw [hml]; rfl) (Steps.refl _) (argsL := [(.long y)]) (rest := []) (lenOf pd_3 rfl) rfl (by show 2 * 0 + _ ≤ _; exact Nat.le_of_eq rfl) (hb hby at_118) (fun _ _ => ⟨rfl, rfl, (by decide : 1 + 0 ≤ _), (by decide : 2 + 0 ≤ _)⟩)
      dsimp only [Pt.U, Pt.locs, Pt.cells, Pt.slots] at X18 l18 y18 z18 st18 hQ18
      subst l18 y18 z18
      obtain ⟨rfl, N18q, e18⟩ := hQ18
      have N18 := Fr.app N5 N18q
      refine own_go (fun t k => st18.trans k) ?_
      show own_Fin p e below _ (T18.setTop (mkF m 121 #[.val (.long q1), .second, .val (.long q2), .second, .val (.long q3), .second, .val (.int p4), .val (.ref b1), .val (.int (p4 &&& (7 : Int32))), .val (.long y), .second, .val (.int (0 : Int32))] [(.int (own_c_6 b1 y q1 q2))]))
      refine own_go (fun t k => XS.iload X18.here hx rfl (hb hby at_121) rfl  k) ?_
      show own_Fin p e below _ (T18.setTop (mkF m 123 #[.val (.long q1), .second, .val (.long q2), .second, .val (.long q3), .second, .val (.int p4), .val (.ref b1), .val (.int (p4 &&& (7 : Int32))), .val (.long y), .second, .val (.int (0 : Int32))] [(.int (0 : Int32)), (.int (own_c_6 b1 y q1 q2))]))
      refine own_go (fun t k => XS.icmpNo X18.here hx rfl (hb hby at_123) rfl (teq (own_m1 hc13)).2 (XS.iconst X18.here hx rfl (hb hby at_126) (XS.goto X18.here hx rfl (pc0 := 127) (pc' := 131) rfl (hb hby at_127) (by decide) (by decide) k))) ?_
      show own_Fin p e below _ (T18.setTop (mkF m 131 #[.val (.long q1), .second, .val (.long q2), .second, .val (.long q3), .second, .val (.int p4), .val (.ref b1), .val (.int (p4 &&& (7 : Int32))), .val (.long y), .second, .val (.int (0 : Int32))] [(.int (1 : Int32))]))
      exact own_out X18 (fun h => by rw [Bd.returns] at h; cases h) Bd.notSynchronized (fun fs hr => retN X18 hx (t := .boolean) Bd.returns (by simp) (hb hby at_131) hr) ⟨rfl, N18⟩ (by decide) (by decide)
  refine own_go (fun t k => XS.iload X5.here hx rfl (hb hby at_18) rfl  (XS.iconst X5.here hx rfl (hb hby at_20) k)) ?_
  show own_Fin p e below _ (T5.setTop (mkF m 21 #[.val (.long q1), .second, .val (.long q2), .second, .val (.long q3), .second, .val (.int p4), .val (.ref b1), .val (.int (p4 &&& (7 : Int32))), .unset, .unset, .unset] [(.int (1 : Int32)), (.int (p4 &&& (7 : Int32)))]))
  by_cases hc19 : (p4 &&& (7 : Int32)) = (1 : Int32)
  · skip
    refine own_go (fun t k => XS.icmpNo X5.here hx rfl (hb hby at_21) rfl (teq hc19).2 (XS.lloadN X5.here hx rfl (hb hby at_24) rfl  (XS.lstore X5.here hx rfl (hb hby at_25) rfl (l' := #[.val (.long q1), .second, .val (.long q2), .second, .val (.long q3), .second, .val (.int p4), .val (.ref b1), .val (.int (p4 &&& (7 : Int32))), .val (.long q1), .second, .unset]) rfl (XS.goto X5.here hx rfl (pc0 := 27) (pc' := 88) rfl (hb hby at_27) (by decide) (by decide) k)))) ?_
    show own_Fin p e below _ (T5.setTop (mkF m 88 #[.val (.long q1), .second, .val (.long q2), .second, .val (.long q3), .second, .val (.int p4), .val (.ref b1), .val (.int (p4 &&& (7 : Int32))), .val (.long q1), .second, .unset] []))
    exact Jn12 (q1)
  · skip
    refine own_go (fun t k => XS.icmpYes X5.here hx rfl (pc0 := 21) (pc' := 30) rfl (hb hby at_21) rfl (feq hc19).2 (by decide) (by decide) (XS.iload X5.here hx rfl (hb hby at_30) rfl  (XS.iconst X5.here hx rfl (hb hby at_32) k))) ?_
    show own_Fin p e below _ (T5.setTop (mkF m 33 #[.val (.long q1), .second, .val (.long q2), .second, .val (.long q3), .second, .val (.int p4), .val (.ref b1), .val (.int (p4 &&& (7 : Int32))), .unset, .unset, .unset] [(.int (2 : Int32)), (.int (p4 &&& (7 : Int32)))]))
    by_cases hc20 : (p4 &&& (7 : Int32)) = (2 : Int32)
    · skip
      refine own_go (fun t k => XS.icmpNo X5.here hx rfl (hb hby at_33) rfl (teq hc20).2 (XS.lloadN X5.here hx rfl (hb hby at_36) rfl  (XS.lstore X5.here hx rfl (hb hby at_37) rfl (l' := #[.val (.long q1), .second, .val (.long q2), .second, .val (.long q3), .second, .val (.int p4), .val (.ref b1), .val (.int (p4 &&& (7 : Int32))), .val (.long q2), .second, .unset]) rfl (XS.goto X5.here hx rfl (pc0 := 39) (pc' := 88) rfl (hb hby at_39) (by decide) (by decide) k)))) ?_
      show own_Fin p e below _ (T5.setTop (mkF m 88 #[.val (.long q1), .second, .val (.long q2), .second, .val (.long q3), .second, .val (.int p4), .val (.ref b1), .val (.int (p4 &&& (7 : Int32))), .val (.long q2), .second, .unset] []))
      exact Jn12 (q2)
    · skip
      refine own_go (fun t k => XS.icmpYes X5.here hx rfl (pc0 := 33) (pc' := 42) rfl (hb hby at_33) rfl (feq hc20).2 (by decide) (by decide) (XS.iload X5.here hx rfl (hb hby at_42) rfl  (XS.iconst X5.here hx rfl (hb hby at_44) k))) ?_
      show own_Fin p e below _ (T5.setTop (mkF m 45 #[.val (.long q1), .second, .val (.long q2), .second, .val (.long q3), .second, .val (.int p4), .val (.ref b1), .val (.int (p4 &&& (7 : Int32))), .unset, .unset, .unset] [(.int (3 : Int32)), (.int (p4 &&& (7 : Int32)))]))
      by_cases hc21 : (p4 &&& (7 : Int32)) = (3 : Int32)
      · skip
        refine own_go (fun t k => XS.icmpNo X5.here hx rfl (hb hby at_45) rfl (teq hc21).2 (XS.lloadN X5.here hx rfl (hb hby at_48) rfl  (XS.lconst X5.here hx rfl (hb hby at_49) (XS.lsub X5.here hx rfl (hb hby at_50) rfl k)))) ?_
        show own_Fin p e below _ (T5.setTop (mkF m 51 #[.val (.long q1), .second, .val (.long q2), .second, .val (.long q3), .second, .val (.int p4), .val (.ref b1), .val (.int (p4 &&& (7 : Int32))), .unset, .unset, .unset] [(.long (q1 - (1 : Int64)))]))
        refine own_go (fun t k => XS.lstore X5.here hx rfl (hb hby at_51) rfl (l' := #[.val (.long q1), .second, .val (.long q2), .second, .val (.long q3), .second, .val (.int p4), .val (.ref b1), .val (.int (p4 &&& (7 : Int32))), .val (.long (q1 - (1 : Int64))), .second, .unset]) rfl (XS.goto X5.here hx rfl (pc0 := 53) (pc' := 88) rfl (hb hby at_53) (by decide) (by decide) k)) ?_
        exact Jn12 ((q1 - (1 : Int64)))
      · skip
        refine own_go (fun t k => XS.icmpYes X5.here hx rfl (pc0 := 45) (pc' := 56) rfl (hb hby at_45) rfl (feq hc21).2 (by decide) (by decide) (XS.iload X5.here hx rfl (hb hby at_56) rfl  (XS.iconst X5.here hx rfl (hb hby at_58) k))) ?_
        show own_Fin p e below _ (T5.setTop (mkF m 59 #[.val (.long q1), .second, .val (.long q2), .second, .val (.long q3), .second, .val (.int p4), .val (.ref b1), .val (.int (p4 &&& (7 : Int32))), .unset, .unset, .unset] [(.int (4 : Int32)), (.int (p4 &&& (7 : Int32)))]))
        by_cases hc22 : (p4 &&& (7 : Int32)) = (4 : Int32)
        · skip
          refine own_go (fun t k => XS.icmpNo X5.here hx rfl (hb hby at_59) rfl (teq hc22).2 (XS.lloadN X5.here hx rfl (hb hby at_62) rfl  (XS.lconst X5.here hx rfl (hb hby at_63) (XS.lsub X5.here hx rfl (hb hby at_64) rfl k)))) ?_
          show own_Fin p e below _ (T5.setTop (mkF m 65 #[.val (.long q1), .second, .val (.long q2), .second, .val (.long q3), .second, .val (.int p4), .val (.ref b1), .val (.int (p4 &&& (7 : Int32))), .unset, .unset, .unset] [(.long (q2 - (1 : Int64)))]))
          refine own_go (fun t k => XS.lstore X5.here hx rfl (hb hby at_65) rfl (l' := #[.val (.long q1), .second, .val (.long q2), .second, .val (.long q3), .second, .val (.int p4), .val (.ref b1), .val (.int (p4 &&& (7 : Int32))), .val (.long (q2 - (1 : Int64))), .second, .unset]) rfl (XS.goto X5.here hx rfl (pc0 := 67) (pc' := 88) rfl (hb hby at_67) (by decide) (by decide) k)) ?_
          exact Jn12 ((q2 - (1 : Int64)))
        · skip
          refine own_go (fun t k => XS.icmpYes X5.here hx rfl (pc0 := 59) (pc' := 70) rfl (hb hby at_59) rfl (feq hc22).2 (by decide) (by decide) (XS.iload X5.here hx rfl (hb hby at_70) rfl  (XS.iconst X5.here hx rfl (hb hby at_72) k))) ?_
          show own_Fin p e below _ (T5.setTop (mkF m 73 #[.val (.long q1), .second, .val (.long q2), .second, .val (.long q3), .second, .val (.int p4), .val (.ref b1), .val (.int (p4 &&& (7 : Int32))), .unset, .unset, .unset] [(.int (5 : Int32)), (.int (p4 &&& (7 : Int32)))]))
          by_cases hc23 : (p4 &&& (7 : Int32)) = (5 : Int32)
          · skip
            refine own_go (fun t k => XS.icmpNo X5.here hx rfl (hb hby at_73) rfl (teq hc23).2 (XS.lloadN X5.here hx rfl (hb hby at_76) rfl  (XS.lconst X5.here hx rfl (hb hby at_77) (XS.ladd X5.here hx rfl (hb hby at_78) rfl k)))) ?_
            show own_Fin p e below _ (T5.setTop (mkF m 79 #[.val (.long q1), .second, .val (.long q2), .second, .val (.long q3), .second, .val (.int p4), .val (.ref b1), .val (.int (p4 &&& (7 : Int32))), .unset, .unset, .unset] [(.long (q1 + (1 : Int64)))]))
            refine own_go (fun t k => XS.lstore X5.here hx rfl (hb hby at_79) rfl (l' := #[.val (.long q1), .second, .val (.long q2), .second, .val (.long q3), .second, .val (.int p4), .val (.ref b1), .val (.int (p4 &&& (7 : Int32))), .val (.long (q1 + (1 : Int64))), .second, .unset]) rfl (XS.goto X5.here hx rfl (pc0 := 81) (pc' := 88) rfl (hb hby at_81) (by decide) (by decide) k)) ?_
            exact Jn12 ((q1 + (1 : Int64)))
          · skip
            refine own_go (fun t k => XS.icmpYes X5.here hx rfl (pc0 := 73) (pc' := 84) rfl (hb hby at_73) rfl (feq hc23).2 (by decide) (by decide) (XS.lload X5.here hx rfl (hb hby at_84) rfl  (XS.lstore X5.here hx rfl (hb hby at_86) rfl (l' := #[.val (.long q1), .second, .val (.long q2), .second, .val (.long q3), .second, .val (.int p4), .val (.ref b1), .val (.int (p4 &&& (7 : Int32))), .val (.long q3), .second, .unset]) rfl k))) ?_
            exact Jn12 (q3)
set_option maxRecDepth 65536 in
set_option maxHeartbeats 40000000 in
theorem comes_1 {Post : Tables → Env → Array Value → State → Outcome → State → Prop} (hpost : ∀ tb e args s v u, (limb_1_1.after args s (.returned v) u = true ∧ limb_1_2.after args s (.returned v) u = true ∧ True) → FrameEnd s (.returned v) u (Jvm.fieldLocs frame_1_writes args s ++ Jvm.arrayLocs frame_1_arrays args s ++ Jvm.staticLocs frame_1_statics s) 16 128 → Post tb e args s (.returned v) u) :
    ArmFor flags0 classFile x code maxLocals ret World_1 tables_1 room_1 Calls_1 rest_1 Pre_1 Post := by
  intro l hfl _ _ p e ha hc hk s m args below hf hA hF happ hP
  obtain ⟨hcalls, hrest, hpre⟩ := hP
  obtain ⟨-, -, -, hnamed, -, -, -, hat⟩ := (Spec.applies_iff hf).mp happ
  obtain ⟨hg, hn⟩ := and_e (Cond.before_iff.mp (show (Jvm.Cond.and given_1 narrow_1).before args s = true from hpre))
  obtain ⟨g0, r0⟩ := and_e hg
  obtain ⟨g1, r1⟩ := and_e r0
  obtain ⟨g2, r2⟩ := and_e r1
  obtain ⟨g3, r3⟩ := and_e r2
  obtain ⟨w0, w1, w2, w3, rfl⟩ : ∃ w0 w1 w2 w3 : Value, args = #[w0, w1, w2, w3] := by
    have hs : args.size = 4 := by simpa [Cond.value, given_1] using g0
    obtain ⟨L⟩ := args
    match L, hs with
    | [w0, w1, w2, w3], _ => exact ⟨w0, w1, w2, w3, rfl⟩
  have hw := fun d (hd : d ∈ tables_1) => atoms_spec (ws := Jvm.Cond.code x code maxLocals ret :: tables_1) hat d (List.mem_cons_of_mem _ hd)
  have hfit : Fit s := fun {y c} hc i hi => by
    obtain ⟨ha, rfl⟩ := Array.getElem?_eq_some_iff.mp hc
    have q := List.all_eq_true.mp ((Array.all_eq_true_iff_forall_mem.mp hF) _ (Array.getElem_mem ha)) i (List.mem_range.mpr hi)
    simpa [Array.getElem?_eq_getElem hi] using q
  obtain ⟨i0, ei0⟩ := isL_v g1
  obtain rfl : w0 = (.long i0) := Option.some.inj ei0
  obtain ⟨i1, ei1⟩ := isL_v g2
  obtain rfl : w1 = (.long i1) := Option.some.inj ei1
  obtain ⟨i2, ei2⟩ := isL_v g3
  obtain rfl : w2 = (.long i2) := Option.some.inj ei2
  obtain ⟨i3, ei3⟩ := is_v r3
  obtain rfl : w3 = (.int i3) := Option.some.inj ei3
  obtain ⟨n, o, h1, h2, h3, _, L, rfl, ⟨rfl, N⟩, hq⟩ := rm0 l s _ hw tables_1 i0 i1 i2 i3  s.heap s.heap.size (Nat.le_refl _)  p e ha hc hk s m _ below hf ((Spec.applies_iff_loose hf).mp happ).1 ⟨rfl, State.Warmed39.refl s, rfl⟩ trivial
  refine ⟨n, _, h1, h2, h3, hpost _ _ _ _ _ _ ⟨Cond.after_iff.mpr rfl, Cond.after_iff.mpr (eq_i res_at (Term.int_eval (1)) rfl), trivial⟩ ⟨hq.1, hq.2.1, (hq.2.2.sift fun y hy => Or.inr (N y hy)).mono (by decide) (by decide)⟩⟩
theorem main_1_1 : Claimed_1_1 := comes_1 fun _ _ _ _ _ _ h hF => ⟨h.1, hF⟩
theorem main_1_2 : Claimed_1_2 := comes_1 fun _ _ _ _ _ _ h hF => ⟨h.2.1, hF⟩
end Jvm.Pilot.@@N@@
namespace Jvm.Pilot.@@N@@
open Jvm Jvm.ClassFile Sem Op Lib Jvm.Free Jvm.Stand Jvm.Pilot.@@N@@.Jvm.D
/-! MADE BY PROGRAM (witnessworld.py) out of the Statement's table words and the real class files: 10 classes; the members and pool entries that the words name. The judged class is class 1, her method 2. -/
namespace start1
open Jvm.ClassFile
def u (s : String) : CpInfo := .utf8 (stringToUtf16 s)
/-- a pool by its gaps: so many unusable entries, then the entry; so many at the end -/
def gap : Nat → List CpInfo → List CpInfo
  | 0, r => r
  | n + 1, r => .unusable :: gap n r
def poolList (es : List (Nat × CpInfo)) (last : Nat) : List CpInfo := es.foldr (fun e r => gap e.1 (e.2 :: r)) (gap last [])
def pool (es : List (Nat × CpInfo)) (last : Nat) : Array CpInfo := ⟨poolList es last⟩
def fileOf (pool : Array CpInfo) (this : Nat) (attrs : Array Attribute := #[]) (ms : Array MethodInfo := #[]) (fl : Nat := 33) (sup : Nat := 0) (ifs : Array Nat := #[]) (fds : Array FieldInfo := #[]) : ClassFile where
  minorVersion := 0
  majorVersion := 65
  constantPool := pool
  accessFlags := fl
  thisClass := this
  superClass := sup
  interfaces := ifs
  fields := fds
  methods := ms
  attributes := attrs
def plain (name : String) (sup : Option ClassId) : Class where
  name := name
  kind := .ordinary
  loader := none
  accessFlags := 33
  super := sup
  interfaces := #[]
  cf := none
  fields := #[]
  methods := #[]
  instanceTypes := #[]
  staticTypes := #[]
  resolved := #[]
  callSites := []
  init := .initialized
  statics := none
  mirror := none

def pool0 : Array CpInfo := pool [(5, u "<init>"), (0, u "()V"), (1, .class_ 10), (1, u "java/lang/Object")] 113

def k0c0 : Code := { maxStack := 0, maxLocals := 1, code := object_method_1_code, exceptionTable := #[], attributes := #[] }
def k0m0 : Method := { name := "<init>", desc := "()V", sig := { parameters := [], returnType := none }, accessFlags := 1, code := some k0c0 }
/-- java/lang/Object -/
def k0 : Class := { plain "java/lang/Object" none with
  accessFlags := 33
  interfaces := #[]
  cf := some (fileOf pool0 8 #[] #[{ accessFlags := 1, nameIndex := 5, descriptorIndex := 6, attributes := #[] }] 33 0 #[] #[])
  fields := #[]
  methods := #[k0m0]
  instanceTypes := #[]
  staticTypes := #[]
  resolved := Array.replicate 124 none
  statics := none }

def pool1 : Array CpInfo := pool [(2, .class_ 4), (1, u "java/lang/Object"), (0, u "<init>"), (0, u "()V"), (2, .long 9223372036854775808), (1, .class_ 12), (0, u "com/example/atropos/atropos/time/SliceNumbers"), (0, .methodref 11 14), (0, .nameAndType 5 15), (0, u "(JJ)V"), (0, .methodref 17 18), (0, .class_ 19), (0, .nameAndType 20 21), (0, u "com/example/atropos/atropos/time/SliceNumbersContainsPinLaw"), (0, u "unsignedLess"), (0, u "(JJ)Z"), (0, .methodref 11 23), (0, .nameAndType 24 25), (0, u "contains"), (0, u "(J)Z"), (3, u "law"), (0, u "(JJJI)Z")] 2

def k1m0 : Method := { name := "<init>", desc := "()V", sig := { parameters := [], returnType := none }, accessFlags := 1, code := none }
def k1c1 : Code := { maxStack := 6, maxLocals := 4, code := method_2_code, exceptionTable := #[], attributes := #[] }
def k1m1 : Method := { name := "unsignedLess", desc := "(JJ)Z", sig := { parameters := [.long, .long], returnType := some .boolean }, accessFlags := 10, code := some k1c1 }
def k1c2 : Code := { maxStack := 6, maxLocals := 12, code := code, exceptionTable := #[], attributes := #[] }
def k1m2 : Method := { name := "law", desc := "(JJJI)Z", sig := { parameters := [.long, .long, .long, .int], returnType := some .boolean }, accessFlags := 9, code := some k1c2 }
/-- com/example/atropos/atropos/time/SliceNumbersContainsPinLaw -/
def k1 : Class := { plain "com/example/atropos/atropos/time/SliceNumbersContainsPinLaw" (some 0) with
  accessFlags := 49
  interfaces := #[]
  cf := some (fileOf pool1 17 #[] #[{ accessFlags := 1, nameIndex := 5, descriptorIndex := 6, attributes := #[] }, { accessFlags := 10, nameIndex := 20, descriptorIndex := 21, attributes := #[] }, { accessFlags := 9, nameIndex := 29, descriptorIndex := 30, attributes := #[] }] 49 2 #[] #[])
  fields := #[]
  methods := #[k1m0, k1m1, k1m2]
  instanceTypes := #[]
  staticTypes := #[]
  resolved := Array.replicate 33 none
  statics := none }

def pool2 : Array CpInfo := pool [(1, .methodref 2 3), (0, .class_ 4), (0, .nameAndType 5 6), (0, u "java/lang/Object"), (0, u "<init>"), (0, u "()V"), (0, .class_ 8), (0, u "java/lang/Record")] 13

def k2c0 : Code := { maxStack := 1, maxLocals := 1, code := jdk_30_method_1_code, exceptionTable := #[], attributes := #[] }
def k2m0 : Method := { name := "<init>", desc := "()V", sig := { parameters := [], returnType := none }, accessFlags := 4, code := some k2c0 }
/-- java/lang/Record -/
def k2 : Class := { plain "java/lang/Record" (some 0) with
  accessFlags := 1057
  interfaces := #[]
  cf := some (fileOf pool2 7 #[] #[{ accessFlags := 4, nameIndex := 5, descriptorIndex := 6, attributes := #[] }] 1057 2 #[] #[])
  fields := #[]
  methods := #[k2m0]
  instanceTypes := #[]
  staticTypes := #[]
  resolved := Array.replicate 22 none
  statics := none }

def pool3 : Array CpInfo := pool [(1, .methodref 2 3), (0, .class_ 4), (0, .nameAndType 5 6), (0, u "java/lang/Record"), (0, u "<init>"), (0, u "()V"), (0, .fieldref 8 9), (0, .class_ 10), (0, .nameAndType 11 12), (0, u "com/example/atropos/atropos/time/SliceNumbers"), (0, u "first"), (0, u "J"), (0, .fieldref 8 14), (0, .nameAndType 15 12), (0, u "end"), (21, u "(JJ)V"), (6, u "contains"), (0, u "(J)Z")] 27

def k3c0 : Code := { maxStack := 3, maxLocals := 5, code := prog_68_method_1_code, exceptionTable := #[], attributes := #[] }
def k3m0 : Method := { name := "<init>", desc := "(JJ)V", sig := { parameters := [.long, .long], returnType := none }, accessFlags := 1, code := some k3c0 }
def k3c1 : Code := { maxStack := 4, maxLocals := 3, code := prog_68_method_3_code, exceptionTable := #[], attributes := #[] }
def k3m1 : Method := { name := "contains", desc := "(J)Z", sig := { parameters := [.long], returnType := some .boolean }, accessFlags := 1, code := some k3c1 }
/-- com/example/atropos/atropos/time/SliceNumbers -/
def k3 : Class := { plain "com/example/atropos/atropos/time/SliceNumbers" (some 2) with
  accessFlags := 49
  interfaces := #[]
  cf := some (fileOf pool3 8 #[] #[{ accessFlags := 1, nameIndex := 5, descriptorIndex := 37, attributes := #[] }, { accessFlags := 1, nameIndex := 44, descriptorIndex := 45, attributes := #[] }] 49 2 #[] #[{ accessFlags := 18, nameIndex := 11, descriptorIndex := 12, attributes := #[] }, { accessFlags := 18, nameIndex := 15, descriptorIndex := 12, attributes := #[] }])
  fields := #[{ name := "first", type := .long, accessFlags := 18, slot := 0, constantValue := 0 }, { name := "end", type := .long, accessFlags := 18, slot := 1, constantValue := 0 }]
  methods := #[k3m0, k3m1]
  instanceTypes := #[.long, .long]
  staticTypes := #[]
  resolved := Array.replicate 73 none
  statics := none }

def pool4 : Array CpInfo := pool [(1, u "java/lang/Cloneable"), (0, .class_ 1), (0, u "java/lang/Object"), (0, .class_ 3)] 3

/-- java/lang/Cloneable -/
def k4 : Class := { plain "java/lang/Cloneable" (some 0) with
  accessFlags := 1537
  interfaces := #[]
  cf := some (fileOf pool4 2 #[] #[] 1537 4 #[] #[])
  fields := #[]
  methods := #[]
  instanceTypes := #[]
  staticTypes := #[]
  resolved := Array.replicate 8 none
  statics := none }

def pool5 : Array CpInfo := pool [(1, u "java/io/Serializable"), (0, .class_ 1), (0, u "java/lang/Object"), (0, .class_ 3)] 3

/-- java/io/Serializable -/
def k5 : Class := { plain "java/io/Serializable" (some 0) with
  accessFlags := 1537
  interfaces := #[]
  cf := some (fileOf pool5 2 #[] #[] 1537 4 #[] #[])
  fields := #[]
  methods := #[]
  instanceTypes := #[]
  staticTypes := #[]
  resolved := Array.replicate 8 none
  statics := none }

/-- the primitive byte -/
def k6 : Class := { plain "byte" none with kind := .primitive 'B', accessFlags := 0x411 }
/-- [B -/
def k7 : Class := { plain "[B" (some 0) with kind := .array 6 .byte, interfaces := #[4, 5], accessFlags := 1041 }

/-- the primitive int -/
def k8 : Class := { plain "int" none with kind := .primitive 'I', accessFlags := 0x411 }
/-- [I -/
def k9 : Class := { plain "[I" (some 0) with kind := .array 8 .int, interfaces := #[4, 5], accessFlags := 1041 }

def heap : Heap := #[]
def classes : Array Class := #[k0, k1, k2, k3, k4, k5, k6, k7, k8, k9]
def interned : List (Array UInt16 × Addr) := []
def slotsUsed : Nat := 0
def theMethod : MethodId := ⟨1, 2⟩
def args0 : Array Value := #[.long 5, .long 6, .long 7, .int 3]
def aboutOver (below : List Frame) : State where
  vm := { classes := classes, interned := interned.toArray }
  heap := heap
  slotsUsed := slotsUsed
  threads := #[{ frames := .invoking theMethod args0 :: below }]
def below0 : List Frame := [.native { method := ⟨0, 0⟩, args := #[] }]
def about1 : State := aboutOver below0
def p0 : Program := .bare "" "" ""
def e0 : Env := launch0.env 0 0 0
theorem w_frames : about1.frames = Frame.invoking theMethod args0 :: below0 := rfl
set_option maxRecDepth 65536 in
theorem w_args : argsFit about1.vm theMethod args0 = true := by decide +kernel
set_option maxRecDepth 65536 in
theorem w_heap : heapFits about1 = true := by decide +kernel
set_option maxRecDepth 65536 in
theorem w_runnable : about1.curStatus? = some .runnable := by decide +kernel
set_option maxRecDepth 65536 in
theorem w_alone : about1.alone = true := by decide +kernel
set_option maxRecDepth 65536 in
theorem w_named : about1.methodNamed? x = some theMethod := by decide +kernel
set_option maxRecDepth 65536 in
theorem w_hears : about1.hears theMethod below0 = true := by decide +kernel
set_option maxRecDepth 65536 in
theorem w_ripe : about1.ripe theMethod args0 below0 = true := by decide +kernel
theorem w_running : about1.status = .running := rfl
set_option maxRecDepth 65536 in
theorem w_room : about1.hasRoom e0.platform room_1 = true :=
  launch0.hasRoom_least _ room_1 (by decide +kernel) (by decide +kernel) (by decide +kernel) (by decide +kernel) (by decide +kernel) (by decide +kernel)
theorem allAtoms_all (ts : List Jvm.Cond) (a : Array Jvm.Value) (st : Jvm.State) : (allAtoms ts).before a st = ts.all (fun c => c.before a st) := by
  induction ts with
  | nil => rfl
  | cons c t ih =>
    show (Jvm.Cond.and c (allAtoms t)).before a st = _
    rw [Jvm.Cond.before_and, ih, List.all_cons]
def words1 : List Jvm.Cond := Jvm.Cond.code x code maxLocals ret :: tables_1
/-- a 'code' word, met by the world's own term for the bytes: nothing is compared byte by byte -/
theorem code_word {y : MethodName} {bytes : ByteArray} {mx : Nat} {rt : Option FieldType} {a : Array Value} {s : State} {m : MethodId} {meth : Method} {c : Code} (h1 : s.methodNamed? y = some m) (h2 : s.vm.method? m = some meth) (h3 : meth.code = some c) (h4 : c.code = bytes)
    (h5 : (c.maxLocals == mx && c.exceptionTable.isEmpty && decide (c.maxStack ≤ mostOperands) && decide (meth.sig.returnType = rt) && !meth.locks && decide (parseMethodDescriptor y.desc = some meth.sig)) = true) : (Jvm.Cond.code y bytes mx rt).before a s = true := by
  simp only [Bool.and_eq_true, beq_iff_eq, Bool.not_eq_true', decide_eq_true_eq] at h5
  obtain ⟨⟨⟨⟨⟨g1, g2⟩, g3⟩, g4⟩, g5⟩, g6⟩ := h5
  simp [Cond.before, Cond.holds, Cond.value, h1, h2, h3, h4, g1, g2, g3, g4, g5, g6]
def isCode : Jvm.Cond → Bool
  | .code _ _ _ _ => true
  | _ => false
theorem all_split {L : List Jvm.Cond} {P : Jvm.Cond → Bool} (h1 : L.all (fun c => isCode c || P c) = true) (h2 : ∀ c ∈ L.filter isCode, P c = true) : L.all P = true := by
  refine List.all_eq_true.mpr fun c hc => ?_
  have h := List.all_eq_true.mp h1 c hc
  rcases Bool.eq_false_or_eq_true (isCode c) with hi | hi
  · exact h2 c (List.mem_filter.mpr ⟨hc, hi⟩)
  · simpa [hi] using h
set_option maxRecDepth 65536 in
theorem w_c0 : (Jvm.Cond.code x code maxLocals ret).before args0 about1 = true := code_word (m := ⟨1, 2⟩) (meth := k1m2) (c := k1c2) (by decide +kernel) rfl rfl rfl (by decide +kernel)
set_option maxRecDepth 65536 in
theorem w_c1 : (Jvm.Cond.code ({ cls := "com/example/atropos/atropos/time/SliceNumbers", name := "<init>", desc := "(JJ)V" } : Jvm.MethodName) prog_68_method_1_code (5 : Nat) (Option.none : Option Jvm.ClassFile.FieldType)).before args0 about1 = true := code_word (m := ⟨3, 0⟩) (meth := k3m0) (c := k3c0) (by decide +kernel) rfl rfl rfl (by decide +kernel)
set_option maxRecDepth 65536 in
theorem w_c2 : (Jvm.Cond.code ({ cls := "java/lang/Record", name := "<init>", desc := "()V" } : Jvm.MethodName) jdk_30_method_1_code (1 : Nat) (Option.none : Option Jvm.ClassFile.FieldType)).before args0 about1 = true := code_word (m := ⟨2, 0⟩) (meth := k2m0) (c := k2c0) (by decide +kernel) rfl rfl rfl (by decide +kernel)
set_option maxRecDepth 65536 in
theorem w_c3 : (Jvm.Cond.code ({ cls := "java/lang/Object", name := "<init>", desc := "()V" } : Jvm.MethodName) object_method_1_code (1 : Nat) (Option.none : Option Jvm.ClassFile.FieldType)).before args0 about1 = true := code_word (m := ⟨0, 0⟩) (meth := k0m0) (c := k0c0) (by decide +kernel) rfl rfl rfl (by decide +kernel)
set_option maxRecDepth 65536 in
theorem w_c4 : (Jvm.Cond.code ({ cls := "com/example/atropos/atropos/time/SliceNumbers", name := "contains", desc := "(J)Z" } : Jvm.MethodName) prog_68_method_3_code (3 : Nat) (Option.some Jvm.ClassFile.FieldType.boolean)).before args0 about1 = true := code_word (m := ⟨3, 1⟩) (meth := k3m1) (c := k3c1) (by decide +kernel) rfl rfl rfl (by decide +kernel)
set_option maxRecDepth 65536 in
theorem w_c5 : (Jvm.Cond.code ({ cls := "com/example/atropos/atropos/time/SliceNumbersContainsPinLaw", name := "unsignedLess", desc := "(JJ)Z" } : Jvm.MethodName) method_2_code (4 : Nat) (Option.some Jvm.ClassFile.FieldType.boolean)).before args0 about1 = true := code_word (m := ⟨1, 1⟩) (meth := k1m1) (c := k1c1) (by decide +kernel) rfl rfl rfl (by decide +kernel)
def codes1 : List Jvm.Cond := [Jvm.Cond.code x code maxLocals ret, Jvm.Cond.code ({ cls := "com/example/atropos/atropos/time/SliceNumbers", name := "<init>", desc := "(JJ)V" } : Jvm.MethodName) prog_68_method_1_code (5 : Nat) (Option.none : Option Jvm.ClassFile.FieldType), Jvm.Cond.code ({ cls := "java/lang/Record", name := "<init>", desc := "()V" } : Jvm.MethodName) jdk_30_method_1_code (1 : Nat) (Option.none : Option Jvm.ClassFile.FieldType), Jvm.Cond.code ({ cls := "java/lang/Object", name := "<init>", desc := "()V" } : Jvm.MethodName) object_method_1_code (1 : Nat) (Option.none : Option Jvm.ClassFile.FieldType), Jvm.Cond.code ({ cls := "com/example/atropos/atropos/time/SliceNumbers", name := "contains", desc := "(J)Z" } : Jvm.MethodName) prog_68_method_3_code (3 : Nat) (Option.some Jvm.ClassFile.FieldType.boolean), Jvm.Cond.code ({ cls := "com/example/atropos/atropos/time/SliceNumbersContainsPinLaw", name := "unsignedLess", desc := "(JJ)Z" } : Jvm.MethodName) method_2_code (4 : Nat) (Option.some Jvm.ClassFile.FieldType.boolean)]
set_option maxRecDepth 65536 in
theorem codes_eq : words1.filter isCode = codes1 := rfl
theorem w_codes : ∀ c ∈ words1.filter isCode, c.before args0 about1 = true := by
  rw [codes_eq]
  intro c hc
  simp only [codes1, List.mem_cons, List.not_mem_nil, or_false] at hc
  rcases hc with rfl | rfl | rfl | rfl | rfl | rfl
  · exact w_c0
  · exact w_c1
  · exact w_c2
  · exact w_c3
  · exact w_c4
  · exact w_c5
set_option maxRecDepth 65536 in
theorem w_t1 : (words1.take 24).all (fun c => isCode c || c.before args0 about1) = true := by decide +kernel
set_option maxRecDepth 65536 in
theorem w_t2 : (words1.drop 24).all (fun c => isCode c || c.before args0 about1) = true := by decide +kernel
theorem w_tables : (allAtoms (Jvm.Cond.code x code maxLocals ret :: tables_1)).before args0 about1 = true := by
  rw [allAtoms_all]
  show words1.all (fun c => c.before args0 about1) = true
  refine all_split ?_ w_codes
  rw [← List.take_append_drop 24 words1, List.all_append, w_t1, w_t2]
  rfl
set_option maxRecDepth 65536 in
theorem w_case : (Jvm.Cond.and given_1 narrow_1).before args0 about1 = true := by decide +kernel
theorem w_applies : (headSpec (Jvm.Cond.code x code maxLocals ret :: tables_1) room_1).applies x e0.platform about1 = true :=
  (Spec.applies_iff w_frames).mpr ⟨w_running, w_runnable, w_alone, w_named, w_hears, w_ripe, w_room, w_tables⟩
theorem atStart : AtStart classFile x code maxLocals ret World_1 tables_1 room_1 Calls_1 rest_1 Pre_1 launch0 p0 e0 about1 theMethod args0 below0 :=
  ⟨lists_1, trivial, launch0.admits_env _ _ _, launch0.least_env, fairChoices_fair.cas, fairChoices_fair.clock, w_frames, w_args, w_heap, w_applies, trivial, trivial, w_case⟩
end start1
theorem witness_1 : WitnessClaimed_1 := ⟨start1.p0, start1.e0, start1.about1, start1.theMethod, start1.args0, start1.below0, start1.atStart⟩
end Jvm.Pilot.@@N@@
