import JvmDerived
import JvmDerived.Pilot.@@N@@Statement
import JvmDerived.Pilot.@@N@@Code
set_option linter.unusedVariables false
set_option linter.unusedSimpArgs false
namespace Jvm.RoadKit
open Sem ClassFile Op Lib Jvm.Stand Jvm.Free Jvm.LawKit
section New
variable {p : Program} {l : Launch} {e : Env} {R : Room} {s : State} {m : MethodId} {args : Array Value} {below : List Frame} {meth : Method} {c : Code} {T : State} {locs : List Loc} {cells slots : Nat}
theorem retI (X : Stand p l e R s m args below meth c T locs cells slots) (hx : p.tables.exec = Jvm.exec) {pc : Nat} {Ls : Array Slot} {z : Int32} {rest : List Value} (hret : meth.sig.returnType = some .int) (hd : decode c.code pc = .ok (.ireturn, 1)) {fs : List Frame}
    (hl : ∀ (f : JFrame) (acts : List Action), f.method = m → f.locked = none → f.entered = [] → (doReturn e (T.setTop f) acts (some (.int z))).1 = T.setFrames fs) : Steps p.tables e below (T.setTop (mkF m pc Ls (.int z :: rest))) (T.setFrames fs) := by
  have hm' : T.vm.method? m = some meth := X.method'
  have hn : narrow .int (.int z) = .int z := rfl
  show Steps p.tables e below (T.setTop { method := m, pc := pc, locals := Ls, stack := _ :: rest, locked := none }) _
  jvm_step X.here [X.here.top, hx, hd, hm', hret, hn]
  first | (intro acts; rw [hl _ acts rfl rfl rfl]) | rw [hl _ _ rfl rfl rfl]
  exact Steps.refl _
/-- from the state S the run comes to an end at which A holds -/
def own_Fin (p : Program) (e : Env) (below : List Frame) (A : State → Outcome → Prop) (S : State) : Prop := ∃ s₂ o, Steps p.tables e below S s₂ ∧ s₂.status = .running ∧ Ended s₂ below o ∧ A s₂ o
theorem own_go {A : State → Outcome → Prop} {S S' : State} (k : ∀ t, Steps p.tables e below S' t → Steps p.tables e below S t) (h : own_Fin p e below A S') : own_Fin p e below A S := by
  obtain ⟨t, o, h1, h2⟩ := h; exact ⟨t, o, k t h1, h2⟩
/-- what a walk leaves: Q of the value, the heap and the written places -/
def own_A (s : State) (C S : Nat) (Q : Option Value → Heap → List Loc → Prop) : State → Outcome → Prop := fun U' o => ∃ v L, o = .returned v ∧ Q v U'.heap L ∧ FrameEnd s o U' L C S
/-- a body that writes nothing: its value, the heap as it was -/
def own_P (h0 : Heap) (n0 : Nat) (w : Value) (v : Option Value) (h : Heap) (L : List Loc) : Prop := v = some w ∧ Fr n0 L ∧ h = h0
theorem own_out (X : Stand p l e R s m args below meth c T locs cells slots) {v : Option Value} {Q : Option Value → Heap → List Loc → Prop} {C S : Nat} {g : JFrame}
    (hv : meth.sig.returnType = none → v = none) (hlocks : meth.locks = false)
    (st : ∀ fs, (∀ (f : JFrame) (acts : List Action), f.method = m → f.locked = none → f.entered = [] → (doReturn e (T.setTop f) acts v).1 = T.setFrames fs) → Steps p.tables e below (T.setTop g) (T.setFrames fs))
    (hQ : Q v T.heap locs) (hc : cells ≤ C) (hs : slots ≤ S) : own_Fin p e below (own_A s C S Q) (T.setTop g) := by
  obtain ⟨fs, hr, hrun, hended, hW, hsame⟩ := X.leave (v := v) hv hlocks
  exact ⟨_, _, st fs hr, hrun, hended, _, _, rfl, hQ, ⟨_, rfl⟩, hW, hsame.mono hc hs⟩
end New
end Jvm.RoadKit
namespace Jvm.Pilot.@@N@@
open Jvm Jvm.ClassFile Sem Op Lib Jvm.Free Jvm.Stand Jvm.LawKit Jvm.RoadKit Bundle Jvm.Pilot.@@N@@.Jvm.D
theorem d3_0 : decode jdk_33_method_56_code 0 = .ok (.iload_n 0, 1) := by decide +kernel
theorem d3_1 : decode jdk_33_method_56_code 1 = .ok (.bipush 31, 2) := by decide +kernel
theorem d3_3 : decode jdk_33_method_56_code 3 = .ok (.ishr, 1) := by decide +kernel
theorem d3_4 : decode jdk_33_method_56_code 4 = .ok (.iload_n 0, 1) := by decide +kernel
theorem d3_5 : decode jdk_33_method_56_code 5 = .ok (.ineg, 1) := by decide +kernel
theorem d3_6 : decode jdk_33_method_56_code 6 = .ok (.bipush 31, 2) := by decide +kernel
theorem d3_8 : decode jdk_33_method_56_code 8 = .ok (.iushr, 1) := by decide +kernel
theorem d3_9 : decode jdk_33_method_56_code 9 = .ok (.ior, 1) := by decide +kernel
theorem d3_10 : decode jdk_33_method_56_code 10 = .ok (.ireturn, 1) := by decide +kernel
theorem pn_0 : plainName "java/lang/Integer" = true := by first | (simp [plainName, overriddenIn]; done) | decide +kernel
theorem ef_3 (m : MethodId) (x0 : Int32)  : entryFrame m #[(.int x0)] 1 = mkF m 0 #[.val (.int x0)] [] := by first | (simp [entryFrame, mkF, argsToLocals, Value.category]; done) | rfl
def own_sg (p1 : Int32) : Int32 := ((p1 >>> ((31 : Int32) &&& 31)) ||| (((-p1).toUInt32 >>> ((31 : Int32) &&& 31).toUInt32).toInt32))
set_option maxRecDepth 65536 in
set_option maxHeartbeats 40000000 in
theorem rm3 (l : Launch) (Z : State) (a0 : Array Value) (hw : ∀ d ∈ tables_1, d.before a0 Z = true) (ws : List Jvm.Cond) (p1 : Int32) (h0 : Heap) (n0 : Nat) (Z0 : n0 ≤ h0.size) :
    MetFree l (⟨"java/lang/Integer", "signum", "(I)I"⟩ : MethodName) (head1 (Jvm.Cond.code (⟨"java/lang/Integer", "signum", "(I)I"⟩ : MethodName) jdk_33_method_56_code 1 (some .int) :: ws) ({ frames := 0, cells := 0, slots := 0, locals := 0 } : Room)) (fun a U => a = #[(.int p1)] ∧ Z.Warmed39 U.vm ∧ U.heap = h0) (fun _ _ _ _ _ => True) (fun _ U o U' => ∃ v L, o = .returned v ∧ (own_P h0 n0 (.int (own_sg p1))) v U'.heap L ∧ FrameEnd U o U' L ({ frames := 0, cells := 0, slots := 0, locals := 0 } : Room).cells ({ frames := 0, cells := 0, slots := 0, locals := 0 } : Room).slots) := by
  refine MetFree.of_bodySF (plainFor_of_name pn_0) hisR ?_
  intro p e s m args below meth c s₁ Bd hml0 hP hK
  obtain ⟨rfl, hZ, hh⟩ := hP
  have hx := Bd.exec
  have hby := Bd.bytes
  have hml : c.maxLocals = 1 := hml0
  have hown : s.vm.findClass "java/lang/Integer" = some m.cls := findClass_of_methodNamed Bd.named
  have hnm := (name_of_methodNamed Bd.named Bd.method).1
  have X0 : Stand p l e ({ frames := 0, cells := 0, slots := 0, locals := 0 } : Room) s m #[(.int p1)] below meth c s₁ [] 0 0 := Stand.of_body Bd
  have e0 : s₁.heap = h0 := by rw [← hh, Bd.state]; rfl
  have N0 := Fr.nil n0
  show own_Fin p e below (own_A s ({ frames := 0, cells := 0, slots := 0, locals := 0 } : Room).cells ({ frames := 0, cells := 0, slots := 0, locals := 0 } : Room).slots (own_P h0 n0 (.int (own_sg p1)))) _
  refine own_go (fun t k => castTop (ef_3 m (p1)) k) ?_
  show own_Fin p e below _ (s₁.setTop (mkF m 0 #[.val (.int p1)] []))
  refine own_go (fun t k => XS.iloadN X0.here hx rfl (hb hby d3_0) rfl  (XS.bipush X0.here hx rfl (hb hby d3_1) (XS.ishr X0.here hx rfl (hb hby d3_3) rfl (XS.iloadN X0.here hx rfl (hb hby d3_4) rfl  k)))) ?_
  show own_Fin p e below _ (s₁.setTop (mkF m 5 #[.val (.int p1)] [(.int p1), (.int (p1 >>> ((31 : Int32) &&& 31)))]))
  refine own_go (fun t k => XS.ineg X0.here hx rfl (hb hby d3_5) rfl (XS.bipush X0.here hx rfl (hb hby d3_6) (XS.iushr X0.here hx rfl (hb hby d3_8) rfl (XS.ior X0.here hx rfl (hb hby d3_9) rfl k)))) ?_
  show own_Fin p e below _ (s₁.setTop (mkF m 10 #[.val (.int p1)] [(.int ((p1 >>> ((31 : Int32) &&& 31)) ||| (((-p1).toUInt32 >>> ((31 : Int32) &&& 31).toUInt32).toInt32)))]))
  exact own_out X0 (fun h => by rw [Bd.returns] at h; cases h) Bd.notSynchronized (fun fs hr => retI X0 hx Bd.returns (hb hby d3_10) hr) ⟨rfl, N0, e0⟩ (by decide) (by decide)
theorem d4_0 : decode method_2_code 0 = .ok (.iload_n 0, 1) := by decide +kernel
theorem d4_1 : decode method_2_code 1 = .ok (.ifCond .le 5, 3) := by decide +kernel
theorem d4_4 : decode method_2_code 4 = .ok (.iconst 1, 1) := by decide +kernel
theorem d4_5 : decode method_2_code 5 = .ok (.ireturn, 1) := by decide +kernel
theorem d4_6 : decode method_2_code 6 = .ok (.iload_n 0, 1) := by decide +kernel
theorem d4_7 : decode method_2_code 7 = .ok (.ifCond .ge 5, 3) := by decide +kernel
theorem d4_10 : decode method_2_code 10 = .ok (.iconst (-1), 1) := by decide +kernel
theorem d4_11 : decode method_2_code 11 = .ok (.ireturn, 1) := by decide +kernel
theorem d4_12 : decode method_2_code 12 = .ok (.iconst 0, 1) := by decide +kernel
theorem d4_13 : decode method_2_code 13 = .ok (.ireturn, 1) := by decide +kernel
theorem pn_1 : plainName "com/example/keyslice/keyslice/types/OrderReversedPinLaw" = true := by first | (simp [plainName, overriddenIn]; done) | decide +kernel
theorem ef_4 (m : MethodId) (x0 : Int32)  : entryFrame m #[(.int x0)] 1 = mkF m 0 #[.val (.int x0)] [] := by first | (simp [entryFrame, mkF, argsToLocals, Value.category]; done) | rfl
def own_s_7 (p1 : Int32) : Int32 := if p1 < (0 : Int32) then (-1 : Int32) else (0 : Int32)
def own_s_1 (p1 : Int32) : Int32 := if (0 : Int32) < p1 then (1 : Int32) else (own_s_7 p1)
set_option maxRecDepth 65536 in
set_option maxHeartbeats 40000000 in
theorem rm4 (l : Launch) (Z : State) (a0 : Array Value) (hw : ∀ d ∈ tables_1, d.before a0 Z = true) (ws : List Jvm.Cond) (p1 : Int32) (h0 : Heap) (n0 : Nat) (Z0 : n0 ≤ h0.size) :
    MetFree l (⟨"com/example/keyslice/keyslice/types/OrderReversedPinLaw", "sign", "(I)I"⟩ : MethodName) (head1 (Jvm.Cond.code (⟨"com/example/keyslice/keyslice/types/OrderReversedPinLaw", "sign", "(I)I"⟩ : MethodName) method_2_code 1 (some .int) :: ws) ({ frames := 0, cells := 0, slots := 0, locals := 0 } : Room)) (fun a U => a = #[(.int p1)] ∧ Z.Warmed39 U.vm ∧ U.heap = h0) (fun _ _ _ _ _ => True) (fun _ U o U' => ∃ v L, o = .returned v ∧ (own_P h0 n0 (.int (own_s_1 p1))) v U'.heap L ∧ FrameEnd U o U' L ({ frames := 0, cells := 0, slots := 0, locals := 0 } : Room).cells ({ frames := 0, cells := 0, slots := 0, locals := 0 } : Room).slots) := by
  refine MetFree.of_bodySF (plainFor_of_name pn_1) hisR ?_
  intro p e s m args below meth c s₁ Bd hml0 hP hK
  obtain ⟨rfl, hZ, hh⟩ := hP
  have hx := Bd.exec
  have hby := Bd.bytes
  have hml : c.maxLocals = 1 := hml0
  have hown : s.vm.findClass "com/example/keyslice/keyslice/types/OrderReversedPinLaw" = some m.cls := findClass_of_methodNamed Bd.named
  have hnm := (name_of_methodNamed Bd.named Bd.method).1
  have X0 : Stand p l e ({ frames := 0, cells := 0, slots := 0, locals := 0 } : Room) s m #[(.int p1)] below meth c s₁ [] 0 0 := Stand.of_body Bd
  have e0 : s₁.heap = h0 := by rw [← hh, Bd.state]; rfl
  have N0 := Fr.nil n0
  show own_Fin p e below (own_A s ({ frames := 0, cells := 0, slots := 0, locals := 0 } : Room).cells ({ frames := 0, cells := 0, slots := 0, locals := 0 } : Room).slots (own_P h0 n0 (.int (own_s_1 p1)))) _
  refine own_go (fun t k => castTop (ef_4 m (p1)) k) ?_
  show own_Fin p e below _ (s₁.setTop (mkF m 0 #[.val (.int p1)] []))
  refine own_go (fun t k => XS.iloadN X0.here hx rfl (hb hby d4_0) rfl  k) ?_
  show own_Fin p e below _ (s₁.setTop (mkF m 1 #[.val (.int p1)] [(.int p1)]))
  by_cases hc1 : (0 : Int32) < p1
  · skip
    rw [(show (own_s_1 p1) = (1 : Int32) from if_pos hc1)]
    refine own_go (fun t k => XS.ifNo X0.here hx rfl (hb hby d4_1) rfl ((if0 _ _).trans (tlt hc1).2.2.2) (XS.iconst X0.here hx rfl (hb hby d4_4) k)) ?_
    show own_Fin p e below _ (s₁.setTop (mkF m 5 #[.val (.int p1)] [(.int (1 : Int32))]))
    exact own_out X0 (fun h => by rw [Bd.returns] at h; cases h) Bd.notSynchronized (fun fs hr => retI X0 hx Bd.returns (hb hby d4_5) hr) ⟨rfl, N0, e0⟩ (by decide) (by decide)
  · skip
    rw [(show (own_s_1 p1) = (own_s_7 p1) from if_neg hc1)]
    refine own_go (fun t k => XS.ifYes X0.here hx rfl (pc0 := 1) (pc' := 6) rfl (hb hby d4_1) rfl ((if0 _ _).trans (flt hc1).2.2.2) (by decide) (by decide) (XS.iloadN X0.here hx rfl (hb hby d4_6) rfl  k)) ?_
    show own_Fin p e below _ (s₁.setTop (mkF m 7 #[.val (.int p1)] [(.int p1)]))
    by_cases hc2 : p1 < (0 : Int32)
    · skip
      rw [(show (own_s_7 p1) = (-1 : Int32) from if_pos hc2)]
      refine own_go (fun t k => XS.ifNo X0.here hx rfl (hb hby d4_7) rfl ((if0 _ _).trans (tlt hc2).2.1) (XS.iconst X0.here hx rfl (hb hby d4_10) k)) ?_
      show own_Fin p e below _ (s₁.setTop (mkF m 11 #[.val (.int p1)] [(.int (-1 : Int32))]))
      exact own_out X0 (fun h => by rw [Bd.returns] at h; cases h) Bd.notSynchronized (fun fs hr => retI X0 hx Bd.returns (hb hby d4_11) hr) ⟨rfl, N0, e0⟩ (by decide) (by decide)
    · skip
      rw [(show (own_s_7 p1) = (0 : Int32) from if_neg hc2)]
      refine own_go (fun t k => XS.ifYes X0.here hx rfl (pc0 := 7) (pc' := 12) rfl (hb hby d4_7) rfl ((if0 _ _).trans (flt hc2).2.1) (by decide) (by decide) (XS.iconst X0.here hx rfl (hb hby d4_12) k)) ?_
      show own_Fin p e below _ (s₁.setTop (mkF m 13 #[.val (.int p1)] [(.int (0 : Int32))]))
      exact own_out X0 (fun h => by rw [Bd.returns] at h; cases h) Bd.notSynchronized (fun fs hr => retI X0 hx Bd.returns (hb hby d4_13) hr) ⟨rfl, N0, e0⟩ (by decide) (by decide)
theorem d1_0 : decode prog_77_method_4_code 0 = .ok (.aload_n 0, 1) := by decide +kernel
theorem d1_1 : decode prog_77_method_4_code 1 = .ok (.getstatic 3, 3) := by decide +kernel
theorem d1_4 : decode prog_77_method_4_code 4 = .ok (.if_acmp .ne 9, 3) := by decide +kernel
theorem d1_7 : decode prog_77_method_4_code 7 = .ok (.getstatic 7, 3) := by decide +kernel
theorem d1_10 : decode prog_77_method_4_code 10 = .ok (.goto 6, 3) := by decide +kernel
theorem d1_13 : decode prog_77_method_4_code 13 = .ok (.getstatic 3, 3) := by decide +kernel
theorem d1_16 : decode prog_77_method_4_code 16 = .ok (.areturn, 1) := by decide +kernel
theorem pn_2 : plainName "com/example/keyslice/keyslice/types/Order" = true := by first | (simp [plainName, overriddenIn]; done) | decide +kernel
theorem ef_1 (m : MethodId) (x0 : Addr)  : entryFrame m #[(.ref x0)] 1 = mkF m 0 #[.val (.ref x0)] [] := by first | (simp [entryFrame, mkF, argsToLocals, Value.category]; done) | rfl
def own_rv_4 (a1 : Addr) (aA : Addr) (aD : Addr) : Addr := if a1 = aA then aD else aA
set_option maxRecDepth 65536 in
set_option maxHeartbeats 40000000 in
theorem rm1 (l : Launch) (Z : State) (a0 : Array Value) (hw : ∀ d ∈ tables_1, d.before a0 Z = true) (ws : List Jvm.Cond) (a1 : Addr) (aA : Addr) (aD : Addr) (h0 : Heap) (n0 : Nat) (Z0 : n0 ≤ h0.size) (S_A : Sta Z h0 "com/example/keyslice/keyslice/types/Order" "ASC" "Lcom/example/keyslice/keyslice/types/Order;" (.ref aA)) (S_D : Sta Z h0 "com/example/keyslice/keyslice/types/Order" "DESC" "Lcom/example/keyslice/keyslice/types/Order;" (.ref aD)) :
    MetFree l (⟨"com/example/keyslice/keyslice/types/Order", "reversed", "()Lcom/example/keyslice/keyslice/types/Order;"⟩ : MethodName) (head1 (Jvm.Cond.code (⟨"com/example/keyslice/keyslice/types/Order", "reversed", "()Lcom/example/keyslice/keyslice/types/Order;"⟩ : MethodName) prog_77_method_4_code 1 (some (.object "com/example/keyslice/keyslice/types/Order")) :: ws) ({ frames := 0, cells := 0, slots := 0, locals := 0 } : Room)) (fun a U => a = #[(.ref a1)] ∧ Z.Warmed39 U.vm ∧ U.heap = h0) (fun _ _ _ _ _ => True) (fun _ U o U' => ∃ v L, o = .returned v ∧ (own_P h0 n0 (.ref (own_rv_4 a1 aA aD))) v U'.heap L ∧ FrameEnd U o U' L ({ frames := 0, cells := 0, slots := 0, locals := 0 } : Room).cells ({ frames := 0, cells := 0, slots := 0, locals := 0 } : Room).slots) := by
  refine MetFree.of_bodySF (plainFor_of_name pn_2) hisR ?_
  intro p e s m args below meth c s₁ Bd hml0 hP hK
  obtain ⟨rfl, hZ, hh⟩ := hP
  have hx := Bd.exec
  have hby := Bd.bytes
  have hml : c.maxLocals = 1 := hml0
  have hown : s.vm.findClass "com/example/keyslice/keyslice/types/Order" = some m.cls := findClass_of_methodNamed Bd.named
  have hnm := (name_of_methodNamed Bd.named Bd.method).1
  have X0 : Stand p l e ({ frames := 0, cells := 0, slots := 0, locals := 0 } : Room) s m #[(.ref a1)] below meth c s₁ [] 0 0 := Stand.of_body Bd
  have e0 : s₁.heap = h0 := by rw [← hh, Bd.state]; rfl
  have N0 := Fr.nil n0
  have hw_8 := hw _ (List.mem_of_getElem? (i := 8) rfl)
  have hw_9 := hw _ (List.mem_of_getElem? (i := 9) rfl)
  show own_Fin p e below (own_A s ({ frames := 0, cells := 0, slots := 0, locals := 0 } : Room).cells ({ frames := 0, cells := 0, slots := 0, locals := 0 } : Room).slots (own_P h0 n0 (.ref (own_rv_4 a1 aA aD)))) _
  refine own_go (fun t k => castTop (ef_1 m (a1)) k) ?_
  show own_Fin p e below _ (s₁.setTop (mkF m 0 #[.val (.ref a1)] []))
  refine own_go (fun t k => XS.aloadN X0.here hx rfl (hb hby d1_0) rfl rfl  k) ?_
  show own_Fin p e below _ (s₁.setTop (mkF m 1 #[.val (.ref a1)] [(.ref a1)]))
  obtain ⟨T1, X1, e1, st1⟩ := getS2 X0 hx hZ hown (host := "") (Or.inl hw_8) Via.refl e0 S_A (g := (mkF m 1 #[.val (.ref a1)] [(.ref a1)])) rfl (hb hby d1_1)
  refine own_go st1 ?_
  show own_Fin p e below _ (T1.setTop (mkF m 4 #[.val (.ref a1)] [(.ref aA), (.ref a1)]))
  by_cases hc2 : a1 = aA
  · skip
    rw [(show (own_rv_4 a1 aA aD) = aD from if_pos hc2)]
    refine own_go (fun t k => Jvm.RoadKit.acmp (g := (mkF m 4 #[.val (.ref a1)] [(.ref aA), (.ref a1)])) X1 hx rfl rfl rfl (pc0 := 4) (pc' := 7) (same := true) rfl (hb hby d1_4) rfl (decide_eq_true (congrArg Value.ref hc2)) (by decide) (by decide) k) ?_
    show own_Fin p e below _ (T1.setTop (mkF m 7 #[.val (.ref a1)] []))
    obtain ⟨T3, X3, e3, st3⟩ := getS2 X1 hx hZ hown (host := "") (Or.inl hw_9) Via.refl e1 S_D (g := (mkF m 7 #[.val (.ref a1)] [])) rfl (hb hby d1_7)
    refine own_go st3 ?_
    show own_Fin p e below _ (T3.setTop (mkF m 10 #[.val (.ref a1)] [(.ref aD)]))
    refine own_go (fun t k => XS.goto X3.here hx rfl (pc0 := 10) (pc' := 16) rfl (hb hby d1_10) (by decide) (by decide) k) ?_
    show own_Fin p e below _ (T3.setTop (mkF m 16 #[.val (.ref a1)] [(.ref aD)]))
    exact own_out X3 (fun h => by rw [Bd.returns] at h; cases h) Bd.notSynchronized (fun fs hr => retOut X3 hx Bd.returns rfl (Or.inr (Or.inr (Or.inr (Or.inr ⟨rfl, rfl, rfl⟩)))) (hb hby d1_16) hr) ⟨rfl, N0, e3⟩ (by decide) (by decide)
  · skip
    rw [(show (own_rv_4 a1 aA aD) = aA from if_neg hc2)]
    refine own_go (fun t k => Jvm.RoadKit.acmp (g := (mkF m 4 #[.val (.ref a1)] [(.ref aA), (.ref a1)])) X1 hx rfl rfl rfl (pc0 := 4) (pc' := 13) (same := false) rfl (hb hby d1_4) rfl (decide_eq_false fun q => hc2 (Value.ref.inj q)) (by decide) (by decide) k) ?_
    show own_Fin p e below _ (T1.setTop (mkF m 13 #[.val (.ref a1)] []))
    obtain ⟨T4, X4, e4, st4⟩ := getS2 X1 hx hZ hown (host := "") (Or.inl hw_8) Via.refl e1 S_A (g := (mkF m 13 #[.val (.ref a1)] [])) rfl (hb hby d1_13)
    refine own_go st4 ?_
    show own_Fin p e below _ (T4.setTop (mkF m 16 #[.val (.ref a1)] [(.ref aA)]))
    exact own_out X4 (fun h => by rw [Bd.returns] at h; cases h) Bd.notSynchronized (fun fs hr => retOut X4 hx Bd.returns rfl (Or.inr (Or.inr (Or.inr (Or.inr ⟨rfl, rfl, rfl⟩)))) (hb hby d1_16) hr) ⟨rfl, N0, e4⟩ (by decide) (by decide)
theorem pd_0 : parseMethodDescriptor "(I)I" = some ⟨[.int], some .int⟩ := by decide +kernel
theorem d2_0 : decode prog_77_method_5_code 0 = .ok (.aload_n 0, 1) := by decide +kernel
theorem d2_1 : decode prog_77_method_5_code 1 = .ok (.getstatic 3, 3) := by decide +kernel
theorem d2_4 : decode prog_77_method_5_code 4 = .ok (.if_acmp .ne 7, 3) := by decide +kernel
theorem d2_7 : decode prog_77_method_5_code 7 = .ok (.iload_n 1, 1) := by decide +kernel
theorem d2_8 : decode prog_77_method_5_code 8 = .ok (.goto 8, 3) := by decide +kernel
theorem d2_11 : decode prog_77_method_5_code 11 = .ok (.iload_n 1, 1) := by decide +kernel
theorem d2_12 : decode prog_77_method_5_code 12 = .ok (.invokestatic 29, 3) := by decide +kernel
theorem d2_15 : decode prog_77_method_5_code 15 = .ok (.ineg, 1) := by decide +kernel
theorem d2_16 : decode prog_77_method_5_code 16 = .ok (.ireturn, 1) := by decide +kernel
theorem ef_2 (m : MethodId) (x0 : Addr) (x1 : Int32)  : entryFrame m #[(.ref x0), (.int x1)] 2 = mkF m 0 #[.val (.ref x0), .val (.int x1)] [] := by first | (simp [entryFrame, mkF, argsToLocals, Value.category]; done) | rfl
def own_ap_4 (a1 : Addr) (p2 : Int32) (aA : Addr) (aD : Addr) : Int32 := if a1 = aA then p2 else (-(own_sg p2))
set_option maxRecDepth 65536 in
set_option maxHeartbeats 40000000 in
theorem rm2 (l : Launch) (Z : State) (a0 : Array Value) (hw : ∀ d ∈ tables_1, d.before a0 Z = true) (ws : List Jvm.Cond) (a1 : Addr) (p2 : Int32) (aA : Addr) (aD : Addr) (h0 : Heap) (n0 : Nat) (Z0 : n0 ≤ h0.size) (S_A : Sta Z h0 "com/example/keyslice/keyslice/types/Order" "ASC" "Lcom/example/keyslice/keyslice/types/Order;" (.ref aA)) (S_D : Sta Z h0 "com/example/keyslice/keyslice/types/Order" "DESC" "Lcom/example/keyslice/keyslice/types/Order;" (.ref aD)) :
    MetFree l (⟨"com/example/keyslice/keyslice/types/Order", "apply", "(I)I"⟩ : MethodName) (head1 (Jvm.Cond.code (⟨"com/example/keyslice/keyslice/types/Order", "apply", "(I)I"⟩ : MethodName) prog_77_method_5_code 2 (some .int) :: ws) ({ frames := 1, cells := 0, slots := 0, locals := 12 } : Room)) (fun a U => a = #[(.ref a1), (.int p2)] ∧ Z.Warmed39 U.vm ∧ U.heap = h0) (fun _ _ _ _ _ => True) (fun _ U o U' => ∃ v L, o = .returned v ∧ (own_P h0 n0 (.int (own_ap_4 a1 p2 aA aD))) v U'.heap L ∧ FrameEnd U o U' L ({ frames := 1, cells := 0, slots := 0, locals := 12 } : Room).cells ({ frames := 1, cells := 0, slots := 0, locals := 12 } : Room).slots) := by
  refine MetFree.of_bodySF (plainFor_of_name pn_2) hisR ?_
  intro p e s m args below meth c s₁ Bd hml0 hP hK
  obtain ⟨rfl, hZ, hh⟩ := hP
  have hx := Bd.exec
  have hby := Bd.bytes
  have hml : c.maxLocals = 2 := hml0
  have hown : s.vm.findClass "com/example/keyslice/keyslice/types/Order" = some m.cls := findClass_of_methodNamed Bd.named
  have hnm := (name_of_methodNamed Bd.named Bd.method).1
  have X0 : Stand p l e ({ frames := 1, cells := 0, slots := 0, locals := 12 } : Room) s m #[(.ref a1), (.int p2)] below meth c s₁ [] 0 0 := Stand.of_body Bd
  have e0 : s₁.heap = h0 := by rw [← hh, Bd.state]; rfl
  have N0 := Fr.nil n0
  have hw_8 := hw _ (List.mem_of_getElem? (i := 8) rfl)
  have hw_16 := hw _ (List.mem_of_getElem? (i := 16) rfl)
  have hw_17 := hw _ (List.mem_of_getElem? (i := 17) rfl)
  have hw_18 := hw _ (List.mem_of_getElem? (i := 18) rfl)
  have hw_19 := hw _ (List.mem_of_getElem? (i := 19) rfl)
  show own_Fin p e below (own_A s ({ frames := 1, cells := 0, slots := 0, locals := 12 } : Room).cells ({ frames := 1, cells := 0, slots := 0, locals := 12 } : Room).slots (own_P h0 n0 (.int (own_ap_4 a1 p2 aA aD)))) _
  refine own_go (fun t k => castTop (ef_2 m (a1) (p2)) k) ?_
  show own_Fin p e below _ (s₁.setTop (mkF m 0 #[.val (.ref a1), .val (.int p2)] []))
  refine own_go (fun t k => XS.aloadN X0.here hx rfl (hb hby d2_0) rfl rfl  k) ?_
  show own_Fin p e below _ (s₁.setTop (mkF m 1 #[.val (.ref a1), .val (.int p2)] [(.ref a1)]))
  obtain ⟨T1, X1, e1, st1⟩ := getS2 X0 hx hZ hown (host := "") (Or.inl hw_8) Via.refl e0 S_A (g := (mkF m 1 #[.val (.ref a1), .val (.int p2)] [(.ref a1)])) rfl (hb hby d2_1)
  refine own_go st1 ?_
  show own_Fin p e below _ (T1.setTop (mkF m 4 #[.val (.ref a1), .val (.int p2)] [(.ref aA), (.ref a1)]))
  by_cases hc2 : a1 = aA
  · skip
    rw [(show (own_ap_4 a1 p2 aA aD) = p2 from if_pos hc2)]
    refine own_go (fun t k => Jvm.RoadKit.acmp (g := (mkF m 4 #[.val (.ref a1), .val (.int p2)] [(.ref aA), (.ref a1)])) X1 hx rfl rfl rfl (pc0 := 4) (pc' := 7) (same := true) rfl (hb hby d2_4) rfl (decide_eq_true (congrArg Value.ref hc2)) (by decide) (by decide) (XS.iloadN X1.here hx rfl (hb hby d2_7) rfl  (XS.goto X1.here hx rfl (pc0 := 8) (pc' := 16) rfl (hb hby d2_8) (by decide) (by decide) k))) ?_
    show own_Fin p e below _ (T1.setTop (mkF m 16 #[.val (.ref a1), .val (.int p2)] [(.int p2)]))
    exact own_out X1 (fun h => by rw [Bd.returns] at h; cases h) Bd.notSynchronized (fun fs hr => retI X1 hx Bd.returns (hb hby d2_16) hr) ⟨rfl, N0, e1⟩ (by decide) (by decide)
  · skip
    rw [(show (own_ap_4 a1 p2 aA aD) = (-(own_sg p2)) from if_neg hc2)]
    refine own_go (fun t k => Jvm.RoadKit.acmp (g := (mkF m 4 #[.val (.ref a1), .val (.int p2)] [(.ref aA), (.ref a1)])) X1 hx rfl rfl rfl (pc0 := 4) (pc' := 11) (same := false) rfl (hb hby d2_4) rfl (decide_eq_false fun q => hc2 (Value.ref.inj q)) (by decide) (by decide) (XS.iloadN X1.here hx rfl (hb hby d2_11) rfl  k)) ?_
    show own_Fin p e below _ (T1.setTop (mkF m 12 #[.val (.ref a1), .val (.int p2)] [(.int p2)]))
    obtain ⟨_, _, ⟨T3, L3, k3, n3⟩, -, X3, ⟨Lc3, hQ3, l3, y3, z3⟩, st3⟩ := Jvm.LawKit.callS X1 hx (y := (⟨"java/lang/Integer", "signum", "(I)I"⟩ : MethodName)) hown (mvT hZ hw_16) (mvT hZ hw_17) (mvT hZ hw_18) (mvT hZ hw_19) (by decide) (backOf (W := 0) (rm3 l Z a0 hw [] (p2)  h0 n0 Z0 ) hZ hw_19 hw_18 (by decide) (by decide)) (g := (mkF m 12 #[.val (.ref a1), .val (.int p2)] [(.int p2)])) rfl (by rw [hml]; rfl) (argsL := [(.int p2)]) (rest := []) (lenOf pd_0 rfl) rfl (by show 2 * 0 + _ ≤ _; exact Nat.le_of_eq rfl) (hb hby d2_12) (fun _ _ => ⟨rfl, e1, (by decide : 0 + 0 ≤ _), (by decide : 0 + 0 ≤ _)⟩)
    dsimp only [Pt.U, Pt.locs, Pt.cells, Pt.slots] at X3 l3 y3 z3 st3 hQ3
    subst l3 y3 z3
    obtain ⟨rfl, N3q, e3⟩ := hQ3
    have N3 := Fr.app N0 N3q
    refine own_go st3 ?_
    show own_Fin p e below _ (T3.setTop (mkF m 15 #[.val (.ref a1), .val (.int p2)] [(.int (own_sg p2))]))
    refine own_go (fun t k => XS.ineg X3.here hx rfl (hb hby d2_15) rfl k) ?_
    show own_Fin p e below _ (T3.setTop (mkF m 16 #[.val (.ref a1), .val (.int p2)] [(.int (-(own_sg p2)))]))
    exact own_out X3 (fun h => by rw [Bd.returns] at h; cases h) Bd.notSynchronized (fun fs hr => retI X3 hx Bd.returns (hb hby d2_16) hr) ⟨rfl, N3, e3⟩ (by decide) (by decide)
theorem own_fldI {s : State} {args : Array Value} {t : Term} {C n d : String} {k : Int32} {a : Addr} (ht : t.eval args s none [] s = some (.ref a)) (h : (Jvm.Cond.eq (.field t C n d) (.int k)).value args s none s [] = some true) : Fld s s.heap a C n d (.int k) := by
  refine Fld.start ?_
  obtain ⟨x, y, h1, h2, h3, h4⟩ := cmp_v (Or.inl h)
  rw [fld_at ht] at h1
  have e2 : y = .int k := (Option.some.inj h2).symm
  subst e2
  obtain ⟨z, rfl⟩ := (h4 : ∃ z, x = .int z)
  have h5 : (Jvm.Cond.eq (.field t C n d) (.int k)).value args s none s [] = some (decide (z = k)) := by
    simp only [Jvm.Cond.value, Term.eval, ht]
    simp [h1]
  rw [h5] at h
  have h6 : z = k := by simpa using h
  rw [h1, h6]
theorem own_fldN {s : State} {args : Array Value} {t : Term} {C n d : String} {a : Addr} (ht : t.eval args s none [] s = some (.ref a)) (h : (Jvm.Cond.eq (.field t C n d) .null).value args s none s [] = some true) : Fld s s.heap a C n d .null := Fld.start (by rw [← fld_at ht]; exact null_v h)
theorem own_fldR {s : State} {args : Array Value} {t : Term} {C n d : String} {a b : Addr} (ht : t.eval args s none [] s = some (.ref a)) (h : (Term.field t C n d).eval args s none [] s = some (.ref b)) : Fld s s.heap a C n d (.ref b) := Fld.start (by rw [← fld_at ht]; exact h)

theorem own_rvA {aA aD : Addr} : own_rv_4 aA aA aD = aD := if_pos rfl
theorem own_rvD {aA aD : Addr} (h : aD ≠ aA) : own_rv_4 aD aA aD = aA := if_neg h
theorem own_sgn (p : Int32) : (own_sg p).toInt = if 0 < p.toInt then 1 else if p.toInt < 0 then -1 else 0 := by
  have r := rng32 p
  have rn := rng32 (-p)
  have cn := c_ineg p
  have a := c_ishr p 31 31 (by decide)
  have b := c_iushr (-p) 31 31 (by decide) (by decide)
  have em : (-1 : Int32).toInt = -1 := rfl
  have e0 : (0 : Int32).toInt = 0 := rfl
  have e1 : (1 : Int32).toInt = 1 := rfl
  unfold own_sg
  by_cases h : p.toInt < 0
  · have h1 : (p >>> ((31 : Int32) &&& 31)) = (-1 : Int32) := by rw [← Int32.toInt_inj, a, em]; omega
    have h2 : ∀ z : Int32, (-1 : Int32) ||| z = -1 := fun z => by rw [← Int32.toBitVec_inj, Int32.toBitVec_or]; exact BitVec.allOnes_or
    rw [h1, h2, em, if_neg (by omega), if_pos h]
  · have h1 : (p >>> ((31 : Int32) &&& 31)) = (0 : Int32) := by rw [← Int32.toInt_inj, a, e0]; omega
    have h2 : ∀ z : Int32, (0 : Int32) ||| z = z := fun z => by rw [← Int32.toBitVec_inj, Int32.toBitVec_or]; exact BitVec.zero_or
    rw [h1, h2, b]
    split <;> omega
theorem own_sv (p : Int32) : own_s_1 p = if 0 < p.toInt then (1 : Int32) else if p.toInt < 0 then (-1 : Int32) else (0 : Int32) := by
  have e0 : (0 : Int32).toInt = 0 := rfl
  unfold own_s_1 own_s_7
  simp only [Int32.lt_iff_toInt_lt, e0]
theorem own_sneg (c : Int32) : own_s_1 (-(own_sg c)) = -(own_s_1 c) := by
  have a := own_sgn c
  have n := c_ineg (own_sg c)
  have r := rng32 (-(own_sg c))
  rw [own_sv, own_sv]
  by_cases h1 : 0 < c.toInt
  · rw [if_pos h1] at a
    rw [if_pos h1, if_neg (by omega), if_pos (by omega)]; all_goals rfl
  · by_cases h2 : c.toInt < 0
    · rw [if_neg h1, if_pos h2] at a
      rw [if_neg h1, if_pos h2, if_pos (by omega)]; all_goals rfl
    · rw [if_neg h1, if_neg h2] at a
      rw [if_neg h1, if_neg h2, if_neg (by omega), if_neg (by omega)]; all_goals rfl
theorem own_negneg (x : Int32) : x = -(-x) := by rw [← Int32.toBitVec_inj, Int32.toBitVec_neg, Int32.toBitVec_neg, BitVec.neg_neg]
theorem own_finA {aA aD : Addr} (h : aD ≠ aA) (c : Int32) : own_s_1 (own_ap_4 aD c aA aD) = -(own_s_1 (own_ap_4 aA c aA aD)) := by
  rw [(show own_ap_4 aD c aA aD = -(own_sg c) from if_neg h), (show own_ap_4 aA c aA aD = c from if_pos rfl)]; exact own_sneg c
theorem own_finD {aA aD : Addr} (h : aD ≠ aA) (c : Int32) : own_s_1 (own_ap_4 aA c aA aD) = -(own_s_1 (own_ap_4 aD c aA aD)) := by
  rw [(show own_ap_4 aD c aA aD = -(own_sg c) from if_neg h), (show own_ap_4 aA c aA aD = c from if_pos rfl), own_sneg c]; exact own_negneg _

theorem pd_1 : parseMethodDescriptor "()Lcom/example/keyslice/keyslice/types/Order;" = some ⟨[], some (.object "com/example/keyslice/keyslice/types/Order")⟩ := by decide +kernel
theorem ef_0 (m : MethodId) (x0 : Int32) (x1 : Int32)  : entryFrame m #[(.int x0), (.int x1)] maxLocals = mkF m 0 #[.val (.int x0), .val (.int x1), .unset, .unset] [] := by first | (simp [entryFrame, mkF, argsToLocals, Value.category, maxLocals]; done) | rfl
def own_q0 (Z : State) (p1 : Int32) (p2 : Int32) (aA aD : Addr) (h0 : Heap) (n0 : Nat) (v : Option Value) (h : Heap) (L : List Loc) : Prop := v = some (.int (1 : Int32)) ∧ Fr n0 L
set_option maxRecDepth 65536 in
set_option maxHeartbeats 40000000 in
theorem rm0 (l : Launch) (Z : State) (a0 : Array Value) (hw : ∀ d ∈ tables_1, d.before a0 Z = true) (ws : List Jvm.Cond) (p1 : Int32) (p2 : Int32) (aA aD : Addr) (h0 : Heap) (n0 : Nat) (Z0 : n0 ≤ h0.size) (S_A : Sta Z h0 "com/example/keyslice/keyslice/types/Order" "ASC" "Lcom/example/keyslice/keyslice/types/Order;" (.ref aA)) (S_D : Sta Z h0 "com/example/keyslice/keyslice/types/Order" "DESC" "Lcom/example/keyslice/keyslice/types/Order;" (.ref aD)) (E_A : Exa Z h0 aA "com/example/keyslice/keyslice/types/Order") (E_D : Exa Z h0 aD "com/example/keyslice/keyslice/types/Order") (hne : aD ≠ aA) :
    MetFree l x (head1 (Jvm.Cond.code x code maxLocals ret :: ws) room_1) (fun a U => a = #[(.int p1), (.int p2)] ∧ Z.Warmed39 U.vm ∧ U.heap = h0) (fun _ _ _ _ _ => True) (fun _ U o U' => ∃ v L, o = .returned v ∧ (own_q0 Z p1 p2 aA aD h0 n0) v U'.heap L ∧ FrameEnd U o U' L room_1.cells room_1.slots) := by
  refine MetFree.of_bodySF (plainFor_of_name pn_1) hisR ?_
  intro p e s m args below meth c s₁ Bd hml0 hP hK
  obtain ⟨rfl, hZ, hh⟩ := hP
  have hx := Bd.exec
  have hby := Bd.bytes
  have hml : c.maxLocals = 4 := hml0
  have hown : s.vm.findClass "com/example/keyslice/keyslice/types/OrderReversedPinLaw" = some m.cls := findClass_of_methodNamed Bd.named
  have hnm := (name_of_methodNamed Bd.named Bd.method).1
  have X0 : Stand p l e room_1 s m #[(.int p1), (.int p2)] below meth c s₁ [] 0 0 := Stand.of_body Bd
  have e0 : s₁.heap = h0 := by rw [← hh, Bd.state]; rfl
  have N0 := Fr.nil n0
  have hw_0 := hw _ (List.mem_of_getElem? (i := 0) rfl)
  have hw_1 := hw _ (List.mem_of_getElem? (i := 1) rfl)
  have hw_3 := hw _ (List.mem_of_getElem? (i := 3) rfl)
  have hw_4 := hw _ (List.mem_of_getElem? (i := 4) rfl)
  have hw_5 := hw _ (List.mem_of_getElem? (i := 5) rfl)
  have hw_6 := hw _ (List.mem_of_getElem? (i := 6) rfl)
  have hw_7 := hw _ (List.mem_of_getElem? (i := 7) rfl)
  have hw_11 := hw _ (List.mem_of_getElem? (i := 11) rfl)
  have hw_12 := hw _ (List.mem_of_getElem? (i := 12) rfl)
  have hw_13 := hw _ (List.mem_of_getElem? (i := 13) rfl)
  have hw_14 := hw _ (List.mem_of_getElem? (i := 14) rfl)
  have hw_15 := hw _ (List.mem_of_getElem? (i := 15) rfl)
  have hw_20 := hw _ (List.mem_of_getElem? (i := 20) rfl)
  have hw_21 := hw _ (List.mem_of_getElem? (i := 21) rfl)
  have hw_22 := hw _ (List.mem_of_getElem? (i := 22) rfl)
  have hw_23 := hw _ (List.mem_of_getElem? (i := 23) rfl)
  have hw_24 := hw _ (List.mem_of_getElem? (i := 24) rfl)
  show own_Fin p e below (own_A s room_1.cells room_1.slots (own_q0 Z p1 p2 aA aD h0 n0)) _
  refine own_go (fun t k => castTop (ef_0 m (p1) (p2)) k) ?_
  show own_Fin p e below _ (s₁.setTop (mkF m 0 #[.val (.int p1), .val (.int p2), .unset, .unset] []))
  refine own_go (fun t k => XS.iloadN X0.here hx rfl (hb hby at_0) rfl  (XS.iconst X0.here hx rfl (hb hby at_1) (XS.iand X0.here hx rfl (hb hby at_2) rfl k))) ?_
  show own_Fin p e below _ (s₁.setTop (mkF m 3 #[.val (.int p1), .val (.int p2), .unset, .unset] [(.int (p1 &&& (1 : Int32)))]))
  by_cases hc1 : (p1 &&& (1 : Int32)) = (0 : Int32)
  · skip
    refine own_go (fun t k => XS.ifYes X0.here hx rfl (pc0 := 3) (pc' := 12) rfl (hb hby at_3) rfl ((if0 _ _).trans (teq hc1).1) (by decide) (by decide) k) ?_
    show own_Fin p e below _ (s₁.setTop (mkF m 12 #[.val (.int p1), .val (.int p2), .unset, .unset] []))
    obtain ⟨T2, X2, e2, st2⟩ := getS2 X0 hx hZ hown (host := "") (Or.inl hw_0) Via.refl e0 S_A (g := (mkF m 12 #[.val (.int p1), .val (.int p2), .unset, .unset] [])) rfl (hb hby at_12)
    refine own_go st2 ?_
    show own_Fin p e below _ (T2.setTop (mkF m 15 #[.val (.int p1), .val (.int p2), .unset, .unset] [(.ref aA)]))
    refine own_go (fun t k => XS.astoreN X2.here hx rfl (hb hby at_15) rfl rfl (l' := #[.val (.int p1), .val (.int p2), .val (.ref aA), .unset]) rfl (XS.aloadN X2.here hx rfl (hb hby at_16) rfl rfl  k)) ?_
    show own_Fin p e below _ (T2.setTop (mkF m 17 #[.val (.int p1), .val (.int p2), .val (.ref aA), .unset] [(.ref aA)]))
    obtain ⟨cq3, kq3, q3a, q3b, q3c⟩ := isOf hZ e2 E_A
    obtain ⟨_, _, ⟨T3, L3, k3, n3⟩, -, X3, ⟨Lc3, hQ3, l3, y3, z3⟩, st3⟩ := X2.virtualBack hx (y := (⟨"com/example/keyslice/keyslice/types/Order", "reversed", "()Lcom/example/keyslice/keyslice/types/Order;"⟩ : MethodName)) (z := (⟨"com/example/keyslice/keyslice/types/Order", "reversed", "()Lcom/example/keyslice/keyslice/types/Order;"⟩ : MethodName)) hown (mvT hZ hw_3) (mvT hZ hw_4) (notFace_of_selects (args := #[]) (mvT hZ hw_6)) (mvT hZ hw_6) (mvT hZ hw_5) (by decide) (backOf (W := 0) (rm1 l Z a0 hw [] (aA) aA aD h0 n0 Z0 S_A S_D) hZ hw_7 hw_1 (by decide) (by decide)) q3a q3c (g := (mkF m 17 #[.val (.int p1), .val (.int p2), .val (.ref aA), .unset] [(.ref aA)])) rfl (by rw [hml]; rfl) (Steps.refl _) (argsL := []) (rest := []) (lenOf pd_1 rfl) rfl (by show 2 * 0 + _ ≤ _; exact Nat.le_of_eq rfl) (hb hby at_17) (fun _ _ => ⟨rfl, e2, (by decide : 0 + 0 ≤ _), (by decide : 0 + 0 ≤ _)⟩)
    dsimp only [Pt.U, Pt.locs, Pt.cells, Pt.slots] at X3 l3 y3 z3 st3 hQ3
    subst l3 y3 z3
    rw [own_rvA] at hQ3
    obtain ⟨rfl, N3q, e3⟩ := hQ3
    have N3 := Fr.app N0 N3q
    refine own_go (fun t k => st3.trans k) ?_
    show own_Fin p e below _ (T3.setTop (mkF m 20 #[.val (.int p1), .val (.int p2), .val (.ref aA), .unset] [(.ref aD)]))
    refine own_go (fun t k => XS.astoreN X3.here hx rfl (hb hby at_20) rfl rfl (l' := #[.val (.int p1), .val (.int p2), .val (.ref aA), .val (.ref aD)]) rfl (XS.aloadN X3.here hx rfl (hb hby at_21) rfl rfl  k)) ?_
    show own_Fin p e below _ (T3.setTop (mkF m 22 #[.val (.int p1), .val (.int p2), .val (.ref aA), .val (.ref aD)] [(.ref aD)]))
    refine own_go (fun t k => XS.ifnullNo X3.here hx rfl (hb hby at_22) rfl (XS.aloadN X3.here hx rfl (hb hby at_25) rfl rfl  (XS.aloadN X3.here hx rfl (hb hby at_26) rfl rfl  k))) ?_
    show own_Fin p e below _ (T3.setTop (mkF m 27 #[.val (.int p1), .val (.int p2), .val (.ref aA), .val (.ref aD)] [(.ref aA), (.ref aD)]))
    refine own_go (fun t k => Jvm.RoadKit.acmp (g := (mkF m 27 #[.val (.int p1), .val (.int p2), .val (.ref aA), .val (.ref aD)] [(.ref aA), (.ref aD)])) X3 hx rfl rfl rfl (pc0 := 27) (pc' := 32) (same := false) rfl (hb hby at_27) rfl (decide_eq_false fun q => hne (Value.ref.inj q)) (by decide) (by decide) (XS.aloadN X3.here hx rfl (hb hby at_32) rfl rfl  k)) ?_
    show own_Fin p e below _ (T3.setTop (mkF m 33 #[.val (.int p1), .val (.int p2), .val (.ref aA), .val (.ref aD)] [(.ref aD)]))
    obtain ⟨cq4, kq4, q4a, q4b, q4c⟩ := isOf hZ e3 E_D
    obtain ⟨_, _, ⟨T4, L4, k4, n4⟩, -, X4, ⟨Lc4, hQ4, l4, y4, z4⟩, st4⟩ := X3.virtualBack hx (y := (⟨"com/example/keyslice/keyslice/types/Order", "reversed", "()Lcom/example/keyslice/keyslice/types/Order;"⟩ : MethodName)) (z := (⟨"com/example/keyslice/keyslice/types/Order", "reversed", "()Lcom/example/keyslice/keyslice/types/Order;"⟩ : MethodName)) hown (mvT hZ hw_3) (mvT hZ hw_4) (notFace_of_selects (args := #[]) (mvT hZ hw_6)) (mvT hZ hw_6) (mvT hZ hw_5) (by decide) (backOf (W := 0) (rm1 l Z a0 hw [] (aD) aA aD h0 n0 Z0 S_A S_D) hZ hw_7 hw_1 (by decide) (by decide)) q4a q4c (g := (mkF m 33 #[.val (.int p1), .val (.int p2), .val (.ref aA), .val (.ref aD)] [(.ref aD)])) rfl (by rw [hml]; rfl) (Steps.refl _) (argsL := []) (rest := []) (lenOf pd_1 rfl) rfl (by show 2 * 0 + _ ≤ _; exact Nat.le_of_eq rfl) (hb hby at_33) (fun _ _ => ⟨rfl, e3, (by decide : 0 + 0 ≤ _), (by decide : 0 + 0 ≤ _)⟩)
    dsimp only [Pt.U, Pt.locs, Pt.cells, Pt.slots] at X4 l4 y4 z4 st4 hQ4
    subst l4 y4 z4
    rw [own_rvD hne] at hQ4
    obtain ⟨rfl, N4q, e4⟩ := hQ4
    have N4 := Fr.app N3 N4q
    refine own_go (fun t k => st4.trans k) ?_
    show own_Fin p e below _ (T4.setTop (mkF m 36 #[.val (.int p1), .val (.int p2), .val (.ref aA), .val (.ref aD)] [(.ref aA)]))
    refine own_go (fun t k => XS.aloadN X4.here hx rfl (hb hby at_36) rfl rfl  k) ?_
    show own_Fin p e below _ (T4.setTop (mkF m 37 #[.val (.int p1), .val (.int p2), .val (.ref aA), .val (.ref aD)] [(.ref aA), (.ref aA)]))
    refine own_go (fun t k => Jvm.RoadKit.acmp (g := (mkF m 37 #[.val (.int p1), .val (.int p2), .val (.ref aA), .val (.ref aD)] [(.ref aA), (.ref aA)])) X4 hx rfl rfl rfl (pc0 := 37) (pc' := 42) (same := true) rfl (hb hby at_37) rfl (decide_eq_true rfl) (by decide) (by decide) (XS.aloadN X4.here hx rfl (hb hby at_42) rfl rfl  (XS.iloadN X4.here hx rfl (hb hby at_43) rfl  k))) ?_
    show own_Fin p e below _ (T4.setTop (mkF m 44 #[.val (.int p1), .val (.int p2), .val (.ref aA), .val (.ref aD)] [(.int p2), (.ref aD)]))
    obtain ⟨cq5, kq5, q5a, q5b, q5c⟩ := isOf hZ e4 E_D
    obtain ⟨_, _, ⟨T5, L5, k5, n5⟩, -, X5, ⟨Lc5, hQ5, l5, y5, z5⟩, st5⟩ := X4.virtualBack hx (y := (⟨"com/example/keyslice/keyslice/types/Order", "apply", "(I)I"⟩ : MethodName)) (z := (⟨"com/example/keyslice/keyslice/types/Order", "apply", "(I)I"⟩ : MethodName)) hown (mvT hZ hw_11) (mvT hZ hw_12) (notFace_of_selects (args := #[]) (mvT hZ hw_14)) (mvT hZ hw_14) (mvT hZ hw_13) (by decide) (backOf (W := 0) (rm2 l Z a0 hw [] (aD) (p2) aA aD h0 n0 Z0 S_A S_D) hZ hw_15 hw_1 (by decide) (by decide)) q5a q5c (g := (mkF m 44 #[.val (.int p1), .val (.int p2), .val (.ref aA), .val (.ref aD)] [(.int p2), (.ref aD)])) rfl (by rw [hml]; rfl) (Steps.refl _) (argsL := [(.int p2)]) (rest := []) (lenOf pd_0 rfl) rfl (by show 2 * 0 + _ ≤ _; exact Nat.le_of_eq rfl) (hb hby at_44) (fun _ _ => ⟨rfl, e4, (by decide : 0 + 0 ≤ _), (by decide : 0 + 0 ≤ _)⟩)
    dsimp only [Pt.U, Pt.locs, Pt.cells, Pt.slots] at X5 l5 y5 z5 st5 hQ5
    subst l5 y5 z5
    obtain ⟨rfl, N5q, e5⟩ := hQ5
    have N5 := Fr.app N4 N5q
    refine own_go (fun t k => st5.trans k) ?_
    show own_Fin p e below _ (T5.setTop (mkF m 47 #[.val (.int p1), .val (.int p2), .val (.ref aA), .val (.ref aD)] [(.int (own_ap_4 aD p2 aA aD))]))
    obtain ⟨_, _, ⟨T6, L6, k6, n6⟩, -, X6, ⟨Lc6, hQ6, l6, y6, z6⟩, st6⟩ := Jvm.LawKit.callS X5 hx (y := (⟨"com/example/keyslice/keyslice/types/OrderReversedPinLaw", "sign", "(I)I"⟩ : MethodName)) hown (mvT hZ hw_20) (mvT hZ hw_21) (mvT hZ hw_22) (mvT hZ hw_23) (by decide) (backOf (W := 0) (rm4 l Z a0 hw [] ((own_ap_4 aD p2 aA aD))  h0 n0 Z0 ) hZ hw_23 hw_22 (by decide) (by decide)) (g := (mkF m 47 #[.val (.int p1), .val (.int p2), .val (.ref aA), .val (.ref aD)] [(.int (own_ap_4 aD p2 aA aD))])) rfl (by rw [hml]; rfl) (argsL := [(.int (own_ap_4 aD p2 aA aD))]) (rest := []) (lenOf pd_0 rfl) rfl (by show 2 * 0 + _ ≤ _; exact Nat.le_of_eq rfl) (hb hby at_47) (fun _ _ => ⟨rfl, e5, (by decide : 0 + 0 ≤ _), (by decide : 0 + 0 ≤ _)⟩)
    dsimp only [Pt.U, Pt.locs, Pt.cells, Pt.slots] at X6 l6 y6 z6 st6 hQ6
    subst l6 y6 z6
    obtain ⟨rfl, N6q, e6⟩ := hQ6
    have N6 := Fr.app N5 N6q
    refine own_go st6 ?_
    show own_Fin p e below _ (T6.setTop (mkF m 50 #[.val (.int p1), .val (.int p2), .val (.ref aA), .val (.ref aD)] [(.int (own_s_1 (own_ap_4 aD p2 aA aD)))]))
    refine own_go (fun t k => XS.aloadN X6.here hx rfl (hb hby at_50) rfl rfl  (XS.iloadN X6.here hx rfl (hb hby at_51) rfl  k)) ?_
    show own_Fin p e below _ (T6.setTop (mkF m 52 #[.val (.int p1), .val (.int p2), .val (.ref aA), .val (.ref aD)] [(.int p2), (.ref aA), (.int (own_s_1 (own_ap_4 aD p2 aA aD)))]))
    obtain ⟨cq7, kq7, q7a, q7b, q7c⟩ := isOf hZ e6 E_A
    obtain ⟨_, _, ⟨T7, L7, k7, n7⟩, -, X7, ⟨Lc7, hQ7, l7, y7, z7⟩, st7⟩ := X6.virtualBack hx (y := (⟨"com/example/keyslice/keyslice/types/Order", "apply", "(I)I"⟩ : MethodName)) (z := (⟨"com/example/keyslice/keyslice/types/Order", "apply", "(I)I"⟩ : MethodName)) hown (mvT hZ hw_11) (mvT hZ hw_12) (notFace_of_selects (args := #[]) (mvT hZ hw_14)) (mvT hZ hw_14) (mvT hZ hw_13) (by decide) (backOf (W := 1) (rm2 l Z a0 hw [] (aA) (p2) aA aD h0 n0 Z0 S_A S_D) hZ hw_15 hw_1 (by decide) (by decide)) q7a q7c (g := (mkF m 52 #[.val (.int p1), .val (.int p2), .val (.ref aA), .val (.ref aD)] [(.int p2), (.ref aA), (.int (own_s_1 (own_ap_4 aD p2 aA aD)))])) rfl (by rw [hml]; rfl) (Steps.refl _) (argsL := [(.int p2)]) (rest := [(.int (own_s_1 (own_ap_4 aD p2 aA aD)))]) (lenOf pd_0 rfl) rfl (by show 2 * 0 + _ ≤ _; exact Nat.le_of_eq rfl) (hb hby at_52) (fun _ _ => ⟨rfl, e6, (by decide : 0 + 0 ≤ _), (by decide : 0 + 0 ≤ _)⟩)
    dsimp only [Pt.U, Pt.locs, Pt.cells, Pt.slots] at X7 l7 y7 z7 st7 hQ7
    subst l7 y7 z7
    obtain ⟨rfl, N7q, e7⟩ := hQ7
    have N7 := Fr.app N6 N7q
    refine own_go (fun t k => st7.trans k) ?_
    show own_Fin p e below _ (T7.setTop (mkF m 55 #[.val (.int p1), .val (.int p2), .val (.ref aA), .val (.ref aD)] [(.int (own_ap_4 aA p2 aA aD)), (.int (own_s_1 (own_ap_4 aD p2 aA aD)))]))
    obtain ⟨_, _, ⟨T8, L8, k8, n8⟩, -, X8, ⟨Lc8, hQ8, l8, y8, z8⟩, st8⟩ := Jvm.LawKit.callS X7 hx (y := (⟨"com/example/keyslice/keyslice/types/OrderReversedPinLaw", "sign", "(I)I"⟩ : MethodName)) hown (mvT hZ hw_20) (mvT hZ hw_21) (mvT hZ hw_22) (mvT hZ hw_23) (by decide) (backOf (W := 1) (rm4 l Z a0 hw [] ((own_ap_4 aA p2 aA aD))  h0 n0 Z0 ) hZ hw_23 hw_22 (by decide) (by decide)) (g := (mkF m 55 #[.val (.int p1), .val (.int p2), .val (.ref aA), .val (.ref aD)] [(.int (own_ap_4 aA p2 aA aD)), (.int (own_s_1 (own_ap_4 aD p2 aA aD)))])) rfl (by rw [hml]; rfl) (argsL := [(.int (own_ap_4 aA p2 aA aD))]) (rest := [(.int (own_s_1 (own_ap_4 aD p2 aA aD)))]) (lenOf pd_0 rfl) rfl (by show 2 * 0 + _ ≤ _; exact Nat.le_of_eq rfl) (hb hby at_55) (fun _ _ => ⟨rfl, e7, (by decide : 0 + 0 ≤ _), (by decide : 0 + 0 ≤ _)⟩)
    dsimp only [Pt.U, Pt.locs, Pt.cells, Pt.slots] at X8 l8 y8 z8 st8 hQ8
    subst l8 y8 z8
    obtain ⟨rfl, N8q, e8⟩ := hQ8
    have N8 := Fr.app N7 N8q
    refine own_go st8 ?_
    show own_Fin p e below _ (T8.setTop (mkF m 58 #[.val (.int p1), .val (.int p2), .val (.ref aA), .val (.ref aD)] [(.int (own_s_1 (own_ap_4 aA p2 aA aD))), (.int (own_s_1 (own_ap_4 aD p2 aA aD)))]))
    refine own_go (fun t k => XS.ineg X8.here hx rfl (hb hby at_58) rfl k) ?_
    show own_Fin p e below _ (T8.setTop (mkF m 59 #[.val (.int p1), .val (.int p2), .val (.ref aA), .val (.ref aD)] [(.int (-(own_s_1 (own_ap_4 aA p2 aA aD)))), (.int (own_s_1 (own_ap_4 aD p2 aA aD)))]))
    refine own_go (fun t k => XS.icmpNo X8.here hx rfl (hb hby at_59) rfl (teq (own_finA hne _)).2 (XS.iconst X8.here hx rfl (hb hby at_62) (XS.goto X8.here hx rfl (pc0 := 63) (pc' := 67) rfl (hb hby at_63) (by decide) (by decide) k))) ?_
    show own_Fin p e below _ (T8.setTop (mkF m 67 #[.val (.int p1), .val (.int p2), .val (.ref aA), .val (.ref aD)] [(.int (1 : Int32))]))
    exact own_out X8 (fun h => by rw [Bd.returns] at h; cases h) Bd.notSynchronized (fun fs hr => retN X8 hx (t := .boolean) Bd.returns (by simp) (hb hby at_67) hr) ⟨rfl, N8⟩ (by decide) (by decide)
  · skip
    refine own_go (fun t k => XS.ifNo X0.here hx rfl (hb hby at_3) rfl ((if0 _ _).trans (feq hc1).1) k) ?_
    show own_Fin p e below _ (s₁.setTop (mkF m 6 #[.val (.int p1), .val (.int p2), .unset, .unset] []))
    obtain ⟨T9, X9, e9, st9⟩ := getS2 X0 hx hZ hown (host := "") (Or.inl hw_24) Via.refl e0 S_D (g := (mkF m 6 #[.val (.int p1), .val (.int p2), .unset, .unset] [])) rfl (hb hby at_6)
    refine own_go st9 ?_
    show own_Fin p e below _ (T9.setTop (mkF m 9 #[.val (.int p1), .val (.int p2), .unset, .unset] [(.ref aD)]))
    refine own_go (fun t k => XS.goto X9.here hx rfl (pc0 := 9) (pc' := 15) rfl (hb hby at_9) (by decide) (by decide) (XS.astoreN X9.here hx rfl (hb hby at_15) rfl rfl (l' := #[.val (.int p1), .val (.int p2), .val (.ref aD), .unset]) rfl (XS.aloadN X9.here hx rfl (hb hby at_16) rfl rfl  k))) ?_
    show own_Fin p e below _ (T9.setTop (mkF m 17 #[.val (.int p1), .val (.int p2), .val (.ref aD), .unset] [(.ref aD)]))
    obtain ⟨cq10, kq10, q10a, q10b, q10c⟩ := isOf hZ e9 E_D
    obtain ⟨_, _, ⟨T10, L10, k10, n10⟩, -, X10, ⟨Lc10, hQ10, l10, y10, z10⟩, st10⟩ := X9.virtualBack hx (y := (⟨"com/example/keyslice/keyslice/types/Order", "reversed", "()Lcom/example/keyslice/keyslice/types/Order;"⟩ : MethodName)) (z := (⟨"com/example/keyslice/keyslice/types/Order", "reversed", "()Lcom/example/keyslice/keyslice/types/Order;"⟩ : MethodName)) hown (mvT hZ hw_3) (mvT hZ hw_4) (notFace_of_selects (args := #[]) (mvT hZ hw_6)) (mvT hZ hw_6) (mvT hZ hw_5) (by decide) (backOf (W := 0) (rm1 l Z a0 hw [] (aD) aA aD h0 n0 Z0 S_A S_D) hZ hw_7 hw_1 (by decide) (by decide)) q10a q10c (g := (mkF m 17 #[.val (.int p1), .val (.int p2), .val (.ref aD), .unset] [(.ref aD)])) rfl (by rw [hml]; rfl) (Steps.refl _) (argsL := []) (rest := []) (lenOf pd_1 rfl) rfl (by show 2 * 0 + _ ≤ _; exact Nat.le_of_eq rfl) (hb hby at_17) (fun _ _ => ⟨rfl, e9, (by decide : 0 + 0 ≤ _), (by decide : 0 + 0 ≤ _)⟩)
    dsimp only [Pt.U, Pt.locs, Pt.cells, Pt.slots] at X10 l10 y10 z10 st10 hQ10
    subst l10 y10 z10
    rw [own_rvD hne] at hQ10
    obtain ⟨rfl, N10q, e10⟩ := hQ10
    have N10 := Fr.app N0 N10q
    refine own_go (fun t k => st10.trans k) ?_
    show own_Fin p e below _ (T10.setTop (mkF m 20 #[.val (.int p1), .val (.int p2), .val (.ref aD), .unset] [(.ref aA)]))
    refine own_go (fun t k => XS.astoreN X10.here hx rfl (hb hby at_20) rfl rfl (l' := #[.val (.int p1), .val (.int p2), .val (.ref aD), .val (.ref aA)]) rfl (XS.aloadN X10.here hx rfl (hb hby at_21) rfl rfl  k)) ?_
    show own_Fin p e below _ (T10.setTop (mkF m 22 #[.val (.int p1), .val (.int p2), .val (.ref aD), .val (.ref aA)] [(.ref aA)]))
    refine own_go (fun t k => XS.ifnullNo X10.here hx rfl (hb hby at_22) rfl (XS.aloadN X10.here hx rfl (hb hby at_25) rfl rfl  (XS.aloadN X10.here hx rfl (hb hby at_26) rfl rfl  k))) ?_
    show own_Fin p e below _ (T10.setTop (mkF m 27 #[.val (.int p1), .val (.int p2), .val (.ref aD), .val (.ref aA)] [(.ref aD), (.ref aA)]))
    refine own_go (fun t k => Jvm.RoadKit.acmp (g := (mkF m 27 #[.val (.int p1), .val (.int p2), .val (.ref aD), .val (.ref aA)] [(.ref aD), (.ref aA)])) X10 hx rfl rfl rfl (pc0 := 27) (pc' := 32) (same := false) rfl (hb hby at_27) rfl (decide_eq_false fun q => (Ne.symm hne) (Value.ref.inj q)) (by decide) (by decide) (XS.aloadN X10.here hx rfl (hb hby at_32) rfl rfl  k)) ?_
    show own_Fin p e below _ (T10.setTop (mkF m 33 #[.val (.int p1), .val (.int p2), .val (.ref aD), .val (.ref aA)] [(.ref aA)]))
    obtain ⟨cq11, kq11, q11a, q11b, q11c⟩ := isOf hZ e10 E_A
    obtain ⟨_, _, ⟨T11, L11, k11, n11⟩, -, X11, ⟨Lc11, hQ11, l11, y11, z11⟩, st11⟩ := X10.virtualBack hx (y := (⟨"com/example/keyslice/keyslice/types/Order", "reversed", "()Lcom/example/keyslice/keyslice/types/Order;"⟩ : MethodName)) (z := (⟨"com/example/keyslice/keyslice/types/Order", "reversed", "()Lcom/example/keyslice/keyslice/types/Order;"⟩ : MethodName)) hown (mvT hZ hw_3) (mvT hZ hw_4) (notFace_of_selects (args := #[]) (mvT hZ hw_6)) (mvT hZ hw_6) (mvT hZ hw_5) (by decide) (backOf (W := 0) (rm1 l Z a0 hw [] (aA) aA aD h0 n0 Z0 S_A S_D) hZ hw_7 hw_1 (by decide) (by decide)) q11a q11c (g := (mkF m 33 #[.val (.int p1), .val (.int p2), .val (.ref aD), .val (.ref aA)] [(.ref aA)])) rfl (by rw [hml]; rfl) (Steps.refl _) (argsL := []) (rest := []) (lenOf pd_1 rfl) rfl (by show 2 * 0 + _ ≤ _; exact Nat.le_of_eq rfl) (hb hby at_33) (fun _ _ => ⟨rfl, e10, (by decide : 0 + 0 ≤ _), (by decide : 0 + 0 ≤ _)⟩)
    dsimp only [Pt.U, Pt.locs, Pt.cells, Pt.slots] at X11 l11 y11 z11 st11 hQ11
    subst l11 y11 z11
    rw [own_rvA] at hQ11
    obtain ⟨rfl, N11q, e11⟩ := hQ11
    have N11 := Fr.app N10 N11q
    refine own_go (fun t k => st11.trans k) ?_
    show own_Fin p e below _ (T11.setTop (mkF m 36 #[.val (.int p1), .val (.int p2), .val (.ref aD), .val (.ref aA)] [(.ref aD)]))
    refine own_go (fun t k => XS.aloadN X11.here hx rfl (hb hby at_36) rfl rfl  k) ?_
    show own_Fin p e below _ (T11.setTop (mkF m 37 #[.val (.int p1), .val (.int p2), .val (.ref aD), .val (.ref aA)] [(.ref aD), (.ref aD)]))
    refine own_go (fun t k => Jvm.RoadKit.acmp (g := (mkF m 37 #[.val (.int p1), .val (.int p2), .val (.ref aD), .val (.ref aA)] [(.ref aD), (.ref aD)])) X11 hx rfl rfl rfl (pc0 := 37) (pc' := 42) (same := true) rfl (hb hby at_37) rfl (decide_eq_true rfl) (by decide) (by decide) (XS.aloadN X11.here hx rfl (hb hby at_42) rfl rfl  (XS.iloadN X11.here hx rfl (hb hby at_43) rfl  k))) ?_
    show own_Fin p e below _ (T11.setTop (mkF m 44 #[.val (.int p1), .val (.int p2), .val (.ref aD), .val (.ref aA)] [(.int p2), (.ref aA)]))
    obtain ⟨cq12, kq12, q12a, q12b, q12c⟩ := isOf hZ e11 E_A
    obtain ⟨_, _, ⟨T12, L12, k12, n12⟩, -, X12, ⟨Lc12, hQ12, l12, y12, z12⟩, st12⟩ := X11.virtualBack hx (y := (⟨"com/example/keyslice/keyslice/types/Order", "apply", "(I)I"⟩ : MethodName)) (z := (⟨"com/example/keyslice/keyslice/types/Order", "apply", "(I)I"⟩ : MethodName)) hown (mvT hZ hw_11) (mvT hZ hw_12) (notFace_of_selects (args := #[]) (mvT hZ hw_14)) (mvT hZ hw_14) (mvT hZ hw_13) (by decide) (backOf (W := 0) (rm2 l Z a0 hw [] (aA) (p2) aA aD h0 n0 Z0 S_A S_D) hZ hw_15 hw_1 (by decide) (by decide)) q12a q12c (g := (mkF m 44 #[.val (.int p1), .val (.int p2), .val (.ref aD), .val (.ref aA)] [(.int p2), (.ref aA)])) rfl (by rw [hml]; rfl) (Steps.refl _) (argsL := [(.int p2)]) (rest := []) (lenOf pd_0 rfl) rfl (by show 2 * 0 + _ ≤ _; exact Nat.le_of_eq rfl) (hb hby at_44) (fun _ _ => ⟨rfl, e11, (by decide : 0 + 0 ≤ _), (by decide : 0 + 0 ≤ _)⟩)
    dsimp only [Pt.U, Pt.locs, Pt.cells, Pt.slots] at X12 l12 y12 z12 st12 hQ12
    subst l12 y12 z12
    obtain ⟨rfl, N12q, e12⟩ := hQ12
    have N12 := Fr.app N11 N12q
    refine own_go (fun t k => st12.trans k) ?_
    show own_Fin p e below _ (T12.setTop (mkF m 47 #[.val (.int p1), .val (.int p2), .val (.ref aD), .val (.ref aA)] [(.int (own_ap_4 aA p2 aA aD))]))
    obtain ⟨_, _, ⟨T13, L13, k13, n13⟩, -, X13, ⟨Lc13, hQ13, l13, y13, z13⟩, st13⟩ := Jvm.LawKit.callS X12 hx (y := (⟨"com/example/keyslice/keyslice/types/OrderReversedPinLaw", "sign", "(I)I"⟩ : MethodName)) hown (mvT hZ hw_20) (mvT hZ hw_21) (mvT hZ hw_22) (mvT hZ hw_23) (by decide) (backOf (W := 0) (rm4 l Z a0 hw [] ((own_ap_4 aA p2 aA aD))  h0 n0 Z0 ) hZ hw_23 hw_22 (by decide) (by decide)) (g := (mkF m 47 #[.val (.int p1), .val (.int p2), .val (.ref aD), .val (.ref aA)] [(.int (own_ap_4 aA p2 aA aD))])) rfl (by rw [hml]; rfl) (argsL := [(.int (own_ap_4 aA p2 aA aD))]) (rest := []) (lenOf pd_0 rfl) rfl (by show 2 * 0 + _ ≤ _; exact Nat.le_of_eq rfl) (hb hby at_47) (fun _ _ => ⟨rfl, e12, (by decide : 0 + 0 ≤ _), (by decide : 0 + 0 ≤ _)⟩)
    dsimp only [Pt.U, Pt.locs, Pt.cells, Pt.slots] at X13 l13 y13 z13 st13 hQ13
    subst l13 y13 z13
    obtain ⟨rfl, N13q, e13⟩ := hQ13
    have N13 := Fr.app N12 N13q
    refine own_go st13 ?_
    show own_Fin p e below _ (T13.setTop (mkF m 50 #[.val (.int p1), .val (.int p2), .val (.ref aD), .val (.ref aA)] [(.int (own_s_1 (own_ap_4 aA p2 aA aD)))]))
    refine own_go (fun t k => XS.aloadN X13.here hx rfl (hb hby at_50) rfl rfl  (XS.iloadN X13.here hx rfl (hb hby at_51) rfl  k)) ?_
    show own_Fin p e below _ (T13.setTop (mkF m 52 #[.val (.int p1), .val (.int p2), .val (.ref aD), .val (.ref aA)] [(.int p2), (.ref aD), (.int (own_s_1 (own_ap_4 aA p2 aA aD)))]))
    obtain ⟨cq14, kq14, q14a, q14b, q14c⟩ := isOf hZ e13 E_D
    obtain ⟨_, _, ⟨T14, L14, k14, n14⟩, -, X14, ⟨Lc14, hQ14, l14, y14, z14⟩, st14⟩ := X13.virtualBack hx (y := (⟨"com/example/keyslice/keyslice/types/Order", "apply", "(I)I"⟩ : MethodName)) (z := (⟨"com/example/keyslice/keyslice/types/Order", "apply", "(I)I"⟩ : MethodName)) hown (mvT hZ hw_11) (mvT hZ hw_12) (notFace_of_selects (args := #[]) (mvT hZ hw_14)) (mvT hZ hw_14) (mvT hZ hw_13) (by decide) (backOf (W := 1) (rm2 l Z a0 hw [] (aD) (p2) aA aD h0 n0 Z0 S_A S_D) hZ hw_15 hw_1 (by decide) (by decide)) q14a q14c (g := (mkF m 52 #[.val (.int p1), .val (.int p2), .val (.ref aD), .val (.ref aA)] [(.int p2), (.ref aD), (.int (own_s_1 (own_ap_4 aA p2 aA aD)))])) rfl (by rw [hml]; rfl) (Steps.refl _) (argsL := [(.int p2)]) (rest := [(.int (own_s_1 (own_ap_4 aA p2 aA aD)))]) (lenOf pd_0 rfl) rfl (by show 2 * 0 + _ ≤ _; exact Nat.le_of_eq rfl) (hb hby at_52) (fun _ _ => ⟨rfl, e13, (by decide : 0 + 0 ≤ _), (by decide : 0 + 0 ≤ _)⟩)
    dsimp only [Pt.U, Pt.locs, Pt.cells, Pt.slots] at X14 l14 y14 z14 st14 hQ14
    subst l14 y14 z14
    obtain ⟨rfl, N14q, e14⟩ := hQ14
    have N14 := Fr.app N13 N14q
    refine own_go (fun t k => st14.trans k) ?_
    show own_Fin p e below _ (T14.setTop (mkF m 55 #[.val (.int p1), .val (.int p2), .val (.ref aD), .val (.ref aA)] [(.int (own_ap_4 aD p2 aA aD)), (.int (own_s_1 (own_ap_4 aA p2 aA aD)))]))
    obtain ⟨_, _, ⟨T15, L15, k15, n15⟩, -, X15, ⟨Lc15, hQ15, l15, y15, z15⟩, st15⟩ := Jvm.LawKit.callS X14 hx (y := (⟨"com/example/keyslice/keyslice/types/OrderReversedPinLaw", "sign", "(I)I"⟩ : MethodName)) hown (mvT hZ hw_20) (mvT hZ hw_21) (mvT hZ hw_22) (mvT hZ hw_23) (by decide) (backOf (W := 1) (rm4 l Z a0 hw [] ((own_ap_4 aD p2 aA aD))  h0 n0 Z0 ) hZ hw_23 hw_22 (by decide) (by decide)) (g := (mkF m 55 #[.val (.int p1), .val (.int p2), .val (.ref aD), .val (.ref aA)] [(.int (own_ap_4 aD p2 aA aD)), (.int (own_s_1 (own_ap_4 aA p2 aA aD)))])) rfl (by rw [hml]; rfl) (argsL := [(.int (own_ap_4 aD p2 aA aD))]) (rest := [(.int (own_s_1 (own_ap_4 aA p2 aA aD)))]) (lenOf pd_0 rfl) rfl (by show 2 * 0 + _ ≤ _; exact Nat.le_of_eq rfl) (hb hby at_55) (fun _ _ => ⟨rfl, e14, (by decide : 0 + 0 ≤ _), (by decide : 0 + 0 ≤ _)⟩)
    dsimp only [Pt.U, Pt.locs, Pt.cells, Pt.slots] at X15 l15 y15 z15 st15 hQ15
    subst l15 y15 z15
    obtain ⟨rfl, N15q, e15⟩ := hQ15
    have N15 := Fr.app N14 N15q
    refine own_go st15 ?_
    show own_Fin p e below _ (T15.setTop (mkF m 58 #[.val (.int p1), .val (.int p2), .val (.ref aD), .val (.ref aA)] [(.int (own_s_1 (own_ap_4 aD p2 aA aD))), (.int (own_s_1 (own_ap_4 aA p2 aA aD)))]))
    refine own_go (fun t k => XS.ineg X15.here hx rfl (hb hby at_58) rfl k) ?_
    show own_Fin p e below _ (T15.setTop (mkF m 59 #[.val (.int p1), .val (.int p2), .val (.ref aD), .val (.ref aA)] [(.int (-(own_s_1 (own_ap_4 aD p2 aA aD)))), (.int (own_s_1 (own_ap_4 aA p2 aA aD)))]))
    refine own_go (fun t k => XS.icmpNo X15.here hx rfl (hb hby at_59) rfl (teq (own_finD hne _)).2 (XS.iconst X15.here hx rfl (hb hby at_62) (XS.goto X15.here hx rfl (pc0 := 63) (pc' := 67) rfl (hb hby at_63) (by decide) (by decide) k))) ?_
    show own_Fin p e below _ (T15.setTop (mkF m 67 #[.val (.int p1), .val (.int p2), .val (.ref aD), .val (.ref aA)] [(.int (1 : Int32))]))
    exact own_out X15 (fun h => by rw [Bd.returns] at h; cases h) Bd.notSynchronized (fun fs hr => retN X15 hx (t := .boolean) Bd.returns (by simp) (hb hby at_67) hr) ⟨rfl, N15⟩ (by decide) (by decide)
set_option maxRecDepth 65536 in
set_option maxHeartbeats 40000000 in
theorem comes_1 {Post : Tables → Env → Array Value → State → Outcome → State → Prop} (hpost : ∀ tb e args s v u, (limb_1_1.after args s (.returned v) u = true ∧ limb_1_2.after args s (.returned v) u = true ∧ True) → FrameEnd s (.returned v) u (Jvm.fieldLocs frame_1_writes args s ++ Jvm.arrayLocs frame_1_arrays args s ++ Jvm.staticLocs frame_1_statics s) 0 0 → Post tb e args s (.returned v) u) :
    ArmFor flags0 classFile x code maxLocals ret World_1 tables_1 room_1 Calls_1 rest_1 Pre_1 Post := by
  intro l hfl _ _ p e ha hc hk s m args below hf hA hF happ hP
  obtain ⟨hcalls, hrest, hpre⟩ := hP
  obtain ⟨-, -, -, hnamed, -, -, -, hat⟩ := (Spec.applies_iff hf).mp happ
  obtain ⟨hg, hn⟩ := and_e (Cond.before_iff.mp (show (Jvm.Cond.and given_1 narrow_1).before args s = true from hpre))
  obtain ⟨g0, r0⟩ := and_e hg
  obtain ⟨g1, r1⟩ := and_e r0
  obtain ⟨w0, w1, rfl⟩ : ∃ w0 w1 : Value, args = #[w0, w1] := by
    have hs : args.size = 2 := by simpa [Cond.value, given_1] using g0
    obtain ⟨L⟩ := args
    match L, hs with
    | [w0, w1], _ => exact ⟨w0, w1, rfl⟩
  have hw := fun d (hd : d ∈ tables_1) => atoms_spec (ws := Jvm.Cond.code x code maxLocals ret :: tables_1) hat d (List.mem_cons_of_mem _ hd)
  have hfit : Fit s := fun {y c} hc i hi => by
    obtain ⟨ha, rfl⟩ := Array.getElem?_eq_some_iff.mp hc
    have q := List.all_eq_true.mp ((Array.all_eq_true_iff_forall_mem.mp hF) _ (Array.getElem_mem ha)) i (List.mem_range.mpr hi)
    simpa [Array.getElem?_eq_getElem hi] using q
  obtain ⟨i0, ei0⟩ := is_v g1
  obtain rfl : w0 = (.int i0) := Option.some.inj ei0
  obtain ⟨i1, ei1⟩ := is_v r1
  obtain rfl : w1 = (.int i1) := Option.some.inj ei1
  obtain ⟨n1, m1⟩ := and_e hn
  obtain ⟨n2, m2⟩ := and_e m1
  obtain ⟨n3, n4⟩ := and_e m2
  obtain ⟨aA, vaA⟩ := exa_v n1
  have S_aA := Sta.start (C := "com/example/keyslice/keyslice/types/Order") (n := "ASC") (d := "Lcom/example/keyslice/keyslice/types/Order;") vaA (Or.inr ⟨(hw _ (List.mem_of_getElem? (i := 1) rfl)), (hw _ (List.mem_of_getElem? (i := 2) rfl))⟩)
  have E_aA := Exa.start vaA n1
  obtain ⟨aD, vaD⟩ := exa_v n2
  have S_aD := Sta.start (C := "com/example/keyslice/keyslice/types/Order") (n := "DESC") (d := "Lcom/example/keyslice/keyslice/types/Order;") vaD (Or.inr ⟨(hw _ (List.mem_of_getElem? (i := 1) rfl)), (hw _ (List.mem_of_getElem? (i := 10) rfl))⟩)
  have E_aD := Exa.start vaD n2
  have hne := Fld.ne (own_fldI vaD n3) (own_fldI vaA n4) (by decide)
  obtain ⟨n, o, h1, h2, h3, _, L, rfl, ⟨rfl, N⟩, hq⟩ := rm0 l s _ hw tables_1 i0 i1 aA aD s.heap s.heap.size (Nat.le_refl _) S_aA S_aD E_aA E_aD hne p e ha hc hk s m _ below hf ((Spec.applies_iff_loose hf).mp happ).1 ⟨rfl, State.Warmed39.refl s, rfl⟩ trivial
  refine ⟨n, _, h1, h2, h3, hpost _ _ _ _ _ _ ⟨Cond.after_iff.mpr rfl, Cond.after_iff.mpr (eq_i res_at (Term.int_eval (1)) rfl), trivial⟩ ⟨hq.1, hq.2.1, (hq.2.2.sift fun y hy => Or.inr (N y hy)).mono (by decide) (by decide)⟩⟩
theorem main_1_1 : Claimed_1_1 := comes_1 fun _ _ _ _ _ _ h hF => ⟨h.1, hF⟩
theorem main_1_2 : Claimed_1_2 := comes_1 fun _ _ _ _ _ _ h hF => ⟨h.2.1, hF⟩
end Jvm.Pilot.@@N@@
namespace Jvm.Pilot.@@N@@
open Jvm Jvm.ClassFile Sem Op Lib Jvm.Free Jvm.Stand Jvm.Pilot.@@N@@.Jvm.D
/-! MADE BY PROGRAM (witnessworld.py) out of the Statement's table words and the real class files: 15 classes; the members and pool entries that the words name. The judged class is class 1, her method 2. -/
namespace start1
open Jvm.ClassFile
def u (s : String) : CpInfo := .utf8 (stringToUtf16 s)
/-- a pool by its gaps: so many unusable entries, then the entry; so many at the end -/
def gap : Nat → List CpInfo → List CpInfo
  | 0, r => r
  | n + 1, r => .unusable :: gap n r
def poolList (es : List (Nat × CpInfo)) (last : Nat) : List CpInfo := es.foldr (fun e r => gap e.1 (e.2 :: r)) (gap last [])
def pool (es : List (Nat × CpInfo)) (last : Nat) : Array CpInfo := ⟨poolList es last⟩
def fileOf (pool : Array CpInfo) (this : Nat) (attrs : Array Attribute := #[]) (ms : Array MethodInfo := #[]) (fl : Nat := 33) (sup : Nat := 0) (ifs : Array Nat := #[]) (fds : Array FieldInfo := #[]) : ClassFile where
  minorVersion := 0
  majorVersion := 65
  constantPool := pool
  accessFlags := fl
  thisClass := this
  superClass := sup
  interfaces := ifs
  fields := fds
  methods := ms
  attributes := attrs
def plain (name : String) (sup : Option ClassId) : Class where
  name := name
  kind := .ordinary
  loader := none
  accessFlags := 33
  super := sup
  interfaces := #[]
  cf := none
  fields := #[]
  methods := #[]
  instanceTypes := #[]
  staticTypes := #[]
  resolved := #[]
  callSites := []
  init := .initialized
  statics := none
  mirror := none

def pool0 : Array CpInfo := pool [(5, u "<init>"), (0, u "()V"), (1, .class_ 10), (1, u "java/lang/Object")] 113

def k0m0 : Method := { name := "<init>", desc := "()V", sig := { parameters := [], returnType := none }, accessFlags := 1, code := none }
/-- java/lang/Object -/
def k0 : Class := { plain "java/lang/Object" none with
  accessFlags := 33
  interfaces := #[]
  cf := some (fileOf pool0 8 #[] #[{ accessFlags := 1, nameIndex := 5, descriptorIndex := 6, attributes := #[] }] 33 0 #[] #[])
  fields := #[]
  methods := #[k0m0]
  instanceTypes := #[]
  staticTypes := #[]
  resolved := Array.replicate 124 none
  statics := none }

def pool1 : Array CpInfo := pool [(2, .class_ 4), (1, u "java/lang/Object"), (0, u "<init>"), (0, u "()V"), (0, .fieldref 8 9), (0, .class_ 10), (0, .nameAndType 11 12), (0, u "com/example/keyslice/keyslice/types/Order"), (0, u "DESC"), (0, u "Lcom/example/keyslice/keyslice/types/Order;"), (0, .fieldref 8 14), (0, .nameAndType 15 12), (0, u "ASC"), (0, .methodref 8 17), (0, .nameAndType 18 19), (0, u "reversed"), (0, u "()Lcom/example/keyslice/keyslice/types/Order;"), (0, .methodref 8 21), (0, .nameAndType 22 23), (0, u "apply"), (0, u "(I)I"), (0, .methodref 25 26), (0, .class_ 27), (0, .nameAndType 28 23), (0, u "com/example/keyslice/keyslice/types/OrderReversedPinLaw"), (0, u "sign"), (3, u "law"), (0, u "(II)Z")] 2

def k1m0 : Method := { name := "<init>", desc := "()V", sig := { parameters := [], returnType := none }, accessFlags := 1, code := none }
def k1c1 : Code := { maxStack := 1, maxLocals := 1, code := method_2_code, exceptionTable := #[], attributes := #[] }
def k1m1 : Method := { name := "sign", desc := "(I)I", sig := { parameters := [.int], returnType := some .int }, accessFlags := 10, code := some k1c1 }
def k1c2 : Code := { maxStack := 3, maxLocals := 4, code := code, exceptionTable := #[], attributes := #[] }
def k1m2 : Method := { name := "law", desc := "(II)Z", sig := { parameters := [.int, .int], returnType := some .boolean }, accessFlags := 9, code := some k1c2 }
/-- com/example/keyslice/keyslice/types/OrderReversedPinLaw -/
def k1 : Class := { plain "com/example/keyslice/keyslice/types/OrderReversedPinLaw" (some 0) with
  accessFlags := 49
  interfaces := #[]
  cf := some (fileOf pool1 25 #[] #[{ accessFlags := 1, nameIndex := 5, descriptorIndex := 6, attributes := #[] }, { accessFlags := 10, nameIndex := 28, descriptorIndex := 23, attributes := #[] }, { accessFlags := 9, nameIndex := 32, descriptorIndex := 33, attributes := #[] }] 49 2 #[] #[])
  fields := #[]
  methods := #[k1m0, k1m1, k1m2]
  instanceTypes := #[]
  staticTypes := #[]
  resolved := Array.replicate 36 none
  statics := none }

def pool2 : Array CpInfo := pool [(1, .class_ 2), (0, u "java/lang/constant/Constable"), (0, .class_ 4), (0, u "java/lang/Object")] 6

/-- java/lang/constant/Constable -/
def k2 : Class := { plain "java/lang/constant/Constable" (some 0) with
  accessFlags := 1537
  interfaces := #[]
  cf := some (fileOf pool2 1 #[] #[] 1537 3 #[] #[])
  fields := #[]
  methods := #[]
  instanceTypes := #[]
  staticTypes := #[]
  resolved := Array.replicate 11 none
  statics := none }

def pool3 : Array CpInfo := pool [(1, .class_ 2), (0, u "java/lang/Comparable"), (0, .class_ 4), (0, u "java/lang/Object")] 7

/-- java/lang/Comparable -/
def k3 : Class := { plain "java/lang/Comparable" (some 0) with
  accessFlags := 1537
  interfaces := #[]
  cf := some (fileOf pool3 1 #[] #[] 1537 3 #[] #[])
  fields := #[]
  methods := #[]
  instanceTypes := #[]
  staticTypes := #[]
  resolved := Array.replicate 12 none
  statics := none }

def pool4 : Array CpInfo := pool [(1, .class_ 2), (0, u "java/io/Serializable"), (0, .class_ 4), (0, u "java/lang/Object")] 2

/-- java/io/Serializable -/
def k4 : Class := { plain "java/io/Serializable" (some 0) with
  accessFlags := 1537
  interfaces := #[]
  cf := some (fileOf pool4 1 #[] #[] 1537 3 #[] #[])
  fields := #[]
  methods := #[]
  instanceTypes := #[]
  staticTypes := #[]
  resolved := Array.replicate 7 none
  statics := none }

def pool5 : Array CpInfo := pool [(2, .class_ 4), (1, u "java/lang/Enum"), (0, u "name"), (0, u "Ljava/lang/String;"), (2, u "ordinal"), (0, u "I"), (1, .class_ 14), (1, u "java/lang/Object"), (4, u "hash"), (86, .class_ 108), (1, u "java/lang/Enum$EnumDesc"), (2, .class_ 112), (0, u "java/lang/constant/Constable"), (0, .class_ 114), (0, u "java/lang/Comparable"), (0, .class_ 116), (0, u "java/io/Serializable")] 87

/-- java/lang/Enum -/
def k5 : Class := { plain "java/lang/Enum" (some 0) with
  accessFlags := 1057
  interfaces := #[2, 3, 4]
  cf := some (fileOf pool5 2 #[.nestMembers #[106]] #[] 1057 12 #[111, 113, 115] #[{ accessFlags := 18, nameIndex := 5, descriptorIndex := 6, attributes := #[] }, { accessFlags := 18, nameIndex := 9, descriptorIndex := 10, attributes := #[] }, { accessFlags := 2, nameIndex := 19, descriptorIndex := 10, attributes := #[] }])
  fields := #[{ name := "name", type := (.object "java/lang/String"), accessFlags := 18, slot := 0, constantValue := 0 }, { name := "ordinal", type := .int, accessFlags := 18, slot := 1, constantValue := 0 }, { name := "hash", type := .int, accessFlags := 2, slot := 2, constantValue := 0 }]
  methods := #[]
  instanceTypes := #[(.object "java/lang/String"), .int, .int]
  staticTypes := #[]
  resolved := Array.replicate 204 none
  statics := none }

def pool6 : Array CpInfo := pool [(1, .class_ 2), (0, u "com/example/keyslice/keyslice/types/Order"), (0, .fieldref 1 4), (0, .nameAndType 5 6), (0, u "ASC"), (0, u "Lcom/example/keyslice/keyslice/types/Order;"), (0, .fieldref 1 8), (0, .nameAndType 9 6), (0, u "DESC"), (2, u "$VALUES"), (0, u "[Lcom/example/keyslice/keyslice/types/Order;"), (6, .class_ 22), (1, u "java/lang/Enum"), (6, .methodref 30 31), (0, .class_ 32), (0, .nameAndType 33 34), (0, u "java/lang/Integer"), (0, u "signum"), (0, u "(I)I"), (14, u "reversed"), (0, u "()Lcom/example/keyslice/keyslice/types/Order;"), (1, u "apply")] 4

def k6c0 : Code := { maxStack := 2, maxLocals := 1, code := prog_77_method_4_code, exceptionTable := #[], attributes := #[] }
def k6m0 : Method := { name := "reversed", desc := "()Lcom/example/keyslice/keyslice/types/Order;", sig := { parameters := [], returnType := some (.object "com/example/keyslice/keyslice/types/Order") }, accessFlags := 1, code := some k6c0 }
def k6c1 : Code := { maxStack := 2, maxLocals := 2, code := prog_77_method_5_code, exceptionTable := #[], attributes := #[] }
def k6m1 : Method := { name := "apply", desc := "(I)I", sig := { parameters := [.int], returnType := some .int }, accessFlags := 1, code := some k6c1 }
/-- com/example/keyslice/keyslice/types/Order -/
def k6 : Class := { plain "com/example/keyslice/keyslice/types/Order" (some 5) with
  accessFlags := 16433
  interfaces := #[]
  cf := some (fileOf pool6 1 #[] #[{ accessFlags := 1, nameIndex := 49, descriptorIndex := 50, attributes := #[] }, { accessFlags := 1, nameIndex := 52, descriptorIndex := 34, attributes := #[] }] 16433 20 #[] #[{ accessFlags := 16409, nameIndex := 5, descriptorIndex := 6, attributes := #[] }, { accessFlags := 16409, nameIndex := 9, descriptorIndex := 6, attributes := #[] }, { accessFlags := 4122, nameIndex := 12, descriptorIndex := 13, attributes := #[] }])
  fields := #[{ name := "ASC", type := (.object "com/example/keyslice/keyslice/types/Order"), accessFlags := 16409, slot := 0, constantValue := 0 }, { name := "DESC", type := (.object "com/example/keyslice/keyslice/types/Order"), accessFlags := 16409, slot := 1, constantValue := 0 }, { name := "$VALUES", type := (.array (.object "com/example/keyslice/keyslice/types/Order")), accessFlags := 4122, slot := 2, constantValue := 0 }]
  methods := #[k6m0, k6m1]
  instanceTypes := #[(.object "java/lang/String"), .int, .int]
  staticTypes := #[(.object "com/example/keyslice/keyslice/types/Order"), (.object "com/example/keyslice/keyslice/types/Order"), (.array (.object "com/example/keyslice/keyslice/types/Order"))]
  resolved := Array.replicate 57 none
  statics := some 0 }

def pool7 : Array CpInfo := pool [(2, .class_ 4), (1, u "java/lang/Object"), (0, u "<init>"), (0, u "()V"), (1, .class_ 10), (1, u "java/lang/Number"), (2, .class_ 14), (0, u "java/io/Serializable"), (0, u "serialVersionUID"), (0, u "J")] 20

def k7m0 : Method := { name := "<init>", desc := "()V", sig := { parameters := [], returnType := none }, accessFlags := 1, code := none }
/-- java/lang/Number -/
def k7 : Class := { plain "java/lang/Number" (some 0) with
  accessFlags := 1057
  interfaces := #[4]
  cf := some (fileOf pool7 8 #[] #[{ accessFlags := 1, nameIndex := 5, descriptorIndex := 6, attributes := #[] }] 1057 2 #[13] #[{ accessFlags := 26, nameIndex := 15, descriptorIndex := 16, attributes := #[] }])
  fields := #[{ name := "serialVersionUID", type := .long, accessFlags := 26, slot := 0, constantValue := 0 }]
  methods := #[k7m0]
  instanceTypes := #[]
  staticTypes := #[.long]
  resolved := Array.replicate 37 none
  statics := none }

def pool8 : Array CpInfo := pool [(1, .class_ 2), (0, u "java/lang/constant/ConstantDesc"), (0, .class_ 4), (0, u "java/lang/Object")] 32

/-- java/lang/constant/ConstantDesc -/
def k8 : Class := { plain "java/lang/constant/ConstantDesc" (some 0) with
  accessFlags := 1537
  interfaces := #[]
  cf := some (fileOf pool8 1 #[] #[] 1537 3 #[] #[])
  fields := #[]
  methods := #[]
  instanceTypes := #[]
  staticTypes := #[]
  resolved := Array.replicate 37 none
  statics := none }

def pool9 : Array CpInfo := pool [(1, .class_ 2), (0, u "java/lang/Integer"), (16, u "digits"), (0, u "[C"), (33, u "(I)I"), (30, u "DigitOnes"), (0, u "[B"), (2, u "DigitTens"), (99, .class_ 190), (0, u "java/lang/Integer$IntegerCache"), (3, u "I"), (8, .class_ 204), (0, u "java/lang/Number"), (2, u "value"), (94, u "TYPE"), (0, u "Ljava/lang/Class;"), (0, .class_ 305), (0, u "java/lang/Comparable"), (0, .class_ 307), (0, u "java/lang/constant/Constable"), (0, .class_ 309), (0, u "java/lang/constant/ConstantDesc"), (0, u "MIN_VALUE"), (1, u "MAX_VALUE"), (3, u "SIZE"), (1, u "BYTES"), (1, u "serialVersionUID"), (0, u "J"), (104, u "signum")] 26

def k9c0 : Code := { maxStack := 3, maxLocals := 1, code := jdk_33_method_56_code, exceptionTable := #[], attributes := #[] }
def k9m0 : Method := { name := "signum", desc := "(I)I", sig := { parameters := [.int], returnType := some .int }, accessFlags := 9, code := some k9c0 }
/-- java/lang/Integer -/
def k9 : Class := { plain "java/lang/Integer" (some 7) with
  accessFlags := 49
  interfaces := #[3, 2, 8]
  cf := some (fileOf pool9 1 #[.nestMembers #[189]] #[{ accessFlags := 9, nameIndex := 426, descriptorIndex := 54, attributes := #[] }] 49 203 #[304, 306, 308] #[{ accessFlags := 25, nameIndex := 310, descriptorIndex := 194, attributes := #[] }, { accessFlags := 25, nameIndex := 312, descriptorIndex := 194, attributes := #[] }, { accessFlags := 25, nameIndex := 302, descriptorIndex := 303, attributes := #[] }, { accessFlags := 24, nameIndex := 19, descriptorIndex := 20, attributes := #[] }, { accessFlags := 24, nameIndex := 89, descriptorIndex := 86, attributes := #[] }, { accessFlags := 24, nameIndex := 85, descriptorIndex := 86, attributes := #[] }, { accessFlags := 18, nameIndex := 207, descriptorIndex := 194, attributes := #[] }, { accessFlags := 25, nameIndex := 316, descriptorIndex := 194, attributes := #[] }, { accessFlags := 25, nameIndex := 318, descriptorIndex := 194, attributes := #[] }, { accessFlags := 26, nameIndex := 320, descriptorIndex := 321, attributes := #[] }])
  fields := #[{ name := "MIN_VALUE", type := .int, accessFlags := 25, slot := 0, constantValue := 0 }, { name := "MAX_VALUE", type := .int, accessFlags := 25, slot := 1, constantValue := 0 }, { name := "TYPE", type := (.object "java/lang/Class"), accessFlags := 25, slot := 2, constantValue := 0 }, { name := "digits", type := (.array .char), accessFlags := 24, slot := 3, constantValue := 0 }, { name := "DigitTens", type := (.array .byte), accessFlags := 24, slot := 4, constantValue := 0 }, { name := "DigitOnes", type := (.array .byte), accessFlags := 24, slot := 5, constantValue := 0 }, { name := "value", type := .int, accessFlags := 18, slot := 0, constantValue := 0 }, { name := "SIZE", type := .int, accessFlags := 25, slot := 6, constantValue := 0 }, { name := "BYTES", type := .int, accessFlags := 25, slot := 7, constantValue := 0 }, { name := "serialVersionUID", type := .long, accessFlags := 26, slot := 8, constantValue := 0 }]
  methods := #[k9m0]
  instanceTypes := #[.int]
  staticTypes := #[.int, .int, (.object "java/lang/Class"), (.array .char), (.array .byte), (.array .byte), .int, .int, .long]
  resolved := Array.replicate 453 none
  statics := none }

def pool10 : Array CpInfo := pool [(1, u "java/lang/Cloneable"), (0, .class_ 1), (0, u "java/lang/Object"), (0, .class_ 3)] 3

/-- java/lang/Cloneable -/
def k10 : Class := { plain "java/lang/Cloneable" (some 0) with
  accessFlags := 1537
  interfaces := #[]
  cf := some (fileOf pool10 2 #[] #[] 1537 4 #[] #[])
  fields := #[]
  methods := #[]
  instanceTypes := #[]
  staticTypes := #[]
  resolved := Array.replicate 8 none
  statics := none }

/-- the primitive byte -/
def k11 : Class := { plain "byte" none with kind := .primitive 'B', accessFlags := 0x411 }
/-- [B -/
def k12 : Class := { plain "[B" (some 0) with kind := .array 11 .byte, interfaces := #[10, 4], accessFlags := 1041 }

/-- the primitive int -/
def k13 : Class := { plain "int" none with kind := .primitive 'I', accessFlags := 0x411 }
/-- [I -/
def k14 : Class := { plain "[I" (some 0) with kind := .array 13 .int, interfaces := #[10, 4], accessFlags := 1041 }

def heap : Heap := #[{ cls := 6, slots := #[.ref 1, .ref 2, .null], vm := .statics 6 },
  { cls := 6, slots := #[.null, .int 0, .int 0], vm := .none },
  { cls := 6, slots := #[.null, .int 1, .int 0], vm := .none }]
def classes : Array Class := #[k0, k1, k2, k3, k4, k5, k6, k7, k8, k9, k10, k11, k12, k13, k14]
def interned : List (Array UInt16 × Addr) := []
def slotsUsed : Nat := 9
def theMethod : MethodId := ⟨1, 2⟩
def args0 : Array Value := #[.int 5, .int 6]
def aboutOver (below : List Frame) : State where
  vm := { classes := classes, interned := interned.toArray }
  heap := heap
  slotsUsed := slotsUsed
  threads := #[{ frames := .invoking theMethod args0 :: below }]
def below0 : List Frame := [.native { method := ⟨0, 0⟩, args := #[] }]
def about1 : State := aboutOver below0
def p0 : Program := .bare "" "" ""
def e0 : Env := launch0.env 0 0 0
theorem w_frames : about1.frames = Frame.invoking theMethod args0 :: below0 := rfl
set_option maxRecDepth 65536 in
theorem w_args : argsFit about1.vm theMethod args0 = true := by decide +kernel
set_option maxRecDepth 65536 in
theorem w_heap : heapFits about1 = true := by decide +kernel
set_option maxRecDepth 65536 in
theorem w_runnable : about1.curStatus? = some .runnable := by decide +kernel
set_option maxRecDepth 65536 in
theorem w_alone : about1.alone = true := by decide +kernel
set_option maxRecDepth 65536 in
theorem w_named : about1.methodNamed? x = some theMethod := by decide +kernel
set_option maxRecDepth 65536 in
theorem w_hears : about1.hears theMethod below0 = true := by decide +kernel
set_option maxRecDepth 65536 in
theorem w_ripe : about1.ripe theMethod args0 below0 = true := by decide +kernel
theorem w_running : about1.status = .running := rfl
set_option maxRecDepth 65536 in
theorem w_room : about1.hasRoom e0.platform room_1 = true :=
  launch0.hasRoom_least _ room_1 (by decide +kernel) (by decide +kernel) (by decide +kernel) (by decide +kernel) (by decide +kernel) (by decide +kernel)
theorem allAtoms_all (ts : List Jvm.Cond) (a : Array Jvm.Value) (st : Jvm.State) : (allAtoms ts).before a st = ts.all (fun c => c.before a st) := by
  induction ts with
  | nil => rfl
  | cons c t ih =>
    show (Jvm.Cond.and c (allAtoms t)).before a st = _
    rw [Jvm.Cond.before_and, ih, List.all_cons]
def words1 : List Jvm.Cond := Jvm.Cond.code x code maxLocals ret :: tables_1
/-- a 'code' word, met by the world's own term for the bytes: nothing is compared byte by byte -/
theorem code_word {y : MethodName} {bytes : ByteArray} {mx : Nat} {rt : Option FieldType} {a : Array Value} {s : State} {m : MethodId} {meth : Method} {c : Code} (h1 : s.methodNamed? y = some m) (h2 : s.vm.method? m = some meth) (h3 : meth.code = some c) (h4 : c.code = bytes)
    (h5 : (c.maxLocals == mx && c.exceptionTable.isEmpty && decide (c.maxStack ≤ mostOperands) && decide (meth.sig.returnType = rt) && !meth.locks && decide (parseMethodDescriptor y.desc = some meth.sig)) = true) : (Jvm.Cond.code y bytes mx rt).before a s = true := by
  simp only [Bool.and_eq_true, beq_iff_eq, Bool.not_eq_true', decide_eq_true_eq] at h5
  obtain ⟨⟨⟨⟨⟨g1, g2⟩, g3⟩, g4⟩, g5⟩, g6⟩ := h5
  simp [Cond.before, Cond.holds, Cond.value, h1, h2, h3, h4, g1, g2, g3, g4, g5, g6]
def isCode : Jvm.Cond → Bool
  | .code _ _ _ _ => true
  | _ => false
theorem all_split {L : List Jvm.Cond} {P : Jvm.Cond → Bool} (h1 : L.all (fun c => isCode c || P c) = true) (h2 : ∀ c ∈ L.filter isCode, P c = true) : L.all P = true := by
  refine List.all_eq_true.mpr fun c hc => ?_
  have h := List.all_eq_true.mp h1 c hc
  rcases Bool.eq_false_or_eq_true (isCode c) with hi | hi
  · exact h2 c (List.mem_filter.mpr ⟨hc, hi⟩)
  · simpa [hi] using h
set_option maxRecDepth 65536 in
theorem w_c0 : (Jvm.Cond.code x code maxLocals ret).before args0 about1 = true := code_word (m := ⟨1, 2⟩) (meth := k1m2) (c := k1c2) (by decide +kernel) rfl rfl rfl (by decide +kernel)
set_option maxRecDepth 65536 in
theorem w_c1 : (Jvm.Cond.code ({ cls := "com/example/keyslice/keyslice/types/Order", name := "reversed", desc := "()Lcom/example/keyslice/keyslice/types/Order;" } : Jvm.MethodName) prog_77_method_4_code (1 : Nat) (Option.some (Jvm.ClassFile.FieldType.object "com/example/keyslice/keyslice/types/Order"))).before args0 about1 = true := code_word (m := ⟨6, 0⟩) (meth := k6m0) (c := k6c0) (by decide +kernel) rfl rfl rfl (by decide +kernel)
set_option maxRecDepth 65536 in
theorem w_c2 : (Jvm.Cond.code ({ cls := "com/example/keyslice/keyslice/types/Order", name := "apply", desc := "(I)I" } : Jvm.MethodName) prog_77_method_5_code (2 : Nat) (Option.some Jvm.ClassFile.FieldType.int)).before args0 about1 = true := code_word (m := ⟨6, 1⟩) (meth := k6m1) (c := k6c1) (by decide +kernel) rfl rfl rfl (by decide +kernel)
set_option maxRecDepth 65536 in
theorem w_c3 : (Jvm.Cond.code ({ cls := "java/lang/Integer", name := "signum", desc := "(I)I" } : Jvm.MethodName) jdk_33_method_56_code (1 : Nat) (Option.some Jvm.ClassFile.FieldType.int)).before args0 about1 = true := code_word (m := ⟨9, 0⟩) (meth := k9m0) (c := k9c0) (by decide +kernel) rfl rfl rfl (by decide +kernel)
set_option maxRecDepth 65536 in
theorem w_c4 : (Jvm.Cond.code ({ cls := "com/example/keyslice/keyslice/types/OrderReversedPinLaw", name := "sign", desc := "(I)I" } : Jvm.MethodName) method_2_code (1 : Nat) (Option.some Jvm.ClassFile.FieldType.int)).before args0 about1 = true := code_word (m := ⟨1, 1⟩) (meth := k1m1) (c := k1c1) (by decide +kernel) rfl rfl rfl (by decide +kernel)
def codes1 : List Jvm.Cond := [Jvm.Cond.code x code maxLocals ret, Jvm.Cond.code ({ cls := "com/example/keyslice/keyslice/types/Order", name := "reversed", desc := "()Lcom/example/keyslice/keyslice/types/Order;" } : Jvm.MethodName) prog_77_method_4_code (1 : Nat) (Option.some (Jvm.ClassFile.FieldType.object "com/example/keyslice/keyslice/types/Order")), Jvm.Cond.code ({ cls := "com/example/keyslice/keyslice/types/Order", name := "apply", desc := "(I)I" } : Jvm.MethodName) prog_77_method_5_code (2 : Nat) (Option.some Jvm.ClassFile.FieldType.int), Jvm.Cond.code ({ cls := "java/lang/Integer", name := "signum", desc := "(I)I" } : Jvm.MethodName) jdk_33_method_56_code (1 : Nat) (Option.some Jvm.ClassFile.FieldType.int), Jvm.Cond.code ({ cls := "com/example/keyslice/keyslice/types/OrderReversedPinLaw", name := "sign", desc := "(I)I" } : Jvm.MethodName) method_2_code (1 : Nat) (Option.some Jvm.ClassFile.FieldType.int)]
set_option maxRecDepth 65536 in
theorem codes_eq : words1.filter isCode = codes1 := rfl
theorem w_codes : ∀ c ∈ words1.filter isCode, c.before args0 about1 = true := by
  rw [codes_eq]
  intro c hc
  simp only [codes1, List.mem_cons, List.not_mem_nil, or_false] at hc
  rcases hc with rfl | rfl | rfl | rfl | rfl
  · exact w_c0
  · exact w_c1
  · exact w_c2
  · exact w_c3
  · exact w_c4
set_option maxRecDepth 65536 in
theorem w_t1 : (words1.take 24).all (fun c => isCode c || c.before args0 about1) = true := by decide +kernel
set_option maxRecDepth 65536 in
theorem w_t2 : (words1.drop 24).all (fun c => isCode c || c.before args0 about1) = true := by decide +kernel
theorem w_tables : (allAtoms (Jvm.Cond.code x code maxLocals ret :: tables_1)).before args0 about1 = true := by
  rw [allAtoms_all]
  show words1.all (fun c => c.before args0 about1) = true
  refine all_split ?_ w_codes
  rw [← List.take_append_drop 24 words1, List.all_append, w_t1, w_t2]
  rfl
set_option maxRecDepth 65536 in
theorem w_case : (Jvm.Cond.and given_1 narrow_1).before args0 about1 = true := by decide +kernel
theorem w_applies : (headSpec (Jvm.Cond.code x code maxLocals ret :: tables_1) room_1).applies x e0.platform about1 = true :=
  (Spec.applies_iff w_frames).mpr ⟨w_running, w_runnable, w_alone, w_named, w_hears, w_ripe, w_room, w_tables⟩
theorem atStart : AtStart classFile x code maxLocals ret World_1 tables_1 room_1 Calls_1 rest_1 Pre_1 launch0 p0 e0 about1 theMethod args0 below0 :=
  ⟨lists_1, trivial, launch0.admits_env _ _ _, launch0.least_env, fairChoices_fair.cas, fairChoices_fair.clock, w_frames, w_args, w_heap, w_applies, trivial, trivial, w_case⟩
end start1
theorem witness_1 : WitnessClaimed_1 := ⟨start1.p0, start1.e0, start1.about1, start1.theMethod, start1.args0, start1.below0, start1.atStart⟩
end Jvm.Pilot.@@N@@
