import JvmDerived
import JvmDerived.Pilot.@@N@@Statement
import JvmDerived.Pilot.@@N@@Code
set_option linter.unusedVariables false
set_option linter.unusedSimpArgs false
namespace Jvm.RoadKit
open Sem ClassFile Op Lib Jvm.Stand Jvm.Free Jvm.LawKit
section New
variable {p : Program} {l : Launch} {e : Env} {R : Room} {s : State} {m : MethodId} {args : Array Value} {below : List Frame} {meth : Method} {c : Code} {T : State} {locs : List Loc} {cells slots : Nat}
theorem retI (X : Stand p l e R s m args below meth c T locs cells slots) (hx : p.tables.exec = Jvm.exec) {pc : Nat} {Ls : Array Slot} {z : Int32} {rest : List Value} (hret : meth.sig.returnType = some .int) (hd : decode c.code pc = .ok (.ireturn, 1)) {fs : List Frame}
    (hl : ∀ (f : JFrame) (acts : List Action), f.method = m → f.locked = none → f.entered = [] → (doReturn e (T.setTop f) acts (some (.int z))).1 = T.setFrames fs) : Steps p.tables e below (T.setTop (mkF m pc Ls (.int z :: rest))) (T.setFrames fs) := by
  have hm' : T.vm.method? m = some meth := X.method'
  have hn : narrow .int (.int z) = .int z := rfl
  show Steps p.tables e below (T.setTop { method := m, pc := pc, locals := Ls, stack := _ :: rest, locked := none }) _
  jvm_step X.here [X.here.top, hx, hd, hm', hret, hn]
  first | (intro acts; rw [hl _ acts rfl rfl rfl]) | rw [hl _ _ rfl rfl rfl]
  exact Steps.refl _
/-- from the state S the run comes to an end at which A holds -/
def own_Fin (p : Program) (e : Env) (below : List Frame) (A : State → Outcome → Prop) (S : State) : Prop := ∃ s₂ o, Steps p.tables e below S s₂ ∧ s₂.status = .running ∧ Ended s₂ below o ∧ A s₂ o
theorem own_go {A : State → Outcome → Prop} {S S' : State} (k : ∀ t, Steps p.tables e below S' t → Steps p.tables e below S t) (h : own_Fin p e below A S') : own_Fin p e below A S := by
  obtain ⟨t, o, h1, h2⟩ := h; exact ⟨t, o, k t h1, h2⟩
/-- what a walk leaves: Q of the value, the heap and the written places -/
def own_A (s : State) (C S : Nat) (Q : Option Value → Heap → List Loc → Prop) : State → Outcome → Prop := fun U' o => ∃ v L, o = .returned v ∧ Q v U'.heap L ∧ FrameEnd s o U' L C S
/-- a body that writes nothing: its value, the heap as it was -/
def own_P (h0 : Heap) (n0 : Nat) (w : Value) (v : Option Value) (h : Heap) (L : List Loc) : Prop := v = some w ∧ Fr n0 L ∧ h = h0
theorem own_out (X : Stand p l e R s m args below meth c T locs cells slots) {v : Option Value} {Q : Option Value → Heap → List Loc → Prop} {C S : Nat} {g : JFrame}
    (hv : meth.sig.returnType = none → v = none) (hlocks : meth.locks = false)
    (st : ∀ fs, (∀ (f : JFrame) (acts : List Action), f.method = m → f.locked = none → f.entered = [] → (doReturn e (T.setTop f) acts v).1 = T.setFrames fs) → Steps p.tables e below (T.setTop g) (T.setFrames fs))
    (hQ : Q v T.heap locs) (hc : cells ≤ C) (hs : slots ≤ S) : own_Fin p e below (own_A s C S Q) (T.setTop g) := by
  obtain ⟨fs, hr, hrun, hended, hW, hsame⟩ := X.leave (v := v) hv hlocks
  exact ⟨_, _, st fs hr, hrun, hended, _, _, rfl, hQ, ⟨_, rfl⟩, hW, hsame.mono hc hs⟩
end New
end Jvm.RoadKit
namespace Jvm.Pilot.@@N@@
open Jvm Jvm.ClassFile Sem Op Lib Jvm.Free Jvm.Stand Jvm.LawKit Jvm.RoadKit Bundle Jvm.Pilot.@@N@@.Jvm.D
theorem d1_0 : decode method_2_code 0 = .ok (.iload_n 0, 1) := by decide +kernel
theorem d1_1 : decode method_2_code 1 = .ok (.iconst 3, 1) := by decide +kernel
theorem d1_2 : decode method_2_code 2 = .ok (.iand, 1) := by decide +kernel
theorem d1_3 : decode method_2_code 3 = .ok (.ifCond .ne 7, 3) := by decide +kernel
theorem d1_6 : decode method_2_code 6 = .ok (.iconst (-1), 1) := by decide +kernel
theorem d1_7 : decode method_2_code 7 = .ok (.goto 7, 3) := by decide +kernel
theorem d1_10 : decode method_2_code 10 = .ok (.iload_n 0, 1) := by decide +kernel
theorem d1_11 : decode method_2_code 11 = .ok (.iconst 2, 1) := by decide +kernel
theorem d1_12 : decode method_2_code 12 = .ok (.ishr, 1) := by decide +kernel
theorem d1_13 : decode method_2_code 13 = .ok (.i2b, 1) := by decide +kernel
theorem d1_14 : decode method_2_code 14 = .ok (.ireturn, 1) := by decide +kernel
theorem pn_0 : plainName "com/example/keyslice/keyslice/storage/KeyRangeAfterPinLaw" = true := by first | (simp [plainName, overriddenIn]; done) | decide +kernel
theorem ef_1 (m : MethodId) (x0 : Int32)  : entryFrame m #[(.int x0)] 1 = mkF m 0 #[.val (.int x0)] [] := by first | (simp [entryFrame, mkF, argsToLocals, Value.category]; done) | rfl
def own_dr_3 (p1 : Int32) : Int32 := if (p1 &&& (3 : Int32)) = (0 : Int32) then (nar .byte (-1 : Int32)) else (nar .byte ((p1 >>> ((2 : Int32) &&& 31)).toInt8.toInt32))
set_option maxRecDepth 65536 in
set_option maxHeartbeats 40000000 in
theorem rm1 (l : Launch) (Z : State) (a0 : Array Value) (hw : ∀ d ∈ tables_1, d.before a0 Z = true) (ws : List Jvm.Cond) (p1 : Int32) (h0 : Heap) (n0 : Nat) (Z0 : n0 ≤ h0.size) :
    MetFree l (⟨"com/example/keyslice/keyslice/storage/KeyRangeAfterPinLaw", "draw", "(I)B"⟩ : MethodName) (head1 (Jvm.Cond.code (⟨"com/example/keyslice/keyslice/storage/KeyRangeAfterPinLaw", "draw", "(I)B"⟩ : MethodName) method_2_code 1 (some .byte) :: ws) ({ frames := 0, cells := 0, slots := 0, locals := 0 } : Room)) (fun a U => a = #[(.int p1)] ∧ Z.Warmed39 U.vm ∧ U.heap = h0) (fun _ _ _ _ _ => True) (fun _ U o U' => ∃ v L, o = .returned v ∧ (own_P h0 n0 (.int (own_dr_3 p1))) v U'.heap L ∧ FrameEnd U o U' L ({ frames := 0, cells := 0, slots := 0, locals := 0 } : Room).cells ({ frames := 0, cells := 0, slots := 0, locals := 0 } : Room).slots) := by
  refine MetFree.of_bodySF (plainFor_of_name pn_0) hisR ?_
  intro p e s m args below meth c s₁ Bd hml0 hP hK
  obtain ⟨rfl, hZ, hh⟩ := hP
  have hx := Bd.exec
  have hby := Bd.bytes
  have hml : c.maxLocals = 1 := hml0
  have hown : s.vm.findClass "com/example/keyslice/keyslice/storage/KeyRangeAfterPinLaw" = some m.cls := findClass_of_methodNamed Bd.named
  have hnm := (name_of_methodNamed Bd.named Bd.method).1
  have X0 : Stand p l e ({ frames := 0, cells := 0, slots := 0, locals := 0 } : Room) s m #[(.int p1)] below meth c s₁ [] 0 0 := Stand.of_body Bd
  have e0 : s₁.heap = h0 := by rw [← hh, Bd.state]; rfl
  have N0 := Fr.nil n0
  show own_Fin p e below (own_A s ({ frames := 0, cells := 0, slots := 0, locals := 0 } : Room).cells ({ frames := 0, cells := 0, slots := 0, locals := 0 } : Room).slots (own_P h0 n0 (.int (own_dr_3 p1)))) _
  refine own_go (fun t k => castTop (ef_1 m (p1)) k) ?_
  show own_Fin p e below _ (s₁.setTop (mkF m 0 #[.val (.int p1)] []))
  refine own_go (fun t k => XS.iloadN X0.here hx rfl (hb hby d1_0) rfl  (XS.iconst X0.here hx rfl (hb hby d1_1) (XS.iand X0.here hx rfl (hb hby d1_2) rfl k))) ?_
  show own_Fin p e below _ (s₁.setTop (mkF m 3 #[.val (.int p1)] [(.int (p1 &&& (3 : Int32)))]))
  by_cases hc1 : (p1 &&& (3 : Int32)) = (0 : Int32)
  · skip
    rw [(show (own_dr_3 p1) = (nar .byte (-1 : Int32)) from if_pos hc1)]
    refine own_go (fun t k => XS.ifNo X0.here hx rfl (hb hby d1_3) rfl ((if0 _ _).trans (teq hc1).2) (XS.iconst X0.here hx rfl (hb hby d1_6) (XS.goto X0.here hx rfl (pc0 := 7) (pc' := 14) rfl (hb hby d1_7) (by decide) (by decide) k))) ?_
    show own_Fin p e below _ (s₁.setTop (mkF m 14 #[.val (.int p1)] [(.int (-1 : Int32))]))
    exact own_out X0 (fun h => by rw [Bd.returns] at h; cases h) Bd.notSynchronized (fun fs hr => retN X0 hx (t := .byte) Bd.returns (by simp) (hb hby d1_14) hr) ⟨rfl, N0, e0⟩ (by decide) (by decide)
  · skip
    rw [(show (own_dr_3 p1) = (nar .byte ((p1 >>> ((2 : Int32) &&& 31)).toInt8.toInt32)) from if_neg hc1)]
    refine own_go (fun t k => XS.ifYes X0.here hx rfl (pc0 := 3) (pc' := 10) rfl (hb hby d1_3) rfl ((if0 _ _).trans (feq hc1).2) (by decide) (by decide) (XS.iloadN X0.here hx rfl (hb hby d1_10) rfl  (XS.iconst X0.here hx rfl (hb hby d1_11) (XS.ishr X0.here hx rfl (hb hby d1_12) rfl (XS.i2b X0.here hx rfl (hb hby d1_13) rfl k))))) ?_
    show own_Fin p e below _ (s₁.setTop (mkF m 14 #[.val (.int p1)] [(.int ((p1 >>> ((2 : Int32) &&& 31)).toInt8.toInt32))]))
    exact own_out X0 (fun h => by rw [Bd.returns] at h; cases h) Bd.notSynchronized (fun fs hr => retN X0 hx (t := .byte) Bd.returns (by simp) (hb hby d1_14) hr) ⟨rfl, N0, e0⟩ (by decide) (by decide)
theorem d6_0 : decode jdk_29_method_69_code 0 = .ok (.iload_n 0, 1) := by decide +kernel
theorem d6_1 : decode jdk_29_method_69_code 1 = .ok (.iload_n 1, 1) := by decide +kernel
theorem d6_2 : decode jdk_29_method_69_code 2 = .ok (.if_icmp .gt 7, 3) := by decide +kernel
theorem d6_5 : decode jdk_29_method_69_code 5 = .ok (.iload_n 0, 1) := by decide +kernel
theorem d6_6 : decode jdk_29_method_69_code 6 = .ok (.goto 4, 3) := by decide +kernel
theorem d6_9 : decode jdk_29_method_69_code 9 = .ok (.iload_n 1, 1) := by decide +kernel
theorem d6_10 : decode jdk_29_method_69_code 10 = .ok (.ireturn, 1) := by decide +kernel
theorem ef_6 (m : MethodId) (x0 : Int32) (x1 : Int32)  : entryFrame m #[(.int x0), (.int x1)] 2 = mkF m 0 #[.val (.int x0), .val (.int x1)] [] := by first | (simp [entryFrame, mkF, argsToLocals, Value.category]; done) | rfl
def own_mi_2 (p1 : Int32) (p2 : Int32) : Int32 := if p2 < p1 then p2 else p1
set_option maxRecDepth 65536 in
set_option maxHeartbeats 40000000 in
theorem rm6 (l : Launch) (Z : State) (a0 : Array Value) (hw : ∀ d ∈ tables_1, d.before a0 Z = true) (ws : List Jvm.Cond) (p1 : Int32) (p2 : Int32) (h0 : Heap) (n0 : Nat) (Z0 : n0 ≤ h0.size) :
    MetFree l (⟨"java/lang/Math", "min", "(II)I"⟩ : MethodName) (head1 (Jvm.Cond.code (⟨"java/lang/Math", "min", "(II)I"⟩ : MethodName) jdk_29_method_69_code 2 (some .int) :: ws) ({ frames := 0, cells := 0, slots := 0, locals := 0 } : Room)) (fun a U => a = #[(.int p1), (.int p2)] ∧ Z.Warmed39 U.vm ∧ U.heap = h0) (fun _ _ _ _ _ => True) (fun _ U o U' => ∃ v L, o = .returned v ∧ (own_P h0 n0 (.int (own_mi_2 p1 p2))) v U'.heap L ∧ FrameEnd U o U' L ({ frames := 0, cells := 0, slots := 0, locals := 0 } : Room).cells ({ frames := 0, cells := 0, slots := 0, locals := 0 } : Room).slots) := by
  refine MetFree.of_bodySF (Jvm.Free.JP.mathPlain rfl (by decide +kernel)) hisR ?_
  intro p e s m args below meth c s₁ Bd hml0 hP hK
  obtain ⟨rfl, hZ, hh⟩ := hP
  have hx := Bd.exec
  have hby := Bd.bytes
  have hml : c.maxLocals = 2 := hml0
  have hown : s.vm.findClass "java/lang/Math" = some m.cls := findClass_of_methodNamed Bd.named
  have hnm := (name_of_methodNamed Bd.named Bd.method).1
  have X0 : Stand p l e ({ frames := 0, cells := 0, slots := 0, locals := 0 } : Room) s m #[(.int p1), (.int p2)] below meth c s₁ [] 0 0 := Stand.of_body Bd
  have e0 : s₁.heap = h0 := by rw [← hh, Bd.state]; rfl
  have N0 := Fr.nil n0
  show own_Fin p e below (own_A s ({ frames := 0, cells := 0, slots := 0, locals := 0 } : Room).cells ({ frames := 0, cells := 0, slots := 0, locals := 0 } : Room).slots (own_P h0 n0 (.int (own_mi_2 p1 p2)))) _
  refine own_go (fun t k => castTop (ef_6 m (p1) (p2)) k) ?_
  show own_Fin p e below _ (s₁.setTop (mkF m 0 #[.val (.int p1), .val (.int p2)] []))
  refine own_go (fun t k => XS.iloadN X0.here hx rfl (hb hby d6_0) rfl  (XS.iloadN X0.here hx rfl (hb hby d6_1) rfl  k)) ?_
  show own_Fin p e below _ (s₁.setTop (mkF m 2 #[.val (.int p1), .val (.int p2)] [(.int p2), (.int p1)]))
  by_cases hc1 : p2 < p1
  · skip
    rw [(show (own_mi_2 p1 p2) = p2 from if_pos hc1)]
    refine own_go (fun t k => XS.icmpYes X0.here hx rfl (pc0 := 2) (pc' := 9) rfl (hb hby d6_2) rfl (tlt hc1).2.2.1 (by decide) (by decide) (XS.iloadN X0.here hx rfl (hb hby d6_9) rfl  k)) ?_
    show own_Fin p e below _ (s₁.setTop (mkF m 10 #[.val (.int p1), .val (.int p2)] [(.int p2)]))
    exact own_out X0 (fun h => by rw [Bd.returns] at h; cases h) Bd.notSynchronized (fun fs hr => retI X0 hx Bd.returns (hb hby d6_10) hr) ⟨rfl, N0, e0⟩ (by decide) (by decide)
  · skip
    rw [(show (own_mi_2 p1 p2) = p1 from if_neg hc1)]
    refine own_go (fun t k => XS.icmpNo X0.here hx rfl (hb hby d6_2) rfl (flt hc1).2.2.1 (XS.iloadN X0.here hx rfl (hb hby d6_5) rfl  (XS.goto X0.here hx rfl (pc0 := 6) (pc' := 10) rfl (hb hby d6_6) (by decide) (by decide) k))) ?_
    show own_Fin p e below _ (s₁.setTop (mkF m 10 #[.val (.int p1), .val (.int p2)] [(.int p1)]))
    exact own_out X0 (fun h => by rw [Bd.returns] at h; cases h) Bd.notSynchronized (fun fs hr => retI X0 hx Bd.returns (hb hby d6_10) hr) ⟨rfl, N0, e0⟩ (by decide) (by decide)
theorem own_nn (p : Int32) : nar .byte (own_dr_3 p) = own_dr_3 p := by
  have i : ∀ x : Int32, nar .byte (nar .byte x) = nar .byte x := fun x => by
    show (x.toInt8.toInt32).toInt8.toInt32 = x.toInt8.toInt32
    rw [Int8.toInt8_toInt32]
  by_cases q : (p &&& (3 : Int32)) = (0 : Int32)
  · rw [(show own_dr_3 p = nar .byte (-1 : Int32) from if_pos q)]; exact i _
  · rw [(show own_dr_3 p = nar .byte ((p >>> ((2 : Int32) &&& 31)).toInt8.toInt32) from if_neg q)]; exact i _
theorem own_nb (x : Int32) : (nar .byte (((x + (1 : Int32)).toInt8.toInt32))) = ((x + (1 : Int32)).toInt8.toInt32) := by
  show (((x + (1 : Int32)).toInt8.toInt32)).toInt8.toInt32 = _
  rw [Int8.toInt8_toInt32]
theorem own_five (p : Int32) : ((p &&& (2147483647 : Int32)) % (5 : Int32)) = (0 : Int32) ∨ ((p &&& (2147483647 : Int32)) % (5 : Int32)) = (1 : Int32) ∨ ((p &&& (2147483647 : Int32)) % (5 : Int32)) = (2 : Int32) ∨ ((p &&& (2147483647 : Int32)) % (5 : Int32)) = (3 : Int32) ∨ ((p &&& (2147483647 : Int32)) % (5 : Int32)) = (4 : Int32) := by
  have a := c_mask p 2147483647 31 (by decide) (by decide)
  have b := (c_irem (p &&& (2147483647 : Int32)) 5 5 rfl).1 (by omega)
  have e0 : (0 : Int32).toInt = 0 := rfl
  have e1 : (1 : Int32).toInt = 1 := rfl
  have e2 : (2 : Int32).toInt = 2 := rfl
  have e3 : (3 : Int32).toInt = 3 := rfl
  have e4 : (4 : Int32).toInt = 4 := rfl
  simp only [← Int32.toInt_inj]
  omega

theorem d4_0 : decode jdk_65_method_121_code 0 = .ok (.iload_n 1, 1) := by decide +kernel
theorem d4_1 : decode jdk_65_method_121_code 1 = .ok (.aload_n 0, 1) := by decide +kernel
theorem d4_2 : decode jdk_65_method_121_code 2 = .ok (.arraylength, 1) := by decide +kernel
theorem d4_3 : decode jdk_65_method_121_code 3 = .ok (.if_icmp .ne 11, 3) := by decide +kernel
theorem d4_6 : decode jdk_65_method_121_code 6 = .ok (.aload_n 0, 1) := by decide +kernel
theorem d4_7 : decode jdk_65_method_121_code 7 = .ok (.invokevirtual 310, 3) := by decide +kernel
theorem d4_10 : decode jdk_65_method_121_code 10 = .ok (.checkcast 311, 3) := by decide +kernel
theorem d4_13 : decode jdk_65_method_121_code 13 = .ok (.areturn, 1) := by decide +kernel
theorem pn_1 : plainName "java/util/Arrays" = true := by first | (simp [plainName, overriddenIn]; done) | decide +kernel
theorem ef_4c11 (m : MethodId) (x0 : Addr) (x1 : Int32)  : entryFrame m #[(.ref x0), (.int x1)] 3 = mkF m 0 #[.val (.ref x0), .val (.int x1), .unset] [] := by first | (simp [entryFrame, mkF, argsToLocals, Value.category]; done) | rfl
def own_q4c11 (Z : State) (a1 : Addr) (k1 : ClassId) (d0 : Int32) (h0 : Heap) (n0 : Nat) (v : Option Value) (h : Heap) (L : List Loc) : Prop := ∃ (a : Addr) (k : ClassId), v = some (.ref a) ∧ Fr n0 L ∧ h0.size ≤ a ∧ Keep h0 h [] ∧ Arv Z h a k .byte (1 : Int32) [(.int d0)] (.int (0 : Int32))
set_option maxRecDepth 65536 in
set_option maxHeartbeats 40000000 in
theorem rm4c11 (l : Launch) (Z : State) (a0 : Array Value) (hw : ∀ d ∈ tables_1, d.before a0 Z = true) (ws : List Jvm.Cond) (a1 : Addr) (k1 : ClassId) (d0 : Int32) (h0 : Heap) (n0 : Nat) (Z0 : n0 ≤ h0.size) (V_1 : Arv Z h0 a1 k1 .byte (1 : Int32) [(.int d0)] (.int (0 : Int32))) (E_1 : Exa Z h0 a1 "[B") :
    MetFree l (⟨"java/util/Arrays", "copyOf", "([BI)[B"⟩ : MethodName) (head1 (Jvm.Cond.code (⟨"java/util/Arrays", "copyOf", "([BI)[B"⟩ : MethodName) jdk_65_method_121_code 3 (some (.array .byte)) :: ws) ({ frames := 1, cells := 1, slots := 1, locals := 14 } : Room)) (fun a U => a = #[(.ref a1), (.int (1 : Int32))] ∧ Z.Warmed39 U.vm ∧ U.heap = h0) (fun _ _ _ _ _ => True) (fun _ U o U' => ∃ v L, o = .returned v ∧ (own_q4c11 Z a1 k1 d0 h0 n0) v U'.heap L ∧ FrameEnd U o U' L ({ frames := 1, cells := 1, slots := 1, locals := 14 } : Room).cells ({ frames := 1, cells := 1, slots := 1, locals := 14 } : Room).slots) := by
  refine MetFree.of_bodySF (plainFor_of_name pn_1) hisR ?_
  intro p e s m args below meth c s₁ Bd hml0 hP hK
  obtain ⟨rfl, hZ, hh⟩ := hP
  have hx := Bd.exec
  have hby := Bd.bytes
  have hml : c.maxLocals = 3 := hml0
  have hown : s.vm.findClass "java/util/Arrays" = some m.cls := findClass_of_methodNamed Bd.named
  have hnm := (name_of_methodNamed Bd.named Bd.method).1
  have X0 : Stand p l e ({ frames := 1, cells := 1, slots := 1, locals := 14 } : Room) s m #[(.ref a1), (.int (1 : Int32))] below meth c s₁ [] 0 0 := Stand.of_body Bd
  have e0 : s₁.heap = h0 := by rw [← hh, Bd.state]; rfl
  have N0 := Fr.nil n0
  have Kz := Keep.refl h0 []
  have hw_17 := hw _ (List.mem_of_getElem? (i := 17) rfl)
  have hw_18 := hw _ (List.mem_of_getElem? (i := 18) rfl)
  have hw_20 := hw _ (List.mem_of_getElem? (i := 20) rfl)
  have hw_21 := hw _ (List.mem_of_getElem? (i := 21) rfl)
  have hw_22 := hw _ (List.mem_of_getElem? (i := 22) rfl)
  have hw_23 := hw _ (List.mem_of_getElem? (i := 23) rfl)
  have hw_24 := hw _ (List.mem_of_getElem? (i := 24) rfl)
  show own_Fin p e below (own_A s ({ frames := 1, cells := 1, slots := 1, locals := 14 } : Room).cells ({ frames := 1, cells := 1, slots := 1, locals := 14 } : Room).slots (own_q4c11 Z a1 k1 d0 h0 n0)) _
  refine own_go (fun t k => castTop (ef_4c11 m (a1) ((1 : Int32))) k) ?_
  show own_Fin p e below _ (s₁.setTop (mkF m 0 #[.val (.ref a1), .val (.int (1 : Int32)), .unset] []))
  refine own_go (fun t k => XS.iloadN X0.here hx rfl (hb hby d4_0) rfl  (XS.aloadN X0.here hx rfl (hb hby d4_1) rfl rfl  k)) ?_
  show own_Fin p e below _ (s₁.setTop (mkF m 2 #[.val (.ref a1), .val (.int (1 : Int32)), .unset] [(.ref a1), (.int (1 : Int32))]))
  obtain ⟨cl1, Ar1, q1, S1, M1, H1, G1⟩ := (id V_1)
  refine own_go (fun t k => X0.arraylength hx (by rw [e0]; exact Ar1.1) (State.isArrayOf_alike hZ.alike Ar1.2.1) (g := (mkF m 2 #[.val (.ref a1), .val (.int (1 : Int32)), .unset] [(.ref a1), (.int (1 : Int32))])) rfl rfl (hb hby d4_2) _ k) ?_
  rw [len_of S1 M1]
  show own_Fin p e below _ (s₁.setTop (mkF m 3 #[.val (.ref a1), .val (.int (1 : Int32)), .unset] [(.int (1 : Int32)), (.int (1 : Int32))]))
  refine own_go (fun t k => XS.icmpNo X0.here hx rfl (hb hby d4_3) rfl (teq (by decide : (1 : Int32) = (1 : Int32))).2 (XS.aloadN X0.here hx rfl (hb hby d4_6) rfl rfl  k)) ?_
  show own_Fin p e below _ (s₁.setTop (mkF m 7 #[.val (.ref a1), .val (.int (1 : Int32)), .unset] [(.ref a1)]))
  obtain ⟨T2, h2, X2, e2, E2, V2, A2, st2⟩ := cloneH X0 hx hZ hown hw_17 hw_18 hw_22 hw_20 hw_21 hw_23 e0 (Arv.arh V_1) E_1 (g := (mkF m 7 #[.val (.ref a1), .val (.int (1 : Int32)), .unset] [(.ref a1)])) rfl (by rw [hml]; rfl) rfl (hb hby d4_7) (by decide) (W := 0) (by show 2 * 0 + _ ≤ _; exact Nat.le_of_eq rfl) (by decide) (cap := 1) (by decide) (by decide) (by decide)
  obtain ⟨b2, g2⟩ : ∃ z, z = h0.size := ⟨_, rfl⟩
  rw [← g2] at A2 V2 st2
  have g_b2 : n0 ≤ b2 := Nat.le_trans Z0 (Nat.le_of_eq g2.symm)
  have sz_b2 : h0.size ≤ b2 := Nat.le_trans Kz.1 (Nat.le_of_eq g2.symm)
  have ne3 : a1 ≠ b2 := Nat.ne_of_lt (Nat.lt_of_lt_of_le V_1.lt (Nat.le_of_eq g2.symm))
  have f4 := V_1.ext E2
  have f5 := E_1.ext E2
  have Zh6 : n0 ≤ h2.size := Nat.le_trans Z0 E2.1
  have K7 := Kz.ext E2
  have Vc2 : Arv Z h2 b2 k1 .byte (1 : Int32) [(.int d0)] (.int (0 : Int32)) := V2
  refine own_go st2 ?_
  show own_Fin p e below _ (T2.setTop (mkF m 10 #[.val (.ref a1), .val (.int (1 : Int32)), .unset] [(.ref b2)]))
  obtain ⟨T8, X8, e8, st8⟩ := castY X2 hx hZ hown hw_24 e2 (Ins.self A2) (g := (mkF m 10 #[.val (.ref a1), .val (.int (1 : Int32)), .unset] [(.ref b2)])) rfl rfl (hb hby d4_10)
  refine own_go st8 ?_
  show own_Fin p e below _ (T8.setTop (mkF m 13 #[.val (.ref a1), .val (.int (1 : Int32)), .unset] [(.ref b2)]))
  exact own_out X8 (fun h => by rw [Bd.returns] at h; cases h) Bd.notSynchronized (fun fs hr => retOut X8 hx Bd.returns rfl (Or.inr (Or.inr (Or.inr (Or.inr ⟨rfl, rfl, rfl⟩)))) (hb hby d4_13) hr) (by rw [e8]; exact ⟨_, _, rfl, N0, sz_b2, K7, Vc2⟩) (by decide) (by decide)
theorem pd_0 : parseMethodDescriptor "(II)I" = some ⟨[.int, .int], some .int⟩ := by decide +kernel
theorem d4_14 : decode jdk_65_method_121_code 14 = .ok (.iload_n 1, 1) := by decide +kernel
theorem d4_15 : decode jdk_65_method_121_code 15 = .ok (.newarray .byte, 2) := by decide +kernel
theorem d4_17 : decode jdk_65_method_121_code 17 = .ok (.astore_n 2, 1) := by decide +kernel
theorem d4_18 : decode jdk_65_method_121_code 18 = .ok (.aload_n 0, 1) := by decide +kernel
theorem d4_19 : decode jdk_65_method_121_code 19 = .ok (.iconst 0, 1) := by decide +kernel
theorem d4_20 : decode jdk_65_method_121_code 20 = .ok (.aload_n 2, 1) := by decide +kernel
theorem d4_21 : decode jdk_65_method_121_code 21 = .ok (.iconst 0, 1) := by decide +kernel
theorem d4_22 : decode jdk_65_method_121_code 22 = .ok (.aload_n 0, 1) := by decide +kernel
theorem d4_23 : decode jdk_65_method_121_code 23 = .ok (.arraylength, 1) := by decide +kernel
theorem d4_24 : decode jdk_65_method_121_code 24 = .ok (.iload_n 1, 1) := by decide +kernel
theorem d4_25 : decode jdk_65_method_121_code 25 = .ok (.invokestatic 304, 3) := by decide +kernel
theorem d4_28 : decode jdk_65_method_121_code 28 = .ok (.invokestatic 150, 3) := by decide +kernel
theorem d4_31 : decode jdk_65_method_121_code 31 = .ok (.aload_n 2, 1) := by decide +kernel
theorem d4_32 : decode jdk_65_method_121_code 32 = .ok (.areturn, 1) := by decide +kernel
theorem ef_4c21 (m : MethodId) (x0 : Addr) (x1 : Int32)  : entryFrame m #[(.ref x0), (.int x1)] 3 = mkF m 0 #[.val (.ref x0), .val (.int x1), .unset] [] := by first | (simp [entryFrame, mkF, argsToLocals, Value.category]; done) | rfl
def own_q4c21 (Z : State) (a1 : Addr) (k1 : ClassId) (d0 d1 : Int32) (h0 : Heap) (n0 : Nat) (v : Option Value) (h : Heap) (L : List Loc) : Prop := ∃ (a : Addr) (k : ClassId), v = some (.ref a) ∧ Fr n0 L ∧ h0.size ≤ a ∧ Keep h0 h [] ∧ Arv Z h a k .byte (1 : Int32) [(.int d0)] (.int (0 : Int32))
set_option maxRecDepth 65536 in
set_option maxHeartbeats 40000000 in
theorem rm4c21 (l : Launch) (Z : State) (a0 : Array Value) (hw : ∀ d ∈ tables_1, d.before a0 Z = true) (ws : List Jvm.Cond) (a1 : Addr) (k1 : ClassId) (d0 d1 : Int32) (h0 : Heap) (n0 : Nat) (Z0 : n0 ≤ h0.size) (V_1 : Arv Z h0 a1 k1 .byte (2 : Int32) [(.int d0), (.int d1)] (.int (0 : Int32))) (E_1 : Exa Z h0 a1 "[B") :
    MetFree l (⟨"java/util/Arrays", "copyOf", "([BI)[B"⟩ : MethodName) (head1 (Jvm.Cond.code (⟨"java/util/Arrays", "copyOf", "([BI)[B"⟩ : MethodName) jdk_65_method_121_code 3 (some (.array .byte)) :: ws) ({ frames := 1, cells := 1, slots := 1, locals := 18 } : Room)) (fun a U => a = #[(.ref a1), (.int (1 : Int32))] ∧ Z.Warmed39 U.vm ∧ U.heap = h0) (fun _ _ _ _ _ => True) (fun _ U o U' => ∃ v L, o = .returned v ∧ (own_q4c21 Z a1 k1 d0 d1 h0 n0) v U'.heap L ∧ FrameEnd U o U' L ({ frames := 1, cells := 1, slots := 1, locals := 18 } : Room).cells ({ frames := 1, cells := 1, slots := 1, locals := 18 } : Room).slots) := by
  refine MetFree.of_bodySF (plainFor_of_name pn_1) hisR ?_
  intro p e s m args below meth c s₁ Bd hml0 hP hK
  obtain ⟨rfl, hZ, hh⟩ := hP
  have hx := Bd.exec
  have hby := Bd.bytes
  have hml : c.maxLocals = 3 := hml0
  have hown : s.vm.findClass "java/util/Arrays" = some m.cls := findClass_of_methodNamed Bd.named
  have hnm := (name_of_methodNamed Bd.named Bd.method).1
  have X0 : Stand p l e ({ frames := 1, cells := 1, slots := 1, locals := 18 } : Room) s m #[(.ref a1), (.int (1 : Int32))] below meth c s₁ [] 0 0 := Stand.of_body Bd
  have e0 : s₁.heap = h0 := by rw [← hh, Bd.state]; rfl
  have N0 := Fr.nil n0
  have Kz := Keep.refl h0 []
  have hw_1 := hw _ (List.mem_of_getElem? (i := 1) rfl)
  have hw_29 := hw _ (List.mem_of_getElem? (i := 29) rfl)
  have hw_30 := hw _ (List.mem_of_getElem? (i := 30) rfl)
  have hw_31 := hw _ (List.mem_of_getElem? (i := 31) rfl)
  have hw_32 := hw _ (List.mem_of_getElem? (i := 32) rfl)
  have hw_33 := hw _ (List.mem_of_getElem? (i := 33) rfl)
  have hw_34 := hw _ (List.mem_of_getElem? (i := 34) rfl)
  have hw_35 := hw _ (List.mem_of_getElem? (i := 35) rfl)
  have hw_36 := hw _ (List.mem_of_getElem? (i := 36) rfl)
  show own_Fin p e below (own_A s ({ frames := 1, cells := 1, slots := 1, locals := 18 } : Room).cells ({ frames := 1, cells := 1, slots := 1, locals := 18 } : Room).slots (own_q4c21 Z a1 k1 d0 d1 h0 n0)) _
  refine own_go (fun t k => castTop (ef_4c21 m (a1) ((1 : Int32))) k) ?_
  show own_Fin p e below _ (s₁.setTop (mkF m 0 #[.val (.ref a1), .val (.int (1 : Int32)), .unset] []))
  refine own_go (fun t k => XS.iloadN X0.here hx rfl (hb hby d4_0) rfl  (XS.aloadN X0.here hx rfl (hb hby d4_1) rfl rfl  k)) ?_
  show own_Fin p e below _ (s₁.setTop (mkF m 2 #[.val (.ref a1), .val (.int (1 : Int32)), .unset] [(.ref a1), (.int (1 : Int32))]))
  obtain ⟨cl1, Ar1, q1, S1, M1, H1, G1⟩ := (id V_1)
  refine own_go (fun t k => X0.arraylength hx (by rw [e0]; exact Ar1.1) (State.isArrayOf_alike hZ.alike Ar1.2.1) (g := (mkF m 2 #[.val (.ref a1), .val (.int (1 : Int32)), .unset] [(.ref a1), (.int (1 : Int32))])) rfl rfl (hb hby d4_2) _ k) ?_
  rw [len_of S1 M1]
  show own_Fin p e below _ (s₁.setTop (mkF m 3 #[.val (.ref a1), .val (.int (1 : Int32)), .unset] [(.int (2 : Int32)), (.int (1 : Int32))]))
  refine own_go (fun t k => XS.icmpYes X0.here hx rfl (pc0 := 3) (pc' := 14) rfl (hb hby d4_3) rfl (feq (by decide : ¬ ((1 : Int32) = (2 : Int32)))).2 (by decide) (by decide) (XS.iloadN X0.here hx rfl (hb hby d4_14) rfl  k)) ?_
  show own_Fin p e below _ (s₁.setTop (mkF m 15 #[.val (.ref a1), .val (.int (1 : Int32)), .unset] [(.int (1 : Int32))]))
  obtain ⟨T2, h2, k2, X2, e2, E2, A2, Ea2, st2⟩ := newPE (aty := .byte) X0 hx hZ hw_1 e0 (g := (mkF m 15 #[.val (.ref a1), .val (.int (1 : Int32)), .unset] [(.int (1 : Int32))])) rfl (hb hby d4_15) rfl (by decide) (cap := 1) (by decide) (by decide) (by decide) (by decide) (ad := "[B") (by decide)
  obtain ⟨b2, g2⟩ : ∃ z, z = h0.size := ⟨_, rfl⟩
  rw [← g2] at A2 Ea2 st2
  have g_b2 : n0 ≤ b2 := Nat.le_trans Z0 (Nat.le_of_eq g2.symm)
  have sz_b2 : h0.size ≤ b2 := Nat.le_trans Kz.1 (Nat.le_of_eq g2.symm)
  have ne3 : a1 ≠ b2 := Nat.ne_of_lt (Nat.lt_of_lt_of_le V_1.lt (Nat.le_of_eq g2.symm))
  have f4 := V_1.ext E2
  have f5 := E_1.ext E2
  have Zh6 : n0 ≤ h2.size := Nat.le_trans Z0 E2.1
  have K7 := Kz.ext E2
  have V2 : Arv Z h2 b2 k2 .byte (1 : Int32) [(.int (0 : Int32))] (.int (0 : Int32)) := (Arv.new A2 (by decide)).pad (pad_rep [] (.int (0 : Int32)) 1)
  refine own_go st2 ?_
  show own_Fin p e below _ (T2.setTop (mkF m 17 #[.val (.ref a1), .val (.int (1 : Int32)), .unset] [(.ref b2)]))
  refine own_go (fun t k => XS.astoreN X2.here hx rfl (hb hby d4_17) rfl rfl (l' := #[.val (.ref a1), .val (.int (1 : Int32)), .val (.ref b2)]) rfl (XS.aloadN X2.here hx rfl (hb hby d4_18) rfl rfl  (XS.iconst X2.here hx rfl (hb hby d4_19) (XS.aloadN X2.here hx rfl (hb hby d4_20) rfl rfl  (XS.iconst X2.here hx rfl (hb hby d4_21) k))))) ?_
  show own_Fin p e below _ (T2.setTop (mkF m 22 #[.val (.ref a1), .val (.int (1 : Int32)), .val (.ref b2)] [(.int (0 : Int32)), (.ref b2), (.int (0 : Int32)), (.ref a1)]))
  refine own_go (fun t k => XS.aloadN X2.here hx rfl (hb hby d4_22) rfl rfl  k) ?_
  show own_Fin p e below _ (T2.setTop (mkF m 23 #[.val (.ref a1), .val (.int (1 : Int32)), .val (.ref b2)] [(.ref a1), (.int (0 : Int32)), (.ref b2), (.int (0 : Int32)), (.ref a1)]))
  obtain ⟨cl8, Ar8, q8, S8, M8, H8, G8⟩ := (id f4)
  refine own_go (fun t k => X2.arraylength hx (by rw [e2]; exact Ar8.1) (State.isArrayOf_alike hZ.alike Ar8.2.1) (g := (mkF m 23 #[.val (.ref a1), .val (.int (1 : Int32)), .val (.ref b2)] [(.ref a1), (.int (0 : Int32)), (.ref b2), (.int (0 : Int32)), (.ref a1)])) rfl rfl (hb hby d4_23) _ k) ?_
  rw [len_of S8 M8]
  show own_Fin p e below _ (T2.setTop (mkF m 24 #[.val (.ref a1), .val (.int (1 : Int32)), .val (.ref b2)] [(.int (2 : Int32)), (.int (0 : Int32)), (.ref b2), (.int (0 : Int32)), (.ref a1)]))
  refine own_go (fun t k => XS.iloadN X2.here hx rfl (hb hby d4_24) rfl  k) ?_
  show own_Fin p e below _ (T2.setTop (mkF m 25 #[.val (.ref a1), .val (.int (1 : Int32)), .val (.ref b2)] [(.int (1 : Int32)), (.int (2 : Int32)), (.int (0 : Int32)), (.ref b2), (.int (0 : Int32)), (.ref a1)]))
  obtain ⟨_, _, ⟨T9, L9, k9, n9⟩, -, X9, ⟨Lc9, hQ9, l9, y9, z9⟩, st9⟩ := Jvm.LawKit.callS X2 hx (y := (⟨"java/lang/Math", "min", "(II)I"⟩ : MethodName)) hown (mvT hZ hw_29) (mvT hZ hw_30) (mvT hZ hw_31) (mvT hZ hw_32) (by decide) (backOf (W := 4) (rm6 l Z a0 hw [] ((2 : Int32)) ((1 : Int32))  h2 n0 Zh6 ) hZ hw_32 hw_31 (by decide) (by decide)) (g := (mkF m 25 #[.val (.ref a1), .val (.int (1 : Int32)), .val (.ref b2)] [(.int (1 : Int32)), (.int (2 : Int32)), (.int (0 : Int32)), (.ref b2), (.int (0 : Int32)), (.ref a1)])) rfl (by rw [hml]; rfl) (argsL := [(.int (2 : Int32)), (.int (1 : Int32))]) (rest := [(.int (0 : Int32)), (.ref b2), (.int (0 : Int32)), (.ref a1)]) (lenOf pd_0 rfl) rfl (by show 2 * 0 + _ ≤ _; exact Nat.le_of_eq rfl) (hb hby d4_25) (fun _ _ => ⟨rfl, e2, (by decide : 1 + 0 ≤ _), (by decide : 1 + 0 ≤ _)⟩)
  dsimp only [Pt.U, Pt.locs, Pt.cells, Pt.slots] at X9 l9 y9 z9 st9 hQ9
  subst l9 y9 z9
  obtain ⟨rfl, N9q, e9⟩ := hQ9
  have N9 := Fr.app N0 N9q
  refine own_go st9 ?_
  show own_Fin p e below _ (T9.setTop (mkF m 28 #[.val (.ref a1), .val (.int (1 : Int32)), .val (.ref b2)] [(.int (1 : Int32)), (.int (0 : Int32)), (.ref b2), (.int (0 : Int32)), (.ref a1)]))
  obtain ⟨T10, h10, L10, X10, e10, N10, K10, V10, st10⟩ := cpA X9 hx hZ hown hw_33 hw_36 hw_34 hw_35 e9 f4 V2 (Or.inl ⟨rfl, rfl⟩) (sp := (0 : Int32)) (dp := (0 : Int32)) (nn := (1 : Int32)) (us := [(.int d0)]) (by decide) (by decide) (by decide) (by decide) (by decide) rfl (by decide) N9 g_b2 (g := (mkF m 28 #[.val (.ref a1), .val (.int (1 : Int32)), .val (.ref b2)] [(.int (1 : Int32)), (.int (0 : Int32)), (.ref b2), (.int (0 : Int32)), (.ref a1)])) rfl (by rw [hml]; rfl) rfl (hb hby d4_28) (by decide) (W := 0) (by show 2 * 0 + _ ≤ _; exact Nat.le_of_eq rfl) (by decide)
  have f11 := f4.keep K10 (ninS ne3 nin0)
  have f12 := f5.keep K10
  have f13 := Ea2.keep K10
  have Zh15 : n0 ≤ h10.size := Nat.le_trans Zh6 K10.1
  have K16 := K7.trans K10 (fun x hx => by cases List.mem_singleton.mp hx; exact Or.inr sz_b2)
  have f17 : Arv Z h10 b2 k2 .byte (1 : Int32) [(.int d0)] (.int (0 : Int32)) := V10
  refine own_go st10 ?_
  show own_Fin p e below _ (T10.setTop (mkF m 31 #[.val (.ref a1), .val (.int (1 : Int32)), .val (.ref b2)] []))
  refine own_go (fun t k => XS.aloadN X10.here hx rfl (hb hby d4_31) rfl rfl  k) ?_
  show own_Fin p e below _ (T10.setTop (mkF m 32 #[.val (.ref a1), .val (.int (1 : Int32)), .val (.ref b2)] [(.ref b2)]))
  exact own_out X10 (fun h => by rw [Bd.returns] at h; cases h) Bd.notSynchronized (fun fs hr => retOut X10 hx Bd.returns rfl (Or.inr (Or.inr (Or.inr (Or.inr ⟨rfl, rfl, rfl⟩)))) (hb hby d4_32) hr) (by rw [e10]; exact ⟨_, _, rfl, N10, sz_b2, K16, f17⟩) (by decide) (by decide)
theorem ef_4c22 (m : MethodId) (x0 : Addr) (x1 : Int32)  : entryFrame m #[(.ref x0), (.int x1)] 3 = mkF m 0 #[.val (.ref x0), .val (.int x1), .unset] [] := by first | (simp [entryFrame, mkF, argsToLocals, Value.category]; done) | rfl
def own_q4c22 (Z : State) (a1 : Addr) (k1 : ClassId) (d0 d1 : Int32) (h0 : Heap) (n0 : Nat) (v : Option Value) (h : Heap) (L : List Loc) : Prop := ∃ (a : Addr) (k : ClassId), v = some (.ref a) ∧ Fr n0 L ∧ h0.size ≤ a ∧ Keep h0 h [] ∧ Arv Z h a k .byte (2 : Int32) [(.int d0), (.int d1)] (.int (0 : Int32))
set_option maxRecDepth 65536 in
set_option maxHeartbeats 40000000 in
theorem rm4c22 (l : Launch) (Z : State) (a0 : Array Value) (hw : ∀ d ∈ tables_1, d.before a0 Z = true) (ws : List Jvm.Cond) (a1 : Addr) (k1 : ClassId) (d0 d1 : Int32) (h0 : Heap) (n0 : Nat) (Z0 : n0 ≤ h0.size) (V_1 : Arv Z h0 a1 k1 .byte (2 : Int32) [(.int d0), (.int d1)] (.int (0 : Int32))) (E_1 : Exa Z h0 a1 "[B") :
    MetFree l (⟨"java/util/Arrays", "copyOf", "([BI)[B"⟩ : MethodName) (head1 (Jvm.Cond.code (⟨"java/util/Arrays", "copyOf", "([BI)[B"⟩ : MethodName) jdk_65_method_121_code 3 (some (.array .byte)) :: ws) ({ frames := 1, cells := 1, slots := 2, locals := 14 } : Room)) (fun a U => a = #[(.ref a1), (.int (2 : Int32))] ∧ Z.Warmed39 U.vm ∧ U.heap = h0) (fun _ _ _ _ _ => True) (fun _ U o U' => ∃ v L, o = .returned v ∧ (own_q4c22 Z a1 k1 d0 d1 h0 n0) v U'.heap L ∧ FrameEnd U o U' L ({ frames := 1, cells := 1, slots := 2, locals := 14 } : Room).cells ({ frames := 1, cells := 1, slots := 2, locals := 14 } : Room).slots) := by
  refine MetFree.of_bodySF (plainFor_of_name pn_1) hisR ?_
  intro p e s m args below meth c s₁ Bd hml0 hP hK
  obtain ⟨rfl, hZ, hh⟩ := hP
  have hx := Bd.exec
  have hby := Bd.bytes
  have hml : c.maxLocals = 3 := hml0
  have hown : s.vm.findClass "java/util/Arrays" = some m.cls := findClass_of_methodNamed Bd.named
  have hnm := (name_of_methodNamed Bd.named Bd.method).1
  have X0 : Stand p l e ({ frames := 1, cells := 1, slots := 2, locals := 14 } : Room) s m #[(.ref a1), (.int (2 : Int32))] below meth c s₁ [] 0 0 := Stand.of_body Bd
  have e0 : s₁.heap = h0 := by rw [← hh, Bd.state]; rfl
  have N0 := Fr.nil n0
  have Kz := Keep.refl h0 []
  have hw_17 := hw _ (List.mem_of_getElem? (i := 17) rfl)
  have hw_18 := hw _ (List.mem_of_getElem? (i := 18) rfl)
  have hw_20 := hw _ (List.mem_of_getElem? (i := 20) rfl)
  have hw_21 := hw _ (List.mem_of_getElem? (i := 21) rfl)
  have hw_22 := hw _ (List.mem_of_getElem? (i := 22) rfl)
  have hw_23 := hw _ (List.mem_of_getElem? (i := 23) rfl)
  have hw_24 := hw _ (List.mem_of_getElem? (i := 24) rfl)
  show own_Fin p e below (own_A s ({ frames := 1, cells := 1, slots := 2, locals := 14 } : Room).cells ({ frames := 1, cells := 1, slots := 2, locals := 14 } : Room).slots (own_q4c22 Z a1 k1 d0 d1 h0 n0)) _
  refine own_go (fun t k => castTop (ef_4c22 m (a1) ((2 : Int32))) k) ?_
  show own_Fin p e below _ (s₁.setTop (mkF m 0 #[.val (.ref a1), .val (.int (2 : Int32)), .unset] []))
  refine own_go (fun t k => XS.iloadN X0.here hx rfl (hb hby d4_0) rfl  (XS.aloadN X0.here hx rfl (hb hby d4_1) rfl rfl  k)) ?_
  show own_Fin p e below _ (s₁.setTop (mkF m 2 #[.val (.ref a1), .val (.int (2 : Int32)), .unset] [(.ref a1), (.int (2 : Int32))]))
  obtain ⟨cl1, Ar1, q1, S1, M1, H1, G1⟩ := (id V_1)
  refine own_go (fun t k => X0.arraylength hx (by rw [e0]; exact Ar1.1) (State.isArrayOf_alike hZ.alike Ar1.2.1) (g := (mkF m 2 #[.val (.ref a1), .val (.int (2 : Int32)), .unset] [(.ref a1), (.int (2 : Int32))])) rfl rfl (hb hby d4_2) _ k) ?_
  rw [len_of S1 M1]
  show own_Fin p e below _ (s₁.setTop (mkF m 3 #[.val (.ref a1), .val (.int (2 : Int32)), .unset] [(.int (2 : Int32)), (.int (2 : Int32))]))
  refine own_go (fun t k => XS.icmpNo X0.here hx rfl (hb hby d4_3) rfl (teq (by decide : (2 : Int32) = (2 : Int32))).2 (XS.aloadN X0.here hx rfl (hb hby d4_6) rfl rfl  k)) ?_
  show own_Fin p e below _ (s₁.setTop (mkF m 7 #[.val (.ref a1), .val (.int (2 : Int32)), .unset] [(.ref a1)]))
  obtain ⟨T2, h2, X2, e2, E2, V2, A2, st2⟩ := cloneH X0 hx hZ hown hw_17 hw_18 hw_22 hw_20 hw_21 hw_23 e0 (Arv.arh V_1) E_1 (g := (mkF m 7 #[.val (.ref a1), .val (.int (2 : Int32)), .unset] [(.ref a1)])) rfl (by rw [hml]; rfl) rfl (hb hby d4_7) (by decide) (W := 0) (by show 2 * 0 + _ ≤ _; exact Nat.le_of_eq rfl) (by decide) (cap := 2) (by decide) (by decide) (by decide)
  obtain ⟨b2, g2⟩ : ∃ z, z = h0.size := ⟨_, rfl⟩
  rw [← g2] at A2 V2 st2
  have g_b2 : n0 ≤ b2 := Nat.le_trans Z0 (Nat.le_of_eq g2.symm)
  have sz_b2 : h0.size ≤ b2 := Nat.le_trans Kz.1 (Nat.le_of_eq g2.symm)
  have ne3 : a1 ≠ b2 := Nat.ne_of_lt (Nat.lt_of_lt_of_le V_1.lt (Nat.le_of_eq g2.symm))
  have f4 := V_1.ext E2
  have f5 := E_1.ext E2
  have Zh6 : n0 ≤ h2.size := Nat.le_trans Z0 E2.1
  have K7 := Kz.ext E2
  have Vc2 : Arv Z h2 b2 k1 .byte (2 : Int32) [(.int d0), (.int d1)] (.int (0 : Int32)) := V2
  refine own_go st2 ?_
  show own_Fin p e below _ (T2.setTop (mkF m 10 #[.val (.ref a1), .val (.int (2 : Int32)), .unset] [(.ref b2)]))
  obtain ⟨T8, X8, e8, st8⟩ := castY X2 hx hZ hown hw_24 e2 (Ins.self A2) (g := (mkF m 10 #[.val (.ref a1), .val (.int (2 : Int32)), .unset] [(.ref b2)])) rfl rfl (hb hby d4_10)
  refine own_go st8 ?_
  show own_Fin p e below _ (T8.setTop (mkF m 13 #[.val (.ref a1), .val (.int (2 : Int32)), .unset] [(.ref b2)]))
  exact own_out X8 (fun h => by rw [Bd.returns] at h; cases h) Bd.notSynchronized (fun fs hr => retOut X8 hx Bd.returns rfl (Or.inr (Or.inr (Or.inr (Or.inr ⟨rfl, rfl, rfl⟩)))) (hb hby d4_13) hr) (by rw [e8]; exact ⟨_, _, rfl, N0, sz_b2, K7, Vc2⟩) (by decide) (by decide)
theorem ef_4c31 (m : MethodId) (x0 : Addr) (x1 : Int32)  : entryFrame m #[(.ref x0), (.int x1)] 3 = mkF m 0 #[.val (.ref x0), .val (.int x1), .unset] [] := by first | (simp [entryFrame, mkF, argsToLocals, Value.category]; done) | rfl
def own_q4c31 (Z : State) (a1 : Addr) (k1 : ClassId) (d0 d1 d2 : Int32) (h0 : Heap) (n0 : Nat) (v : Option Value) (h : Heap) (L : List Loc) : Prop := ∃ (a : Addr) (k : ClassId), v = some (.ref a) ∧ Fr n0 L ∧ h0.size ≤ a ∧ Keep h0 h [] ∧ Arv Z h a k .byte (1 : Int32) [(.int d0)] (.int (0 : Int32))
set_option maxRecDepth 65536 in
set_option maxHeartbeats 40000000 in
theorem rm4c31 (l : Launch) (Z : State) (a0 : Array Value) (hw : ∀ d ∈ tables_1, d.before a0 Z = true) (ws : List Jvm.Cond) (a1 : Addr) (k1 : ClassId) (d0 d1 d2 : Int32) (h0 : Heap) (n0 : Nat) (Z0 : n0 ≤ h0.size) (V_1 : Arv Z h0 a1 k1 .byte (3 : Int32) [(.int d0), (.int d1), (.int d2)] (.int (0 : Int32))) (E_1 : Exa Z h0 a1 "[B") :
    MetFree l (⟨"java/util/Arrays", "copyOf", "([BI)[B"⟩ : MethodName) (head1 (Jvm.Cond.code (⟨"java/util/Arrays", "copyOf", "([BI)[B"⟩ : MethodName) jdk_65_method_121_code 3 (some (.array .byte)) :: ws) ({ frames := 1, cells := 1, slots := 1, locals := 18 } : Room)) (fun a U => a = #[(.ref a1), (.int (1 : Int32))] ∧ Z.Warmed39 U.vm ∧ U.heap = h0) (fun _ _ _ _ _ => True) (fun _ U o U' => ∃ v L, o = .returned v ∧ (own_q4c31 Z a1 k1 d0 d1 d2 h0 n0) v U'.heap L ∧ FrameEnd U o U' L ({ frames := 1, cells := 1, slots := 1, locals := 18 } : Room).cells ({ frames := 1, cells := 1, slots := 1, locals := 18 } : Room).slots) := by
  refine MetFree.of_bodySF (plainFor_of_name pn_1) hisR ?_
  intro p e s m args below meth c s₁ Bd hml0 hP hK
  obtain ⟨rfl, hZ, hh⟩ := hP
  have hx := Bd.exec
  have hby := Bd.bytes
  have hml : c.maxLocals = 3 := hml0
  have hown : s.vm.findClass "java/util/Arrays" = some m.cls := findClass_of_methodNamed Bd.named
  have hnm := (name_of_methodNamed Bd.named Bd.method).1
  have X0 : Stand p l e ({ frames := 1, cells := 1, slots := 1, locals := 18 } : Room) s m #[(.ref a1), (.int (1 : Int32))] below meth c s₁ [] 0 0 := Stand.of_body Bd
  have e0 : s₁.heap = h0 := by rw [← hh, Bd.state]; rfl
  have N0 := Fr.nil n0
  have Kz := Keep.refl h0 []
  have hw_1 := hw _ (List.mem_of_getElem? (i := 1) rfl)
  have hw_29 := hw _ (List.mem_of_getElem? (i := 29) rfl)
  have hw_30 := hw _ (List.mem_of_getElem? (i := 30) rfl)
  have hw_31 := hw _ (List.mem_of_getElem? (i := 31) rfl)
  have hw_32 := hw _ (List.mem_of_getElem? (i := 32) rfl)
  have hw_33 := hw _ (List.mem_of_getElem? (i := 33) rfl)
  have hw_34 := hw _ (List.mem_of_getElem? (i := 34) rfl)
  have hw_35 := hw _ (List.mem_of_getElem? (i := 35) rfl)
  have hw_36 := hw _ (List.mem_of_getElem? (i := 36) rfl)
  show own_Fin p e below (own_A s ({ frames := 1, cells := 1, slots := 1, locals := 18 } : Room).cells ({ frames := 1, cells := 1, slots := 1, locals := 18 } : Room).slots (own_q4c31 Z a1 k1 d0 d1 d2 h0 n0)) _
  refine own_go (fun t k => castTop (ef_4c31 m (a1) ((1 : Int32))) k) ?_
  show own_Fin p e below _ (s₁.setTop (mkF m 0 #[.val (.ref a1), .val (.int (1 : Int32)), .unset] []))
  refine own_go (fun t k => XS.iloadN X0.here hx rfl (hb hby d4_0) rfl  (XS.aloadN X0.here hx rfl (hb hby d4_1) rfl rfl  k)) ?_
  show own_Fin p e below _ (s₁.setTop (mkF m 2 #[.val (.ref a1), .val (.int (1 : Int32)), .unset] [(.ref a1), (.int (1 : Int32))]))
  obtain ⟨cl1, Ar1, q1, S1, M1, H1, G1⟩ := (id V_1)
  refine own_go (fun t k => X0.arraylength hx (by rw [e0]; exact Ar1.1) (State.isArrayOf_alike hZ.alike Ar1.2.1) (g := (mkF m 2 #[.val (.ref a1), .val (.int (1 : Int32)), .unset] [(.ref a1), (.int (1 : Int32))])) rfl rfl (hb hby d4_2) _ k) ?_
  rw [len_of S1 M1]
  show own_Fin p e below _ (s₁.setTop (mkF m 3 #[.val (.ref a1), .val (.int (1 : Int32)), .unset] [(.int (3 : Int32)), (.int (1 : Int32))]))
  refine own_go (fun t k => XS.icmpYes X0.here hx rfl (pc0 := 3) (pc' := 14) rfl (hb hby d4_3) rfl (feq (by decide : ¬ ((1 : Int32) = (3 : Int32)))).2 (by decide) (by decide) (XS.iloadN X0.here hx rfl (hb hby d4_14) rfl  k)) ?_
  show own_Fin p e below _ (s₁.setTop (mkF m 15 #[.val (.ref a1), .val (.int (1 : Int32)), .unset] [(.int (1 : Int32))]))
  obtain ⟨T2, h2, k2, X2, e2, E2, A2, Ea2, st2⟩ := newPE (aty := .byte) X0 hx hZ hw_1 e0 (g := (mkF m 15 #[.val (.ref a1), .val (.int (1 : Int32)), .unset] [(.int (1 : Int32))])) rfl (hb hby d4_15) rfl (by decide) (cap := 1) (by decide) (by decide) (by decide) (by decide) (ad := "[B") (by decide)
  obtain ⟨b2, g2⟩ : ∃ z, z = h0.size := ⟨_, rfl⟩
  rw [← g2] at A2 Ea2 st2
  have g_b2 : n0 ≤ b2 := Nat.le_trans Z0 (Nat.le_of_eq g2.symm)
  have sz_b2 : h0.size ≤ b2 := Nat.le_trans Kz.1 (Nat.le_of_eq g2.symm)
  have ne3 : a1 ≠ b2 := Nat.ne_of_lt (Nat.lt_of_lt_of_le V_1.lt (Nat.le_of_eq g2.symm))
  have f4 := V_1.ext E2
  have f5 := E_1.ext E2
  have Zh6 : n0 ≤ h2.size := Nat.le_trans Z0 E2.1
  have K7 := Kz.ext E2
  have V2 : Arv Z h2 b2 k2 .byte (1 : Int32) [(.int (0 : Int32))] (.int (0 : Int32)) := (Arv.new A2 (by decide)).pad (pad_rep [] (.int (0 : Int32)) 1)
  refine own_go st2 ?_
  show own_Fin p e below _ (T2.setTop (mkF m 17 #[.val (.ref a1), .val (.int (1 : Int32)), .unset] [(.ref b2)]))
  refine own_go (fun t k => XS.astoreN X2.here hx rfl (hb hby d4_17) rfl rfl (l' := #[.val (.ref a1), .val (.int (1 : Int32)), .val (.ref b2)]) rfl (XS.aloadN X2.here hx rfl (hb hby d4_18) rfl rfl  (XS.iconst X2.here hx rfl (hb hby d4_19) (XS.aloadN X2.here hx rfl (hb hby d4_20) rfl rfl  (XS.iconst X2.here hx rfl (hb hby d4_21) k))))) ?_
  show own_Fin p e below _ (T2.setTop (mkF m 22 #[.val (.ref a1), .val (.int (1 : Int32)), .val (.ref b2)] [(.int (0 : Int32)), (.ref b2), (.int (0 : Int32)), (.ref a1)]))
  refine own_go (fun t k => XS.aloadN X2.here hx rfl (hb hby d4_22) rfl rfl  k) ?_
  show own_Fin p e below _ (T2.setTop (mkF m 23 #[.val (.ref a1), .val (.int (1 : Int32)), .val (.ref b2)] [(.ref a1), (.int (0 : Int32)), (.ref b2), (.int (0 : Int32)), (.ref a1)]))
  obtain ⟨cl8, Ar8, q8, S8, M8, H8, G8⟩ := (id f4)
  refine own_go (fun t k => X2.arraylength hx (by rw [e2]; exact Ar8.1) (State.isArrayOf_alike hZ.alike Ar8.2.1) (g := (mkF m 23 #[.val (.ref a1), .val (.int (1 : Int32)), .val (.ref b2)] [(.ref a1), (.int (0 : Int32)), (.ref b2), (.int (0 : Int32)), (.ref a1)])) rfl rfl (hb hby d4_23) _ k) ?_
  rw [len_of S8 M8]
  show own_Fin p e below _ (T2.setTop (mkF m 24 #[.val (.ref a1), .val (.int (1 : Int32)), .val (.ref b2)] [(.int (3 : Int32)), (.int (0 : Int32)), (.ref b2), (.int (0 : Int32)), (.ref a1)]))
  refine own_go (fun t k => XS.iloadN X2.here hx rfl (hb hby d4_24) rfl  k) ?_
  show own_Fin p e below _ (T2.setTop (mkF m 25 #[.val (.ref a1), .val (.int (1 : Int32)), .val (.ref b2)] [(.int (1 : Int32)), (.int (3 : Int32)), (.int (0 : Int32)), (.ref b2), (.int (0 : Int32)), (.ref a1)]))
  obtain ⟨_, _, ⟨T9, L9, k9, n9⟩, -, X9, ⟨Lc9, hQ9, l9, y9, z9⟩, st9⟩ := Jvm.LawKit.callS X2 hx (y := (⟨"java/lang/Math", "min", "(II)I"⟩ : MethodName)) hown (mvT hZ hw_29) (mvT hZ hw_30) (mvT hZ hw_31) (mvT hZ hw_32) (by decide) (backOf (W := 4) (rm6 l Z a0 hw [] ((3 : Int32)) ((1 : Int32))  h2 n0 Zh6 ) hZ hw_32 hw_31 (by decide) (by decide)) (g := (mkF m 25 #[.val (.ref a1), .val (.int (1 : Int32)), .val (.ref b2)] [(.int (1 : Int32)), (.int (3 : Int32)), (.int (0 : Int32)), (.ref b2), (.int (0 : Int32)), (.ref a1)])) rfl (by rw [hml]; rfl) (argsL := [(.int (3 : Int32)), (.int (1 : Int32))]) (rest := [(.int (0 : Int32)), (.ref b2), (.int (0 : Int32)), (.ref a1)]) (lenOf pd_0 rfl) rfl (by show 2 * 0 + _ ≤ _; exact Nat.le_of_eq rfl) (hb hby d4_25) (fun _ _ => ⟨rfl, e2, (by decide : 1 + 0 ≤ _), (by decide : 1 + 0 ≤ _)⟩)
  dsimp only [Pt.U, Pt.locs, Pt.cells, Pt.slots] at X9 l9 y9 z9 st9 hQ9
  subst l9 y9 z9
  obtain ⟨rfl, N9q, e9⟩ := hQ9
  have N9 := Fr.app N0 N9q
  refine own_go st9 ?_
  show own_Fin p e below _ (T9.setTop (mkF m 28 #[.val (.ref a1), .val (.int (1 : Int32)), .val (.ref b2)] [(.int (1 : Int32)), (.int (0 : Int32)), (.ref b2), (.int (0 : Int32)), (.ref a1)]))
  obtain ⟨T10, h10, L10, X10, e10, N10, K10, V10, st10⟩ := cpA X9 hx hZ hown hw_33 hw_36 hw_34 hw_35 e9 f4 V2 (Or.inl ⟨rfl, rfl⟩) (sp := (0 : Int32)) (dp := (0 : Int32)) (nn := (1 : Int32)) (us := [(.int d0)]) (by decide) (by decide) (by decide) (by decide) (by decide) rfl (by decide) N9 g_b2 (g := (mkF m 28 #[.val (.ref a1), .val (.int (1 : Int32)), .val (.ref b2)] [(.int (1 : Int32)), (.int (0 : Int32)), (.ref b2), (.int (0 : Int32)), (.ref a1)])) rfl (by rw [hml]; rfl) rfl (hb hby d4_28) (by decide) (W := 0) (by show 2 * 0 + _ ≤ _; exact Nat.le_of_eq rfl) (by decide)
  have f11 := f4.keep K10 (ninS ne3 nin0)
  have f12 := f5.keep K10
  have f13 := Ea2.keep K10
  have Zh15 : n0 ≤ h10.size := Nat.le_trans Zh6 K10.1
  have K16 := K7.trans K10 (fun x hx => by cases List.mem_singleton.mp hx; exact Or.inr sz_b2)
  have f17 : Arv Z h10 b2 k2 .byte (1 : Int32) [(.int d0)] (.int (0 : Int32)) := V10
  refine own_go st10 ?_
  show own_Fin p e below _ (T10.setTop (mkF m 31 #[.val (.ref a1), .val (.int (1 : Int32)), .val (.ref b2)] []))
  refine own_go (fun t k => XS.aloadN X10.here hx rfl (hb hby d4_31) rfl rfl  k) ?_
  show own_Fin p e below _ (T10.setTop (mkF m 32 #[.val (.ref a1), .val (.int (1 : Int32)), .val (.ref b2)] [(.ref b2)]))
  exact own_out X10 (fun h => by rw [Bd.returns] at h; cases h) Bd.notSynchronized (fun fs hr => retOut X10 hx Bd.returns rfl (Or.inr (Or.inr (Or.inr (Or.inr ⟨rfl, rfl, rfl⟩)))) (hb hby d4_32) hr) (by rw [e10]; exact ⟨_, _, rfl, N10, sz_b2, K16, f17⟩) (by decide) (by decide)
theorem ef_4c32 (m : MethodId) (x0 : Addr) (x1 : Int32)  : entryFrame m #[(.ref x0), (.int x1)] 3 = mkF m 0 #[.val (.ref x0), .val (.int x1), .unset] [] := by first | (simp [entryFrame, mkF, argsToLocals, Value.category]; done) | rfl
def own_q4c32 (Z : State) (a1 : Addr) (k1 : ClassId) (d0 d1 d2 : Int32) (h0 : Heap) (n0 : Nat) (v : Option Value) (h : Heap) (L : List Loc) : Prop := ∃ (a : Addr) (k : ClassId), v = some (.ref a) ∧ Fr n0 L ∧ h0.size ≤ a ∧ Keep h0 h [] ∧ Arv Z h a k .byte (2 : Int32) [(.int d0), (.int d1)] (.int (0 : Int32))
set_option maxRecDepth 65536 in
set_option maxHeartbeats 40000000 in
theorem rm4c32 (l : Launch) (Z : State) (a0 : Array Value) (hw : ∀ d ∈ tables_1, d.before a0 Z = true) (ws : List Jvm.Cond) (a1 : Addr) (k1 : ClassId) (d0 d1 d2 : Int32) (h0 : Heap) (n0 : Nat) (Z0 : n0 ≤ h0.size) (V_1 : Arv Z h0 a1 k1 .byte (3 : Int32) [(.int d0), (.int d1), (.int d2)] (.int (0 : Int32))) (E_1 : Exa Z h0 a1 "[B") :
    MetFree l (⟨"java/util/Arrays", "copyOf", "([BI)[B"⟩ : MethodName) (head1 (Jvm.Cond.code (⟨"java/util/Arrays", "copyOf", "([BI)[B"⟩ : MethodName) jdk_65_method_121_code 3 (some (.array .byte)) :: ws) ({ frames := 1, cells := 1, slots := 2, locals := 18 } : Room)) (fun a U => a = #[(.ref a1), (.int (2 : Int32))] ∧ Z.Warmed39 U.vm ∧ U.heap = h0) (fun _ _ _ _ _ => True) (fun _ U o U' => ∃ v L, o = .returned v ∧ (own_q4c32 Z a1 k1 d0 d1 d2 h0 n0) v U'.heap L ∧ FrameEnd U o U' L ({ frames := 1, cells := 1, slots := 2, locals := 18 } : Room).cells ({ frames := 1, cells := 1, slots := 2, locals := 18 } : Room).slots) := by
  refine MetFree.of_bodySF (plainFor_of_name pn_1) hisR ?_
  intro p e s m args below meth c s₁ Bd hml0 hP hK
  obtain ⟨rfl, hZ, hh⟩ := hP
  have hx := Bd.exec
  have hby := Bd.bytes
  have hml : c.maxLocals = 3 := hml0
  have hown : s.vm.findClass "java/util/Arrays" = some m.cls := findClass_of_methodNamed Bd.named
  have hnm := (name_of_methodNamed Bd.named Bd.method).1
  have X0 : Stand p l e ({ frames := 1, cells := 1, slots := 2, locals := 18 } : Room) s m #[(.ref a1), (.int (2 : Int32))] below meth c s₁ [] 0 0 := Stand.of_body Bd
  have e0 : s₁.heap = h0 := by rw [← hh, Bd.state]; rfl
  have N0 := Fr.nil n0
  have Kz := Keep.refl h0 []
  have hw_1 := hw _ (List.mem_of_getElem? (i := 1) rfl)
  have hw_29 := hw _ (List.mem_of_getElem? (i := 29) rfl)
  have hw_30 := hw _ (List.mem_of_getElem? (i := 30) rfl)
  have hw_31 := hw _ (List.mem_of_getElem? (i := 31) rfl)
  have hw_32 := hw _ (List.mem_of_getElem? (i := 32) rfl)
  have hw_33 := hw _ (List.mem_of_getElem? (i := 33) rfl)
  have hw_34 := hw _ (List.mem_of_getElem? (i := 34) rfl)
  have hw_35 := hw _ (List.mem_of_getElem? (i := 35) rfl)
  have hw_36 := hw _ (List.mem_of_getElem? (i := 36) rfl)
  show own_Fin p e below (own_A s ({ frames := 1, cells := 1, slots := 2, locals := 18 } : Room).cells ({ frames := 1, cells := 1, slots := 2, locals := 18 } : Room).slots (own_q4c32 Z a1 k1 d0 d1 d2 h0 n0)) _
  refine own_go (fun t k => castTop (ef_4c32 m (a1) ((2 : Int32))) k) ?_
  show own_Fin p e below _ (s₁.setTop (mkF m 0 #[.val (.ref a1), .val (.int (2 : Int32)), .unset] []))
  refine own_go (fun t k => XS.iloadN X0.here hx rfl (hb hby d4_0) rfl  (XS.aloadN X0.here hx rfl (hb hby d4_1) rfl rfl  k)) ?_
  show own_Fin p e below _ (s₁.setTop (mkF m 2 #[.val (.ref a1), .val (.int (2 : Int32)), .unset] [(.ref a1), (.int (2 : Int32))]))
  obtain ⟨cl1, Ar1, q1, S1, M1, H1, G1⟩ := (id V_1)
  refine own_go (fun t k => X0.arraylength hx (by rw [e0]; exact Ar1.1) (State.isArrayOf_alike hZ.alike Ar1.2.1) (g := (mkF m 2 #[.val (.ref a1), .val (.int (2 : Int32)), .unset] [(.ref a1), (.int (2 : Int32))])) rfl rfl (hb hby d4_2) _ k) ?_
  rw [len_of S1 M1]
  show own_Fin p e below _ (s₁.setTop (mkF m 3 #[.val (.ref a1), .val (.int (2 : Int32)), .unset] [(.int (3 : Int32)), (.int (2 : Int32))]))
  refine own_go (fun t k => XS.icmpYes X0.here hx rfl (pc0 := 3) (pc' := 14) rfl (hb hby d4_3) rfl (feq (by decide : ¬ ((2 : Int32) = (3 : Int32)))).2 (by decide) (by decide) (XS.iloadN X0.here hx rfl (hb hby d4_14) rfl  k)) ?_
  show own_Fin p e below _ (s₁.setTop (mkF m 15 #[.val (.ref a1), .val (.int (2 : Int32)), .unset] [(.int (2 : Int32))]))
  obtain ⟨T2, h2, k2, X2, e2, E2, A2, Ea2, st2⟩ := newPE (aty := .byte) X0 hx hZ hw_1 e0 (g := (mkF m 15 #[.val (.ref a1), .val (.int (2 : Int32)), .unset] [(.int (2 : Int32))])) rfl (hb hby d4_15) rfl (by decide) (cap := 2) (by decide) (by decide) (by decide) (by decide) (ad := "[B") (by decide)
  obtain ⟨b2, g2⟩ : ∃ z, z = h0.size := ⟨_, rfl⟩
  rw [← g2] at A2 Ea2 st2
  have g_b2 : n0 ≤ b2 := Nat.le_trans Z0 (Nat.le_of_eq g2.symm)
  have sz_b2 : h0.size ≤ b2 := Nat.le_trans Kz.1 (Nat.le_of_eq g2.symm)
  have ne3 : a1 ≠ b2 := Nat.ne_of_lt (Nat.lt_of_lt_of_le V_1.lt (Nat.le_of_eq g2.symm))
  have f4 := V_1.ext E2
  have f5 := E_1.ext E2
  have Zh6 : n0 ≤ h2.size := Nat.le_trans Z0 E2.1
  have K7 := Kz.ext E2
  have V2 : Arv Z h2 b2 k2 .byte (2 : Int32) [(.int (0 : Int32)), (.int (0 : Int32))] (.int (0 : Int32)) := (Arv.new A2 (by decide)).pad (pad_rep [] (.int (0 : Int32)) 2)
  refine own_go st2 ?_
  show own_Fin p e below _ (T2.setTop (mkF m 17 #[.val (.ref a1), .val (.int (2 : Int32)), .unset] [(.ref b2)]))
  refine own_go (fun t k => XS.astoreN X2.here hx rfl (hb hby d4_17) rfl rfl (l' := #[.val (.ref a1), .val (.int (2 : Int32)), .val (.ref b2)]) rfl (XS.aloadN X2.here hx rfl (hb hby d4_18) rfl rfl  (XS.iconst X2.here hx rfl (hb hby d4_19) (XS.aloadN X2.here hx rfl (hb hby d4_20) rfl rfl  (XS.iconst X2.here hx rfl (hb hby d4_21) k))))) ?_
  show own_Fin p e below _ (T2.setTop (mkF m 22 #[.val (.ref a1), .val (.int (2 : Int32)), .val (.ref b2)] [(.int (0 : Int32)), (.ref b2), (.int (0 : Int32)), (.ref a1)]))
  refine own_go (fun t k => XS.aloadN X2.here hx rfl (hb hby d4_22) rfl rfl  k) ?_
  show own_Fin p e below _ (T2.setTop (mkF m 23 #[.val (.ref a1), .val (.int (2 : Int32)), .val (.ref b2)] [(.ref a1), (.int (0 : Int32)), (.ref b2), (.int (0 : Int32)), (.ref a1)]))
  obtain ⟨cl8, Ar8, q8, S8, M8, H8, G8⟩ := (id f4)
  refine own_go (fun t k => X2.arraylength hx (by rw [e2]; exact Ar8.1) (State.isArrayOf_alike hZ.alike Ar8.2.1) (g := (mkF m 23 #[.val (.ref a1), .val (.int (2 : Int32)), .val (.ref b2)] [(.ref a1), (.int (0 : Int32)), (.ref b2), (.int (0 : Int32)), (.ref a1)])) rfl rfl (hb hby d4_23) _ k) ?_
  rw [len_of S8 M8]
  show own_Fin p e below _ (T2.setTop (mkF m 24 #[.val (.ref a1), .val (.int (2 : Int32)), .val (.ref b2)] [(.int (3 : Int32)), (.int (0 : Int32)), (.ref b2), (.int (0 : Int32)), (.ref a1)]))
  refine own_go (fun t k => XS.iloadN X2.here hx rfl (hb hby d4_24) rfl  k) ?_
  show own_Fin p e below _ (T2.setTop (mkF m 25 #[.val (.ref a1), .val (.int (2 : Int32)), .val (.ref b2)] [(.int (2 : Int32)), (.int (3 : Int32)), (.int (0 : Int32)), (.ref b2), (.int (0 : Int32)), (.ref a1)]))
  obtain ⟨_, _, ⟨T9, L9, k9, n9⟩, -, X9, ⟨Lc9, hQ9, l9, y9, z9⟩, st9⟩ := Jvm.LawKit.callS X2 hx (y := (⟨"java/lang/Math", "min", "(II)I"⟩ : MethodName)) hown (mvT hZ hw_29) (mvT hZ hw_30) (mvT hZ hw_31) (mvT hZ hw_32) (by decide) (backOf (W := 4) (rm6 l Z a0 hw [] ((3 : Int32)) ((2 : Int32))  h2 n0 Zh6 ) hZ hw_32 hw_31 (by decide) (by decide)) (g := (mkF m 25 #[.val (.ref a1), .val (.int (2 : Int32)), .val (.ref b2)] [(.int (2 : Int32)), (.int (3 : Int32)), (.int (0 : Int32)), (.ref b2), (.int (0 : Int32)), (.ref a1)])) rfl (by rw [hml]; rfl) (argsL := [(.int (3 : Int32)), (.int (2 : Int32))]) (rest := [(.int (0 : Int32)), (.ref b2), (.int (0 : Int32)), (.ref a1)]) (lenOf pd_0 rfl) rfl (by show 2 * 0 + _ ≤ _; exact Nat.le_of_eq rfl) (hb hby d4_25) (fun _ _ => ⟨rfl, e2, (by decide : 1 + 0 ≤ _), (by decide : 2 + 0 ≤ _)⟩)
  dsimp only [Pt.U, Pt.locs, Pt.cells, Pt.slots] at X9 l9 y9 z9 st9 hQ9
  subst l9 y9 z9
  obtain ⟨rfl, N9q, e9⟩ := hQ9
  have N9 := Fr.app N0 N9q
  refine own_go st9 ?_
  show own_Fin p e below _ (T9.setTop (mkF m 28 #[.val (.ref a1), .val (.int (2 : Int32)), .val (.ref b2)] [(.int (2 : Int32)), (.int (0 : Int32)), (.ref b2), (.int (0 : Int32)), (.ref a1)]))
  obtain ⟨T10, h10, L10, X10, e10, N10, K10, V10, st10⟩ := cpA X9 hx hZ hown hw_33 hw_36 hw_34 hw_35 e9 f4 V2 (Or.inl ⟨rfl, rfl⟩) (sp := (0 : Int32)) (dp := (0 : Int32)) (nn := (2 : Int32)) (us := [(.int d0), (.int d1)]) (by decide) (by decide) (by decide) (by decide) (by decide) rfl (by decide) N9 g_b2 (g := (mkF m 28 #[.val (.ref a1), .val (.int (2 : Int32)), .val (.ref b2)] [(.int (2 : Int32)), (.int (0 : Int32)), (.ref b2), (.int (0 : Int32)), (.ref a1)])) rfl (by rw [hml]; rfl) rfl (hb hby d4_28) (by decide) (W := 0) (by show 2 * 0 + _ ≤ _; exact Nat.le_of_eq rfl) (by decide)
  have f11 := f4.keep K10 (ninS ne3 nin0)
  have f12 := f5.keep K10
  have f13 := Ea2.keep K10
  have Zh15 : n0 ≤ h10.size := Nat.le_trans Zh6 K10.1
  have K16 := K7.trans K10 (fun x hx => by cases List.mem_singleton.mp hx; exact Or.inr sz_b2)
  have f17 : Arv Z h10 b2 k2 .byte (2 : Int32) [(.int d0), (.int d1)] (.int (0 : Int32)) := V10
  refine own_go st10 ?_
  show own_Fin p e below _ (T10.setTop (mkF m 31 #[.val (.ref a1), .val (.int (2 : Int32)), .val (.ref b2)] []))
  refine own_go (fun t k => XS.aloadN X10.here hx rfl (hb hby d4_31) rfl rfl  k) ?_
  show own_Fin p e below _ (T10.setTop (mkF m 32 #[.val (.ref a1), .val (.int (2 : Int32)), .val (.ref b2)] [(.ref b2)]))
  exact own_out X10 (fun h => by rw [Bd.returns] at h; cases h) Bd.notSynchronized (fun fs hr => retOut X10 hx Bd.returns rfl (Or.inr (Or.inr (Or.inr (Or.inr ⟨rfl, rfl, rfl⟩)))) (hb hby d4_32) hr) (by rw [e10]; exact ⟨_, _, rfl, N10, sz_b2, K16, f17⟩) (by decide) (by decide)
theorem ef_4c33 (m : MethodId) (x0 : Addr) (x1 : Int32)  : entryFrame m #[(.ref x0), (.int x1)] 3 = mkF m 0 #[.val (.ref x0), .val (.int x1), .unset] [] := by first | (simp [entryFrame, mkF, argsToLocals, Value.category]; done) | rfl
def own_q4c33 (Z : State) (a1 : Addr) (k1 : ClassId) (d0 d1 d2 : Int32) (h0 : Heap) (n0 : Nat) (v : Option Value) (h : Heap) (L : List Loc) : Prop := ∃ (a : Addr) (k : ClassId), v = some (.ref a) ∧ Fr n0 L ∧ h0.size ≤ a ∧ Keep h0 h [] ∧ Arv Z h a k .byte (3 : Int32) [(.int d0), (.int d1), (.int d2)] (.int (0 : Int32))
set_option maxRecDepth 65536 in
set_option maxHeartbeats 40000000 in
theorem rm4c33 (l : Launch) (Z : State) (a0 : Array Value) (hw : ∀ d ∈ tables_1, d.before a0 Z = true) (ws : List Jvm.Cond) (a1 : Addr) (k1 : ClassId) (d0 d1 d2 : Int32) (h0 : Heap) (n0 : Nat) (Z0 : n0 ≤ h0.size) (V_1 : Arv Z h0 a1 k1 .byte (3 : Int32) [(.int d0), (.int d1), (.int d2)] (.int (0 : Int32))) (E_1 : Exa Z h0 a1 "[B") :
    MetFree l (⟨"java/util/Arrays", "copyOf", "([BI)[B"⟩ : MethodName) (head1 (Jvm.Cond.code (⟨"java/util/Arrays", "copyOf", "([BI)[B"⟩ : MethodName) jdk_65_method_121_code 3 (some (.array .byte)) :: ws) ({ frames := 1, cells := 1, slots := 3, locals := 14 } : Room)) (fun a U => a = #[(.ref a1), (.int (3 : Int32))] ∧ Z.Warmed39 U.vm ∧ U.heap = h0) (fun _ _ _ _ _ => True) (fun _ U o U' => ∃ v L, o = .returned v ∧ (own_q4c33 Z a1 k1 d0 d1 d2 h0 n0) v U'.heap L ∧ FrameEnd U o U' L ({ frames := 1, cells := 1, slots := 3, locals := 14 } : Room).cells ({ frames := 1, cells := 1, slots := 3, locals := 14 } : Room).slots) := by
  refine MetFree.of_bodySF (plainFor_of_name pn_1) hisR ?_
  intro p e s m args below meth c s₁ Bd hml0 hP hK
  obtain ⟨rfl, hZ, hh⟩ := hP
  have hx := Bd.exec
  have hby := Bd.bytes
  have hml : c.maxLocals = 3 := hml0
  have hown : s.vm.findClass "java/util/Arrays" = some m.cls := findClass_of_methodNamed Bd.named
  have hnm := (name_of_methodNamed Bd.named Bd.method).1
  have X0 : Stand p l e ({ frames := 1, cells := 1, slots := 3, locals := 14 } : Room) s m #[(.ref a1), (.int (3 : Int32))] below meth c s₁ [] 0 0 := Stand.of_body Bd
  have e0 : s₁.heap = h0 := by rw [← hh, Bd.state]; rfl
  have N0 := Fr.nil n0
  have Kz := Keep.refl h0 []
  have hw_17 := hw _ (List.mem_of_getElem? (i := 17) rfl)
  have hw_18 := hw _ (List.mem_of_getElem? (i := 18) rfl)
  have hw_20 := hw _ (List.mem_of_getElem? (i := 20) rfl)
  have hw_21 := hw _ (List.mem_of_getElem? (i := 21) rfl)
  have hw_22 := hw _ (List.mem_of_getElem? (i := 22) rfl)
  have hw_23 := hw _ (List.mem_of_getElem? (i := 23) rfl)
  have hw_24 := hw _ (List.mem_of_getElem? (i := 24) rfl)
  show own_Fin p e below (own_A s ({ frames := 1, cells := 1, slots := 3, locals := 14 } : Room).cells ({ frames := 1, cells := 1, slots := 3, locals := 14 } : Room).slots (own_q4c33 Z a1 k1 d0 d1 d2 h0 n0)) _
  refine own_go (fun t k => castTop (ef_4c33 m (a1) ((3 : Int32))) k) ?_
  show own_Fin p e below _ (s₁.setTop (mkF m 0 #[.val (.ref a1), .val (.int (3 : Int32)), .unset] []))
  refine own_go (fun t k => XS.iloadN X0.here hx rfl (hb hby d4_0) rfl  (XS.aloadN X0.here hx rfl (hb hby d4_1) rfl rfl  k)) ?_
  show own_Fin p e below _ (s₁.setTop (mkF m 2 #[.val (.ref a1), .val (.int (3 : Int32)), .unset] [(.ref a1), (.int (3 : Int32))]))
  obtain ⟨cl1, Ar1, q1, S1, M1, H1, G1⟩ := (id V_1)
  refine own_go (fun t k => X0.arraylength hx (by rw [e0]; exact Ar1.1) (State.isArrayOf_alike hZ.alike Ar1.2.1) (g := (mkF m 2 #[.val (.ref a1), .val (.int (3 : Int32)), .unset] [(.ref a1), (.int (3 : Int32))])) rfl rfl (hb hby d4_2) _ k) ?_
  rw [len_of S1 M1]
  show own_Fin p e below _ (s₁.setTop (mkF m 3 #[.val (.ref a1), .val (.int (3 : Int32)), .unset] [(.int (3 : Int32)), (.int (3 : Int32))]))
  refine own_go (fun t k => XS.icmpNo X0.here hx rfl (hb hby d4_3) rfl (teq (by decide : (3 : Int32) = (3 : Int32))).2 (XS.aloadN X0.here hx rfl (hb hby d4_6) rfl rfl  k)) ?_
  show own_Fin p e below _ (s₁.setTop (mkF m 7 #[.val (.ref a1), .val (.int (3 : Int32)), .unset] [(.ref a1)]))
  obtain ⟨T2, h2, X2, e2, E2, V2, A2, st2⟩ := cloneH X0 hx hZ hown hw_17 hw_18 hw_22 hw_20 hw_21 hw_23 e0 (Arv.arh V_1) E_1 (g := (mkF m 7 #[.val (.ref a1), .val (.int (3 : Int32)), .unset] [(.ref a1)])) rfl (by rw [hml]; rfl) rfl (hb hby d4_7) (by decide) (W := 0) (by show 2 * 0 + _ ≤ _; exact Nat.le_of_eq rfl) (by decide) (cap := 3) (by decide) (by decide) (by decide)
  obtain ⟨b2, g2⟩ : ∃ z, z = h0.size := ⟨_, rfl⟩
  rw [← g2] at A2 V2 st2
  have g_b2 : n0 ≤ b2 := Nat.le_trans Z0 (Nat.le_of_eq g2.symm)
  have sz_b2 : h0.size ≤ b2 := Nat.le_trans Kz.1 (Nat.le_of_eq g2.symm)
  have ne3 : a1 ≠ b2 := Nat.ne_of_lt (Nat.lt_of_lt_of_le V_1.lt (Nat.le_of_eq g2.symm))
  have f4 := V_1.ext E2
  have f5 := E_1.ext E2
  have Zh6 : n0 ≤ h2.size := Nat.le_trans Z0 E2.1
  have K7 := Kz.ext E2
  have Vc2 : Arv Z h2 b2 k1 .byte (3 : Int32) [(.int d0), (.int d1), (.int d2)] (.int (0 : Int32)) := V2
  refine own_go st2 ?_
  show own_Fin p e below _ (T2.setTop (mkF m 10 #[.val (.ref a1), .val (.int (3 : Int32)), .unset] [(.ref b2)]))
  obtain ⟨T8, X8, e8, st8⟩ := castY X2 hx hZ hown hw_24 e2 (Ins.self A2) (g := (mkF m 10 #[.val (.ref a1), .val (.int (3 : Int32)), .unset] [(.ref b2)])) rfl rfl (hb hby d4_10)
  refine own_go st8 ?_
  show own_Fin p e below _ (T8.setTop (mkF m 13 #[.val (.ref a1), .val (.int (3 : Int32)), .unset] [(.ref b2)]))
  exact own_out X8 (fun h => by rw [Bd.returns] at h; cases h) Bd.notSynchronized (fun fs hr => retOut X8 hx Bd.returns rfl (Or.inr (Or.inr (Or.inr (Or.inr ⟨rfl, rfl, rfl⟩)))) (hb hby d4_13) hr) (by rw [e8]; exact ⟨_, _, rfl, N0, sz_b2, K7, Vc2⟩) (by decide) (by decide)
theorem ef_4c41 (m : MethodId) (x0 : Addr) (x1 : Int32)  : entryFrame m #[(.ref x0), (.int x1)] 3 = mkF m 0 #[.val (.ref x0), .val (.int x1), .unset] [] := by first | (simp [entryFrame, mkF, argsToLocals, Value.category]; done) | rfl
def own_q4c41 (Z : State) (a1 : Addr) (k1 : ClassId) (d0 d1 d2 d3 : Int32) (h0 : Heap) (n0 : Nat) (v : Option Value) (h : Heap) (L : List Loc) : Prop := ∃ (a : Addr) (k : ClassId), v = some (.ref a) ∧ Fr n0 L ∧ h0.size ≤ a ∧ Keep h0 h [] ∧ Arv Z h a k .byte (1 : Int32) [(.int d0)] (.int (0 : Int32))
set_option maxRecDepth 65536 in
set_option maxHeartbeats 40000000 in
theorem rm4c41 (l : Launch) (Z : State) (a0 : Array Value) (hw : ∀ d ∈ tables_1, d.before a0 Z = true) (ws : List Jvm.Cond) (a1 : Addr) (k1 : ClassId) (d0 d1 d2 d3 : Int32) (h0 : Heap) (n0 : Nat) (Z0 : n0 ≤ h0.size) (V_1 : Arv Z h0 a1 k1 .byte (4 : Int32) [(.int d0), (.int d1), (.int d2), (.int d3)] (.int (0 : Int32))) (E_1 : Exa Z h0 a1 "[B") :
    MetFree l (⟨"java/util/Arrays", "copyOf", "([BI)[B"⟩ : MethodName) (head1 (Jvm.Cond.code (⟨"java/util/Arrays", "copyOf", "([BI)[B"⟩ : MethodName) jdk_65_method_121_code 3 (some (.array .byte)) :: ws) ({ frames := 1, cells := 1, slots := 1, locals := 18 } : Room)) (fun a U => a = #[(.ref a1), (.int (1 : Int32))] ∧ Z.Warmed39 U.vm ∧ U.heap = h0) (fun _ _ _ _ _ => True) (fun _ U o U' => ∃ v L, o = .returned v ∧ (own_q4c41 Z a1 k1 d0 d1 d2 d3 h0 n0) v U'.heap L ∧ FrameEnd U o U' L ({ frames := 1, cells := 1, slots := 1, locals := 18 } : Room).cells ({ frames := 1, cells := 1, slots := 1, locals := 18 } : Room).slots) := by
  refine MetFree.of_bodySF (plainFor_of_name pn_1) hisR ?_
  intro p e s m args below meth c s₁ Bd hml0 hP hK
  obtain ⟨rfl, hZ, hh⟩ := hP
  have hx := Bd.exec
  have hby := Bd.bytes
  have hml : c.maxLocals = 3 := hml0
  have hown : s.vm.findClass "java/util/Arrays" = some m.cls := findClass_of_methodNamed Bd.named
  have hnm := (name_of_methodNamed Bd.named Bd.method).1
  have X0 : Stand p l e ({ frames := 1, cells := 1, slots := 1, locals := 18 } : Room) s m #[(.ref a1), (.int (1 : Int32))] below meth c s₁ [] 0 0 := Stand.of_body Bd
  have e0 : s₁.heap = h0 := by rw [← hh, Bd.state]; rfl
  have N0 := Fr.nil n0
  have Kz := Keep.refl h0 []
  have hw_1 := hw _ (List.mem_of_getElem? (i := 1) rfl)
  have hw_29 := hw _ (List.mem_of_getElem? (i := 29) rfl)
  have hw_30 := hw _ (List.mem_of_getElem? (i := 30) rfl)
  have hw_31 := hw _ (List.mem_of_getElem? (i := 31) rfl)
  have hw_32 := hw _ (List.mem_of_getElem? (i := 32) rfl)
  have hw_33 := hw _ (List.mem_of_getElem? (i := 33) rfl)
  have hw_34 := hw _ (List.mem_of_getElem? (i := 34) rfl)
  have hw_35 := hw _ (List.mem_of_getElem? (i := 35) rfl)
  have hw_36 := hw _ (List.mem_of_getElem? (i := 36) rfl)
  show own_Fin p e below (own_A s ({ frames := 1, cells := 1, slots := 1, locals := 18 } : Room).cells ({ frames := 1, cells := 1, slots := 1, locals := 18 } : Room).slots (own_q4c41 Z a1 k1 d0 d1 d2 d3 h0 n0)) _
  refine own_go (fun t k => castTop (ef_4c41 m (a1) ((1 : Int32))) k) ?_
  show own_Fin p e below _ (s₁.setTop (mkF m 0 #[.val (.ref a1), .val (.int (1 : Int32)), .unset] []))
  refine own_go (fun t k => XS.iloadN X0.here hx rfl (hb hby d4_0) rfl  (XS.aloadN X0.here hx rfl (hb hby d4_1) rfl rfl  k)) ?_
  show own_Fin p e below _ (s₁.setTop (mkF m 2 #[.val (.ref a1), .val (.int (1 : Int32)), .unset] [(.ref a1), (.int (1 : Int32))]))
  obtain ⟨cl1, Ar1, q1, S1, M1, H1, G1⟩ := (id V_1)
  refine own_go (fun t k => X0.arraylength hx (by rw [e0]; exact Ar1.1) (State.isArrayOf_alike hZ.alike Ar1.2.1) (g := (mkF m 2 #[.val (.ref a1), .val (.int (1 : Int32)), .unset] [(.ref a1), (.int (1 : Int32))])) rfl rfl (hb hby d4_2) _ k) ?_
  rw [len_of S1 M1]
  show own_Fin p e below _ (s₁.setTop (mkF m 3 #[.val (.ref a1), .val (.int (1 : Int32)), .unset] [(.int (4 : Int32)), (.int (1 : Int32))]))
  refine own_go (fun t k => XS.icmpYes X0.here hx rfl (pc0 := 3) (pc' := 14) rfl (hb hby d4_3) rfl (feq (by decide : ¬ ((1 : Int32) = (4 : Int32)))).2 (by decide) (by decide) (XS.iloadN X0.here hx rfl (hb hby d4_14) rfl  k)) ?_
  show own_Fin p e below _ (s₁.setTop (mkF m 15 #[.val (.ref a1), .val (.int (1 : Int32)), .unset] [(.int (1 : Int32))]))
  obtain ⟨T2, h2, k2, X2, e2, E2, A2, Ea2, st2⟩ := newPE (aty := .byte) X0 hx hZ hw_1 e0 (g := (mkF m 15 #[.val (.ref a1), .val (.int (1 : Int32)), .unset] [(.int (1 : Int32))])) rfl (hb hby d4_15) rfl (by decide) (cap := 1) (by decide) (by decide) (by decide) (by decide) (ad := "[B") (by decide)
  obtain ⟨b2, g2⟩ : ∃ z, z = h0.size := ⟨_, rfl⟩
  rw [← g2] at A2 Ea2 st2
  have g_b2 : n0 ≤ b2 := Nat.le_trans Z0 (Nat.le_of_eq g2.symm)
  have sz_b2 : h0.size ≤ b2 := Nat.le_trans Kz.1 (Nat.le_of_eq g2.symm)
  have ne3 : a1 ≠ b2 := Nat.ne_of_lt (Nat.lt_of_lt_of_le V_1.lt (Nat.le_of_eq g2.symm))
  have f4 := V_1.ext E2
  have f5 := E_1.ext E2
  have Zh6 : n0 ≤ h2.size := Nat.le_trans Z0 E2.1
  have K7 := Kz.ext E2
  have V2 : Arv Z h2 b2 k2 .byte (1 : Int32) [(.int (0 : Int32))] (.int (0 : Int32)) := (Arv.new A2 (by decide)).pad (pad_rep [] (.int (0 : Int32)) 1)
  refine own_go st2 ?_
  show own_Fin p e below _ (T2.setTop (mkF m 17 #[.val (.ref a1), .val (.int (1 : Int32)), .unset] [(.ref b2)]))
  refine own_go (fun t k => XS.astoreN X2.here hx rfl (hb hby d4_17) rfl rfl (l' := #[.val (.ref a1), .val (.int (1 : Int32)), .val (.ref b2)]) rfl (XS.aloadN X2.here hx rfl (hb hby d4_18) rfl rfl  (XS.iconst X2.here hx rfl (hb hby d4_19) (XS.aloadN X2.here hx rfl (hb hby d4_20) rfl rfl  (XS.iconst X2.here hx rfl (hb hby d4_21) k))))) ?_
  show own_Fin p e below _ (T2.setTop (mkF m 22 #[.val (.ref a1), .val (.int (1 : Int32)), .val (.ref b2)] [(.int (0 : Int32)), (.ref b2), (.int (0 : Int32)), (.ref a1)]))
  refine own_go (fun t k => XS.aloadN X2.here hx rfl (hb hby d4_22) rfl rfl  k) ?_
  show own_Fin p e below _ (T2.setTop (mkF m 23 #[.val (.ref a1), .val (.int (1 : Int32)), .val (.ref b2)] [(.ref a1), (.int (0 : Int32)), (.ref b2), (.int (0 : Int32)), (.ref a1)]))
  obtain ⟨cl8, Ar8, q8, S8, M8, H8, G8⟩ := (id f4)
  refine own_go (fun t k => X2.arraylength hx (by rw [e2]; exact Ar8.1) (State.isArrayOf_alike hZ.alike Ar8.2.1) (g := (mkF m 23 #[.val (.ref a1), .val (.int (1 : Int32)), .val (.ref b2)] [(.ref a1), (.int (0 : Int32)), (.ref b2), (.int (0 : Int32)), (.ref a1)])) rfl rfl (hb hby d4_23) _ k) ?_
  rw [len_of S8 M8]
  show own_Fin p e below _ (T2.setTop (mkF m 24 #[.val (.ref a1), .val (.int (1 : Int32)), .val (.ref b2)] [(.int (4 : Int32)), (.int (0 : Int32)), (.ref b2), (.int (0 : Int32)), (.ref a1)]))
  refine own_go (fun t k => XS.iloadN X2.here hx rfl (hb hby d4_24) rfl  k) ?_
  show own_Fin p e below _ (T2.setTop (mkF m 25 #[.val (.ref a1), .val (.int (1 : Int32)), .val (.ref b2)] [(.int (1 : Int32)), (.int (4 : Int32)), (.int (0 : Int32)), (.ref b2), (.int (0 : Int32)), (.ref a1)]))
  obtain ⟨_, _, ⟨T9, L9, k9, n9⟩, -, X9, ⟨Lc9, hQ9, l9, y9, z9⟩, st9⟩ := Jvm.LawKit.callS X2 hx (y := (⟨"java/lang/Math", "min", "(II)I"⟩ : MethodName)) hown (mvT hZ hw_29) (mvT hZ hw_30) (mvT hZ hw_31) (mvT hZ hw_32) (by decide) (backOf (W := 4) (rm6 l Z a0 hw [] ((4 : Int32)) ((1 : Int32))  h2 n0 Zh6 ) hZ hw_32 hw_31 (by decide) (by decide)) (g := (mkF m 25 #[.val (.ref a1), .val (.int (1 : Int32)), .val (.ref b2)] [(.int (1 : Int32)), (.int (4 : Int32)), (.int (0 : Int32)), (.ref b2), (.int (0 : Int32)), (.ref a1)])) rfl (by rw [hml]; rfl) (argsL := [(.int (4 : Int32)), (.int (1 : Int32))]) (rest := [(.int (0 : Int32)), (.ref b2), (.int (0 : Int32)), (.ref a1)]) (lenOf pd_0 rfl) rfl (by show 2 * 0 + _ ≤ _; exact Nat.le_of_eq rfl) (hb hby d4_25) (fun _ _ => ⟨rfl, e2, (by decide : 1 + 0 ≤ _), (by decide : 1 + 0 ≤ _)⟩)
  dsimp only [Pt.U, Pt.locs, Pt.cells, Pt.slots] at X9 l9 y9 z9 st9 hQ9
  subst l9 y9 z9
  obtain ⟨rfl, N9q, e9⟩ := hQ9
  have N9 := Fr.app N0 N9q
  refine own_go st9 ?_
  show own_Fin p e below _ (T9.setTop (mkF m 28 #[.val (.ref a1), .val (.int (1 : Int32)), .val (.ref b2)] [(.int (1 : Int32)), (.int (0 : Int32)), (.ref b2), (.int (0 : Int32)), (.ref a1)]))
  obtain ⟨T10, h10, L10, X10, e10, N10, K10, V10, st10⟩ := cpA X9 hx hZ hown hw_33 hw_36 hw_34 hw_35 e9 f4 V2 (Or.inl ⟨rfl, rfl⟩) (sp := (0 : Int32)) (dp := (0 : Int32)) (nn := (1 : Int32)) (us := [(.int d0)]) (by decide) (by decide) (by decide) (by decide) (by decide) rfl (by decide) N9 g_b2 (g := (mkF m 28 #[.val (.ref a1), .val (.int (1 : Int32)), .val (.ref b2)] [(.int (1 : Int32)), (.int (0 : Int32)), (.ref b2), (.int (0 : Int32)), (.ref a1)])) rfl (by rw [hml]; rfl) rfl (hb hby d4_28) (by decide) (W := 0) (by show 2 * 0 + _ ≤ _; exact Nat.le_of_eq rfl) (by decide)
  have f11 := f4.keep K10 (ninS ne3 nin0)
  have f12 := f5.keep K10
  have f13 := Ea2.keep K10
  have Zh15 : n0 ≤ h10.size := Nat.le_trans Zh6 K10.1
  have K16 := K7.trans K10 (fun x hx => by cases List.mem_singleton.mp hx; exact Or.inr sz_b2)
  have f17 : Arv Z h10 b2 k2 .byte (1 : Int32) [(.int d0)] (.int (0 : Int32)) := V10
  refine own_go st10 ?_
  show own_Fin p e below _ (T10.setTop (mkF m 31 #[.val (.ref a1), .val (.int (1 : Int32)), .val (.ref b2)] []))
  refine own_go (fun t k => XS.aloadN X10.here hx rfl (hb hby d4_31) rfl rfl  k) ?_
  show own_Fin p e below _ (T10.setTop (mkF m 32 #[.val (.ref a1), .val (.int (1 : Int32)), .val (.ref b2)] [(.ref b2)]))
  exact own_out X10 (fun h => by rw [Bd.returns] at h; cases h) Bd.notSynchronized (fun fs hr => retOut X10 hx Bd.returns rfl (Or.inr (Or.inr (Or.inr (Or.inr ⟨rfl, rfl, rfl⟩)))) (hb hby d4_32) hr) (by rw [e10]; exact ⟨_, _, rfl, N10, sz_b2, K16, f17⟩) (by decide) (by decide)
theorem ef_4c42 (m : MethodId) (x0 : Addr) (x1 : Int32)  : entryFrame m #[(.ref x0), (.int x1)] 3 = mkF m 0 #[.val (.ref x0), .val (.int x1), .unset] [] := by first | (simp [entryFrame, mkF, argsToLocals, Value.category]; done) | rfl
def own_q4c42 (Z : State) (a1 : Addr) (k1 : ClassId) (d0 d1 d2 d3 : Int32) (h0 : Heap) (n0 : Nat) (v : Option Value) (h : Heap) (L : List Loc) : Prop := ∃ (a : Addr) (k : ClassId), v = some (.ref a) ∧ Fr n0 L ∧ h0.size ≤ a ∧ Keep h0 h [] ∧ Arv Z h a k .byte (2 : Int32) [(.int d0), (.int d1)] (.int (0 : Int32))
set_option maxRecDepth 65536 in
set_option maxHeartbeats 40000000 in
theorem rm4c42 (l : Launch) (Z : State) (a0 : Array Value) (hw : ∀ d ∈ tables_1, d.before a0 Z = true) (ws : List Jvm.Cond) (a1 : Addr) (k1 : ClassId) (d0 d1 d2 d3 : Int32) (h0 : Heap) (n0 : Nat) (Z0 : n0 ≤ h0.size) (V_1 : Arv Z h0 a1 k1 .byte (4 : Int32) [(.int d0), (.int d1), (.int d2), (.int d3)] (.int (0 : Int32))) (E_1 : Exa Z h0 a1 "[B") :
    MetFree l (⟨"java/util/Arrays", "copyOf", "([BI)[B"⟩ : MethodName) (head1 (Jvm.Cond.code (⟨"java/util/Arrays", "copyOf", "([BI)[B"⟩ : MethodName) jdk_65_method_121_code 3 (some (.array .byte)) :: ws) ({ frames := 1, cells := 1, slots := 2, locals := 18 } : Room)) (fun a U => a = #[(.ref a1), (.int (2 : Int32))] ∧ Z.Warmed39 U.vm ∧ U.heap = h0) (fun _ _ _ _ _ => True) (fun _ U o U' => ∃ v L, o = .returned v ∧ (own_q4c42 Z a1 k1 d0 d1 d2 d3 h0 n0) v U'.heap L ∧ FrameEnd U o U' L ({ frames := 1, cells := 1, slots := 2, locals := 18 } : Room).cells ({ frames := 1, cells := 1, slots := 2, locals := 18 } : Room).slots) := by
  refine MetFree.of_bodySF (plainFor_of_name pn_1) hisR ?_
  intro p e s m args below meth c s₁ Bd hml0 hP hK
  obtain ⟨rfl, hZ, hh⟩ := hP
  have hx := Bd.exec
  have hby := Bd.bytes
  have hml : c.maxLocals = 3 := hml0
  have hown : s.vm.findClass "java/util/Arrays" = some m.cls := findClass_of_methodNamed Bd.named
  have hnm := (name_of_methodNamed Bd.named Bd.method).1
  have X0 : Stand p l e ({ frames := 1, cells := 1, slots := 2, locals := 18 } : Room) s m #[(.ref a1), (.int (2 : Int32))] below meth c s₁ [] 0 0 := Stand.of_body Bd
  have e0 : s₁.heap = h0 := by rw [← hh, Bd.state]; rfl
  have N0 := Fr.nil n0
  have Kz := Keep.refl h0 []
  have hw_1 := hw _ (List.mem_of_getElem? (i := 1) rfl)
  have hw_29 := hw _ (List.mem_of_getElem? (i := 29) rfl)
  have hw_30 := hw _ (List.mem_of_getElem? (i := 30) rfl)
  have hw_31 := hw _ (List.mem_of_getElem? (i := 31) rfl)
  have hw_32 := hw _ (List.mem_of_getElem? (i := 32) rfl)
  have hw_33 := hw _ (List.mem_of_getElem? (i := 33) rfl)
  have hw_34 := hw _ (List.mem_of_getElem? (i := 34) rfl)
  have hw_35 := hw _ (List.mem_of_getElem? (i := 35) rfl)
  have hw_36 := hw _ (List.mem_of_getElem? (i := 36) rfl)
  show own_Fin p e below (own_A s ({ frames := 1, cells := 1, slots := 2, locals := 18 } : Room).cells ({ frames := 1, cells := 1, slots := 2, locals := 18 } : Room).slots (own_q4c42 Z a1 k1 d0 d1 d2 d3 h0 n0)) _
  refine own_go (fun t k => castTop (ef_4c42 m (a1) ((2 : Int32))) k) ?_
  show own_Fin p e below _ (s₁.setTop (mkF m 0 #[.val (.ref a1), .val (.int (2 : Int32)), .unset] []))
  refine own_go (fun t k => XS.iloadN X0.here hx rfl (hb hby d4_0) rfl  (XS.aloadN X0.here hx rfl (hb hby d4_1) rfl rfl  k)) ?_
  show own_Fin p e below _ (s₁.setTop (mkF m 2 #[.val (.ref a1), .val (.int (2 : Int32)), .unset] [(.ref a1), (.int (2 : Int32))]))
  obtain ⟨cl1, Ar1, q1, S1, M1, H1, G1⟩ := (id V_1)
  refine own_go (fun t k => X0.arraylength hx (by rw [e0]; exact Ar1.1) (State.isArrayOf_alike hZ.alike Ar1.2.1) (g := (mkF m 2 #[.val (.ref a1), .val (.int (2 : Int32)), .unset] [(.ref a1), (.int (2 : Int32))])) rfl rfl (hb hby d4_2) _ k) ?_
  rw [len_of S1 M1]
  show own_Fin p e below _ (s₁.setTop (mkF m 3 #[.val (.ref a1), .val (.int (2 : Int32)), .unset] [(.int (4 : Int32)), (.int (2 : Int32))]))
  refine own_go (fun t k => XS.icmpYes X0.here hx rfl (pc0 := 3) (pc' := 14) rfl (hb hby d4_3) rfl (feq (by decide : ¬ ((2 : Int32) = (4 : Int32)))).2 (by decide) (by decide) (XS.iloadN X0.here hx rfl (hb hby d4_14) rfl  k)) ?_
  show own_Fin p e below _ (s₁.setTop (mkF m 15 #[.val (.ref a1), .val (.int (2 : Int32)), .unset] [(.int (2 : Int32))]))
  obtain ⟨T2, h2, k2, X2, e2, E2, A2, Ea2, st2⟩ := newPE (aty := .byte) X0 hx hZ hw_1 e0 (g := (mkF m 15 #[.val (.ref a1), .val (.int (2 : Int32)), .unset] [(.int (2 : Int32))])) rfl (hb hby d4_15) rfl (by decide) (cap := 2) (by decide) (by decide) (by decide) (by decide) (ad := "[B") (by decide)
  obtain ⟨b2, g2⟩ : ∃ z, z = h0.size := ⟨_, rfl⟩
  rw [← g2] at A2 Ea2 st2
  have g_b2 : n0 ≤ b2 := Nat.le_trans Z0 (Nat.le_of_eq g2.symm)
  have sz_b2 : h0.size ≤ b2 := Nat.le_trans Kz.1 (Nat.le_of_eq g2.symm)
  have ne3 : a1 ≠ b2 := Nat.ne_of_lt (Nat.lt_of_lt_of_le V_1.lt (Nat.le_of_eq g2.symm))
  have f4 := V_1.ext E2
  have f5 := E_1.ext E2
  have Zh6 : n0 ≤ h2.size := Nat.le_trans Z0 E2.1
  have K7 := Kz.ext E2
  have V2 : Arv Z h2 b2 k2 .byte (2 : Int32) [(.int (0 : Int32)), (.int (0 : Int32))] (.int (0 : Int32)) := (Arv.new A2 (by decide)).pad (pad_rep [] (.int (0 : Int32)) 2)
  refine own_go st2 ?_
  show own_Fin p e below _ (T2.setTop (mkF m 17 #[.val (.ref a1), .val (.int (2 : Int32)), .unset] [(.ref b2)]))
  refine own_go (fun t k => XS.astoreN X2.here hx rfl (hb hby d4_17) rfl rfl (l' := #[.val (.ref a1), .val (.int (2 : Int32)), .val (.ref b2)]) rfl (XS.aloadN X2.here hx rfl (hb hby d4_18) rfl rfl  (XS.iconst X2.here hx rfl (hb hby d4_19) (XS.aloadN X2.here hx rfl (hb hby d4_20) rfl rfl  (XS.iconst X2.here hx rfl (hb hby d4_21) k))))) ?_
  show own_Fin p e below _ (T2.setTop (mkF m 22 #[.val (.ref a1), .val (.int (2 : Int32)), .val (.ref b2)] [(.int (0 : Int32)), (.ref b2), (.int (0 : Int32)), (.ref a1)]))
  refine own_go (fun t k => XS.aloadN X2.here hx rfl (hb hby d4_22) rfl rfl  k) ?_
  show own_Fin p e below _ (T2.setTop (mkF m 23 #[.val (.ref a1), .val (.int (2 : Int32)), .val (.ref b2)] [(.ref a1), (.int (0 : Int32)), (.ref b2), (.int (0 : Int32)), (.ref a1)]))
  obtain ⟨cl8, Ar8, q8, S8, M8, H8, G8⟩ := (id f4)
  refine own_go (fun t k => X2.arraylength hx (by rw [e2]; exact Ar8.1) (State.isArrayOf_alike hZ.alike Ar8.2.1) (g := (mkF m 23 #[.val (.ref a1), .val (.int (2 : Int32)), .val (.ref b2)] [(.ref a1), (.int (0 : Int32)), (.ref b2), (.int (0 : Int32)), (.ref a1)])) rfl rfl (hb hby d4_23) _ k) ?_
  rw [len_of S8 M8]
  show own_Fin p e below _ (T2.setTop (mkF m 24 #[.val (.ref a1), .val (.int (2 : Int32)), .val (.ref b2)] [(.int (4 : Int32)), (.int (0 : Int32)), (.ref b2), (.int (0 : Int32)), (.ref a1)]))
  refine own_go (fun t k => XS.iloadN X2.here hx rfl (hb hby d4_24) rfl  k) ?_
  show own_Fin p e below _ (T2.setTop (mkF m 25 #[.val (.ref a1), .val (.int (2 : Int32)), .val (.ref b2)] [(.int (2 : Int32)), (.int (4 : Int32)), (.int (0 : Int32)), (.ref b2), (.int (0 : Int32)), (.ref a1)]))
  obtain ⟨_, _, ⟨T9, L9, k9, n9⟩, -, X9, ⟨Lc9, hQ9, l9, y9, z9⟩, st9⟩ := Jvm.LawKit.callS X2 hx (y := (⟨"java/lang/Math", "min", "(II)I"⟩ : MethodName)) hown (mvT hZ hw_29) (mvT hZ hw_30) (mvT hZ hw_31) (mvT hZ hw_32) (by decide) (backOf (W := 4) (rm6 l Z a0 hw [] ((4 : Int32)) ((2 : Int32))  h2 n0 Zh6 ) hZ hw_32 hw_31 (by decide) (by decide)) (g := (mkF m 25 #[.val (.ref a1), .val (.int (2 : Int32)), .val (.ref b2)] [(.int (2 : Int32)), (.int (4 : Int32)), (.int (0 : Int32)), (.ref b2), (.int (0 : Int32)), (.ref a1)])) rfl (by rw [hml]; rfl) (argsL := [(.int (4 : Int32)), (.int (2 : Int32))]) (rest := [(.int (0 : Int32)), (.ref b2), (.int (0 : Int32)), (.ref a1)]) (lenOf pd_0 rfl) rfl (by show 2 * 0 + _ ≤ _; exact Nat.le_of_eq rfl) (hb hby d4_25) (fun _ _ => ⟨rfl, e2, (by decide : 1 + 0 ≤ _), (by decide : 2 + 0 ≤ _)⟩)
  dsimp only [Pt.U, Pt.locs, Pt.cells, Pt.slots] at X9 l9 y9 z9 st9 hQ9
  subst l9 y9 z9
  obtain ⟨rfl, N9q, e9⟩ := hQ9
  have N9 := Fr.app N0 N9q
  refine own_go st9 ?_
  show own_Fin p e below _ (T9.setTop (mkF m 28 #[.val (.ref a1), .val (.int (2 : Int32)), .val (.ref b2)] [(.int (2 : Int32)), (.int (0 : Int32)), (.ref b2), (.int (0 : Int32)), (.ref a1)]))
  obtain ⟨T10, h10, L10, X10, e10, N10, K10, V10, st10⟩ := cpA X9 hx hZ hown hw_33 hw_36 hw_34 hw_35 e9 f4 V2 (Or.inl ⟨rfl, rfl⟩) (sp := (0 : Int32)) (dp := (0 : Int32)) (nn := (2 : Int32)) (us := [(.int d0), (.int d1)]) (by decide) (by decide) (by decide) (by decide) (by decide) rfl (by decide) N9 g_b2 (g := (mkF m 28 #[.val (.ref a1), .val (.int (2 : Int32)), .val (.ref b2)] [(.int (2 : Int32)), (.int (0 : Int32)), (.ref b2), (.int (0 : Int32)), (.ref a1)])) rfl (by rw [hml]; rfl) rfl (hb hby d4_28) (by decide) (W := 0) (by show 2 * 0 + _ ≤ _; exact Nat.le_of_eq rfl) (by decide)
  have f11 := f4.keep K10 (ninS ne3 nin0)
  have f12 := f5.keep K10
  have f13 := Ea2.keep K10
  have Zh15 : n0 ≤ h10.size := Nat.le_trans Zh6 K10.1
  have K16 := K7.trans K10 (fun x hx => by cases List.mem_singleton.mp hx; exact Or.inr sz_b2)
  have f17 : Arv Z h10 b2 k2 .byte (2 : Int32) [(.int d0), (.int d1)] (.int (0 : Int32)) := V10
  refine own_go st10 ?_
  show own_Fin p e below _ (T10.setTop (mkF m 31 #[.val (.ref a1), .val (.int (2 : Int32)), .val (.ref b2)] []))
  refine own_go (fun t k => XS.aloadN X10.here hx rfl (hb hby d4_31) rfl rfl  k) ?_
  show own_Fin p e below _ (T10.setTop (mkF m 32 #[.val (.ref a1), .val (.int (2 : Int32)), .val (.ref b2)] [(.ref b2)]))
  exact own_out X10 (fun h => by rw [Bd.returns] at h; cases h) Bd.notSynchronized (fun fs hr => retOut X10 hx Bd.returns rfl (Or.inr (Or.inr (Or.inr (Or.inr ⟨rfl, rfl, rfl⟩)))) (hb hby d4_32) hr) (by rw [e10]; exact ⟨_, _, rfl, N10, sz_b2, K16, f17⟩) (by decide) (by decide)
theorem ef_4c43 (m : MethodId) (x0 : Addr) (x1 : Int32)  : entryFrame m #[(.ref x0), (.int x1)] 3 = mkF m 0 #[.val (.ref x0), .val (.int x1), .unset] [] := by first | (simp [entryFrame, mkF, argsToLocals, Value.category]; done) | rfl
def own_q4c43 (Z : State) (a1 : Addr) (k1 : ClassId) (d0 d1 d2 d3 : Int32) (h0 : Heap) (n0 : Nat) (v : Option Value) (h : Heap) (L : List Loc) : Prop := ∃ (a : Addr) (k : ClassId), v = some (.ref a) ∧ Fr n0 L ∧ h0.size ≤ a ∧ Keep h0 h [] ∧ Arv Z h a k .byte (3 : Int32) [(.int d0), (.int d1), (.int d2)] (.int (0 : Int32))
set_option maxRecDepth 65536 in
set_option maxHeartbeats 40000000 in
theorem rm4c43 (l : Launch) (Z : State) (a0 : Array Value) (hw : ∀ d ∈ tables_1, d.before a0 Z = true) (ws : List Jvm.Cond) (a1 : Addr) (k1 : ClassId) (d0 d1 d2 d3 : Int32) (h0 : Heap) (n0 : Nat) (Z0 : n0 ≤ h0.size) (V_1 : Arv Z h0 a1 k1 .byte (4 : Int32) [(.int d0), (.int d1), (.int d2), (.int d3)] (.int (0 : Int32))) (E_1 : Exa Z h0 a1 "[B") :
    MetFree l (⟨"java/util/Arrays", "copyOf", "([BI)[B"⟩ : MethodName) (head1 (Jvm.Cond.code (⟨"java/util/Arrays", "copyOf", "([BI)[B"⟩ : MethodName) jdk_65_method_121_code 3 (some (.array .byte)) :: ws) ({ frames := 1, cells := 1, slots := 3, locals := 18 } : Room)) (fun a U => a = #[(.ref a1), (.int (3 : Int32))] ∧ Z.Warmed39 U.vm ∧ U.heap = h0) (fun _ _ _ _ _ => True) (fun _ U o U' => ∃ v L, o = .returned v ∧ (own_q4c43 Z a1 k1 d0 d1 d2 d3 h0 n0) v U'.heap L ∧ FrameEnd U o U' L ({ frames := 1, cells := 1, slots := 3, locals := 18 } : Room).cells ({ frames := 1, cells := 1, slots := 3, locals := 18 } : Room).slots) := by
  refine MetFree.of_bodySF (plainFor_of_name pn_1) hisR ?_
  intro p e s m args below meth c s₁ Bd hml0 hP hK
  obtain ⟨rfl, hZ, hh⟩ := hP
  have hx := Bd.exec
  have hby := Bd.bytes
  have hml : c.maxLocals = 3 := hml0
  have hown : s.vm.findClass "java/util/Arrays" = some m.cls := findClass_of_methodNamed Bd.named
  have hnm := (name_of_methodNamed Bd.named Bd.method).1
  have X0 : Stand p l e ({ frames := 1, cells := 1, slots := 3, locals := 18 } : Room) s m #[(.ref a1), (.int (3 : Int32))] below meth c s₁ [] 0 0 := Stand.of_body Bd
  have e0 : s₁.heap = h0 := by rw [← hh, Bd.state]; rfl
  have N0 := Fr.nil n0
  have Kz := Keep.refl h0 []
  have hw_1 := hw _ (List.mem_of_getElem? (i := 1) rfl)
  have hw_29 := hw _ (List.mem_of_getElem? (i := 29) rfl)
  have hw_30 := hw _ (List.mem_of_getElem? (i := 30) rfl)
  have hw_31 := hw _ (List.mem_of_getElem? (i := 31) rfl)
  have hw_32 := hw _ (List.mem_of_getElem? (i := 32) rfl)
  have hw_33 := hw _ (List.mem_of_getElem? (i := 33) rfl)
  have hw_34 := hw _ (List.mem_of_getElem? (i := 34) rfl)
  have hw_35 := hw _ (List.mem_of_getElem? (i := 35) rfl)
  have hw_36 := hw _ (List.mem_of_getElem? (i := 36) rfl)
  show own_Fin p e below (own_A s ({ frames := 1, cells := 1, slots := 3, locals := 18 } : Room).cells ({ frames := 1, cells := 1, slots := 3, locals := 18 } : Room).slots (own_q4c43 Z a1 k1 d0 d1 d2 d3 h0 n0)) _
  refine own_go (fun t k => castTop (ef_4c43 m (a1) ((3 : Int32))) k) ?_
  show own_Fin p e below _ (s₁.setTop (mkF m 0 #[.val (.ref a1), .val (.int (3 : Int32)), .unset] []))
  refine own_go (fun t k => XS.iloadN X0.here hx rfl (hb hby d4_0) rfl  (XS.aloadN X0.here hx rfl (hb hby d4_1) rfl rfl  k)) ?_
  show own_Fin p e below _ (s₁.setTop (mkF m 2 #[.val (.ref a1), .val (.int (3 : Int32)), .unset] [(.ref a1), (.int (3 : Int32))]))
  obtain ⟨cl1, Ar1, q1, S1, M1, H1, G1⟩ := (id V_1)
  refine own_go (fun t k => X0.arraylength hx (by rw [e0]; exact Ar1.1) (State.isArrayOf_alike hZ.alike Ar1.2.1) (g := (mkF m 2 #[.val (.ref a1), .val (.int (3 : Int32)), .unset] [(.ref a1), (.int (3 : Int32))])) rfl rfl (hb hby d4_2) _ k) ?_
  rw [len_of S1 M1]
  show own_Fin p e below _ (s₁.setTop (mkF m 3 #[.val (.ref a1), .val (.int (3 : Int32)), .unset] [(.int (4 : Int32)), (.int (3 : Int32))]))
  refine own_go (fun t k => XS.icmpYes X0.here hx rfl (pc0 := 3) (pc' := 14) rfl (hb hby d4_3) rfl (feq (by decide : ¬ ((3 : Int32) = (4 : Int32)))).2 (by decide) (by decide) (XS.iloadN X0.here hx rfl (hb hby d4_14) rfl  k)) ?_
  show own_Fin p e below _ (s₁.setTop (mkF m 15 #[.val (.ref a1), .val (.int (3 : Int32)), .unset] [(.int (3 : Int32))]))
  obtain ⟨T2, h2, k2, X2, e2, E2, A2, Ea2, st2⟩ := newPE (aty := .byte) X0 hx hZ hw_1 e0 (g := (mkF m 15 #[.val (.ref a1), .val (.int (3 : Int32)), .unset] [(.int (3 : Int32))])) rfl (hb hby d4_15) rfl (by decide) (cap := 3) (by decide) (by decide) (by decide) (by decide) (ad := "[B") (by decide)
  obtain ⟨b2, g2⟩ : ∃ z, z = h0.size := ⟨_, rfl⟩
  rw [← g2] at A2 Ea2 st2
  have g_b2 : n0 ≤ b2 := Nat.le_trans Z0 (Nat.le_of_eq g2.symm)
  have sz_b2 : h0.size ≤ b2 := Nat.le_trans Kz.1 (Nat.le_of_eq g2.symm)
  have ne3 : a1 ≠ b2 := Nat.ne_of_lt (Nat.lt_of_lt_of_le V_1.lt (Nat.le_of_eq g2.symm))
  have f4 := V_1.ext E2
  have f5 := E_1.ext E2
  have Zh6 : n0 ≤ h2.size := Nat.le_trans Z0 E2.1
  have K7 := Kz.ext E2
  have V2 : Arv Z h2 b2 k2 .byte (3 : Int32) [(.int (0 : Int32)), (.int (0 : Int32)), (.int (0 : Int32))] (.int (0 : Int32)) := (Arv.new A2 (by decide)).pad (pad_rep [] (.int (0 : Int32)) 3)
  refine own_go st2 ?_
  show own_Fin p e below _ (T2.setTop (mkF m 17 #[.val (.ref a1), .val (.int (3 : Int32)), .unset] [(.ref b2)]))
  refine own_go (fun t k => XS.astoreN X2.here hx rfl (hb hby d4_17) rfl rfl (l' := #[.val (.ref a1), .val (.int (3 : Int32)), .val (.ref b2)]) rfl (XS.aloadN X2.here hx rfl (hb hby d4_18) rfl rfl  (XS.iconst X2.here hx rfl (hb hby d4_19) (XS.aloadN X2.here hx rfl (hb hby d4_20) rfl rfl  (XS.iconst X2.here hx rfl (hb hby d4_21) k))))) ?_
  show own_Fin p e below _ (T2.setTop (mkF m 22 #[.val (.ref a1), .val (.int (3 : Int32)), .val (.ref b2)] [(.int (0 : Int32)), (.ref b2), (.int (0 : Int32)), (.ref a1)]))
  refine own_go (fun t k => XS.aloadN X2.here hx rfl (hb hby d4_22) rfl rfl  k) ?_
  show own_Fin p e below _ (T2.setTop (mkF m 23 #[.val (.ref a1), .val (.int (3 : Int32)), .val (.ref b2)] [(.ref a1), (.int (0 : Int32)), (.ref b2), (.int (0 : Int32)), (.ref a1)]))
  obtain ⟨cl8, Ar8, q8, S8, M8, H8, G8⟩ := (id f4)
  refine own_go (fun t k => X2.arraylength hx (by rw [e2]; exact Ar8.1) (State.isArrayOf_alike hZ.alike Ar8.2.1) (g := (mkF m 23 #[.val (.ref a1), .val (.int (3 : Int32)), .val (.ref b2)] [(.ref a1), (.int (0 : Int32)), (.ref b2), (.int (0 : Int32)), (.ref a1)])) rfl rfl (hb hby d4_23) _ k) ?_
  rw [len_of S8 M8]
  show own_Fin p e below _ (T2.setTop (mkF m 24 #[.val (.ref a1), .val (.int (3 : Int32)), .val (.ref b2)] [(.int (4 : Int32)), (.int (0 : Int32)), (.ref b2), (.int (0 : Int32)), (.ref a1)]))
  refine own_go (fun t k => XS.iloadN X2.here hx rfl (hb hby d4_24) rfl  k) ?_
  show own_Fin p e below _ (T2.setTop (mkF m 25 #[.val (.ref a1), .val (.int (3 : Int32)), .val (.ref b2)] [(.int (3 : Int32)), (.int (4 : Int32)), (.int (0 : Int32)), (.ref b2), (.int (0 : Int32)), (.ref a1)]))
  obtain ⟨_, _, ⟨T9, L9, k9, n9⟩, -, X9, ⟨Lc9, hQ9, l9, y9, z9⟩, st9⟩ := Jvm.LawKit.callS X2 hx (y := (⟨"java/lang/Math", "min", "(II)I"⟩ : MethodName)) hown (mvT hZ hw_29) (mvT hZ hw_30) (mvT hZ hw_31) (mvT hZ hw_32) (by decide) (backOf (W := 4) (rm6 l Z a0 hw [] ((4 : Int32)) ((3 : Int32))  h2 n0 Zh6 ) hZ hw_32 hw_31 (by decide) (by decide)) (g := (mkF m 25 #[.val (.ref a1), .val (.int (3 : Int32)), .val (.ref b2)] [(.int (3 : Int32)), (.int (4 : Int32)), (.int (0 : Int32)), (.ref b2), (.int (0 : Int32)), (.ref a1)])) rfl (by rw [hml]; rfl) (argsL := [(.int (4 : Int32)), (.int (3 : Int32))]) (rest := [(.int (0 : Int32)), (.ref b2), (.int (0 : Int32)), (.ref a1)]) (lenOf pd_0 rfl) rfl (by show 2 * 0 + _ ≤ _; exact Nat.le_of_eq rfl) (hb hby d4_25) (fun _ _ => ⟨rfl, e2, (by decide : 1 + 0 ≤ _), (by decide : 3 + 0 ≤ _)⟩)
  dsimp only [Pt.U, Pt.locs, Pt.cells, Pt.slots] at X9 l9 y9 z9 st9 hQ9
  subst l9 y9 z9
  obtain ⟨rfl, N9q, e9⟩ := hQ9
  have N9 := Fr.app N0 N9q
  refine own_go st9 ?_
  show own_Fin p e below _ (T9.setTop (mkF m 28 #[.val (.ref a1), .val (.int (3 : Int32)), .val (.ref b2)] [(.int (3 : Int32)), (.int (0 : Int32)), (.ref b2), (.int (0 : Int32)), (.ref a1)]))
  obtain ⟨T10, h10, L10, X10, e10, N10, K10, V10, st10⟩ := cpA X9 hx hZ hown hw_33 hw_36 hw_34 hw_35 e9 f4 V2 (Or.inl ⟨rfl, rfl⟩) (sp := (0 : Int32)) (dp := (0 : Int32)) (nn := (3 : Int32)) (us := [(.int d0), (.int d1), (.int d2)]) (by decide) (by decide) (by decide) (by decide) (by decide) rfl (by decide) N9 g_b2 (g := (mkF m 28 #[.val (.ref a1), .val (.int (3 : Int32)), .val (.ref b2)] [(.int (3 : Int32)), (.int (0 : Int32)), (.ref b2), (.int (0 : Int32)), (.ref a1)])) rfl (by rw [hml]; rfl) rfl (hb hby d4_28) (by decide) (W := 0) (by show 2 * 0 + _ ≤ _; exact Nat.le_of_eq rfl) (by decide)
  have f11 := f4.keep K10 (ninS ne3 nin0)
  have f12 := f5.keep K10
  have f13 := Ea2.keep K10
  have Zh15 : n0 ≤ h10.size := Nat.le_trans Zh6 K10.1
  have K16 := K7.trans K10 (fun x hx => by cases List.mem_singleton.mp hx; exact Or.inr sz_b2)
  have f17 : Arv Z h10 b2 k2 .byte (3 : Int32) [(.int d0), (.int d1), (.int d2)] (.int (0 : Int32)) := V10
  refine own_go st10 ?_
  show own_Fin p e below _ (T10.setTop (mkF m 31 #[.val (.ref a1), .val (.int (3 : Int32)), .val (.ref b2)] []))
  refine own_go (fun t k => XS.aloadN X10.here hx rfl (hb hby d4_31) rfl rfl  k) ?_
  show own_Fin p e below _ (T10.setTop (mkF m 32 #[.val (.ref a1), .val (.int (3 : Int32)), .val (.ref b2)] [(.ref b2)]))
  exact own_out X10 (fun h => by rw [Bd.returns] at h; cases h) Bd.notSynchronized (fun fs hr => retOut X10 hx Bd.returns rfl (Or.inr (Or.inr (Or.inr (Or.inr ⟨rfl, rfl, rfl⟩)))) (hb hby d4_32) hr) (by rw [e10]; exact ⟨_, _, rfl, N10, sz_b2, K16, f17⟩) (by decide) (by decide)
theorem ef_4c44 (m : MethodId) (x0 : Addr) (x1 : Int32)  : entryFrame m #[(.ref x0), (.int x1)] 3 = mkF m 0 #[.val (.ref x0), .val (.int x1), .unset] [] := by first | (simp [entryFrame, mkF, argsToLocals, Value.category]; done) | rfl
def own_q4c44 (Z : State) (a1 : Addr) (k1 : ClassId) (d0 d1 d2 d3 : Int32) (h0 : Heap) (n0 : Nat) (v : Option Value) (h : Heap) (L : List Loc) : Prop := ∃ (a : Addr) (k : ClassId), v = some (.ref a) ∧ Fr n0 L ∧ h0.size ≤ a ∧ Keep h0 h [] ∧ Arv Z h a k .byte (4 : Int32) [(.int d0), (.int d1), (.int d2), (.int d3)] (.int (0 : Int32))
set_option maxRecDepth 65536 in
set_option maxHeartbeats 40000000 in
theorem rm4c44 (l : Launch) (Z : State) (a0 : Array Value) (hw : ∀ d ∈ tables_1, d.before a0 Z = true) (ws : List Jvm.Cond) (a1 : Addr) (k1 : ClassId) (d0 d1 d2 d3 : Int32) (h0 : Heap) (n0 : Nat) (Z0 : n0 ≤ h0.size) (V_1 : Arv Z h0 a1 k1 .byte (4 : Int32) [(.int d0), (.int d1), (.int d2), (.int d3)] (.int (0 : Int32))) (E_1 : Exa Z h0 a1 "[B") :
    MetFree l (⟨"java/util/Arrays", "copyOf", "([BI)[B"⟩ : MethodName) (head1 (Jvm.Cond.code (⟨"java/util/Arrays", "copyOf", "([BI)[B"⟩ : MethodName) jdk_65_method_121_code 3 (some (.array .byte)) :: ws) ({ frames := 1, cells := 1, slots := 4, locals := 14 } : Room)) (fun a U => a = #[(.ref a1), (.int (4 : Int32))] ∧ Z.Warmed39 U.vm ∧ U.heap = h0) (fun _ _ _ _ _ => True) (fun _ U o U' => ∃ v L, o = .returned v ∧ (own_q4c44 Z a1 k1 d0 d1 d2 d3 h0 n0) v U'.heap L ∧ FrameEnd U o U' L ({ frames := 1, cells := 1, slots := 4, locals := 14 } : Room).cells ({ frames := 1, cells := 1, slots := 4, locals := 14 } : Room).slots) := by
  refine MetFree.of_bodySF (plainFor_of_name pn_1) hisR ?_
  intro p e s m args below meth c s₁ Bd hml0 hP hK
  obtain ⟨rfl, hZ, hh⟩ := hP
  have hx := Bd.exec
  have hby := Bd.bytes
  have hml : c.maxLocals = 3 := hml0
  have hown : s.vm.findClass "java/util/Arrays" = some m.cls := findClass_of_methodNamed Bd.named
  have hnm := (name_of_methodNamed Bd.named Bd.method).1
  have X0 : Stand p l e ({ frames := 1, cells := 1, slots := 4, locals := 14 } : Room) s m #[(.ref a1), (.int (4 : Int32))] below meth c s₁ [] 0 0 := Stand.of_body Bd
  have e0 : s₁.heap = h0 := by rw [← hh, Bd.state]; rfl
  have N0 := Fr.nil n0
  have Kz := Keep.refl h0 []
  have hw_17 := hw _ (List.mem_of_getElem? (i := 17) rfl)
  have hw_18 := hw _ (List.mem_of_getElem? (i := 18) rfl)
  have hw_20 := hw _ (List.mem_of_getElem? (i := 20) rfl)
  have hw_21 := hw _ (List.mem_of_getElem? (i := 21) rfl)
  have hw_22 := hw _ (List.mem_of_getElem? (i := 22) rfl)
  have hw_23 := hw _ (List.mem_of_getElem? (i := 23) rfl)
  have hw_24 := hw _ (List.mem_of_getElem? (i := 24) rfl)
  show own_Fin p e below (own_A s ({ frames := 1, cells := 1, slots := 4, locals := 14 } : Room).cells ({ frames := 1, cells := 1, slots := 4, locals := 14 } : Room).slots (own_q4c44 Z a1 k1 d0 d1 d2 d3 h0 n0)) _
  refine own_go (fun t k => castTop (ef_4c44 m (a1) ((4 : Int32))) k) ?_
  show own_Fin p e below _ (s₁.setTop (mkF m 0 #[.val (.ref a1), .val (.int (4 : Int32)), .unset] []))
  refine own_go (fun t k => XS.iloadN X0.here hx rfl (hb hby d4_0) rfl  (XS.aloadN X0.here hx rfl (hb hby d4_1) rfl rfl  k)) ?_
  show own_Fin p e below _ (s₁.setTop (mkF m 2 #[.val (.ref a1), .val (.int (4 : Int32)), .unset] [(.ref a1), (.int (4 : Int32))]))
  obtain ⟨cl1, Ar1, q1, S1, M1, H1, G1⟩ := (id V_1)
  refine own_go (fun t k => X0.arraylength hx (by rw [e0]; exact Ar1.1) (State.isArrayOf_alike hZ.alike Ar1.2.1) (g := (mkF m 2 #[.val (.ref a1), .val (.int (4 : Int32)), .unset] [(.ref a1), (.int (4 : Int32))])) rfl rfl (hb hby d4_2) _ k) ?_
  rw [len_of S1 M1]
  show own_Fin p e below _ (s₁.setTop (mkF m 3 #[.val (.ref a1), .val (.int (4 : Int32)), .unset] [(.int (4 : Int32)), (.int (4 : Int32))]))
  refine own_go (fun t k => XS.icmpNo X0.here hx rfl (hb hby d4_3) rfl (teq (by decide : (4 : Int32) = (4 : Int32))).2 (XS.aloadN X0.here hx rfl (hb hby d4_6) rfl rfl  k)) ?_
  show own_Fin p e below _ (s₁.setTop (mkF m 7 #[.val (.ref a1), .val (.int (4 : Int32)), .unset] [(.ref a1)]))
  obtain ⟨T2, h2, X2, e2, E2, V2, A2, st2⟩ := cloneH X0 hx hZ hown hw_17 hw_18 hw_22 hw_20 hw_21 hw_23 e0 (Arv.arh V_1) E_1 (g := (mkF m 7 #[.val (.ref a1), .val (.int (4 : Int32)), .unset] [(.ref a1)])) rfl (by rw [hml]; rfl) rfl (hb hby d4_7) (by decide) (W := 0) (by show 2 * 0 + _ ≤ _; exact Nat.le_of_eq rfl) (by decide) (cap := 4) (by decide) (by decide) (by decide)
  obtain ⟨b2, g2⟩ : ∃ z, z = h0.size := ⟨_, rfl⟩
  rw [← g2] at A2 V2 st2
  have g_b2 : n0 ≤ b2 := Nat.le_trans Z0 (Nat.le_of_eq g2.symm)
  have sz_b2 : h0.size ≤ b2 := Nat.le_trans Kz.1 (Nat.le_of_eq g2.symm)
  have ne3 : a1 ≠ b2 := Nat.ne_of_lt (Nat.lt_of_lt_of_le V_1.lt (Nat.le_of_eq g2.symm))
  have f4 := V_1.ext E2
  have f5 := E_1.ext E2
  have Zh6 : n0 ≤ h2.size := Nat.le_trans Z0 E2.1
  have K7 := Kz.ext E2
  have Vc2 : Arv Z h2 b2 k1 .byte (4 : Int32) [(.int d0), (.int d1), (.int d2), (.int d3)] (.int (0 : Int32)) := V2
  refine own_go st2 ?_
  show own_Fin p e below _ (T2.setTop (mkF m 10 #[.val (.ref a1), .val (.int (4 : Int32)), .unset] [(.ref b2)]))
  obtain ⟨T8, X8, e8, st8⟩ := castY X2 hx hZ hown hw_24 e2 (Ins.self A2) (g := (mkF m 10 #[.val (.ref a1), .val (.int (4 : Int32)), .unset] [(.ref b2)])) rfl rfl (hb hby d4_10)
  refine own_go st8 ?_
  show own_Fin p e below _ (T8.setTop (mkF m 13 #[.val (.ref a1), .val (.int (4 : Int32)), .unset] [(.ref b2)]))
  exact own_out X8 (fun h => by rw [Bd.returns] at h; cases h) Bd.notSynchronized (fun fs hr => retOut X8 hx Bd.returns rfl (Or.inr (Or.inr (Or.inr (Or.inr ⟨rfl, rfl, rfl⟩)))) (hb hby d4_13) hr) (by rw [e8]; exact ⟨_, _, rfl, N0, sz_b2, K7, Vc2⟩) (by decide) (by decide)
theorem d2_0 : decode prog_64_method_8_code 0 = .ok (.aload_n 0, 1) := by decide +kernel
theorem d2_1 : decode prog_64_method_8_code 1 = .ok (.arraylength, 1) := by decide +kernel
theorem d2_2 : decode prog_64_method_8_code 2 = .ok (.iconst 1, 1) := by decide +kernel
theorem d2_3 : decode prog_64_method_8_code 3 = .ok (.isub, 1) := by decide +kernel
theorem d2_4 : decode prog_64_method_8_code 4 = .ok (.istore_n 1, 1) := by decide +kernel
theorem d2_5 : decode prog_64_method_8_code 5 = .ok (.iload_n 1, 1) := by decide +kernel
theorem d2_6 : decode prog_64_method_8_code 6 = .ok (.ifCond .lt 16, 3) := by decide +kernel
theorem d2_22 : decode prog_64_method_8_code 22 = .ok (.iload_n 1, 1) := by decide +kernel
theorem d2_23 : decode prog_64_method_8_code 23 = .ok (.ifCond .ge 5, 3) := by decide +kernel
theorem d2_26 : decode prog_64_method_8_code 26 = .ok (.aconst_null, 1) := by decide +kernel
theorem d2_27 : decode prog_64_method_8_code 27 = .ok (.areturn, 1) := by decide +kernel
theorem pn_2 : plainName "com/example/keyslice/keyslice/storage/KeyRange" = true := by first | (simp [plainName, overriddenIn]; done) | decide +kernel
theorem ef_2r00 (m : MethodId) (x0 : Addr)  : entryFrame m #[(.ref x0)] 3 = mkF m 0 #[.val (.ref x0), .unset, .unset] [] := by first | (simp [entryFrame, mkF, argsToLocals, Value.category]; done) | rfl
set_option maxRecDepth 65536 in
set_option maxHeartbeats 40000000 in
theorem rm2r00 (l : Launch) (Z : State) (a0 : Array Value) (hw : ∀ d ∈ tables_1, d.before a0 Z = true) (ws : List Jvm.Cond) (a1 : Addr) (k1 : ClassId) (h0 : Heap) (n0 : Nat) (Z0 : n0 ≤ h0.size) (V_1 : Arv Z h0 a1 k1 .byte (0 : Int32) [] (.int (0 : Int32))) (E_1 : Exa Z h0 a1 "[B") :
    MetFree l (⟨"com/example/keyslice/keyslice/storage/KeyRange", "after", "([B)[B"⟩ : MethodName) (head1 (Jvm.Cond.code (⟨"com/example/keyslice/keyslice/storage/KeyRange", "after", "([B)[B"⟩ : MethodName) prog_64_method_8_code 3 (some (.array .byte)) :: ws) ({ frames := 0, cells := 0, slots := 0, locals := 0 } : Room)) (fun a U => a = #[(.ref a1)] ∧ Z.Warmed39 U.vm ∧ U.heap = h0) (fun _ _ _ _ _ => True) (fun _ U o U' => ∃ v L, o = .returned v ∧ (own_P h0 n0 .null) v U'.heap L ∧ FrameEnd U o U' L ({ frames := 0, cells := 0, slots := 0, locals := 0 } : Room).cells ({ frames := 0, cells := 0, slots := 0, locals := 0 } : Room).slots) := by
  refine MetFree.of_bodySF (plainFor_of_name pn_2) hisR ?_
  intro p e s m args below meth c s₁ Bd hml0 hP hK
  obtain ⟨rfl, hZ, hh⟩ := hP
  have hx := Bd.exec
  have hby := Bd.bytes
  have hml : c.maxLocals = 3 := hml0
  have hown : s.vm.findClass "com/example/keyslice/keyslice/storage/KeyRange" = some m.cls := findClass_of_methodNamed Bd.named
  have hnm := (name_of_methodNamed Bd.named Bd.method).1
  have X0 : Stand p l e ({ frames := 0, cells := 0, slots := 0, locals := 0 } : Room) s m #[(.ref a1)] below meth c s₁ [] 0 0 := Stand.of_body Bd
  have e0 : s₁.heap = h0 := by rw [← hh, Bd.state]; rfl
  have N0 := Fr.nil n0
  show own_Fin p e below (own_A s ({ frames := 0, cells := 0, slots := 0, locals := 0 } : Room).cells ({ frames := 0, cells := 0, slots := 0, locals := 0 } : Room).slots (own_P h0 n0 .null)) _
  refine own_go (fun t k => castTop (ef_2r00 m (a1)) k) ?_
  show own_Fin p e below _ (s₁.setTop (mkF m 0 #[.val (.ref a1), .unset, .unset] []))
  refine own_go (fun t k => XS.aloadN X0.here hx rfl (hb hby d2_0) rfl rfl  k) ?_
  show own_Fin p e below _ (s₁.setTop (mkF m 1 #[.val (.ref a1), .unset, .unset] [(.ref a1)]))
  obtain ⟨cl1, Ar1, q1, S1, M1, H1, G1⟩ := (id V_1)
  refine own_go (fun t k => X0.arraylength hx (by rw [e0]; exact Ar1.1) (State.isArrayOf_alike hZ.alike Ar1.2.1) (g := (mkF m 1 #[.val (.ref a1), .unset, .unset] [(.ref a1)])) rfl rfl (hb hby d2_1) _ k) ?_
  rw [len_of S1 M1]
  show own_Fin p e below _ (s₁.setTop (mkF m 2 #[.val (.ref a1), .unset, .unset] [(.int (0 : Int32))]))
  refine own_go (fun t k => XS.iconst X0.here hx rfl (hb hby d2_2) (XS.isub X0.here hx rfl (hb hby d2_3) rfl (XS.istoreN X0.here hx rfl (hb hby d2_4) rfl (l' := #[.val (.ref a1), .val (.int (-1 : Int32)), .unset]) rfl (XS.iloadN X0.here hx rfl (hb hby d2_5) rfl  k)))) ?_
  show own_Fin p e below _ (s₁.setTop (mkF m 6 #[.val (.ref a1), .val (.int (-1 : Int32)), .unset] [(.int (-1 : Int32))]))
  refine own_go (fun t k => XS.ifYes X0.here hx rfl (pc0 := 6) (pc' := 22) rfl (hb hby d2_6) rfl ((if0 _ _).trans (tlt (by decide : (-1 : Int32) < (0 : Int32))).1) (by decide) (by decide) (XS.iloadN X0.here hx rfl (hb hby d2_22) rfl  k)) ?_
  show own_Fin p e below _ (s₁.setTop (mkF m 23 #[.val (.ref a1), .val (.int (-1 : Int32)), .unset] [(.int (-1 : Int32))]))
  refine own_go (fun t k => XS.ifNo X0.here hx rfl (hb hby d2_23) rfl ((if0 _ _).trans (tlt (by decide : (-1 : Int32) < (0 : Int32))).2.1) (XS.aconstNull X0.here hx rfl (hb hby d2_26) k)) ?_
  show own_Fin p e below _ (s₁.setTop (mkF m 27 #[.val (.ref a1), .val (.int (-1 : Int32)), .unset] [.null]))
  exact own_out X0 (fun h => by rw [Bd.returns] at h; cases h) Bd.notSynchronized (fun fs hr => retOut X0 hx Bd.returns rfl (Or.inr (Or.inr (Or.inr (Or.inr ⟨rfl, rfl, rfl⟩)))) (hb hby d2_27) hr) ⟨rfl, N0, e0⟩ (by decide) (by decide)
theorem d2_9 : decode prog_64_method_8_code 9 = .ok (.aload_n 0, 1) := by decide +kernel
theorem d2_10 : decode prog_64_method_8_code 10 = .ok (.iload_n 1, 1) := by decide +kernel
theorem d2_11 : decode prog_64_method_8_code 11 = .ok (.baload, 1) := by decide +kernel
theorem d2_12 : decode prog_64_method_8_code 12 = .ok (.iconst (-1), 1) := by decide +kernel
theorem d2_13 : decode prog_64_method_8_code 13 = .ok (.if_icmp .ne 9, 3) := by decide +kernel
theorem d2_16 : decode prog_64_method_8_code 16 = .ok (.iinc 1 (-1), 3) := by decide +kernel
theorem d2_19 : decode prog_64_method_8_code 19 = .ok (.goto (-14), 3) := by decide +kernel
theorem ef_2r10 (m : MethodId) (x0 : Addr)  : entryFrame m #[(.ref x0)] 3 = mkF m 0 #[.val (.ref x0), .unset, .unset] [] := by first | (simp [entryFrame, mkF, argsToLocals, Value.category]; done) | rfl
set_option maxRecDepth 65536 in
set_option maxHeartbeats 40000000 in
theorem rm2r10 (l : Launch) (Z : State) (a0 : Array Value) (hw : ∀ d ∈ tables_1, d.before a0 Z = true) (ws : List Jvm.Cond) (a1 : Addr) (k1 : ClassId) (d0 : Int32) (h0 : Heap) (n0 : Nat) (Z0 : n0 ≤ h0.size) (V_1 : Arv Z h0 a1 k1 .byte (1 : Int32) [(.int d0)] (.int (0 : Int32))) (E_1 : Exa Z h0 a1 "[B") (hy0 : d0 = (-1 : Int32)) :
    MetFree l (⟨"com/example/keyslice/keyslice/storage/KeyRange", "after", "([B)[B"⟩ : MethodName) (head1 (Jvm.Cond.code (⟨"com/example/keyslice/keyslice/storage/KeyRange", "after", "([B)[B"⟩ : MethodName) prog_64_method_8_code 3 (some (.array .byte)) :: ws) ({ frames := 0, cells := 0, slots := 0, locals := 0 } : Room)) (fun a U => a = #[(.ref a1)] ∧ Z.Warmed39 U.vm ∧ U.heap = h0) (fun _ _ _ _ _ => True) (fun _ U o U' => ∃ v L, o = .returned v ∧ (own_P h0 n0 .null) v U'.heap L ∧ FrameEnd U o U' L ({ frames := 0, cells := 0, slots := 0, locals := 0 } : Room).cells ({ frames := 0, cells := 0, slots := 0, locals := 0 } : Room).slots) := by
  refine MetFree.of_bodySF (plainFor_of_name pn_2) hisR ?_
  intro p e s m args below meth c s₁ Bd hml0 hP hK
  obtain ⟨rfl, hZ, hh⟩ := hP
  have hx := Bd.exec
  have hby := Bd.bytes
  have hml : c.maxLocals = 3 := hml0
  have hown : s.vm.findClass "com/example/keyslice/keyslice/storage/KeyRange" = some m.cls := findClass_of_methodNamed Bd.named
  have hnm := (name_of_methodNamed Bd.named Bd.method).1
  have X0 : Stand p l e ({ frames := 0, cells := 0, slots := 0, locals := 0 } : Room) s m #[(.ref a1)] below meth c s₁ [] 0 0 := Stand.of_body Bd
  have e0 : s₁.heap = h0 := by rw [← hh, Bd.state]; rfl
  have N0 := Fr.nil n0
  show own_Fin p e below (own_A s ({ frames := 0, cells := 0, slots := 0, locals := 0 } : Room).cells ({ frames := 0, cells := 0, slots := 0, locals := 0 } : Room).slots (own_P h0 n0 .null)) _
  refine own_go (fun t k => castTop (ef_2r10 m (a1)) k) ?_
  show own_Fin p e below _ (s₁.setTop (mkF m 0 #[.val (.ref a1), .unset, .unset] []))
  refine own_go (fun t k => XS.aloadN X0.here hx rfl (hb hby d2_0) rfl rfl  k) ?_
  show own_Fin p e below _ (s₁.setTop (mkF m 1 #[.val (.ref a1), .unset, .unset] [(.ref a1)]))
  obtain ⟨cl1, Ar1, q1, S1, M1, H1, G1⟩ := (id V_1)
  refine own_go (fun t k => X0.arraylength hx (by rw [e0]; exact Ar1.1) (State.isArrayOf_alike hZ.alike Ar1.2.1) (g := (mkF m 1 #[.val (.ref a1), .unset, .unset] [(.ref a1)])) rfl rfl (hb hby d2_1) _ k) ?_
  rw [len_of S1 M1]
  show own_Fin p e below _ (s₁.setTop (mkF m 2 #[.val (.ref a1), .unset, .unset] [(.int (1 : Int32))]))
  refine own_go (fun t k => XS.iconst X0.here hx rfl (hb hby d2_2) (XS.isub X0.here hx rfl (hb hby d2_3) rfl (XS.istoreN X0.here hx rfl (hb hby d2_4) rfl (l' := #[.val (.ref a1), .val (.int (0 : Int32)), .unset]) rfl (XS.iloadN X0.here hx rfl (hb hby d2_5) rfl  k)))) ?_
  show own_Fin p e below _ (s₁.setTop (mkF m 6 #[.val (.ref a1), .val (.int (0 : Int32)), .unset] [(.int (0 : Int32))]))
  refine own_go (fun t k => XS.ifNo X0.here hx rfl (hb hby d2_6) rfl ((if0 _ _).trans (flt (by decide : ¬ ((0 : Int32) < (0 : Int32)))).1) (XS.aloadN X0.here hx rfl (hb hby d2_9) rfl rfl  (XS.iloadN X0.here hx rfl (hb hby d2_10) rfl  k))) ?_
  show own_Fin p e below _ (s₁.setTop (mkF m 11 #[.val (.ref a1), .val (.int (0 : Int32)), .unset] [(.int (0 : Int32)), (.ref a1)]))
  obtain ⟨cl2, Ar2, q2, S2, M2, H2, G2⟩ := (id V_1)
  have hin2 : ¬ ((0 : Int32) < 0 ∨ cl2.slots.size ≤ ((0 : Int32)).toNatClampNeg) := inb_of S2 ⟨by decide, by decide⟩
  have hat2 : cl2.slots[((0 : Int32)).toNatClampNeg]? = some (.int d0) := H2.at hin2 rfl
  refine own_go (fun t k => X0.baloadBytes hx (j := (0 : Int32)) (v := (.int d0)) (by rw [e0]; exact Ar2.1) (State.isArrayOf_alike hZ.alike Ar2.2.1) Ar2.2.2 hin2 hat2 (g := (mkF m 11 #[.val (.ref a1), .val (.int (0 : Int32)), .unset] [(.int (0 : Int32)), (.ref a1)])) rfl rfl (hb hby d2_11) _ (XS.iconst X0.here hx rfl (hb hby d2_12) k)) ?_
  show own_Fin p e below _ (s₁.setTop (mkF m 13 #[.val (.ref a1), .val (.int (0 : Int32)), .unset] [(.int (-1 : Int32)), (.int d0)]))
  refine own_go (fun t k => XS.icmpNo X0.here hx rfl (hb hby d2_13) rfl (teq hy0).2 (XS.iinc X0.here hx rfl (hb hby d2_16) rfl (l' := #[.val (.ref a1), .val (.int (-1 : Int32)), .unset]) rfl (XS.goto X0.here hx rfl (pc0 := 19) (pc' := 5) rfl (hb hby d2_19) (by decide) (by decide) (XS.iloadN X0.here hx rfl (hb hby d2_5) rfl  k)))) ?_
  show own_Fin p e below _ (s₁.setTop (mkF m 6 #[.val (.ref a1), .val (.int (-1 : Int32)), .unset] [(.int (-1 : Int32))]))
  refine own_go (fun t k => XS.ifYes X0.here hx rfl (pc0 := 6) (pc' := 22) rfl (hb hby d2_6) rfl ((if0 _ _).trans (tlt (by decide : (-1 : Int32) < (0 : Int32))).1) (by decide) (by decide) (XS.iloadN X0.here hx rfl (hb hby d2_22) rfl  k)) ?_
  show own_Fin p e below _ (s₁.setTop (mkF m 23 #[.val (.ref a1), .val (.int (-1 : Int32)), .unset] [(.int (-1 : Int32))]))
  refine own_go (fun t k => XS.ifNo X0.here hx rfl (hb hby d2_23) rfl ((if0 _ _).trans (tlt (by decide : (-1 : Int32) < (0 : Int32))).2.1) (XS.aconstNull X0.here hx rfl (hb hby d2_26) k)) ?_
  show own_Fin p e below _ (s₁.setTop (mkF m 27 #[.val (.ref a1), .val (.int (-1 : Int32)), .unset] [.null]))
  exact own_out X0 (fun h => by rw [Bd.returns] at h; cases h) Bd.notSynchronized (fun fs hr => retOut X0 hx Bd.returns rfl (Or.inr (Or.inr (Or.inr (Or.inr ⟨rfl, rfl, rfl⟩)))) (hb hby d2_27) hr) ⟨rfl, N0, e0⟩ (by decide) (by decide)
theorem pd_1 : parseMethodDescriptor "([BI)[B" = some ⟨[(.array .byte), .int], some (.array .byte)⟩ := by decide +kernel
theorem d2_28 : decode prog_64_method_8_code 28 = .ok (.aload_n 0, 1) := by decide +kernel
theorem d2_29 : decode prog_64_method_8_code 29 = .ok (.iload_n 1, 1) := by decide +kernel
theorem d2_30 : decode prog_64_method_8_code 30 = .ok (.iconst 1, 1) := by decide +kernel
theorem d2_31 : decode prog_64_method_8_code 31 = .ok (.iadd, 1) := by decide +kernel
theorem d2_32 : decode prog_64_method_8_code 32 = .ok (.invokestatic 84, 3) := by decide +kernel
theorem d2_35 : decode prog_64_method_8_code 35 = .ok (.astore_n 2, 1) := by decide +kernel
theorem d2_36 : decode prog_64_method_8_code 36 = .ok (.aload_n 2, 1) := by decide +kernel
theorem d2_37 : decode prog_64_method_8_code 37 = .ok (.iload_n 1, 1) := by decide +kernel
theorem d2_38 : decode prog_64_method_8_code 38 = .ok (.dup2, 1) := by decide +kernel
theorem d2_39 : decode prog_64_method_8_code 39 = .ok (.baload, 1) := by decide +kernel
theorem d2_40 : decode prog_64_method_8_code 40 = .ok (.iconst 1, 1) := by decide +kernel
theorem d2_41 : decode prog_64_method_8_code 41 = .ok (.iadd, 1) := by decide +kernel
theorem d2_42 : decode prog_64_method_8_code 42 = .ok (.i2b, 1) := by decide +kernel
theorem d2_43 : decode prog_64_method_8_code 43 = .ok (.bastore, 1) := by decide +kernel
theorem d2_44 : decode prog_64_method_8_code 44 = .ok (.aload_n 2, 1) := by decide +kernel
theorem d2_45 : decode prog_64_method_8_code 45 = .ok (.areturn, 1) := by decide +kernel
theorem ef_2r11 (m : MethodId) (x0 : Addr)  : entryFrame m #[(.ref x0)] 3 = mkF m 0 #[.val (.ref x0), .unset, .unset] [] := by first | (simp [entryFrame, mkF, argsToLocals, Value.category]; done) | rfl
def own_q2r11 (Z : State) (a1 : Addr) (k1 : ClassId) (d0 : Int32) (h0 : Heap) (n0 : Nat) (v : Option Value) (h : Heap) (L : List Loc) : Prop := ∃ (a : Addr) (k : ClassId), v = some (.ref a) ∧ Fr n0 L ∧ h0.size ≤ a ∧ Keep h0 h [] ∧ Arv Z h a k .byte (1 : Int32) [(.int (nar .byte (((d0 + (1 : Int32)).toInt8.toInt32))))] (.int (0 : Int32))
set_option maxRecDepth 65536 in
set_option maxHeartbeats 40000000 in
theorem rm2r11 (l : Launch) (Z : State) (a0 : Array Value) (hw : ∀ d ∈ tables_1, d.before a0 Z = true) (ws : List Jvm.Cond) (a1 : Addr) (k1 : ClassId) (d0 : Int32) (h0 : Heap) (n0 : Nat) (Z0 : n0 ≤ h0.size) (V_1 : Arv Z h0 a1 k1 .byte (1 : Int32) [(.int d0)] (.int (0 : Int32))) (E_1 : Exa Z h0 a1 "[B") (hn0 : ¬ d0 = (-1 : Int32)) :
    MetFree l (⟨"com/example/keyslice/keyslice/storage/KeyRange", "after", "([B)[B"⟩ : MethodName) (head1 (Jvm.Cond.code (⟨"com/example/keyslice/keyslice/storage/KeyRange", "after", "([B)[B"⟩ : MethodName) prog_64_method_8_code 3 (some (.array .byte)) :: ws) ({ frames := 2, cells := 1, slots := 1, locals := 28 } : Room)) (fun a U => a = #[(.ref a1)] ∧ Z.Warmed39 U.vm ∧ U.heap = h0) (fun _ _ _ _ _ => True) (fun _ U o U' => ∃ v L, o = .returned v ∧ (own_q2r11 Z a1 k1 d0 h0 n0) v U'.heap L ∧ FrameEnd U o U' L ({ frames := 2, cells := 1, slots := 1, locals := 28 } : Room).cells ({ frames := 2, cells := 1, slots := 1, locals := 28 } : Room).slots) := by
  refine MetFree.of_bodySF (plainFor_of_name pn_2) hisR ?_
  intro p e s m args below meth c s₁ Bd hml0 hP hK
  obtain ⟨rfl, hZ, hh⟩ := hP
  have hx := Bd.exec
  have hby := Bd.bytes
  have hml : c.maxLocals = 3 := hml0
  have hown : s.vm.findClass "com/example/keyslice/keyslice/storage/KeyRange" = some m.cls := findClass_of_methodNamed Bd.named
  have hnm := (name_of_methodNamed Bd.named Bd.method).1
  have X0 : Stand p l e ({ frames := 2, cells := 1, slots := 1, locals := 28 } : Room) s m #[(.ref a1)] below meth c s₁ [] 0 0 := Stand.of_body Bd
  have e0 : s₁.heap = h0 := by rw [← hh, Bd.state]; rfl
  have N0 := Fr.nil n0
  have Kz := Keep.refl h0 []
  have hw_13 := hw _ (List.mem_of_getElem? (i := 13) rfl)
  have hw_14 := hw _ (List.mem_of_getElem? (i := 14) rfl)
  have hw_15 := hw _ (List.mem_of_getElem? (i := 15) rfl)
  have hw_16 := hw _ (List.mem_of_getElem? (i := 16) rfl)
  show own_Fin p e below (own_A s ({ frames := 2, cells := 1, slots := 1, locals := 28 } : Room).cells ({ frames := 2, cells := 1, slots := 1, locals := 28 } : Room).slots (own_q2r11 Z a1 k1 d0 h0 n0)) _
  refine own_go (fun t k => castTop (ef_2r11 m (a1)) k) ?_
  show own_Fin p e below _ (s₁.setTop (mkF m 0 #[.val (.ref a1), .unset, .unset] []))
  refine own_go (fun t k => XS.aloadN X0.here hx rfl (hb hby d2_0) rfl rfl  k) ?_
  show own_Fin p e below _ (s₁.setTop (mkF m 1 #[.val (.ref a1), .unset, .unset] [(.ref a1)]))
  obtain ⟨cl1, Ar1, q1, S1, M1, H1, G1⟩ := (id V_1)
  refine own_go (fun t k => X0.arraylength hx (by rw [e0]; exact Ar1.1) (State.isArrayOf_alike hZ.alike Ar1.2.1) (g := (mkF m 1 #[.val (.ref a1), .unset, .unset] [(.ref a1)])) rfl rfl (hb hby d2_1) _ k) ?_
  rw [len_of S1 M1]
  show own_Fin p e below _ (s₁.setTop (mkF m 2 #[.val (.ref a1), .unset, .unset] [(.int (1 : Int32))]))
  refine own_go (fun t k => XS.iconst X0.here hx rfl (hb hby d2_2) (XS.isub X0.here hx rfl (hb hby d2_3) rfl (XS.istoreN X0.here hx rfl (hb hby d2_4) rfl (l' := #[.val (.ref a1), .val (.int (0 : Int32)), .unset]) rfl (XS.iloadN X0.here hx rfl (hb hby d2_5) rfl  k)))) ?_
  show own_Fin p e below _ (s₁.setTop (mkF m 6 #[.val (.ref a1), .val (.int (0 : Int32)), .unset] [(.int (0 : Int32))]))
  refine own_go (fun t k => XS.ifNo X0.here hx rfl (hb hby d2_6) rfl ((if0 _ _).trans (flt (by decide : ¬ ((0 : Int32) < (0 : Int32)))).1) (XS.aloadN X0.here hx rfl (hb hby d2_9) rfl rfl  (XS.iloadN X0.here hx rfl (hb hby d2_10) rfl  k))) ?_
  show own_Fin p e below _ (s₁.setTop (mkF m 11 #[.val (.ref a1), .val (.int (0 : Int32)), .unset] [(.int (0 : Int32)), (.ref a1)]))
  obtain ⟨cl2, Ar2, q2, S2, M2, H2, G2⟩ := (id V_1)
  have hin2 : ¬ ((0 : Int32) < 0 ∨ cl2.slots.size ≤ ((0 : Int32)).toNatClampNeg) := inb_of S2 ⟨by decide, by decide⟩
  have hat2 : cl2.slots[((0 : Int32)).toNatClampNeg]? = some (.int d0) := H2.at hin2 rfl
  refine own_go (fun t k => X0.baloadBytes hx (j := (0 : Int32)) (v := (.int d0)) (by rw [e0]; exact Ar2.1) (State.isArrayOf_alike hZ.alike Ar2.2.1) Ar2.2.2 hin2 hat2 (g := (mkF m 11 #[.val (.ref a1), .val (.int (0 : Int32)), .unset] [(.int (0 : Int32)), (.ref a1)])) rfl rfl (hb hby d2_11) _ (XS.iconst X0.here hx rfl (hb hby d2_12) k)) ?_
  show own_Fin p e below _ (s₁.setTop (mkF m 13 #[.val (.ref a1), .val (.int (0 : Int32)), .unset] [(.int (-1 : Int32)), (.int d0)]))
  refine own_go (fun t k => XS.icmpYes X0.here hx rfl (pc0 := 13) (pc' := 22) rfl (hb hby d2_13) rfl (feq hn0).2 (by decide) (by decide) (XS.iloadN X0.here hx rfl (hb hby d2_22) rfl  k)) ?_
  show own_Fin p e below _ (s₁.setTop (mkF m 23 #[.val (.ref a1), .val (.int (0 : Int32)), .unset] [(.int (0 : Int32))]))
  refine own_go (fun t k => XS.ifYes X0.here hx rfl (pc0 := 23) (pc' := 28) rfl (hb hby d2_23) rfl ((if0 _ _).trans (flt (by decide : ¬ ((0 : Int32) < (0 : Int32)))).2.1) (by decide) (by decide) (XS.aloadN X0.here hx rfl (hb hby d2_28) rfl rfl  (XS.iloadN X0.here hx rfl (hb hby d2_29) rfl  (XS.iconst X0.here hx rfl (hb hby d2_30) (XS.iadd X0.here hx rfl (hb hby d2_31) rfl k))))) ?_
  show own_Fin p e below _ (s₁.setTop (mkF m 32 #[.val (.ref a1), .val (.int (0 : Int32)), .unset] [(.int (1 : Int32)), (.ref a1)]))
  obtain ⟨_, _, ⟨T3, L3, k3, n3⟩, -, X3, ⟨Lc3, hQ3, l3, y3, z3⟩, st3⟩ := Jvm.LawKit.callS X0 hx (y := (⟨"java/util/Arrays", "copyOf", "([BI)[B"⟩ : MethodName)) hown (mvT hZ hw_13) (mvT hZ hw_14) (mvT hZ hw_15) (mvT hZ hw_16) (by decide) (backOf (W := 0) (rm4c11 l Z a0 hw [] (a1) k1 (d0) h0 n0 Z0 V_1 E_1) hZ hw_16 hw_15 (by decide) (by decide)) (g := (mkF m 32 #[.val (.ref a1), .val (.int (0 : Int32)), .unset] [(.int (1 : Int32)), (.ref a1)])) rfl (by rw [hml]; rfl) (argsL := [(.ref a1), (.int (1 : Int32))]) (rest := []) (lenOf pd_1 rfl) rfl (by show 2 * 0 + _ ≤ _; exact Nat.le_of_eq rfl) (hb hby d2_32) (fun _ _ => ⟨rfl, e0, (by decide : 0 + 1 ≤ _), (by decide : 0 + 1 ≤ _)⟩)
  dsimp only [Pt.U, Pt.locs, Pt.cells, Pt.slots] at X3 l3 y3 z3 st3 hQ3
  subst l3 y3 z3
  obtain ⟨b3, k3, rfl, N3q, sz3, K3, V3⟩ := hQ3
  have N3 := Fr.app N0 N3q
  have g_b3 : n0 ≤ b3 := Nat.le_trans Z0 sz3
  have sz_b3 : h0.size ≤ b3 := Nat.le_trans Kz.1 sz3
  have ne4 : a1 ≠ b3 := Nat.ne_of_lt (Nat.lt_of_lt_of_le V_1.lt sz3)
  have E3 : Ext _ _ := ⟨K3.1, fun a c q => K3.2.1 a c q nin0⟩
  have f5 := V_1.ext E3
  have f6 := E_1.ext E3
  have Zh7 : n0 ≤ T3.heap.size := Nat.le_trans Z0 K3.1
  have K8 := Kz.ext E3
  refine own_go st3 ?_
  show own_Fin p e below _ (T3.setTop (mkF m 35 #[.val (.ref a1), .val (.int (0 : Int32)), .unset] [(.ref b3)]))
  refine own_go (fun t k => XS.astoreN X3.here hx rfl (hb hby d2_35) rfl rfl (l' := #[.val (.ref a1), .val (.int (0 : Int32)), .val (.ref b3)]) rfl (XS.aloadN X3.here hx rfl (hb hby d2_36) rfl rfl  (XS.iloadN X3.here hx rfl (hb hby d2_37) rfl  (XT.dup2 X3.here hx rfl (hb hby d2_38) rfl rfl rfl k)))) ?_
  show own_Fin p e below _ (T3.setTop (mkF m 39 #[.val (.ref a1), .val (.int (0 : Int32)), .val (.ref b3)] [(.int (0 : Int32)), (.ref b3), (.int (0 : Int32)), (.ref b3)]))
  obtain ⟨cl9, Ar9, q9, S9, M9, H9, G9⟩ := (id V3)
  have hin9 : ¬ ((0 : Int32) < 0 ∨ cl9.slots.size ≤ ((0 : Int32)).toNatClampNeg) := inb_of S9 ⟨by decide, by decide⟩
  have hat9 : cl9.slots[((0 : Int32)).toNatClampNeg]? = some (.int d0) := H9.at hin9 rfl
  refine own_go (fun t k => X3.baloadBytes hx (j := (0 : Int32)) (v := (.int d0)) Ar9.1 (State.isArrayOf_alike hZ.alike Ar9.2.1) Ar9.2.2 hin9 hat9 (g := (mkF m 39 #[.val (.ref a1), .val (.int (0 : Int32)), .val (.ref b3)] [(.int (0 : Int32)), (.ref b3), (.int (0 : Int32)), (.ref b3)])) rfl rfl (hb hby d2_39) _ (XS.iconst X3.here hx rfl (hb hby d2_40) (XS.iadd X3.here hx rfl (hb hby d2_41) rfl (XS.i2b X3.here hx rfl (hb hby d2_42) rfl k)))) ?_
  show own_Fin p e below _ (T3.setTop (mkF m 43 #[.val (.ref a1), .val (.int (0 : Int32)), .val (.ref b3)] [(.int ((d0 + (1 : Int32)).toInt8.toInt32)), (.int (0 : Int32)), (.ref b3)]))
  obtain ⟨cl10, Ar10, q10, S10, M10, H10, G10⟩ := (id V3)
  have hin10 : ¬ ((0 : Int32) < 0 ∨ cl10.slots.size ≤ ((0 : Int32)).toNatClampNeg) := inb_of S10 ⟨by decide, by decide⟩
  obtain ⟨T10, h10, X10, e10, W10, st10⟩ := stB X3 hx hZ rfl Ar10 (j := (0 : Int32)) hin10 (g := (mkF m 43 #[.val (.ref a1), .val (.int (0 : Int32)), .val (.ref b3)] [(.int ((d0 + (1 : Int32)).toInt8.toInt32)), (.int (0 : Int32)), (.ref b3)])) rfl rfl (hb hby d2_43)
  have f11 := f5.other W10 ne4
  have f12 := f6.wr W10
  have V10 := Arv.set Ar10 q10 S10 M10 H10 G10 (fits_nar_byte _) W10 0 rfl (Nat.le_of_ble_eq_true rfl)
  have f14 : Arv Z h10 b3 k3 .byte (1 : Int32) [(.int (nar .byte ((d0 + (1 : Int32)).toInt8.toInt32)))] (.int (0 : Int32)) := V10
  have Zh15 : n0 ≤ h10.size := Nat.le_trans Zh7 (Nat.le_of_eq W10.size.symm)
  have N10 := Fr.snoc X10 N3 g_b3
  have K16 := K8.wr W10 (Or.inr sz_b3)
  refine own_go st10 ?_
  show own_Fin p e below _ (T10.setTop (mkF m 44 #[.val (.ref a1), .val (.int (0 : Int32)), .val (.ref b3)] []))
  refine own_go (fun t k => XS.aloadN X10.here hx rfl (hb hby d2_44) rfl rfl  k) ?_
  show own_Fin p e below _ (T10.setTop (mkF m 45 #[.val (.ref a1), .val (.int (0 : Int32)), .val (.ref b3)] [(.ref b3)]))
  exact own_out X10 (fun h => by rw [Bd.returns] at h; cases h) Bd.notSynchronized (fun fs hr => retOut X10 hx Bd.returns rfl (Or.inr (Or.inr (Or.inr (Or.inr ⟨rfl, rfl, rfl⟩)))) (hb hby d2_45) hr) (by rw [e10]; exact ⟨_, _, rfl, N10, sz_b3, K16, f14⟩) (by decide) (by decide)
theorem ef_2r20 (m : MethodId) (x0 : Addr)  : entryFrame m #[(.ref x0)] 3 = mkF m 0 #[.val (.ref x0), .unset, .unset] [] := by first | (simp [entryFrame, mkF, argsToLocals, Value.category]; done) | rfl
set_option maxRecDepth 65536 in
set_option maxHeartbeats 40000000 in
theorem rm2r20 (l : Launch) (Z : State) (a0 : Array Value) (hw : ∀ d ∈ tables_1, d.before a0 Z = true) (ws : List Jvm.Cond) (a1 : Addr) (k1 : ClassId) (d0 d1 : Int32) (h0 : Heap) (n0 : Nat) (Z0 : n0 ≤ h0.size) (V_1 : Arv Z h0 a1 k1 .byte (2 : Int32) [(.int d0), (.int d1)] (.int (0 : Int32))) (E_1 : Exa Z h0 a1 "[B") (hy1 : d1 = (-1 : Int32)) (hy0 : d0 = (-1 : Int32)) :
    MetFree l (⟨"com/example/keyslice/keyslice/storage/KeyRange", "after", "([B)[B"⟩ : MethodName) (head1 (Jvm.Cond.code (⟨"com/example/keyslice/keyslice/storage/KeyRange", "after", "([B)[B"⟩ : MethodName) prog_64_method_8_code 3 (some (.array .byte)) :: ws) ({ frames := 0, cells := 0, slots := 0, locals := 0 } : Room)) (fun a U => a = #[(.ref a1)] ∧ Z.Warmed39 U.vm ∧ U.heap = h0) (fun _ _ _ _ _ => True) (fun _ U o U' => ∃ v L, o = .returned v ∧ (own_P h0 n0 .null) v U'.heap L ∧ FrameEnd U o U' L ({ frames := 0, cells := 0, slots := 0, locals := 0 } : Room).cells ({ frames := 0, cells := 0, slots := 0, locals := 0 } : Room).slots) := by
  refine MetFree.of_bodySF (plainFor_of_name pn_2) hisR ?_
  intro p e s m args below meth c s₁ Bd hml0 hP hK
  obtain ⟨rfl, hZ, hh⟩ := hP
  have hx := Bd.exec
  have hby := Bd.bytes
  have hml : c.maxLocals = 3 := hml0
  have hown : s.vm.findClass "com/example/keyslice/keyslice/storage/KeyRange" = some m.cls := findClass_of_methodNamed Bd.named
  have hnm := (name_of_methodNamed Bd.named Bd.method).1
  have X0 : Stand p l e ({ frames := 0, cells := 0, slots := 0, locals := 0 } : Room) s m #[(.ref a1)] below meth c s₁ [] 0 0 := Stand.of_body Bd
  have e0 : s₁.heap = h0 := by rw [← hh, Bd.state]; rfl
  have N0 := Fr.nil n0
  show own_Fin p e below (own_A s ({ frames := 0, cells := 0, slots := 0, locals := 0 } : Room).cells ({ frames := 0, cells := 0, slots := 0, locals := 0 } : Room).slots (own_P h0 n0 .null)) _
  refine own_go (fun t k => castTop (ef_2r20 m (a1)) k) ?_
  show own_Fin p e below _ (s₁.setTop (mkF m 0 #[.val (.ref a1), .unset, .unset] []))
  refine own_go (fun t k => XS.aloadN X0.here hx rfl (hb hby d2_0) rfl rfl  k) ?_
  show own_Fin p e below _ (s₁.setTop (mkF m 1 #[.val (.ref a1), .unset, .unset] [(.ref a1)]))
  obtain ⟨cl1, Ar1, q1, S1, M1, H1, G1⟩ := (id V_1)
  refine own_go (fun t k => X0.arraylength hx (by rw [e0]; exact Ar1.1) (State.isArrayOf_alike hZ.alike Ar1.2.1) (g := (mkF m 1 #[.val (.ref a1), .unset, .unset] [(.ref a1)])) rfl rfl (hb hby d2_1) _ k) ?_
  rw [len_of S1 M1]
  show own_Fin p e below _ (s₁.setTop (mkF m 2 #[.val (.ref a1), .unset, .unset] [(.int (2 : Int32))]))
  refine own_go (fun t k => XS.iconst X0.here hx rfl (hb hby d2_2) (XS.isub X0.here hx rfl (hb hby d2_3) rfl (XS.istoreN X0.here hx rfl (hb hby d2_4) rfl (l' := #[.val (.ref a1), .val (.int (1 : Int32)), .unset]) rfl (XS.iloadN X0.here hx rfl (hb hby d2_5) rfl  k)))) ?_
  show own_Fin p e below _ (s₁.setTop (mkF m 6 #[.val (.ref a1), .val (.int (1 : Int32)), .unset] [(.int (1 : Int32))]))
  refine own_go (fun t k => XS.ifNo X0.here hx rfl (hb hby d2_6) rfl ((if0 _ _).trans (flt (by decide : ¬ ((1 : Int32) < (0 : Int32)))).1) (XS.aloadN X0.here hx rfl (hb hby d2_9) rfl rfl  (XS.iloadN X0.here hx rfl (hb hby d2_10) rfl  k))) ?_
  show own_Fin p e below _ (s₁.setTop (mkF m 11 #[.val (.ref a1), .val (.int (1 : Int32)), .unset] [(.int (1 : Int32)), (.ref a1)]))
  obtain ⟨cl2, Ar2, q2, S2, M2, H2, G2⟩ := (id V_1)
  have hin2 : ¬ ((1 : Int32) < 0 ∨ cl2.slots.size ≤ ((1 : Int32)).toNatClampNeg) := inb_of S2 ⟨by decide, by decide⟩
  have hat2 : cl2.slots[((1 : Int32)).toNatClampNeg]? = some (.int d1) := H2.at hin2 rfl
  refine own_go (fun t k => X0.baloadBytes hx (j := (1 : Int32)) (v := (.int d1)) (by rw [e0]; exact Ar2.1) (State.isArrayOf_alike hZ.alike Ar2.2.1) Ar2.2.2 hin2 hat2 (g := (mkF m 11 #[.val (.ref a1), .val (.int (1 : Int32)), .unset] [(.int (1 : Int32)), (.ref a1)])) rfl rfl (hb hby d2_11) _ (XS.iconst X0.here hx rfl (hb hby d2_12) k)) ?_
  show own_Fin p e below _ (s₁.setTop (mkF m 13 #[.val (.ref a1), .val (.int (1 : Int32)), .unset] [(.int (-1 : Int32)), (.int d1)]))
  refine own_go (fun t k => XS.icmpNo X0.here hx rfl (hb hby d2_13) rfl (teq hy1).2 (XS.iinc X0.here hx rfl (hb hby d2_16) rfl (l' := #[.val (.ref a1), .val (.int (0 : Int32)), .unset]) rfl (XS.goto X0.here hx rfl (pc0 := 19) (pc' := 5) rfl (hb hby d2_19) (by decide) (by decide) (XS.iloadN X0.here hx rfl (hb hby d2_5) rfl  k)))) ?_
  show own_Fin p e below _ (s₁.setTop (mkF m 6 #[.val (.ref a1), .val (.int (0 : Int32)), .unset] [(.int (0 : Int32))]))
  refine own_go (fun t k => XS.ifNo X0.here hx rfl (hb hby d2_6) rfl ((if0 _ _).trans (flt (by decide : ¬ ((0 : Int32) < (0 : Int32)))).1) (XS.aloadN X0.here hx rfl (hb hby d2_9) rfl rfl  (XS.iloadN X0.here hx rfl (hb hby d2_10) rfl  k))) ?_
  show own_Fin p e below _ (s₁.setTop (mkF m 11 #[.val (.ref a1), .val (.int (0 : Int32)), .unset] [(.int (0 : Int32)), (.ref a1)]))
  obtain ⟨cl3, Ar3, q3, S3, M3, H3, G3⟩ := (id V_1)
  have hin3 : ¬ ((0 : Int32) < 0 ∨ cl3.slots.size ≤ ((0 : Int32)).toNatClampNeg) := inb_of S3 ⟨by decide, by decide⟩
  have hat3 : cl3.slots[((0 : Int32)).toNatClampNeg]? = some (.int d0) := H3.at hin3 rfl
  refine own_go (fun t k => X0.baloadBytes hx (j := (0 : Int32)) (v := (.int d0)) (by rw [e0]; exact Ar3.1) (State.isArrayOf_alike hZ.alike Ar3.2.1) Ar3.2.2 hin3 hat3 (g := (mkF m 11 #[.val (.ref a1), .val (.int (0 : Int32)), .unset] [(.int (0 : Int32)), (.ref a1)])) rfl rfl (hb hby d2_11) _ (XS.iconst X0.here hx rfl (hb hby d2_12) k)) ?_
  show own_Fin p e below _ (s₁.setTop (mkF m 13 #[.val (.ref a1), .val (.int (0 : Int32)), .unset] [(.int (-1 : Int32)), (.int d0)]))
  refine own_go (fun t k => XS.icmpNo X0.here hx rfl (hb hby d2_13) rfl (teq hy0).2 (XS.iinc X0.here hx rfl (hb hby d2_16) rfl (l' := #[.val (.ref a1), .val (.int (-1 : Int32)), .unset]) rfl (XS.goto X0.here hx rfl (pc0 := 19) (pc' := 5) rfl (hb hby d2_19) (by decide) (by decide) (XS.iloadN X0.here hx rfl (hb hby d2_5) rfl  k)))) ?_
  show own_Fin p e below _ (s₁.setTop (mkF m 6 #[.val (.ref a1), .val (.int (-1 : Int32)), .unset] [(.int (-1 : Int32))]))
  refine own_go (fun t k => XS.ifYes X0.here hx rfl (pc0 := 6) (pc' := 22) rfl (hb hby d2_6) rfl ((if0 _ _).trans (tlt (by decide : (-1 : Int32) < (0 : Int32))).1) (by decide) (by decide) (XS.iloadN X0.here hx rfl (hb hby d2_22) rfl  k)) ?_
  show own_Fin p e below _ (s₁.setTop (mkF m 23 #[.val (.ref a1), .val (.int (-1 : Int32)), .unset] [(.int (-1 : Int32))]))
  refine own_go (fun t k => XS.ifNo X0.here hx rfl (hb hby d2_23) rfl ((if0 _ _).trans (tlt (by decide : (-1 : Int32) < (0 : Int32))).2.1) (XS.aconstNull X0.here hx rfl (hb hby d2_26) k)) ?_
  show own_Fin p e below _ (s₁.setTop (mkF m 27 #[.val (.ref a1), .val (.int (-1 : Int32)), .unset] [.null]))
  exact own_out X0 (fun h => by rw [Bd.returns] at h; cases h) Bd.notSynchronized (fun fs hr => retOut X0 hx Bd.returns rfl (Or.inr (Or.inr (Or.inr (Or.inr ⟨rfl, rfl, rfl⟩)))) (hb hby d2_27) hr) ⟨rfl, N0, e0⟩ (by decide) (by decide)
theorem ef_2r21 (m : MethodId) (x0 : Addr)  : entryFrame m #[(.ref x0)] 3 = mkF m 0 #[.val (.ref x0), .unset, .unset] [] := by first | (simp [entryFrame, mkF, argsToLocals, Value.category]; done) | rfl
def own_q2r21 (Z : State) (a1 : Addr) (k1 : ClassId) (d0 d1 : Int32) (h0 : Heap) (n0 : Nat) (v : Option Value) (h : Heap) (L : List Loc) : Prop := ∃ (a : Addr) (k : ClassId), v = some (.ref a) ∧ Fr n0 L ∧ h0.size ≤ a ∧ Keep h0 h [] ∧ Arv Z h a k .byte (1 : Int32) [(.int (nar .byte (((d0 + (1 : Int32)).toInt8.toInt32))))] (.int (0 : Int32))
set_option maxRecDepth 65536 in
set_option maxHeartbeats 40000000 in
theorem rm2r21 (l : Launch) (Z : State) (a0 : Array Value) (hw : ∀ d ∈ tables_1, d.before a0 Z = true) (ws : List Jvm.Cond) (a1 : Addr) (k1 : ClassId) (d0 d1 : Int32) (h0 : Heap) (n0 : Nat) (Z0 : n0 ≤ h0.size) (V_1 : Arv Z h0 a1 k1 .byte (2 : Int32) [(.int d0), (.int d1)] (.int (0 : Int32))) (E_1 : Exa Z h0 a1 "[B") (hy1 : d1 = (-1 : Int32)) (hn0 : ¬ d0 = (-1 : Int32)) :
    MetFree l (⟨"com/example/keyslice/keyslice/storage/KeyRange", "after", "([B)[B"⟩ : MethodName) (head1 (Jvm.Cond.code (⟨"com/example/keyslice/keyslice/storage/KeyRange", "after", "([B)[B"⟩ : MethodName) prog_64_method_8_code 3 (some (.array .byte)) :: ws) ({ frames := 2, cells := 1, slots := 1, locals := 32 } : Room)) (fun a U => a = #[(.ref a1)] ∧ Z.Warmed39 U.vm ∧ U.heap = h0) (fun _ _ _ _ _ => True) (fun _ U o U' => ∃ v L, o = .returned v ∧ (own_q2r21 Z a1 k1 d0 d1 h0 n0) v U'.heap L ∧ FrameEnd U o U' L ({ frames := 2, cells := 1, slots := 1, locals := 32 } : Room).cells ({ frames := 2, cells := 1, slots := 1, locals := 32 } : Room).slots) := by
  refine MetFree.of_bodySF (plainFor_of_name pn_2) hisR ?_
  intro p e s m args below meth c s₁ Bd hml0 hP hK
  obtain ⟨rfl, hZ, hh⟩ := hP
  have hx := Bd.exec
  have hby := Bd.bytes
  have hml : c.maxLocals = 3 := hml0
  have hown : s.vm.findClass "com/example/keyslice/keyslice/storage/KeyRange" = some m.cls := findClass_of_methodNamed Bd.named
  have hnm := (name_of_methodNamed Bd.named Bd.method).1
  have X0 : Stand p l e ({ frames := 2, cells := 1, slots := 1, locals := 32 } : Room) s m #[(.ref a1)] below meth c s₁ [] 0 0 := Stand.of_body Bd
  have e0 : s₁.heap = h0 := by rw [← hh, Bd.state]; rfl
  have N0 := Fr.nil n0
  have Kz := Keep.refl h0 []
  have hw_13 := hw _ (List.mem_of_getElem? (i := 13) rfl)
  have hw_14 := hw _ (List.mem_of_getElem? (i := 14) rfl)
  have hw_15 := hw _ (List.mem_of_getElem? (i := 15) rfl)
  have hw_16 := hw _ (List.mem_of_getElem? (i := 16) rfl)
  show own_Fin p e below (own_A s ({ frames := 2, cells := 1, slots := 1, locals := 32 } : Room).cells ({ frames := 2, cells := 1, slots := 1, locals := 32 } : Room).slots (own_q2r21 Z a1 k1 d0 d1 h0 n0)) _
  refine own_go (fun t k => castTop (ef_2r21 m (a1)) k) ?_
  show own_Fin p e below _ (s₁.setTop (mkF m 0 #[.val (.ref a1), .unset, .unset] []))
  refine own_go (fun t k => XS.aloadN X0.here hx rfl (hb hby d2_0) rfl rfl  k) ?_
  show own_Fin p e below _ (s₁.setTop (mkF m 1 #[.val (.ref a1), .unset, .unset] [(.ref a1)]))
  obtain ⟨cl1, Ar1, q1, S1, M1, H1, G1⟩ := (id V_1)
  refine own_go (fun t k => X0.arraylength hx (by rw [e0]; exact Ar1.1) (State.isArrayOf_alike hZ.alike Ar1.2.1) (g := (mkF m 1 #[.val (.ref a1), .unset, .unset] [(.ref a1)])) rfl rfl (hb hby d2_1) _ k) ?_
  rw [len_of S1 M1]
  show own_Fin p e below _ (s₁.setTop (mkF m 2 #[.val (.ref a1), .unset, .unset] [(.int (2 : Int32))]))
  refine own_go (fun t k => XS.iconst X0.here hx rfl (hb hby d2_2) (XS.isub X0.here hx rfl (hb hby d2_3) rfl (XS.istoreN X0.here hx rfl (hb hby d2_4) rfl (l' := #[.val (.ref a1), .val (.int (1 : Int32)), .unset]) rfl (XS.iloadN X0.here hx rfl (hb hby d2_5) rfl  k)))) ?_
  show own_Fin p e below _ (s₁.setTop (mkF m 6 #[.val (.ref a1), .val (.int (1 : Int32)), .unset] [(.int (1 : Int32))]))
  refine own_go (fun t k => XS.ifNo X0.here hx rfl (hb hby d2_6) rfl ((if0 _ _).trans (flt (by decide : ¬ ((1 : Int32) < (0 : Int32)))).1) (XS.aloadN X0.here hx rfl (hb hby d2_9) rfl rfl  (XS.iloadN X0.here hx rfl (hb hby d2_10) rfl  k))) ?_
  show own_Fin p e below _ (s₁.setTop (mkF m 11 #[.val (.ref a1), .val (.int (1 : Int32)), .unset] [(.int (1 : Int32)), (.ref a1)]))
  obtain ⟨cl2, Ar2, q2, S2, M2, H2, G2⟩ := (id V_1)
  have hin2 : ¬ ((1 : Int32) < 0 ∨ cl2.slots.size ≤ ((1 : Int32)).toNatClampNeg) := inb_of S2 ⟨by decide, by decide⟩
  have hat2 : cl2.slots[((1 : Int32)).toNatClampNeg]? = some (.int d1) := H2.at hin2 rfl
  refine own_go (fun t k => X0.baloadBytes hx (j := (1 : Int32)) (v := (.int d1)) (by rw [e0]; exact Ar2.1) (State.isArrayOf_alike hZ.alike Ar2.2.1) Ar2.2.2 hin2 hat2 (g := (mkF m 11 #[.val (.ref a1), .val (.int (1 : Int32)), .unset] [(.int (1 : Int32)), (.ref a1)])) rfl rfl (hb hby d2_11) _ (XS.iconst X0.here hx rfl (hb hby d2_12) k)) ?_
  show own_Fin p e below _ (s₁.setTop (mkF m 13 #[.val (.ref a1), .val (.int (1 : Int32)), .unset] [(.int (-1 : Int32)), (.int d1)]))
  refine own_go (fun t k => XS.icmpNo X0.here hx rfl (hb hby d2_13) rfl (teq hy1).2 (XS.iinc X0.here hx rfl (hb hby d2_16) rfl (l' := #[.val (.ref a1), .val (.int (0 : Int32)), .unset]) rfl (XS.goto X0.here hx rfl (pc0 := 19) (pc' := 5) rfl (hb hby d2_19) (by decide) (by decide) (XS.iloadN X0.here hx rfl (hb hby d2_5) rfl  k)))) ?_
  show own_Fin p e below _ (s₁.setTop (mkF m 6 #[.val (.ref a1), .val (.int (0 : Int32)), .unset] [(.int (0 : Int32))]))
  refine own_go (fun t k => XS.ifNo X0.here hx rfl (hb hby d2_6) rfl ((if0 _ _).trans (flt (by decide : ¬ ((0 : Int32) < (0 : Int32)))).1) (XS.aloadN X0.here hx rfl (hb hby d2_9) rfl rfl  (XS.iloadN X0.here hx rfl (hb hby d2_10) rfl  k))) ?_
  show own_Fin p e below _ (s₁.setTop (mkF m 11 #[.val (.ref a1), .val (.int (0 : Int32)), .unset] [(.int (0 : Int32)), (.ref a1)]))
  obtain ⟨cl3, Ar3, q3, S3, M3, H3, G3⟩ := (id V_1)
  have hin3 : ¬ ((0 : Int32) < 0 ∨ cl3.slots.size ≤ ((0 : Int32)).toNatClampNeg) := inb_of S3 ⟨by decide, by decide⟩
  have hat3 : cl3.slots[((0 : Int32)).toNatClampNeg]? = some (.int d0) := H3.at hin3 rfl
  refine own_go (fun t k => X0.baloadBytes hx (j := (0 : Int32)) (v := (.int d0)) (by rw [e0]; exact Ar3.1) (State.isArrayOf_alike hZ.alike Ar3.2.1) Ar3.2.2 hin3 hat3 (g := (mkF m 11 #[.val (.ref a1), .val (.int (0 : Int32)), .unset] [(.int (0 : Int32)), (.ref a1)])) rfl rfl (hb hby d2_11) _ (XS.iconst X0.here hx rfl (hb hby d2_12) k)) ?_
  show own_Fin p e below _ (s₁.setTop (mkF m 13 #[.val (.ref a1), .val (.int (0 : Int32)), .unset] [(.int (-1 : Int32)), (.int d0)]))
  refine own_go (fun t k => XS.icmpYes X0.here hx rfl (pc0 := 13) (pc' := 22) rfl (hb hby d2_13) rfl (feq hn0).2 (by decide) (by decide) (XS.iloadN X0.here hx rfl (hb hby d2_22) rfl  k)) ?_
  show own_Fin p e below _ (s₁.setTop (mkF m 23 #[.val (.ref a1), .val (.int (0 : Int32)), .unset] [(.int (0 : Int32))]))
  refine own_go (fun t k => XS.ifYes X0.here hx rfl (pc0 := 23) (pc' := 28) rfl (hb hby d2_23) rfl ((if0 _ _).trans (flt (by decide : ¬ ((0 : Int32) < (0 : Int32)))).2.1) (by decide) (by decide) (XS.aloadN X0.here hx rfl (hb hby d2_28) rfl rfl  (XS.iloadN X0.here hx rfl (hb hby d2_29) rfl  (XS.iconst X0.here hx rfl (hb hby d2_30) (XS.iadd X0.here hx rfl (hb hby d2_31) rfl k))))) ?_
  show own_Fin p e below _ (s₁.setTop (mkF m 32 #[.val (.ref a1), .val (.int (0 : Int32)), .unset] [(.int (1 : Int32)), (.ref a1)]))
  obtain ⟨_, _, ⟨T4, L4, k4, n4⟩, -, X4, ⟨Lc4, hQ4, l4, y4, z4⟩, st4⟩ := Jvm.LawKit.callS X0 hx (y := (⟨"java/util/Arrays", "copyOf", "([BI)[B"⟩ : MethodName)) hown (mvT hZ hw_13) (mvT hZ hw_14) (mvT hZ hw_15) (mvT hZ hw_16) (by decide) (backOf (W := 0) (rm4c21 l Z a0 hw [] (a1) k1 (d0) (d1) h0 n0 Z0 V_1 E_1) hZ hw_16 hw_15 (by decide) (by decide)) (g := (mkF m 32 #[.val (.ref a1), .val (.int (0 : Int32)), .unset] [(.int (1 : Int32)), (.ref a1)])) rfl (by rw [hml]; rfl) (argsL := [(.ref a1), (.int (1 : Int32))]) (rest := []) (lenOf pd_1 rfl) rfl (by show 2 * 0 + _ ≤ _; exact Nat.le_of_eq rfl) (hb hby d2_32) (fun _ _ => ⟨rfl, e0, (by decide : 0 + 1 ≤ _), (by decide : 0 + 1 ≤ _)⟩)
  dsimp only [Pt.U, Pt.locs, Pt.cells, Pt.slots] at X4 l4 y4 z4 st4 hQ4
  subst l4 y4 z4
  obtain ⟨b4, k4, rfl, N4q, sz4, K4, V4⟩ := hQ4
  have N4 := Fr.app N0 N4q
  have g_b4 : n0 ≤ b4 := Nat.le_trans Z0 sz4
  have sz_b4 : h0.size ≤ b4 := Nat.le_trans Kz.1 sz4
  have ne5 : a1 ≠ b4 := Nat.ne_of_lt (Nat.lt_of_lt_of_le V_1.lt sz4)
  have E4 : Ext _ _ := ⟨K4.1, fun a c q => K4.2.1 a c q nin0⟩
  have f6 := V_1.ext E4
  have f7 := E_1.ext E4
  have Zh8 : n0 ≤ T4.heap.size := Nat.le_trans Z0 K4.1
  have K9 := Kz.ext E4
  refine own_go st4 ?_
  show own_Fin p e below _ (T4.setTop (mkF m 35 #[.val (.ref a1), .val (.int (0 : Int32)), .unset] [(.ref b4)]))
  refine own_go (fun t k => XS.astoreN X4.here hx rfl (hb hby d2_35) rfl rfl (l' := #[.val (.ref a1), .val (.int (0 : Int32)), .val (.ref b4)]) rfl (XS.aloadN X4.here hx rfl (hb hby d2_36) rfl rfl  (XS.iloadN X4.here hx rfl (hb hby d2_37) rfl  (XT.dup2 X4.here hx rfl (hb hby d2_38) rfl rfl rfl k)))) ?_
  show own_Fin p e below _ (T4.setTop (mkF m 39 #[.val (.ref a1), .val (.int (0 : Int32)), .val (.ref b4)] [(.int (0 : Int32)), (.ref b4), (.int (0 : Int32)), (.ref b4)]))
  obtain ⟨cl10, Ar10, q10, S10, M10, H10, G10⟩ := (id V4)
  have hin10 : ¬ ((0 : Int32) < 0 ∨ cl10.slots.size ≤ ((0 : Int32)).toNatClampNeg) := inb_of S10 ⟨by decide, by decide⟩
  have hat10 : cl10.slots[((0 : Int32)).toNatClampNeg]? = some (.int d0) := H10.at hin10 rfl
  refine own_go (fun t k => X4.baloadBytes hx (j := (0 : Int32)) (v := (.int d0)) Ar10.1 (State.isArrayOf_alike hZ.alike Ar10.2.1) Ar10.2.2 hin10 hat10 (g := (mkF m 39 #[.val (.ref a1), .val (.int (0 : Int32)), .val (.ref b4)] [(.int (0 : Int32)), (.ref b4), (.int (0 : Int32)), (.ref b4)])) rfl rfl (hb hby d2_39) _ (XS.iconst X4.here hx rfl (hb hby d2_40) (XS.iadd X4.here hx rfl (hb hby d2_41) rfl (XS.i2b X4.here hx rfl (hb hby d2_42) rfl k)))) ?_
  show own_Fin p e below _ (T4.setTop (mkF m 43 #[.val (.ref a1), .val (.int (0 : Int32)), .val (.ref b4)] [(.int ((d0 + (1 : Int32)).toInt8.toInt32)), (.int (0 : Int32)), (.ref b4)]))
  obtain ⟨cl11, Ar11, q11, S11, M11, H11, G11⟩ := (id V4)
  have hin11 : ¬ ((0 : Int32) < 0 ∨ cl11.slots.size ≤ ((0 : Int32)).toNatClampNeg) := inb_of S11 ⟨by decide, by decide⟩
  obtain ⟨T11, h11, X11, e11, W11, st11⟩ := stB X4 hx hZ rfl Ar11 (j := (0 : Int32)) hin11 (g := (mkF m 43 #[.val (.ref a1), .val (.int (0 : Int32)), .val (.ref b4)] [(.int ((d0 + (1 : Int32)).toInt8.toInt32)), (.int (0 : Int32)), (.ref b4)])) rfl rfl (hb hby d2_43)
  have f12 := f6.other W11 ne5
  have f13 := f7.wr W11
  have V11 := Arv.set Ar11 q11 S11 M11 H11 G11 (fits_nar_byte _) W11 0 rfl (Nat.le_of_ble_eq_true rfl)
  have f15 : Arv Z h11 b4 k4 .byte (1 : Int32) [(.int (nar .byte ((d0 + (1 : Int32)).toInt8.toInt32)))] (.int (0 : Int32)) := V11
  have Zh16 : n0 ≤ h11.size := Nat.le_trans Zh8 (Nat.le_of_eq W11.size.symm)
  have N11 := Fr.snoc X11 N4 g_b4
  have K17 := K9.wr W11 (Or.inr sz_b4)
  refine own_go st11 ?_
  show own_Fin p e below _ (T11.setTop (mkF m 44 #[.val (.ref a1), .val (.int (0 : Int32)), .val (.ref b4)] []))
  refine own_go (fun t k => XS.aloadN X11.here hx rfl (hb hby d2_44) rfl rfl  k) ?_
  show own_Fin p e below _ (T11.setTop (mkF m 45 #[.val (.ref a1), .val (.int (0 : Int32)), .val (.ref b4)] [(.ref b4)]))
  exact own_out X11 (fun h => by rw [Bd.returns] at h; cases h) Bd.notSynchronized (fun fs hr => retOut X11 hx Bd.returns rfl (Or.inr (Or.inr (Or.inr (Or.inr ⟨rfl, rfl, rfl⟩)))) (hb hby d2_45) hr) (by rw [e11]; exact ⟨_, _, rfl, N11, sz_b4, K17, f15⟩) (by decide) (by decide)
theorem ef_2r22 (m : MethodId) (x0 : Addr)  : entryFrame m #[(.ref x0)] 3 = mkF m 0 #[.val (.ref x0), .unset, .unset] [] := by first | (simp [entryFrame, mkF, argsToLocals, Value.category]; done) | rfl
def own_q2r22 (Z : State) (a1 : Addr) (k1 : ClassId) (d0 d1 : Int32) (h0 : Heap) (n0 : Nat) (v : Option Value) (h : Heap) (L : List Loc) : Prop := ∃ (a : Addr) (k : ClassId), v = some (.ref a) ∧ Fr n0 L ∧ h0.size ≤ a ∧ Keep h0 h [] ∧ Arv Z h a k .byte (2 : Int32) [(.int d0), (.int (nar .byte (((d1 + (1 : Int32)).toInt8.toInt32))))] (.int (0 : Int32))
set_option maxRecDepth 65536 in
set_option maxHeartbeats 40000000 in
theorem rm2r22 (l : Launch) (Z : State) (a0 : Array Value) (hw : ∀ d ∈ tables_1, d.before a0 Z = true) (ws : List Jvm.Cond) (a1 : Addr) (k1 : ClassId) (d0 d1 : Int32) (h0 : Heap) (n0 : Nat) (Z0 : n0 ≤ h0.size) (V_1 : Arv Z h0 a1 k1 .byte (2 : Int32) [(.int d0), (.int d1)] (.int (0 : Int32))) (E_1 : Exa Z h0 a1 "[B") (hn1 : ¬ d1 = (-1 : Int32)) :
    MetFree l (⟨"com/example/keyslice/keyslice/storage/KeyRange", "after", "([B)[B"⟩ : MethodName) (head1 (Jvm.Cond.code (⟨"com/example/keyslice/keyslice/storage/KeyRange", "after", "([B)[B"⟩ : MethodName) prog_64_method_8_code 3 (some (.array .byte)) :: ws) ({ frames := 2, cells := 1, slots := 2, locals := 28 } : Room)) (fun a U => a = #[(.ref a1)] ∧ Z.Warmed39 U.vm ∧ U.heap = h0) (fun _ _ _ _ _ => True) (fun _ U o U' => ∃ v L, o = .returned v ∧ (own_q2r22 Z a1 k1 d0 d1 h0 n0) v U'.heap L ∧ FrameEnd U o U' L ({ frames := 2, cells := 1, slots := 2, locals := 28 } : Room).cells ({ frames := 2, cells := 1, slots := 2, locals := 28 } : Room).slots) := by
  refine MetFree.of_bodySF (plainFor_of_name pn_2) hisR ?_
  intro p e s m args below meth c s₁ Bd hml0 hP hK
  obtain ⟨rfl, hZ, hh⟩ := hP
  have hx := Bd.exec
  have hby := Bd.bytes
  have hml : c.maxLocals = 3 := hml0
  have hown : s.vm.findClass "com/example/keyslice/keyslice/storage/KeyRange" = some m.cls := findClass_of_methodNamed Bd.named
  have hnm := (name_of_methodNamed Bd.named Bd.method).1
  have X0 : Stand p l e ({ frames := 2, cells := 1, slots := 2, locals := 28 } : Room) s m #[(.ref a1)] below meth c s₁ [] 0 0 := Stand.of_body Bd
  have e0 : s₁.heap = h0 := by rw [← hh, Bd.state]; rfl
  have N0 := Fr.nil n0
  have Kz := Keep.refl h0 []
  have hw_13 := hw _ (List.mem_of_getElem? (i := 13) rfl)
  have hw_14 := hw _ (List.mem_of_getElem? (i := 14) rfl)
  have hw_15 := hw _ (List.mem_of_getElem? (i := 15) rfl)
  have hw_16 := hw _ (List.mem_of_getElem? (i := 16) rfl)
  show own_Fin p e below (own_A s ({ frames := 2, cells := 1, slots := 2, locals := 28 } : Room).cells ({ frames := 2, cells := 1, slots := 2, locals := 28 } : Room).slots (own_q2r22 Z a1 k1 d0 d1 h0 n0)) _
  refine own_go (fun t k => castTop (ef_2r22 m (a1)) k) ?_
  show own_Fin p e below _ (s₁.setTop (mkF m 0 #[.val (.ref a1), .unset, .unset] []))
  refine own_go (fun t k => XS.aloadN X0.here hx rfl (hb hby d2_0) rfl rfl  k) ?_
  show own_Fin p e below _ (s₁.setTop (mkF m 1 #[.val (.ref a1), .unset, .unset] [(.ref a1)]))
  obtain ⟨cl1, Ar1, q1, S1, M1, H1, G1⟩ := (id V_1)
  refine own_go (fun t k => X0.arraylength hx (by rw [e0]; exact Ar1.1) (State.isArrayOf_alike hZ.alike Ar1.2.1) (g := (mkF m 1 #[.val (.ref a1), .unset, .unset] [(.ref a1)])) rfl rfl (hb hby d2_1) _ k) ?_
  rw [len_of S1 M1]
  show own_Fin p e below _ (s₁.setTop (mkF m 2 #[.val (.ref a1), .unset, .unset] [(.int (2 : Int32))]))
  refine own_go (fun t k => XS.iconst X0.here hx rfl (hb hby d2_2) (XS.isub X0.here hx rfl (hb hby d2_3) rfl (XS.istoreN X0.here hx rfl (hb hby d2_4) rfl (l' := #[.val (.ref a1), .val (.int (1 : Int32)), .unset]) rfl (XS.iloadN X0.here hx rfl (hb hby d2_5) rfl  k)))) ?_
  show own_Fin p e below _ (s₁.setTop (mkF m 6 #[.val (.ref a1), .val (.int (1 : Int32)), .unset] [(.int (1 : Int32))]))
  refine own_go (fun t k => XS.ifNo X0.here hx rfl (hb hby d2_6) rfl ((if0 _ _).trans (flt (by decide : ¬ ((1 : Int32) < (0 : Int32)))).1) (XS.aloadN X0.here hx rfl (hb hby d2_9) rfl rfl  (XS.iloadN X0.here hx rfl (hb hby d2_10) rfl  k))) ?_
  show own_Fin p e below _ (s₁.setTop (mkF m 11 #[.val (.ref a1), .val (.int (1 : Int32)), .unset] [(.int (1 : Int32)), (.ref a1)]))
  obtain ⟨cl2, Ar2, q2, S2, M2, H2, G2⟩ := (id V_1)
  have hin2 : ¬ ((1 : Int32) < 0 ∨ cl2.slots.size ≤ ((1 : Int32)).toNatClampNeg) := inb_of S2 ⟨by decide, by decide⟩
  have hat2 : cl2.slots[((1 : Int32)).toNatClampNeg]? = some (.int d1) := H2.at hin2 rfl
  refine own_go (fun t k => X0.baloadBytes hx (j := (1 : Int32)) (v := (.int d1)) (by rw [e0]; exact Ar2.1) (State.isArrayOf_alike hZ.alike Ar2.2.1) Ar2.2.2 hin2 hat2 (g := (mkF m 11 #[.val (.ref a1), .val (.int (1 : Int32)), .unset] [(.int (1 : Int32)), (.ref a1)])) rfl rfl (hb hby d2_11) _ (XS.iconst X0.here hx rfl (hb hby d2_12) k)) ?_
  show own_Fin p e below _ (s₁.setTop (mkF m 13 #[.val (.ref a1), .val (.int (1 : Int32)), .unset] [(.int (-1 : Int32)), (.int d1)]))
  refine own_go (fun t k => XS.icmpYes X0.here hx rfl (pc0 := 13) (pc' := 22) rfl (hb hby d2_13) rfl (feq hn1).2 (by decide) (by decide) (XS.iloadN X0.here hx rfl (hb hby d2_22) rfl  k)) ?_
  show own_Fin p e below _ (s₁.setTop (mkF m 23 #[.val (.ref a1), .val (.int (1 : Int32)), .unset] [(.int (1 : Int32))]))
  refine own_go (fun t k => XS.ifYes X0.here hx rfl (pc0 := 23) (pc' := 28) rfl (hb hby d2_23) rfl ((if0 _ _).trans (flt (by decide : ¬ ((1 : Int32) < (0 : Int32)))).2.1) (by decide) (by decide) (XS.aloadN X0.here hx rfl (hb hby d2_28) rfl rfl  (XS.iloadN X0.here hx rfl (hb hby d2_29) rfl  (XS.iconst X0.here hx rfl (hb hby d2_30) (XS.iadd X0.here hx rfl (hb hby d2_31) rfl k))))) ?_
  show own_Fin p e below _ (s₁.setTop (mkF m 32 #[.val (.ref a1), .val (.int (1 : Int32)), .unset] [(.int (2 : Int32)), (.ref a1)]))
  obtain ⟨_, _, ⟨T3, L3, k3, n3⟩, -, X3, ⟨Lc3, hQ3, l3, y3, z3⟩, st3⟩ := Jvm.LawKit.callS X0 hx (y := (⟨"java/util/Arrays", "copyOf", "([BI)[B"⟩ : MethodName)) hown (mvT hZ hw_13) (mvT hZ hw_14) (mvT hZ hw_15) (mvT hZ hw_16) (by decide) (backOf (W := 0) (rm4c22 l Z a0 hw [] (a1) k1 (d0) (d1) h0 n0 Z0 V_1 E_1) hZ hw_16 hw_15 (by decide) (by decide)) (g := (mkF m 32 #[.val (.ref a1), .val (.int (1 : Int32)), .unset] [(.int (2 : Int32)), (.ref a1)])) rfl (by rw [hml]; rfl) (argsL := [(.ref a1), (.int (2 : Int32))]) (rest := []) (lenOf pd_1 rfl) rfl (by show 2 * 0 + _ ≤ _; exact Nat.le_of_eq rfl) (hb hby d2_32) (fun _ _ => ⟨rfl, e0, (by decide : 0 + 1 ≤ _), (by decide : 0 + 2 ≤ _)⟩)
  dsimp only [Pt.U, Pt.locs, Pt.cells, Pt.slots] at X3 l3 y3 z3 st3 hQ3
  subst l3 y3 z3
  obtain ⟨b3, k3, rfl, N3q, sz3, K3, V3⟩ := hQ3
  have N3 := Fr.app N0 N3q
  have g_b3 : n0 ≤ b3 := Nat.le_trans Z0 sz3
  have sz_b3 : h0.size ≤ b3 := Nat.le_trans Kz.1 sz3
  have ne4 : a1 ≠ b3 := Nat.ne_of_lt (Nat.lt_of_lt_of_le V_1.lt sz3)
  have E3 : Ext _ _ := ⟨K3.1, fun a c q => K3.2.1 a c q nin0⟩
  have f5 := V_1.ext E3
  have f6 := E_1.ext E3
  have Zh7 : n0 ≤ T3.heap.size := Nat.le_trans Z0 K3.1
  have K8 := Kz.ext E3
  refine own_go st3 ?_
  show own_Fin p e below _ (T3.setTop (mkF m 35 #[.val (.ref a1), .val (.int (1 : Int32)), .unset] [(.ref b3)]))
  refine own_go (fun t k => XS.astoreN X3.here hx rfl (hb hby d2_35) rfl rfl (l' := #[.val (.ref a1), .val (.int (1 : Int32)), .val (.ref b3)]) rfl (XS.aloadN X3.here hx rfl (hb hby d2_36) rfl rfl  (XS.iloadN X3.here hx rfl (hb hby d2_37) rfl  (XT.dup2 X3.here hx rfl (hb hby d2_38) rfl rfl rfl k)))) ?_
  show own_Fin p e below _ (T3.setTop (mkF m 39 #[.val (.ref a1), .val (.int (1 : Int32)), .val (.ref b3)] [(.int (1 : Int32)), (.ref b3), (.int (1 : Int32)), (.ref b3)]))
  obtain ⟨cl9, Ar9, q9, S9, M9, H9, G9⟩ := (id V3)
  have hin9 : ¬ ((1 : Int32) < 0 ∨ cl9.slots.size ≤ ((1 : Int32)).toNatClampNeg) := inb_of S9 ⟨by decide, by decide⟩
  have hat9 : cl9.slots[((1 : Int32)).toNatClampNeg]? = some (.int d1) := H9.at hin9 rfl
  refine own_go (fun t k => X3.baloadBytes hx (j := (1 : Int32)) (v := (.int d1)) Ar9.1 (State.isArrayOf_alike hZ.alike Ar9.2.1) Ar9.2.2 hin9 hat9 (g := (mkF m 39 #[.val (.ref a1), .val (.int (1 : Int32)), .val (.ref b3)] [(.int (1 : Int32)), (.ref b3), (.int (1 : Int32)), (.ref b3)])) rfl rfl (hb hby d2_39) _ (XS.iconst X3.here hx rfl (hb hby d2_40) (XS.iadd X3.here hx rfl (hb hby d2_41) rfl (XS.i2b X3.here hx rfl (hb hby d2_42) rfl k)))) ?_
  show own_Fin p e below _ (T3.setTop (mkF m 43 #[.val (.ref a1), .val (.int (1 : Int32)), .val (.ref b3)] [(.int ((d1 + (1 : Int32)).toInt8.toInt32)), (.int (1 : Int32)), (.ref b3)]))
  obtain ⟨cl10, Ar10, q10, S10, M10, H10, G10⟩ := (id V3)
  have hin10 : ¬ ((1 : Int32) < 0 ∨ cl10.slots.size ≤ ((1 : Int32)).toNatClampNeg) := inb_of S10 ⟨by decide, by decide⟩
  obtain ⟨T10, h10, X10, e10, W10, st10⟩ := stB X3 hx hZ rfl Ar10 (j := (1 : Int32)) hin10 (g := (mkF m 43 #[.val (.ref a1), .val (.int (1 : Int32)), .val (.ref b3)] [(.int ((d1 + (1 : Int32)).toInt8.toInt32)), (.int (1 : Int32)), (.ref b3)])) rfl rfl (hb hby d2_43)
  have f11 := f5.other W10 ne4
  have f12 := f6.wr W10
  have V10 := Arv.set Ar10 q10 S10 M10 H10 G10 (fits_nar_byte _) W10 1 rfl (Nat.le_of_ble_eq_true rfl)
  have f14 : Arv Z h10 b3 k3 .byte (2 : Int32) [(.int d0), (.int (nar .byte ((d1 + (1 : Int32)).toInt8.toInt32)))] (.int (0 : Int32)) := V10
  have Zh15 : n0 ≤ h10.size := Nat.le_trans Zh7 (Nat.le_of_eq W10.size.symm)
  have N10 := Fr.snoc X10 N3 g_b3
  have K16 := K8.wr W10 (Or.inr sz_b3)
  refine own_go st10 ?_
  show own_Fin p e below _ (T10.setTop (mkF m 44 #[.val (.ref a1), .val (.int (1 : Int32)), .val (.ref b3)] []))
  refine own_go (fun t k => XS.aloadN X10.here hx rfl (hb hby d2_44) rfl rfl  k) ?_
  show own_Fin p e below _ (T10.setTop (mkF m 45 #[.val (.ref a1), .val (.int (1 : Int32)), .val (.ref b3)] [(.ref b3)]))
  exact own_out X10 (fun h => by rw [Bd.returns] at h; cases h) Bd.notSynchronized (fun fs hr => retOut X10 hx Bd.returns rfl (Or.inr (Or.inr (Or.inr (Or.inr ⟨rfl, rfl, rfl⟩)))) (hb hby d2_45) hr) (by rw [e10]; exact ⟨_, _, rfl, N10, sz_b3, K16, f14⟩) (by decide) (by decide)
theorem ef_2r30 (m : MethodId) (x0 : Addr)  : entryFrame m #[(.ref x0)] 3 = mkF m 0 #[.val (.ref x0), .unset, .unset] [] := by first | (simp [entryFrame, mkF, argsToLocals, Value.category]; done) | rfl
set_option maxRecDepth 65536 in
set_option maxHeartbeats 40000000 in
theorem rm2r30 (l : Launch) (Z : State) (a0 : Array Value) (hw : ∀ d ∈ tables_1, d.before a0 Z = true) (ws : List Jvm.Cond) (a1 : Addr) (k1 : ClassId) (d0 d1 d2 : Int32) (h0 : Heap) (n0 : Nat) (Z0 : n0 ≤ h0.size) (V_1 : Arv Z h0 a1 k1 .byte (3 : Int32) [(.int d0), (.int d1), (.int d2)] (.int (0 : Int32))) (E_1 : Exa Z h0 a1 "[B") (hy2 : d2 = (-1 : Int32)) (hy1 : d1 = (-1 : Int32)) (hy0 : d0 = (-1 : Int32)) :
    MetFree l (⟨"com/example/keyslice/keyslice/storage/KeyRange", "after", "([B)[B"⟩ : MethodName) (head1 (Jvm.Cond.code (⟨"com/example/keyslice/keyslice/storage/KeyRange", "after", "([B)[B"⟩ : MethodName) prog_64_method_8_code 3 (some (.array .byte)) :: ws) ({ frames := 0, cells := 0, slots := 0, locals := 0 } : Room)) (fun a U => a = #[(.ref a1)] ∧ Z.Warmed39 U.vm ∧ U.heap = h0) (fun _ _ _ _ _ => True) (fun _ U o U' => ∃ v L, o = .returned v ∧ (own_P h0 n0 .null) v U'.heap L ∧ FrameEnd U o U' L ({ frames := 0, cells := 0, slots := 0, locals := 0 } : Room).cells ({ frames := 0, cells := 0, slots := 0, locals := 0 } : Room).slots) := by
  refine MetFree.of_bodySF (plainFor_of_name pn_2) hisR ?_
  intro p e s m args below meth c s₁ Bd hml0 hP hK
  obtain ⟨rfl, hZ, hh⟩ := hP
  have hx := Bd.exec
  have hby := Bd.bytes
  have hml : c.maxLocals = 3 := hml0
  have hown : s.vm.findClass "com/example/keyslice/keyslice/storage/KeyRange" = some m.cls := findClass_of_methodNamed Bd.named
  have hnm := (name_of_methodNamed Bd.named Bd.method).1
  have X0 : Stand p l e ({ frames := 0, cells := 0, slots := 0, locals := 0 } : Room) s m #[(.ref a1)] below meth c s₁ [] 0 0 := Stand.of_body Bd
  have e0 : s₁.heap = h0 := by rw [← hh, Bd.state]; rfl
  have N0 := Fr.nil n0
  show own_Fin p e below (own_A s ({ frames := 0, cells := 0, slots := 0, locals := 0 } : Room).cells ({ frames := 0, cells := 0, slots := 0, locals := 0 } : Room).slots (own_P h0 n0 .null)) _
  refine own_go (fun t k => castTop (ef_2r30 m (a1)) k) ?_
  show own_Fin p e below _ (s₁.setTop (mkF m 0 #[.val (.ref a1), .unset, .unset] []))
  refine own_go (fun t k => XS.aloadN X0.here hx rfl (hb hby d2_0) rfl rfl  k) ?_
  show own_Fin p e below _ (s₁.setTop (mkF m 1 #[.val (.ref a1), .unset, .unset] [(.ref a1)]))
  obtain ⟨cl1, Ar1, q1, S1, M1, H1, G1⟩ := (id V_1)
  refine own_go (fun t k => X0.arraylength hx (by rw [e0]; exact Ar1.1) (State.isArrayOf_alike hZ.alike Ar1.2.1) (g := (mkF m 1 #[.val (.ref a1), .unset, .unset] [(.ref a1)])) rfl rfl (hb hby d2_1) _ k) ?_
  rw [len_of S1 M1]
  show own_Fin p e below _ (s₁.setTop (mkF m 2 #[.val (.ref a1), .unset, .unset] [(.int (3 : Int32))]))
  refine own_go (fun t k => XS.iconst X0.here hx rfl (hb hby d2_2) (XS.isub X0.here hx rfl (hb hby d2_3) rfl (XS.istoreN X0.here hx rfl (hb hby d2_4) rfl (l' := #[.val (.ref a1), .val (.int (2 : Int32)), .unset]) rfl (XS.iloadN X0.here hx rfl (hb hby d2_5) rfl  k)))) ?_
  show own_Fin p e below _ (s₁.setTop (mkF m 6 #[.val (.ref a1), .val (.int (2 : Int32)), .unset] [(.int (2 : Int32))]))
  refine own_go (fun t k => XS.ifNo X0.here hx rfl (hb hby d2_6) rfl ((if0 _ _).trans (flt (by decide : ¬ ((2 : Int32) < (0 : Int32)))).1) (XS.aloadN X0.here hx rfl (hb hby d2_9) rfl rfl  (XS.iloadN X0.here hx rfl (hb hby d2_10) rfl  k))) ?_
  show own_Fin p e below _ (s₁.setTop (mkF m 11 #[.val (.ref a1), .val (.int (2 : Int32)), .unset] [(.int (2 : Int32)), (.ref a1)]))
  obtain ⟨cl2, Ar2, q2, S2, M2, H2, G2⟩ := (id V_1)
  have hin2 : ¬ ((2 : Int32) < 0 ∨ cl2.slots.size ≤ ((2 : Int32)).toNatClampNeg) := inb_of S2 ⟨by decide, by decide⟩
  have hat2 : cl2.slots[((2 : Int32)).toNatClampNeg]? = some (.int d2) := H2.at hin2 rfl
  refine own_go (fun t k => X0.baloadBytes hx (j := (2 : Int32)) (v := (.int d2)) (by rw [e0]; exact Ar2.1) (State.isArrayOf_alike hZ.alike Ar2.2.1) Ar2.2.2 hin2 hat2 (g := (mkF m 11 #[.val (.ref a1), .val (.int (2 : Int32)), .unset] [(.int (2 : Int32)), (.ref a1)])) rfl rfl (hb hby d2_11) _ (XS.iconst X0.here hx rfl (hb hby d2_12) k)) ?_
  show own_Fin p e below _ (s₁.setTop (mkF m 13 #[.val (.ref a1), .val (.int (2 : Int32)), .unset] [(.int (-1 : Int32)), (.int d2)]))
  refine own_go (fun t k => XS.icmpNo X0.here hx rfl (hb hby d2_13) rfl (teq hy2).2 (XS.iinc X0.here hx rfl (hb hby d2_16) rfl (l' := #[.val (.ref a1), .val (.int (1 : Int32)), .unset]) rfl (XS.goto X0.here hx rfl (pc0 := 19) (pc' := 5) rfl (hb hby d2_19) (by decide) (by decide) (XS.iloadN X0.here hx rfl (hb hby d2_5) rfl  k)))) ?_
  show own_Fin p e below _ (s₁.setTop (mkF m 6 #[.val (.ref a1), .val (.int (1 : Int32)), .unset] [(.int (1 : Int32))]))
  refine own_go (fun t k => XS.ifNo X0.here hx rfl (hb hby d2_6) rfl ((if0 _ _).trans (flt (by decide : ¬ ((1 : Int32) < (0 : Int32)))).1) (XS.aloadN X0.here hx rfl (hb hby d2_9) rfl rfl  (XS.iloadN X0.here hx rfl (hb hby d2_10) rfl  k))) ?_
  show own_Fin p e below _ (s₁.setTop (mkF m 11 #[.val (.ref a1), .val (.int (1 : Int32)), .unset] [(.int (1 : Int32)), (.ref a1)]))
  obtain ⟨cl3, Ar3, q3, S3, M3, H3, G3⟩ := (id V_1)
  have hin3 : ¬ ((1 : Int32) < 0 ∨ cl3.slots.size ≤ ((1 : Int32)).toNatClampNeg) := inb_of S3 ⟨by decide, by decide⟩
  have hat3 : cl3.slots[((1 : Int32)).toNatClampNeg]? = some (.int d1) := H3.at hin3 rfl
  refine own_go (fun t k => X0.baloadBytes hx (j := (1 : Int32)) (v := (.int d1)) (by rw [e0]; exact Ar3.1) (State.isArrayOf_alike hZ.alike Ar3.2.1) Ar3.2.2 hin3 hat3 (g := (mkF m 11 #[.val (.ref a1), .val (.int (1 : Int32)), .unset] [(.int (1 : Int32)), (.ref a1)])) rfl rfl (hb hby d2_11) _ (XS.iconst X0.here hx rfl (hb hby d2_12) k)) ?_
  show own_Fin p e below _ (s₁.setTop (mkF m 13 #[.val (.ref a1), .val (.int (1 : Int32)), .unset] [(.int (-1 : Int32)), (.int d1)]))
  refine own_go (fun t k => XS.icmpNo X0.here hx rfl (hb hby d2_13) rfl (teq hy1).2 (XS.iinc X0.here hx rfl (hb hby d2_16) rfl (l' := #[.val (.ref a1), .val (.int (0 : Int32)), .unset]) rfl (XS.goto X0.here hx rfl (pc0 := 19) (pc' := 5) rfl (hb hby d2_19) (by decide) (by decide) (XS.iloadN X0.here hx rfl (hb hby d2_5) rfl  k)))) ?_
  show own_Fin p e below _ (s₁.setTop (mkF m 6 #[.val (.ref a1), .val (.int (0 : Int32)), .unset] [(.int (0 : Int32))]))
  refine own_go (fun t k => XS.ifNo X0.here hx rfl (hb hby d2_6) rfl ((if0 _ _).trans (flt (by decide : ¬ ((0 : Int32) < (0 : Int32)))).1) (XS.aloadN X0.here hx rfl (hb hby d2_9) rfl rfl  (XS.iloadN X0.here hx rfl (hb hby d2_10) rfl  k))) ?_
  show own_Fin p e below _ (s₁.setTop (mkF m 11 #[.val (.ref a1), .val (.int (0 : Int32)), .unset] [(.int (0 : Int32)), (.ref a1)]))
  obtain ⟨cl4, Ar4, q4, S4, M4, H4, G4⟩ := (id V_1)
  have hin4 : ¬ ((0 : Int32) < 0 ∨ cl4.slots.size ≤ ((0 : Int32)).toNatClampNeg) := inb_of S4 ⟨by decide, by decide⟩
  have hat4 : cl4.slots[((0 : Int32)).toNatClampNeg]? = some (.int d0) := H4.at hin4 rfl
  refine own_go (fun t k => X0.baloadBytes hx (j := (0 : Int32)) (v := (.int d0)) (by rw [e0]; exact Ar4.1) (State.isArrayOf_alike hZ.alike Ar4.2.1) Ar4.2.2 hin4 hat4 (g := (mkF m 11 #[.val (.ref a1), .val (.int (0 : Int32)), .unset] [(.int (0 : Int32)), (.ref a1)])) rfl rfl (hb hby d2_11) _ (XS.iconst X0.here hx rfl (hb hby d2_12) k)) ?_
  show own_Fin p e below _ (s₁.setTop (mkF m 13 #[.val (.ref a1), .val (.int (0 : Int32)), .unset] [(.int (-1 : Int32)), (.int d0)]))
  refine own_go (fun t k => XS.icmpNo X0.here hx rfl (hb hby d2_13) rfl (teq hy0).2 (XS.iinc X0.here hx rfl (hb hby d2_16) rfl (l' := #[.val (.ref a1), .val (.int (-1 : Int32)), .unset]) rfl (XS.goto X0.here hx rfl (pc0 := 19) (pc' := 5) rfl (hb hby d2_19) (by decide) (by decide) (XS.iloadN X0.here hx rfl (hb hby d2_5) rfl  k)))) ?_
  show own_Fin p e below _ (s₁.setTop (mkF m 6 #[.val (.ref a1), .val (.int (-1 : Int32)), .unset] [(.int (-1 : Int32))]))
  refine own_go (fun t k => XS.ifYes X0.here hx rfl (pc0 := 6) (pc' := 22) rfl (hb hby d2_6) rfl ((if0 _ _).trans (tlt (by decide : (-1 : Int32) < (0 : Int32))).1) (by decide) (by decide) (XS.iloadN X0.here hx rfl (hb hby d2_22) rfl  k)) ?_
  show own_Fin p e below _ (s₁.setTop (mkF m 23 #[.val (.ref a1), .val (.int (-1 : Int32)), .unset] [(.int (-1 : Int32))]))
  refine own_go (fun t k => XS.ifNo X0.here hx rfl (hb hby d2_23) rfl ((if0 _ _).trans (tlt (by decide : (-1 : Int32) < (0 : Int32))).2.1) (XS.aconstNull X0.here hx rfl (hb hby d2_26) k)) ?_
  show own_Fin p e below _ (s₁.setTop (mkF m 27 #[.val (.ref a1), .val (.int (-1 : Int32)), .unset] [.null]))
  exact own_out X0 (fun h => by rw [Bd.returns] at h; cases h) Bd.notSynchronized (fun fs hr => retOut X0 hx Bd.returns rfl (Or.inr (Or.inr (Or.inr (Or.inr ⟨rfl, rfl, rfl⟩)))) (hb hby d2_27) hr) ⟨rfl, N0, e0⟩ (by decide) (by decide)
theorem ef_2r31 (m : MethodId) (x0 : Addr)  : entryFrame m #[(.ref x0)] 3 = mkF m 0 #[.val (.ref x0), .unset, .unset] [] := by first | (simp [entryFrame, mkF, argsToLocals, Value.category]; done) | rfl
def own_q2r31 (Z : State) (a1 : Addr) (k1 : ClassId) (d0 d1 d2 : Int32) (h0 : Heap) (n0 : Nat) (v : Option Value) (h : Heap) (L : List Loc) : Prop := ∃ (a : Addr) (k : ClassId), v = some (.ref a) ∧ Fr n0 L ∧ h0.size ≤ a ∧ Keep h0 h [] ∧ Arv Z h a k .byte (1 : Int32) [(.int (nar .byte (((d0 + (1 : Int32)).toInt8.toInt32))))] (.int (0 : Int32))
set_option maxRecDepth 65536 in
set_option maxHeartbeats 40000000 in
theorem rm2r31 (l : Launch) (Z : State) (a0 : Array Value) (hw : ∀ d ∈ tables_1, d.before a0 Z = true) (ws : List Jvm.Cond) (a1 : Addr) (k1 : ClassId) (d0 d1 d2 : Int32) (h0 : Heap) (n0 : Nat) (Z0 : n0 ≤ h0.size) (V_1 : Arv Z h0 a1 k1 .byte (3 : Int32) [(.int d0), (.int d1), (.int d2)] (.int (0 : Int32))) (E_1 : Exa Z h0 a1 "[B") (hy2 : d2 = (-1 : Int32)) (hy1 : d1 = (-1 : Int32)) (hn0 : ¬ d0 = (-1 : Int32)) :
    MetFree l (⟨"com/example/keyslice/keyslice/storage/KeyRange", "after", "([B)[B"⟩ : MethodName) (head1 (Jvm.Cond.code (⟨"com/example/keyslice/keyslice/storage/KeyRange", "after", "([B)[B"⟩ : MethodName) prog_64_method_8_code 3 (some (.array .byte)) :: ws) ({ frames := 2, cells := 1, slots := 1, locals := 32 } : Room)) (fun a U => a = #[(.ref a1)] ∧ Z.Warmed39 U.vm ∧ U.heap = h0) (fun _ _ _ _ _ => True) (fun _ U o U' => ∃ v L, o = .returned v ∧ (own_q2r31 Z a1 k1 d0 d1 d2 h0 n0) v U'.heap L ∧ FrameEnd U o U' L ({ frames := 2, cells := 1, slots := 1, locals := 32 } : Room).cells ({ frames := 2, cells := 1, slots := 1, locals := 32 } : Room).slots) := by
  refine MetFree.of_bodySF (plainFor_of_name pn_2) hisR ?_
  intro p e s m args below meth c s₁ Bd hml0 hP hK
  obtain ⟨rfl, hZ, hh⟩ := hP
  have hx := Bd.exec
  have hby := Bd.bytes
  have hml : c.maxLocals = 3 := hml0
  have hown : s.vm.findClass "com/example/keyslice/keyslice/storage/KeyRange" = some m.cls := findClass_of_methodNamed Bd.named
  have hnm := (name_of_methodNamed Bd.named Bd.method).1
  have X0 : Stand p l e ({ frames := 2, cells := 1, slots := 1, locals := 32 } : Room) s m #[(.ref a1)] below meth c s₁ [] 0 0 := Stand.of_body Bd
  have e0 : s₁.heap = h0 := by rw [← hh, Bd.state]; rfl
  have N0 := Fr.nil n0
  have Kz := Keep.refl h0 []
  have hw_13 := hw _ (List.mem_of_getElem? (i := 13) rfl)
  have hw_14 := hw _ (List.mem_of_getElem? (i := 14) rfl)
  have hw_15 := hw _ (List.mem_of_getElem? (i := 15) rfl)
  have hw_16 := hw _ (List.mem_of_getElem? (i := 16) rfl)
  show own_Fin p e below (own_A s ({ frames := 2, cells := 1, slots := 1, locals := 32 } : Room).cells ({ frames := 2, cells := 1, slots := 1, locals := 32 } : Room).slots (own_q2r31 Z a1 k1 d0 d1 d2 h0 n0)) _
  refine own_go (fun t k => castTop (ef_2r31 m (a1)) k) ?_
  show own_Fin p e below _ (s₁.setTop (mkF m 0 #[.val (.ref a1), .unset, .unset] []))
  refine own_go (fun t k => XS.aloadN X0.here hx rfl (hb hby d2_0) rfl rfl  k) ?_
  show own_Fin p e below _ (s₁.setTop (mkF m 1 #[.val (.ref a1), .unset, .unset] [(.ref a1)]))
  obtain ⟨cl1, Ar1, q1, S1, M1, H1, G1⟩ := (id V_1)
  refine own_go (fun t k => X0.arraylength hx (by rw [e0]; exact Ar1.1) (State.isArrayOf_alike hZ.alike Ar1.2.1) (g := (mkF m 1 #[.val (.ref a1), .unset, .unset] [(.ref a1)])) rfl rfl (hb hby d2_1) _ k) ?_
  rw [len_of S1 M1]
  show own_Fin p e below _ (s₁.setTop (mkF m 2 #[.val (.ref a1), .unset, .unset] [(.int (3 : Int32))]))
  refine own_go (fun t k => XS.iconst X0.here hx rfl (hb hby d2_2) (XS.isub X0.here hx rfl (hb hby d2_3) rfl (XS.istoreN X0.here hx rfl (hb hby d2_4) rfl (l' := #[.val (.ref a1), .val (.int (2 : Int32)), .unset]) rfl (XS.iloadN X0.here hx rfl (hb hby d2_5) rfl  k)))) ?_
  show own_Fin p e below _ (s₁.setTop (mkF m 6 #[.val (.ref a1), .val (.int (2 : Int32)), .unset] [(.int (2 : Int32))]))
  refine own_go (fun t k => XS.ifNo X0.here hx rfl (hb hby d2_6) rfl ((if0 _ _).trans (flt (by decide : ¬ ((2 : Int32) < (0 : Int32)))).1) (XS.aloadN X0.here hx rfl (hb hby d2_9) rfl rfl  (XS.iloadN X0.here hx rfl (hb hby d2_10) rfl  k))) ?_
  show own_Fin p e below _ (s₁.setTop (mkF m 11 #[.val (.ref a1), .val (.int (2 : Int32)), .unset] [(.int (2 : Int32)), (.ref a1)]))
  obtain ⟨cl2, Ar2, q2, S2, M2, H2, G2⟩ := (id V_1)
  have hin2 : ¬ ((2 : Int32) < 0 ∨ cl2.slots.size ≤ ((2 : Int32)).toNatClampNeg) := inb_of S2 ⟨by decide, by decide⟩
  have hat2 : cl2.slots[((2 : Int32)).toNatClampNeg]? = some (.int d2) := H2.at hin2 rfl
  refine own_go (fun t k => X0.baloadBytes hx (j := (2 : Int32)) (v := (.int d2)) (by rw [e0]; exact Ar2.1) (State.isArrayOf_alike hZ.alike Ar2.2.1) Ar2.2.2 hin2 hat2 (g := (mkF m 11 #[.val (.ref a1), .val (.int (2 : Int32)), .unset] [(.int (2 : Int32)), (.ref a1)])) rfl rfl (hb hby d2_11) _ (XS.iconst X0.here hx rfl (hb hby d2_12) k)) ?_
  show own_Fin p e below _ (s₁.setTop (mkF m 13 #[.val (.ref a1), .val (.int (2 : Int32)), .unset] [(.int (-1 : Int32)), (.int d2)]))
  refine own_go (fun t k => XS.icmpNo X0.here hx rfl (hb hby d2_13) rfl (teq hy2).2 (XS.iinc X0.here hx rfl (hb hby d2_16) rfl (l' := #[.val (.ref a1), .val (.int (1 : Int32)), .unset]) rfl (XS.goto X0.here hx rfl (pc0 := 19) (pc' := 5) rfl (hb hby d2_19) (by decide) (by decide) (XS.iloadN X0.here hx rfl (hb hby d2_5) rfl  k)))) ?_
  show own_Fin p e below _ (s₁.setTop (mkF m 6 #[.val (.ref a1), .val (.int (1 : Int32)), .unset] [(.int (1 : Int32))]))
  refine own_go (fun t k => XS.ifNo X0.here hx rfl (hb hby d2_6) rfl ((if0 _ _).trans (flt (by decide : ¬ ((1 : Int32) < (0 : Int32)))).1) (XS.aloadN X0.here hx rfl (hb hby d2_9) rfl rfl  (XS.iloadN X0.here hx rfl (hb hby d2_10) rfl  k))) ?_
  show own_Fin p e below _ (s₁.setTop (mkF m 11 #[.val (.ref a1), .val (.int (1 : Int32)), .unset] [(.int (1 : Int32)), (.ref a1)]))
  obtain ⟨cl3, Ar3, q3, S3, M3, H3, G3⟩ := (id V_1)
  have hin3 : ¬ ((1 : Int32) < 0 ∨ cl3.slots.size ≤ ((1 : Int32)).toNatClampNeg) := inb_of S3 ⟨by decide, by decide⟩
  have hat3 : cl3.slots[((1 : Int32)).toNatClampNeg]? = some (.int d1) := H3.at hin3 rfl
  refine own_go (fun t k => X0.baloadBytes hx (j := (1 : Int32)) (v := (.int d1)) (by rw [e0]; exact Ar3.1) (State.isArrayOf_alike hZ.alike Ar3.2.1) Ar3.2.2 hin3 hat3 (g := (mkF m 11 #[.val (.ref a1), .val (.int (1 : Int32)), .unset] [(.int (1 : Int32)), (.ref a1)])) rfl rfl (hb hby d2_11) _ (XS.iconst X0.here hx rfl (hb hby d2_12) k)) ?_
  show own_Fin p e below _ (s₁.setTop (mkF m 13 #[.val (.ref a1), .val (.int (1 : Int32)), .unset] [(.int (-1 : Int32)), (.int d1)]))
  refine own_go (fun t k => XS.icmpNo X0.here hx rfl (hb hby d2_13) rfl (teq hy1).2 (XS.iinc X0.here hx rfl (hb hby d2_16) rfl (l' := #[.val (.ref a1), .val (.int (0 : Int32)), .unset]) rfl (XS.goto X0.here hx rfl (pc0 := 19) (pc' := 5) rfl (hb hby d2_19) (by decide) (by decide) (XS.iloadN X0.here hx rfl (hb hby d2_5) rfl  k)))) ?_
  show own_Fin p e below _ (s₁.setTop (mkF m 6 #[.val (.ref a1), .val (.int (0 : Int32)), .unset] [(.int (0 : Int32))]))
  refine own_go (fun t k => XS.ifNo X0.here hx rfl (hb hby d2_6) rfl ((if0 _ _).trans (flt (by decide : ¬ ((0 : Int32) < (0 : Int32)))).1) (XS.aloadN X0.here hx rfl (hb hby d2_9) rfl rfl  (XS.iloadN X0.here hx rfl (hb hby d2_10) rfl  k))) ?_
  show own_Fin p e below _ (s₁.setTop (mkF m 11 #[.val (.ref a1), .val (.int (0 : Int32)), .unset] [(.int (0 : Int32)), (.ref a1)]))
  obtain ⟨cl4, Ar4, q4, S4, M4, H4, G4⟩ := (id V_1)
  have hin4 : ¬ ((0 : Int32) < 0 ∨ cl4.slots.size ≤ ((0 : Int32)).toNatClampNeg) := inb_of S4 ⟨by decide, by decide⟩
  have hat4 : cl4.slots[((0 : Int32)).toNatClampNeg]? = some (.int d0) := H4.at hin4 rfl
  refine own_go (fun t k => X0.baloadBytes hx (j := (0 : Int32)) (v := (.int d0)) (by rw [e0]; exact Ar4.1) (State.isArrayOf_alike hZ.alike Ar4.2.1) Ar4.2.2 hin4 hat4 (g := (mkF m 11 #[.val (.ref a1), .val (.int (0 : Int32)), .unset] [(.int (0 : Int32)), (.ref a1)])) rfl rfl (hb hby d2_11) _ (XS.iconst X0.here hx rfl (hb hby d2_12) k)) ?_
  show own_Fin p e below _ (s₁.setTop (mkF m 13 #[.val (.ref a1), .val (.int (0 : Int32)), .unset] [(.int (-1 : Int32)), (.int d0)]))
  refine own_go (fun t k => XS.icmpYes X0.here hx rfl (pc0 := 13) (pc' := 22) rfl (hb hby d2_13) rfl (feq hn0).2 (by decide) (by decide) (XS.iloadN X0.here hx rfl (hb hby d2_22) rfl  k)) ?_
  show own_Fin p e below _ (s₁.setTop (mkF m 23 #[.val (.ref a1), .val (.int (0 : Int32)), .unset] [(.int (0 : Int32))]))
  refine own_go (fun t k => XS.ifYes X0.here hx rfl (pc0 := 23) (pc' := 28) rfl (hb hby d2_23) rfl ((if0 _ _).trans (flt (by decide : ¬ ((0 : Int32) < (0 : Int32)))).2.1) (by decide) (by decide) (XS.aloadN X0.here hx rfl (hb hby d2_28) rfl rfl  (XS.iloadN X0.here hx rfl (hb hby d2_29) rfl  (XS.iconst X0.here hx rfl (hb hby d2_30) (XS.iadd X0.here hx rfl (hb hby d2_31) rfl k))))) ?_
  show own_Fin p e below _ (s₁.setTop (mkF m 32 #[.val (.ref a1), .val (.int (0 : Int32)), .unset] [(.int (1 : Int32)), (.ref a1)]))
  obtain ⟨_, _, ⟨T5, L5, k5, n5⟩, -, X5, ⟨Lc5, hQ5, l5, y5, z5⟩, st5⟩ := Jvm.LawKit.callS X0 hx (y := (⟨"java/util/Arrays", "copyOf", "([BI)[B"⟩ : MethodName)) hown (mvT hZ hw_13) (mvT hZ hw_14) (mvT hZ hw_15) (mvT hZ hw_16) (by decide) (backOf (W := 0) (rm4c31 l Z a0 hw [] (a1) k1 (d0) (d1) (d2) h0 n0 Z0 V_1 E_1) hZ hw_16 hw_15 (by decide) (by decide)) (g := (mkF m 32 #[.val (.ref a1), .val (.int (0 : Int32)), .unset] [(.int (1 : Int32)), (.ref a1)])) rfl (by rw [hml]; rfl) (argsL := [(.ref a1), (.int (1 : Int32))]) (rest := []) (lenOf pd_1 rfl) rfl (by show 2 * 0 + _ ≤ _; exact Nat.le_of_eq rfl) (hb hby d2_32) (fun _ _ => ⟨rfl, e0, (by decide : 0 + 1 ≤ _), (by decide : 0 + 1 ≤ _)⟩)
  dsimp only [Pt.U, Pt.locs, Pt.cells, Pt.slots] at X5 l5 y5 z5 st5 hQ5
  subst l5 y5 z5
  obtain ⟨b5, k5, rfl, N5q, sz5, K5, V5⟩ := hQ5
  have N5 := Fr.app N0 N5q
  have g_b5 : n0 ≤ b5 := Nat.le_trans Z0 sz5
  have sz_b5 : h0.size ≤ b5 := Nat.le_trans Kz.1 sz5
  have ne6 : a1 ≠ b5 := Nat.ne_of_lt (Nat.lt_of_lt_of_le V_1.lt sz5)
  have E5 : Ext _ _ := ⟨K5.1, fun a c q => K5.2.1 a c q nin0⟩
  have f7 := V_1.ext E5
  have f8 := E_1.ext E5
  have Zh9 : n0 ≤ T5.heap.size := Nat.le_trans Z0 K5.1
  have K10 := Kz.ext E5
  refine own_go st5 ?_
  show own_Fin p e below _ (T5.setTop (mkF m 35 #[.val (.ref a1), .val (.int (0 : Int32)), .unset] [(.ref b5)]))
  refine own_go (fun t k => XS.astoreN X5.here hx rfl (hb hby d2_35) rfl rfl (l' := #[.val (.ref a1), .val (.int (0 : Int32)), .val (.ref b5)]) rfl (XS.aloadN X5.here hx rfl (hb hby d2_36) rfl rfl  (XS.iloadN X5.here hx rfl (hb hby d2_37) rfl  (XT.dup2 X5.here hx rfl (hb hby d2_38) rfl rfl rfl k)))) ?_
  show own_Fin p e below _ (T5.setTop (mkF m 39 #[.val (.ref a1), .val (.int (0 : Int32)), .val (.ref b5)] [(.int (0 : Int32)), (.ref b5), (.int (0 : Int32)), (.ref b5)]))
  obtain ⟨cl11, Ar11, q11, S11, M11, H11, G11⟩ := (id V5)
  have hin11 : ¬ ((0 : Int32) < 0 ∨ cl11.slots.size ≤ ((0 : Int32)).toNatClampNeg) := inb_of S11 ⟨by decide, by decide⟩
  have hat11 : cl11.slots[((0 : Int32)).toNatClampNeg]? = some (.int d0) := H11.at hin11 rfl
  refine own_go (fun t k => X5.baloadBytes hx (j := (0 : Int32)) (v := (.int d0)) Ar11.1 (State.isArrayOf_alike hZ.alike Ar11.2.1) Ar11.2.2 hin11 hat11 (g := (mkF m 39 #[.val (.ref a1), .val (.int (0 : Int32)), .val (.ref b5)] [(.int (0 : Int32)), (.ref b5), (.int (0 : Int32)), (.ref b5)])) rfl rfl (hb hby d2_39) _ (XS.iconst X5.here hx rfl (hb hby d2_40) (XS.iadd X5.here hx rfl (hb hby d2_41) rfl (XS.i2b X5.here hx rfl (hb hby d2_42) rfl k)))) ?_
  show own_Fin p e below _ (T5.setTop (mkF m 43 #[.val (.ref a1), .val (.int (0 : Int32)), .val (.ref b5)] [(.int ((d0 + (1 : Int32)).toInt8.toInt32)), (.int (0 : Int32)), (.ref b5)]))
  obtain ⟨cl12, Ar12, q12, S12, M12, H12, G12⟩ := (id V5)
  have hin12 : ¬ ((0 : Int32) < 0 ∨ cl12.slots.size ≤ ((0 : Int32)).toNatClampNeg) := inb_of S12 ⟨by decide, by decide⟩
  obtain ⟨T12, h12, X12, e12, W12, st12⟩ := stB X5 hx hZ rfl Ar12 (j := (0 : Int32)) hin12 (g := (mkF m 43 #[.val (.ref a1), .val (.int (0 : Int32)), .val (.ref b5)] [(.int ((d0 + (1 : Int32)).toInt8.toInt32)), (.int (0 : Int32)), (.ref b5)])) rfl rfl (hb hby d2_43)
  have f13 := f7.other W12 ne6
  have f14 := f8.wr W12
  have V12 := Arv.set Ar12 q12 S12 M12 H12 G12 (fits_nar_byte _) W12 0 rfl (Nat.le_of_ble_eq_true rfl)
  have f16 : Arv Z h12 b5 k5 .byte (1 : Int32) [(.int (nar .byte ((d0 + (1 : Int32)).toInt8.toInt32)))] (.int (0 : Int32)) := V12
  have Zh17 : n0 ≤ h12.size := Nat.le_trans Zh9 (Nat.le_of_eq W12.size.symm)
  have N12 := Fr.snoc X12 N5 g_b5
  have K18 := K10.wr W12 (Or.inr sz_b5)
  refine own_go st12 ?_
  show own_Fin p e below _ (T12.setTop (mkF m 44 #[.val (.ref a1), .val (.int (0 : Int32)), .val (.ref b5)] []))
  refine own_go (fun t k => XS.aloadN X12.here hx rfl (hb hby d2_44) rfl rfl  k) ?_
  show own_Fin p e below _ (T12.setTop (mkF m 45 #[.val (.ref a1), .val (.int (0 : Int32)), .val (.ref b5)] [(.ref b5)]))
  exact own_out X12 (fun h => by rw [Bd.returns] at h; cases h) Bd.notSynchronized (fun fs hr => retOut X12 hx Bd.returns rfl (Or.inr (Or.inr (Or.inr (Or.inr ⟨rfl, rfl, rfl⟩)))) (hb hby d2_45) hr) (by rw [e12]; exact ⟨_, _, rfl, N12, sz_b5, K18, f16⟩) (by decide) (by decide)
theorem ef_2r32 (m : MethodId) (x0 : Addr)  : entryFrame m #[(.ref x0)] 3 = mkF m 0 #[.val (.ref x0), .unset, .unset] [] := by first | (simp [entryFrame, mkF, argsToLocals, Value.category]; done) | rfl
def own_q2r32 (Z : State) (a1 : Addr) (k1 : ClassId) (d0 d1 d2 : Int32) (h0 : Heap) (n0 : Nat) (v : Option Value) (h : Heap) (L : List Loc) : Prop := ∃ (a : Addr) (k : ClassId), v = some (.ref a) ∧ Fr n0 L ∧ h0.size ≤ a ∧ Keep h0 h [] ∧ Arv Z h a k .byte (2 : Int32) [(.int d0), (.int (nar .byte (((d1 + (1 : Int32)).toInt8.toInt32))))] (.int (0 : Int32))
set_option maxRecDepth 65536 in
set_option maxHeartbeats 40000000 in
theorem rm2r32 (l : Launch) (Z : State) (a0 : Array Value) (hw : ∀ d ∈ tables_1, d.before a0 Z = true) (ws : List Jvm.Cond) (a1 : Addr) (k1 : ClassId) (d0 d1 d2 : Int32) (h0 : Heap) (n0 : Nat) (Z0 : n0 ≤ h0.size) (V_1 : Arv Z h0 a1 k1 .byte (3 : Int32) [(.int d0), (.int d1), (.int d2)] (.int (0 : Int32))) (E_1 : Exa Z h0 a1 "[B") (hy2 : d2 = (-1 : Int32)) (hn1 : ¬ d1 = (-1 : Int32)) :
    MetFree l (⟨"com/example/keyslice/keyslice/storage/KeyRange", "after", "([B)[B"⟩ : MethodName) (head1 (Jvm.Cond.code (⟨"com/example/keyslice/keyslice/storage/KeyRange", "after", "([B)[B"⟩ : MethodName) prog_64_method_8_code 3 (some (.array .byte)) :: ws) ({ frames := 2, cells := 1, slots := 2, locals := 32 } : Room)) (fun a U => a = #[(.ref a1)] ∧ Z.Warmed39 U.vm ∧ U.heap = h0) (fun _ _ _ _ _ => True) (fun _ U o U' => ∃ v L, o = .returned v ∧ (own_q2r32 Z a1 k1 d0 d1 d2 h0 n0) v U'.heap L ∧ FrameEnd U o U' L ({ frames := 2, cells := 1, slots := 2, locals := 32 } : Room).cells ({ frames := 2, cells := 1, slots := 2, locals := 32 } : Room).slots) := by
  refine MetFree.of_bodySF (plainFor_of_name pn_2) hisR ?_
  intro p e s m args below meth c s₁ Bd hml0 hP hK
  obtain ⟨rfl, hZ, hh⟩ := hP
  have hx := Bd.exec
  have hby := Bd.bytes
  have hml : c.maxLocals = 3 := hml0
  have hown : s.vm.findClass "com/example/keyslice/keyslice/storage/KeyRange" = some m.cls := findClass_of_methodNamed Bd.named
  have hnm := (name_of_methodNamed Bd.named Bd.method).1
  have X0 : Stand p l e ({ frames := 2, cells := 1, slots := 2, locals := 32 } : Room) s m #[(.ref a1)] below meth c s₁ [] 0 0 := Stand.of_body Bd
  have e0 : s₁.heap = h0 := by rw [← hh, Bd.state]; rfl
  have N0 := Fr.nil n0
  have Kz := Keep.refl h0 []
  have hw_13 := hw _ (List.mem_of_getElem? (i := 13) rfl)
  have hw_14 := hw _ (List.mem_of_getElem? (i := 14) rfl)
  have hw_15 := hw _ (List.mem_of_getElem? (i := 15) rfl)
  have hw_16 := hw _ (List.mem_of_getElem? (i := 16) rfl)
  show own_Fin p e below (own_A s ({ frames := 2, cells := 1, slots := 2, locals := 32 } : Room).cells ({ frames := 2, cells := 1, slots := 2, locals := 32 } : Room).slots (own_q2r32 Z a1 k1 d0 d1 d2 h0 n0)) _
  refine own_go (fun t k => castTop (ef_2r32 m (a1)) k) ?_
  show own_Fin p e below _ (s₁.setTop (mkF m 0 #[.val (.ref a1), .unset, .unset] []))
  refine own_go (fun t k => XS.aloadN X0.here hx rfl (hb hby d2_0) rfl rfl  k) ?_
  show own_Fin p e below _ (s₁.setTop (mkF m 1 #[.val (.ref a1), .unset, .unset] [(.ref a1)]))
  obtain ⟨cl1, Ar1, q1, S1, M1, H1, G1⟩ := (id V_1)
  refine own_go (fun t k => X0.arraylength hx (by rw [e0]; exact Ar1.1) (State.isArrayOf_alike hZ.alike Ar1.2.1) (g := (mkF m 1 #[.val (.ref a1), .unset, .unset] [(.ref a1)])) rfl rfl (hb hby d2_1) _ k) ?_
  rw [len_of S1 M1]
  show own_Fin p e below _ (s₁.setTop (mkF m 2 #[.val (.ref a1), .unset, .unset] [(.int (3 : Int32))]))
  refine own_go (fun t k => XS.iconst X0.here hx rfl (hb hby d2_2) (XS.isub X0.here hx rfl (hb hby d2_3) rfl (XS.istoreN X0.here hx rfl (hb hby d2_4) rfl (l' := #[.val (.ref a1), .val (.int (2 : Int32)), .unset]) rfl (XS.iloadN X0.here hx rfl (hb hby d2_5) rfl  k)))) ?_
  show own_Fin p e below _ (s₁.setTop (mkF m 6 #[.val (.ref a1), .val (.int (2 : Int32)), .unset] [(.int (2 : Int32))]))
  refine own_go (fun t k => XS.ifNo X0.here hx rfl (hb hby d2_6) rfl ((if0 _ _).trans (flt (by decide : ¬ ((2 : Int32) < (0 : Int32)))).1) (XS.aloadN X0.here hx rfl (hb hby d2_9) rfl rfl  (XS.iloadN X0.here hx rfl (hb hby d2_10) rfl  k))) ?_
  show own_Fin p e below _ (s₁.setTop (mkF m 11 #[.val (.ref a1), .val (.int (2 : Int32)), .unset] [(.int (2 : Int32)), (.ref a1)]))
  obtain ⟨cl2, Ar2, q2, S2, M2, H2, G2⟩ := (id V_1)
  have hin2 : ¬ ((2 : Int32) < 0 ∨ cl2.slots.size ≤ ((2 : Int32)).toNatClampNeg) := inb_of S2 ⟨by decide, by decide⟩
  have hat2 : cl2.slots[((2 : Int32)).toNatClampNeg]? = some (.int d2) := H2.at hin2 rfl
  refine own_go (fun t k => X0.baloadBytes hx (j := (2 : Int32)) (v := (.int d2)) (by rw [e0]; exact Ar2.1) (State.isArrayOf_alike hZ.alike Ar2.2.1) Ar2.2.2 hin2 hat2 (g := (mkF m 11 #[.val (.ref a1), .val (.int (2 : Int32)), .unset] [(.int (2 : Int32)), (.ref a1)])) rfl rfl (hb hby d2_11) _ (XS.iconst X0.here hx rfl (hb hby d2_12) k)) ?_
  show own_Fin p e below _ (s₁.setTop (mkF m 13 #[.val (.ref a1), .val (.int (2 : Int32)), .unset] [(.int (-1 : Int32)), (.int d2)]))
  refine own_go (fun t k => XS.icmpNo X0.here hx rfl (hb hby d2_13) rfl (teq hy2).2 (XS.iinc X0.here hx rfl (hb hby d2_16) rfl (l' := #[.val (.ref a1), .val (.int (1 : Int32)), .unset]) rfl (XS.goto X0.here hx rfl (pc0 := 19) (pc' := 5) rfl (hb hby d2_19) (by decide) (by decide) (XS.iloadN X0.here hx rfl (hb hby d2_5) rfl  k)))) ?_
  show own_Fin p e below _ (s₁.setTop (mkF m 6 #[.val (.ref a1), .val (.int (1 : Int32)), .unset] [(.int (1 : Int32))]))
  refine own_go (fun t k => XS.ifNo X0.here hx rfl (hb hby d2_6) rfl ((if0 _ _).trans (flt (by decide : ¬ ((1 : Int32) < (0 : Int32)))).1) (XS.aloadN X0.here hx rfl (hb hby d2_9) rfl rfl  (XS.iloadN X0.here hx rfl (hb hby d2_10) rfl  k))) ?_
  show own_Fin p e below _ (s₁.setTop (mkF m 11 #[.val (.ref a1), .val (.int (1 : Int32)), .unset] [(.int (1 : Int32)), (.ref a1)]))
  obtain ⟨cl3, Ar3, q3, S3, M3, H3, G3⟩ := (id V_1)
  have hin3 : ¬ ((1 : Int32) < 0 ∨ cl3.slots.size ≤ ((1 : Int32)).toNatClampNeg) := inb_of S3 ⟨by decide, by decide⟩
  have hat3 : cl3.slots[((1 : Int32)).toNatClampNeg]? = some (.int d1) := H3.at hin3 rfl
  refine own_go (fun t k => X0.baloadBytes hx (j := (1 : Int32)) (v := (.int d1)) (by rw [e0]; exact Ar3.1) (State.isArrayOf_alike hZ.alike Ar3.2.1) Ar3.2.2 hin3 hat3 (g := (mkF m 11 #[.val (.ref a1), .val (.int (1 : Int32)), .unset] [(.int (1 : Int32)), (.ref a1)])) rfl rfl (hb hby d2_11) _ (XS.iconst X0.here hx rfl (hb hby d2_12) k)) ?_
  show own_Fin p e below _ (s₁.setTop (mkF m 13 #[.val (.ref a1), .val (.int (1 : Int32)), .unset] [(.int (-1 : Int32)), (.int d1)]))
  refine own_go (fun t k => XS.icmpYes X0.here hx rfl (pc0 := 13) (pc' := 22) rfl (hb hby d2_13) rfl (feq hn1).2 (by decide) (by decide) (XS.iloadN X0.here hx rfl (hb hby d2_22) rfl  k)) ?_
  show own_Fin p e below _ (s₁.setTop (mkF m 23 #[.val (.ref a1), .val (.int (1 : Int32)), .unset] [(.int (1 : Int32))]))
  refine own_go (fun t k => XS.ifYes X0.here hx rfl (pc0 := 23) (pc' := 28) rfl (hb hby d2_23) rfl ((if0 _ _).trans (flt (by decide : ¬ ((1 : Int32) < (0 : Int32)))).2.1) (by decide) (by decide) (XS.aloadN X0.here hx rfl (hb hby d2_28) rfl rfl  (XS.iloadN X0.here hx rfl (hb hby d2_29) rfl  (XS.iconst X0.here hx rfl (hb hby d2_30) (XS.iadd X0.here hx rfl (hb hby d2_31) rfl k))))) ?_
  show own_Fin p e below _ (s₁.setTop (mkF m 32 #[.val (.ref a1), .val (.int (1 : Int32)), .unset] [(.int (2 : Int32)), (.ref a1)]))
  obtain ⟨_, _, ⟨T4, L4, k4, n4⟩, -, X4, ⟨Lc4, hQ4, l4, y4, z4⟩, st4⟩ := Jvm.LawKit.callS X0 hx (y := (⟨"java/util/Arrays", "copyOf", "([BI)[B"⟩ : MethodName)) hown (mvT hZ hw_13) (mvT hZ hw_14) (mvT hZ hw_15) (mvT hZ hw_16) (by decide) (backOf (W := 0) (rm4c32 l Z a0 hw [] (a1) k1 (d0) (d1) (d2) h0 n0 Z0 V_1 E_1) hZ hw_16 hw_15 (by decide) (by decide)) (g := (mkF m 32 #[.val (.ref a1), .val (.int (1 : Int32)), .unset] [(.int (2 : Int32)), (.ref a1)])) rfl (by rw [hml]; rfl) (argsL := [(.ref a1), (.int (2 : Int32))]) (rest := []) (lenOf pd_1 rfl) rfl (by show 2 * 0 + _ ≤ _; exact Nat.le_of_eq rfl) (hb hby d2_32) (fun _ _ => ⟨rfl, e0, (by decide : 0 + 1 ≤ _), (by decide : 0 + 2 ≤ _)⟩)
  dsimp only [Pt.U, Pt.locs, Pt.cells, Pt.slots] at X4 l4 y4 z4 st4 hQ4
  subst l4 y4 z4
  obtain ⟨b4, k4, rfl, N4q, sz4, K4, V4⟩ := hQ4
  have N4 := Fr.app N0 N4q
  have g_b4 : n0 ≤ b4 := Nat.le_trans Z0 sz4
  have sz_b4 : h0.size ≤ b4 := Nat.le_trans Kz.1 sz4
  have ne5 : a1 ≠ b4 := Nat.ne_of_lt (Nat.lt_of_lt_of_le V_1.lt sz4)
  have E4 : Ext _ _ := ⟨K4.1, fun a c q => K4.2.1 a c q nin0⟩
  have f6 := V_1.ext E4
  have f7 := E_1.ext E4
  have Zh8 : n0 ≤ T4.heap.size := Nat.le_trans Z0 K4.1
  have K9 := Kz.ext E4
  refine own_go st4 ?_
  show own_Fin p e below _ (T4.setTop (mkF m 35 #[.val (.ref a1), .val (.int (1 : Int32)), .unset] [(.ref b4)]))
  refine own_go (fun t k => XS.astoreN X4.here hx rfl (hb hby d2_35) rfl rfl (l' := #[.val (.ref a1), .val (.int (1 : Int32)), .val (.ref b4)]) rfl (XS.aloadN X4.here hx rfl (hb hby d2_36) rfl rfl  (XS.iloadN X4.here hx rfl (hb hby d2_37) rfl  (XT.dup2 X4.here hx rfl (hb hby d2_38) rfl rfl rfl k)))) ?_
  show own_Fin p e below _ (T4.setTop (mkF m 39 #[.val (.ref a1), .val (.int (1 : Int32)), .val (.ref b4)] [(.int (1 : Int32)), (.ref b4), (.int (1 : Int32)), (.ref b4)]))
  obtain ⟨cl10, Ar10, q10, S10, M10, H10, G10⟩ := (id V4)
  have hin10 : ¬ ((1 : Int32) < 0 ∨ cl10.slots.size ≤ ((1 : Int32)).toNatClampNeg) := inb_of S10 ⟨by decide, by decide⟩
  have hat10 : cl10.slots[((1 : Int32)).toNatClampNeg]? = some (.int d1) := H10.at hin10 rfl
  refine own_go (fun t k => X4.baloadBytes hx (j := (1 : Int32)) (v := (.int d1)) Ar10.1 (State.isArrayOf_alike hZ.alike Ar10.2.1) Ar10.2.2 hin10 hat10 (g := (mkF m 39 #[.val (.ref a1), .val (.int (1 : Int32)), .val (.ref b4)] [(.int (1 : Int32)), (.ref b4), (.int (1 : Int32)), (.ref b4)])) rfl rfl (hb hby d2_39) _ (XS.iconst X4.here hx rfl (hb hby d2_40) (XS.iadd X4.here hx rfl (hb hby d2_41) rfl (XS.i2b X4.here hx rfl (hb hby d2_42) rfl k)))) ?_
  show own_Fin p e below _ (T4.setTop (mkF m 43 #[.val (.ref a1), .val (.int (1 : Int32)), .val (.ref b4)] [(.int ((d1 + (1 : Int32)).toInt8.toInt32)), (.int (1 : Int32)), (.ref b4)]))
  obtain ⟨cl11, Ar11, q11, S11, M11, H11, G11⟩ := (id V4)
  have hin11 : ¬ ((1 : Int32) < 0 ∨ cl11.slots.size ≤ ((1 : Int32)).toNatClampNeg) := inb_of S11 ⟨by decide, by decide⟩
  obtain ⟨T11, h11, X11, e11, W11, st11⟩ := stB X4 hx hZ rfl Ar11 (j := (1 : Int32)) hin11 (g := (mkF m 43 #[.val (.ref a1), .val (.int (1 : Int32)), .val (.ref b4)] [(.int ((d1 + (1 : Int32)).toInt8.toInt32)), (.int (1 : Int32)), (.ref b4)])) rfl rfl (hb hby d2_43)
  have f12 := f6.other W11 ne5
  have f13 := f7.wr W11
  have V11 := Arv.set Ar11 q11 S11 M11 H11 G11 (fits_nar_byte _) W11 1 rfl (Nat.le_of_ble_eq_true rfl)
  have f15 : Arv Z h11 b4 k4 .byte (2 : Int32) [(.int d0), (.int (nar .byte ((d1 + (1 : Int32)).toInt8.toInt32)))] (.int (0 : Int32)) := V11
  have Zh16 : n0 ≤ h11.size := Nat.le_trans Zh8 (Nat.le_of_eq W11.size.symm)
  have N11 := Fr.snoc X11 N4 g_b4
  have K17 := K9.wr W11 (Or.inr sz_b4)
  refine own_go st11 ?_
  show own_Fin p e below _ (T11.setTop (mkF m 44 #[.val (.ref a1), .val (.int (1 : Int32)), .val (.ref b4)] []))
  refine own_go (fun t k => XS.aloadN X11.here hx rfl (hb hby d2_44) rfl rfl  k) ?_
  show own_Fin p e below _ (T11.setTop (mkF m 45 #[.val (.ref a1), .val (.int (1 : Int32)), .val (.ref b4)] [(.ref b4)]))
  exact own_out X11 (fun h => by rw [Bd.returns] at h; cases h) Bd.notSynchronized (fun fs hr => retOut X11 hx Bd.returns rfl (Or.inr (Or.inr (Or.inr (Or.inr ⟨rfl, rfl, rfl⟩)))) (hb hby d2_45) hr) (by rw [e11]; exact ⟨_, _, rfl, N11, sz_b4, K17, f15⟩) (by decide) (by decide)
theorem ef_2r33 (m : MethodId) (x0 : Addr)  : entryFrame m #[(.ref x0)] 3 = mkF m 0 #[.val (.ref x0), .unset, .unset] [] := by first | (simp [entryFrame, mkF, argsToLocals, Value.category]; done) | rfl
def own_q2r33 (Z : State) (a1 : Addr) (k1 : ClassId) (d0 d1 d2 : Int32) (h0 : Heap) (n0 : Nat) (v : Option Value) (h : Heap) (L : List Loc) : Prop := ∃ (a : Addr) (k : ClassId), v = some (.ref a) ∧ Fr n0 L ∧ h0.size ≤ a ∧ Keep h0 h [] ∧ Arv Z h a k .byte (3 : Int32) [(.int d0), (.int d1), (.int (nar .byte (((d2 + (1 : Int32)).toInt8.toInt32))))] (.int (0 : Int32))
set_option maxRecDepth 65536 in
set_option maxHeartbeats 40000000 in
theorem rm2r33 (l : Launch) (Z : State) (a0 : Array Value) (hw : ∀ d ∈ tables_1, d.before a0 Z = true) (ws : List Jvm.Cond) (a1 : Addr) (k1 : ClassId) (d0 d1 d2 : Int32) (h0 : Heap) (n0 : Nat) (Z0 : n0 ≤ h0.size) (V_1 : Arv Z h0 a1 k1 .byte (3 : Int32) [(.int d0), (.int d1), (.int d2)] (.int (0 : Int32))) (E_1 : Exa Z h0 a1 "[B") (hn2 : ¬ d2 = (-1 : Int32)) :
    MetFree l (⟨"com/example/keyslice/keyslice/storage/KeyRange", "after", "([B)[B"⟩ : MethodName) (head1 (Jvm.Cond.code (⟨"com/example/keyslice/keyslice/storage/KeyRange", "after", "([B)[B"⟩ : MethodName) prog_64_method_8_code 3 (some (.array .byte)) :: ws) ({ frames := 2, cells := 1, slots := 3, locals := 28 } : Room)) (fun a U => a = #[(.ref a1)] ∧ Z.Warmed39 U.vm ∧ U.heap = h0) (fun _ _ _ _ _ => True) (fun _ U o U' => ∃ v L, o = .returned v ∧ (own_q2r33 Z a1 k1 d0 d1 d2 h0 n0) v U'.heap L ∧ FrameEnd U o U' L ({ frames := 2, cells := 1, slots := 3, locals := 28 } : Room).cells ({ frames := 2, cells := 1, slots := 3, locals := 28 } : Room).slots) := by
  refine MetFree.of_bodySF (plainFor_of_name pn_2) hisR ?_
  intro p e s m args below meth c s₁ Bd hml0 hP hK
  obtain ⟨rfl, hZ, hh⟩ := hP
  have hx := Bd.exec
  have hby := Bd.bytes
  have hml : c.maxLocals = 3 := hml0
  have hown : s.vm.findClass "com/example/keyslice/keyslice/storage/KeyRange" = some m.cls := findClass_of_methodNamed Bd.named
  have hnm := (name_of_methodNamed Bd.named Bd.method).1
  have X0 : Stand p l e ({ frames := 2, cells := 1, slots := 3, locals := 28 } : Room) s m #[(.ref a1)] below meth c s₁ [] 0 0 := Stand.of_body Bd
  have e0 : s₁.heap = h0 := by rw [← hh, Bd.state]; rfl
  have N0 := Fr.nil n0
  have Kz := Keep.refl h0 []
  have hw_13 := hw _ (List.mem_of_getElem? (i := 13) rfl)
  have hw_14 := hw _ (List.mem_of_getElem? (i := 14) rfl)
  have hw_15 := hw _ (List.mem_of_getElem? (i := 15) rfl)
  have hw_16 := hw _ (List.mem_of_getElem? (i := 16) rfl)
  show own_Fin p e below (own_A s ({ frames := 2, cells := 1, slots := 3, locals := 28 } : Room).cells ({ frames := 2, cells := 1, slots := 3, locals := 28 } : Room).slots (own_q2r33 Z a1 k1 d0 d1 d2 h0 n0)) _
  refine own_go (fun t k => castTop (ef_2r33 m (a1)) k) ?_
  show own_Fin p e below _ (s₁.setTop (mkF m 0 #[.val (.ref a1), .unset, .unset] []))
  refine own_go (fun t k => XS.aloadN X0.here hx rfl (hb hby d2_0) rfl rfl  k) ?_
  show own_Fin p e below _ (s₁.setTop (mkF m 1 #[.val (.ref a1), .unset, .unset] [(.ref a1)]))
  obtain ⟨cl1, Ar1, q1, S1, M1, H1, G1⟩ := (id V_1)
  refine own_go (fun t k => X0.arraylength hx (by rw [e0]; exact Ar1.1) (State.isArrayOf_alike hZ.alike Ar1.2.1) (g := (mkF m 1 #[.val (.ref a1), .unset, .unset] [(.ref a1)])) rfl rfl (hb hby d2_1) _ k) ?_
  rw [len_of S1 M1]
  show own_Fin p e below _ (s₁.setTop (mkF m 2 #[.val (.ref a1), .unset, .unset] [(.int (3 : Int32))]))
  refine own_go (fun t k => XS.iconst X0.here hx rfl (hb hby d2_2) (XS.isub X0.here hx rfl (hb hby d2_3) rfl (XS.istoreN X0.here hx rfl (hb hby d2_4) rfl (l' := #[.val (.ref a1), .val (.int (2 : Int32)), .unset]) rfl (XS.iloadN X0.here hx rfl (hb hby d2_5) rfl  k)))) ?_
  show own_Fin p e below _ (s₁.setTop (mkF m 6 #[.val (.ref a1), .val (.int (2 : Int32)), .unset] [(.int (2 : Int32))]))
  refine own_go (fun t k => XS.ifNo X0.here hx rfl (hb hby d2_6) rfl ((if0 _ _).trans (flt (by decide : ¬ ((2 : Int32) < (0 : Int32)))).1) (XS.aloadN X0.here hx rfl (hb hby d2_9) rfl rfl  (XS.iloadN X0.here hx rfl (hb hby d2_10) rfl  k))) ?_
  show own_Fin p e below _ (s₁.setTop (mkF m 11 #[.val (.ref a1), .val (.int (2 : Int32)), .unset] [(.int (2 : Int32)), (.ref a1)]))
  obtain ⟨cl2, Ar2, q2, S2, M2, H2, G2⟩ := (id V_1)
  have hin2 : ¬ ((2 : Int32) < 0 ∨ cl2.slots.size ≤ ((2 : Int32)).toNatClampNeg) := inb_of S2 ⟨by decide, by decide⟩
  have hat2 : cl2.slots[((2 : Int32)).toNatClampNeg]? = some (.int d2) := H2.at hin2 rfl
  refine own_go (fun t k => X0.baloadBytes hx (j := (2 : Int32)) (v := (.int d2)) (by rw [e0]; exact Ar2.1) (State.isArrayOf_alike hZ.alike Ar2.2.1) Ar2.2.2 hin2 hat2 (g := (mkF m 11 #[.val (.ref a1), .val (.int (2 : Int32)), .unset] [(.int (2 : Int32)), (.ref a1)])) rfl rfl (hb hby d2_11) _ (XS.iconst X0.here hx rfl (hb hby d2_12) k)) ?_
  show own_Fin p e below _ (s₁.setTop (mkF m 13 #[.val (.ref a1), .val (.int (2 : Int32)), .unset] [(.int (-1 : Int32)), (.int d2)]))
  refine own_go (fun t k => XS.icmpYes X0.here hx rfl (pc0 := 13) (pc' := 22) rfl (hb hby d2_13) rfl (feq hn2).2 (by decide) (by decide) (XS.iloadN X0.here hx rfl (hb hby d2_22) rfl  k)) ?_
  show own_Fin p e below _ (s₁.setTop (mkF m 23 #[.val (.ref a1), .val (.int (2 : Int32)), .unset] [(.int (2 : Int32))]))
  refine own_go (fun t k => XS.ifYes X0.here hx rfl (pc0 := 23) (pc' := 28) rfl (hb hby d2_23) rfl ((if0 _ _).trans (flt (by decide : ¬ ((2 : Int32) < (0 : Int32)))).2.1) (by decide) (by decide) (XS.aloadN X0.here hx rfl (hb hby d2_28) rfl rfl  (XS.iloadN X0.here hx rfl (hb hby d2_29) rfl  (XS.iconst X0.here hx rfl (hb hby d2_30) (XS.iadd X0.here hx rfl (hb hby d2_31) rfl k))))) ?_
  show own_Fin p e below _ (s₁.setTop (mkF m 32 #[.val (.ref a1), .val (.int (2 : Int32)), .unset] [(.int (3 : Int32)), (.ref a1)]))
  obtain ⟨_, _, ⟨T3, L3, k3, n3⟩, -, X3, ⟨Lc3, hQ3, l3, y3, z3⟩, st3⟩ := Jvm.LawKit.callS X0 hx (y := (⟨"java/util/Arrays", "copyOf", "([BI)[B"⟩ : MethodName)) hown (mvT hZ hw_13) (mvT hZ hw_14) (mvT hZ hw_15) (mvT hZ hw_16) (by decide) (backOf (W := 0) (rm4c33 l Z a0 hw [] (a1) k1 (d0) (d1) (d2) h0 n0 Z0 V_1 E_1) hZ hw_16 hw_15 (by decide) (by decide)) (g := (mkF m 32 #[.val (.ref a1), .val (.int (2 : Int32)), .unset] [(.int (3 : Int32)), (.ref a1)])) rfl (by rw [hml]; rfl) (argsL := [(.ref a1), (.int (3 : Int32))]) (rest := []) (lenOf pd_1 rfl) rfl (by show 2 * 0 + _ ≤ _; exact Nat.le_of_eq rfl) (hb hby d2_32) (fun _ _ => ⟨rfl, e0, (by decide : 0 + 1 ≤ _), (by decide : 0 + 3 ≤ _)⟩)
  dsimp only [Pt.U, Pt.locs, Pt.cells, Pt.slots] at X3 l3 y3 z3 st3 hQ3
  subst l3 y3 z3
  obtain ⟨b3, k3, rfl, N3q, sz3, K3, V3⟩ := hQ3
  have N3 := Fr.app N0 N3q
  have g_b3 : n0 ≤ b3 := Nat.le_trans Z0 sz3
  have sz_b3 : h0.size ≤ b3 := Nat.le_trans Kz.1 sz3
  have ne4 : a1 ≠ b3 := Nat.ne_of_lt (Nat.lt_of_lt_of_le V_1.lt sz3)
  have E3 : Ext _ _ := ⟨K3.1, fun a c q => K3.2.1 a c q nin0⟩
  have f5 := V_1.ext E3
  have f6 := E_1.ext E3
  have Zh7 : n0 ≤ T3.heap.size := Nat.le_trans Z0 K3.1
  have K8 := Kz.ext E3
  refine own_go st3 ?_
  show own_Fin p e below _ (T3.setTop (mkF m 35 #[.val (.ref a1), .val (.int (2 : Int32)), .unset] [(.ref b3)]))
  refine own_go (fun t k => XS.astoreN X3.here hx rfl (hb hby d2_35) rfl rfl (l' := #[.val (.ref a1), .val (.int (2 : Int32)), .val (.ref b3)]) rfl (XS.aloadN X3.here hx rfl (hb hby d2_36) rfl rfl  (XS.iloadN X3.here hx rfl (hb hby d2_37) rfl  (XT.dup2 X3.here hx rfl (hb hby d2_38) rfl rfl rfl k)))) ?_
  show own_Fin p e below _ (T3.setTop (mkF m 39 #[.val (.ref a1), .val (.int (2 : Int32)), .val (.ref b3)] [(.int (2 : Int32)), (.ref b3), (.int (2 : Int32)), (.ref b3)]))
  obtain ⟨cl9, Ar9, q9, S9, M9, H9, G9⟩ := (id V3)
  have hin9 : ¬ ((2 : Int32) < 0 ∨ cl9.slots.size ≤ ((2 : Int32)).toNatClampNeg) := inb_of S9 ⟨by decide, by decide⟩
  have hat9 : cl9.slots[((2 : Int32)).toNatClampNeg]? = some (.int d2) := H9.at hin9 rfl
  refine own_go (fun t k => X3.baloadBytes hx (j := (2 : Int32)) (v := (.int d2)) Ar9.1 (State.isArrayOf_alike hZ.alike Ar9.2.1) Ar9.2.2 hin9 hat9 (g := (mkF m 39 #[.val (.ref a1), .val (.int (2 : Int32)), .val (.ref b3)] [(.int (2 : Int32)), (.ref b3), (.int (2 : Int32)), (.ref b3)])) rfl rfl (hb hby d2_39) _ (XS.iconst X3.here hx rfl (hb hby d2_40) (XS.iadd X3.here hx rfl (hb hby d2_41) rfl (XS.i2b X3.here hx rfl (hb hby d2_42) rfl k)))) ?_
  show own_Fin p e below _ (T3.setTop (mkF m 43 #[.val (.ref a1), .val (.int (2 : Int32)), .val (.ref b3)] [(.int ((d2 + (1 : Int32)).toInt8.toInt32)), (.int (2 : Int32)), (.ref b3)]))
  obtain ⟨cl10, Ar10, q10, S10, M10, H10, G10⟩ := (id V3)
  have hin10 : ¬ ((2 : Int32) < 0 ∨ cl10.slots.size ≤ ((2 : Int32)).toNatClampNeg) := inb_of S10 ⟨by decide, by decide⟩
  obtain ⟨T10, h10, X10, e10, W10, st10⟩ := stB X3 hx hZ rfl Ar10 (j := (2 : Int32)) hin10 (g := (mkF m 43 #[.val (.ref a1), .val (.int (2 : Int32)), .val (.ref b3)] [(.int ((d2 + (1 : Int32)).toInt8.toInt32)), (.int (2 : Int32)), (.ref b3)])) rfl rfl (hb hby d2_43)
  have f11 := f5.other W10 ne4
  have f12 := f6.wr W10
  have V10 := Arv.set Ar10 q10 S10 M10 H10 G10 (fits_nar_byte _) W10 2 rfl (Nat.le_of_ble_eq_true rfl)
  have f14 : Arv Z h10 b3 k3 .byte (3 : Int32) [(.int d0), (.int d1), (.int (nar .byte ((d2 + (1 : Int32)).toInt8.toInt32)))] (.int (0 : Int32)) := V10
  have Zh15 : n0 ≤ h10.size := Nat.le_trans Zh7 (Nat.le_of_eq W10.size.symm)
  have N10 := Fr.snoc X10 N3 g_b3
  have K16 := K8.wr W10 (Or.inr sz_b3)
  refine own_go st10 ?_
  show own_Fin p e below _ (T10.setTop (mkF m 44 #[.val (.ref a1), .val (.int (2 : Int32)), .val (.ref b3)] []))
  refine own_go (fun t k => XS.aloadN X10.here hx rfl (hb hby d2_44) rfl rfl  k) ?_
  show own_Fin p e below _ (T10.setTop (mkF m 45 #[.val (.ref a1), .val (.int (2 : Int32)), .val (.ref b3)] [(.ref b3)]))
  exact own_out X10 (fun h => by rw [Bd.returns] at h; cases h) Bd.notSynchronized (fun fs hr => retOut X10 hx Bd.returns rfl (Or.inr (Or.inr (Or.inr (Or.inr ⟨rfl, rfl, rfl⟩)))) (hb hby d2_45) hr) (by rw [e10]; exact ⟨_, _, rfl, N10, sz_b3, K16, f14⟩) (by decide) (by decide)
theorem ef_2r40 (m : MethodId) (x0 : Addr)  : entryFrame m #[(.ref x0)] 3 = mkF m 0 #[.val (.ref x0), .unset, .unset] [] := by first | (simp [entryFrame, mkF, argsToLocals, Value.category]; done) | rfl
set_option maxRecDepth 65536 in
set_option maxHeartbeats 40000000 in
theorem rm2r40 (l : Launch) (Z : State) (a0 : Array Value) (hw : ∀ d ∈ tables_1, d.before a0 Z = true) (ws : List Jvm.Cond) (a1 : Addr) (k1 : ClassId) (d0 d1 d2 d3 : Int32) (h0 : Heap) (n0 : Nat) (Z0 : n0 ≤ h0.size) (V_1 : Arv Z h0 a1 k1 .byte (4 : Int32) [(.int d0), (.int d1), (.int d2), (.int d3)] (.int (0 : Int32))) (E_1 : Exa Z h0 a1 "[B") (hy3 : d3 = (-1 : Int32)) (hy2 : d2 = (-1 : Int32)) (hy1 : d1 = (-1 : Int32)) (hy0 : d0 = (-1 : Int32)) :
    MetFree l (⟨"com/example/keyslice/keyslice/storage/KeyRange", "after", "([B)[B"⟩ : MethodName) (head1 (Jvm.Cond.code (⟨"com/example/keyslice/keyslice/storage/KeyRange", "after", "([B)[B"⟩ : MethodName) prog_64_method_8_code 3 (some (.array .byte)) :: ws) ({ frames := 0, cells := 0, slots := 0, locals := 0 } : Room)) (fun a U => a = #[(.ref a1)] ∧ Z.Warmed39 U.vm ∧ U.heap = h0) (fun _ _ _ _ _ => True) (fun _ U o U' => ∃ v L, o = .returned v ∧ (own_P h0 n0 .null) v U'.heap L ∧ FrameEnd U o U' L ({ frames := 0, cells := 0, slots := 0, locals := 0 } : Room).cells ({ frames := 0, cells := 0, slots := 0, locals := 0 } : Room).slots) := by
  refine MetFree.of_bodySF (plainFor_of_name pn_2) hisR ?_
  intro p e s m args below meth c s₁ Bd hml0 hP hK
  obtain ⟨rfl, hZ, hh⟩ := hP
  have hx := Bd.exec
  have hby := Bd.bytes
  have hml : c.maxLocals = 3 := hml0
  have hown : s.vm.findClass "com/example/keyslice/keyslice/storage/KeyRange" = some m.cls := findClass_of_methodNamed Bd.named
  have hnm := (name_of_methodNamed Bd.named Bd.method).1
  have X0 : Stand p l e ({ frames := 0, cells := 0, slots := 0, locals := 0 } : Room) s m #[(.ref a1)] below meth c s₁ [] 0 0 := Stand.of_body Bd
  have e0 : s₁.heap = h0 := by rw [← hh, Bd.state]; rfl
  have N0 := Fr.nil n0
  show own_Fin p e below (own_A s ({ frames := 0, cells := 0, slots := 0, locals := 0 } : Room).cells ({ frames := 0, cells := 0, slots := 0, locals := 0 } : Room).slots (own_P h0 n0 .null)) _
  refine own_go (fun t k => castTop (ef_2r40 m (a1)) k) ?_
  show own_Fin p e below _ (s₁.setTop (mkF m 0 #[.val (.ref a1), .unset, .unset] []))
  refine own_go (fun t k => XS.aloadN X0.here hx rfl (hb hby d2_0) rfl rfl  k) ?_
  show own_Fin p e below _ (s₁.setTop (mkF m 1 #[.val (.ref a1), .unset, .unset] [(.ref a1)]))
  obtain ⟨cl1, Ar1, q1, S1, M1, H1, G1⟩ := (id V_1)
  refine own_go (fun t k => X0.arraylength hx (by rw [e0]; exact Ar1.1) (State.isArrayOf_alike hZ.alike Ar1.2.1) (g := (mkF m 1 #[.val (.ref a1), .unset, .unset] [(.ref a1)])) rfl rfl (hb hby d2_1) _ k) ?_
  rw [len_of S1 M1]
  show own_Fin p e below _ (s₁.setTop (mkF m 2 #[.val (.ref a1), .unset, .unset] [(.int (4 : Int32))]))
  refine own_go (fun t k => XS.iconst X0.here hx rfl (hb hby d2_2) (XS.isub X0.here hx rfl (hb hby d2_3) rfl (XS.istoreN X0.here hx rfl (hb hby d2_4) rfl (l' := #[.val (.ref a1), .val (.int (3 : Int32)), .unset]) rfl (XS.iloadN X0.here hx rfl (hb hby d2_5) rfl  k)))) ?_
  show own_Fin p e below _ (s₁.setTop (mkF m 6 #[.val (.ref a1), .val (.int (3 : Int32)), .unset] [(.int (3 : Int32))]))
  refine own_go (fun t k => XS.ifNo X0.here hx rfl (hb hby d2_6) rfl ((if0 _ _).trans (flt (by decide : ¬ ((3 : Int32) < (0 : Int32)))).1) (XS.aloadN X0.here hx rfl (hb hby d2_9) rfl rfl  (XS.iloadN X0.here hx rfl (hb hby d2_10) rfl  k))) ?_
  show own_Fin p e below _ (s₁.setTop (mkF m 11 #[.val (.ref a1), .val (.int (3 : Int32)), .unset] [(.int (3 : Int32)), (.ref a1)]))
  obtain ⟨cl2, Ar2, q2, S2, M2, H2, G2⟩ := (id V_1)
  have hin2 : ¬ ((3 : Int32) < 0 ∨ cl2.slots.size ≤ ((3 : Int32)).toNatClampNeg) := inb_of S2 ⟨by decide, by decide⟩
  have hat2 : cl2.slots[((3 : Int32)).toNatClampNeg]? = some (.int d3) := H2.at hin2 rfl
  refine own_go (fun t k => X0.baloadBytes hx (j := (3 : Int32)) (v := (.int d3)) (by rw [e0]; exact Ar2.1) (State.isArrayOf_alike hZ.alike Ar2.2.1) Ar2.2.2 hin2 hat2 (g := (mkF m 11 #[.val (.ref a1), .val (.int (3 : Int32)), .unset] [(.int (3 : Int32)), (.ref a1)])) rfl rfl (hb hby d2_11) _ (XS.iconst X0.here hx rfl (hb hby d2_12) k)) ?_
  show own_Fin p e below _ (s₁.setTop (mkF m 13 #[.val (.ref a1), .val (.int (3 : Int32)), .unset] [(.int (-1 : Int32)), (.int d3)]))
  refine own_go (fun t k => XS.icmpNo X0.here hx rfl (hb hby d2_13) rfl (teq hy3).2 (XS.iinc X0.here hx rfl (hb hby d2_16) rfl (l' := #[.val (.ref a1), .val (.int (2 : Int32)), .unset]) rfl (XS.goto X0.here hx rfl (pc0 := 19) (pc' := 5) rfl (hb hby d2_19) (by decide) (by decide) (XS.iloadN X0.here hx rfl (hb hby d2_5) rfl  k)))) ?_
  show own_Fin p e below _ (s₁.setTop (mkF m 6 #[.val (.ref a1), .val (.int (2 : Int32)), .unset] [(.int (2 : Int32))]))
  refine own_go (fun t k => XS.ifNo X0.here hx rfl (hb hby d2_6) rfl ((if0 _ _).trans (flt (by decide : ¬ ((2 : Int32) < (0 : Int32)))).1) (XS.aloadN X0.here hx rfl (hb hby d2_9) rfl rfl  (XS.iloadN X0.here hx rfl (hb hby d2_10) rfl  k))) ?_
  show own_Fin p e below _ (s₁.setTop (mkF m 11 #[.val (.ref a1), .val (.int (2 : Int32)), .unset] [(.int (2 : Int32)), (.ref a1)]))
  obtain ⟨cl3, Ar3, q3, S3, M3, H3, G3⟩ := (id V_1)
  have hin3 : ¬ ((2 : Int32) < 0 ∨ cl3.slots.size ≤ ((2 : Int32)).toNatClampNeg) := inb_of S3 ⟨by decide, by decide⟩
  have hat3 : cl3.slots[((2 : Int32)).toNatClampNeg]? = some (.int d2) := H3.at hin3 rfl
  refine own_go (fun t k => X0.baloadBytes hx (j := (2 : Int32)) (v := (.int d2)) (by rw [e0]; exact Ar3.1) (State.isArrayOf_alike hZ.alike Ar3.2.1) Ar3.2.2 hin3 hat3 (g := (mkF m 11 #[.val (.ref a1), .val (.int (2 : Int32)), .unset] [(.int (2 : Int32)), (.ref a1)])) rfl rfl (hb hby d2_11) _ (XS.iconst X0.here hx rfl (hb hby d2_12) k)) ?_
  show own_Fin p e below _ (s₁.setTop (mkF m 13 #[.val (.ref a1), .val (.int (2 : Int32)), .unset] [(.int (-1 : Int32)), (.int d2)]))
  refine own_go (fun t k => XS.icmpNo X0.here hx rfl (hb hby d2_13) rfl (teq hy2).2 (XS.iinc X0.here hx rfl (hb hby d2_16) rfl (l' := #[.val (.ref a1), .val (.int (1 : Int32)), .unset]) rfl (XS.goto X0.here hx rfl (pc0 := 19) (pc' := 5) rfl (hb hby d2_19) (by decide) (by decide) (XS.iloadN X0.here hx rfl (hb hby d2_5) rfl  k)))) ?_
  show own_Fin p e below _ (s₁.setTop (mkF m 6 #[.val (.ref a1), .val (.int (1 : Int32)), .unset] [(.int (1 : Int32))]))
  refine own_go (fun t k => XS.ifNo X0.here hx rfl (hb hby d2_6) rfl ((if0 _ _).trans (flt (by decide : ¬ ((1 : Int32) < (0 : Int32)))).1) (XS.aloadN X0.here hx rfl (hb hby d2_9) rfl rfl  (XS.iloadN X0.here hx rfl (hb hby d2_10) rfl  k))) ?_
  show own_Fin p e below _ (s₁.setTop (mkF m 11 #[.val (.ref a1), .val (.int (1 : Int32)), .unset] [(.int (1 : Int32)), (.ref a1)]))
  obtain ⟨cl4, Ar4, q4, S4, M4, H4, G4⟩ := (id V_1)
  have hin4 : ¬ ((1 : Int32) < 0 ∨ cl4.slots.size ≤ ((1 : Int32)).toNatClampNeg) := inb_of S4 ⟨by decide, by decide⟩
  have hat4 : cl4.slots[((1 : Int32)).toNatClampNeg]? = some (.int d1) := H4.at hin4 rfl
  refine own_go (fun t k => X0.baloadBytes hx (j := (1 : Int32)) (v := (.int d1)) (by rw [e0]; exact Ar4.1) (State.isArrayOf_alike hZ.alike Ar4.2.1) Ar4.2.2 hin4 hat4 (g := (mkF m 11 #[.val (.ref a1), .val (.int (1 : Int32)), .unset] [(.int (1 : Int32)), (.ref a1)])) rfl rfl (hb hby d2_11) _ (XS.iconst X0.here hx rfl (hb hby d2_12) k)) ?_
  show own_Fin p e below _ (s₁.setTop (mkF m 13 #[.val (.ref a1), .val (.int (1 : Int32)), .unset] [(.int (-1 : Int32)), (.int d1)]))
  refine own_go (fun t k => XS.icmpNo X0.here hx rfl (hb hby d2_13) rfl (teq hy1).2 (XS.iinc X0.here hx rfl (hb hby d2_16) rfl (l' := #[.val (.ref a1), .val (.int (0 : Int32)), .unset]) rfl (XS.goto X0.here hx rfl (pc0 := 19) (pc' := 5) rfl (hb hby d2_19) (by decide) (by decide) (XS.iloadN X0.here hx rfl (hb hby d2_5) rfl  k)))) ?_
  show own_Fin p e below _ (s₁.setTop (mkF m 6 #[.val (.ref a1), .val (.int (0 : Int32)), .unset] [(.int (0 : Int32))]))
  refine own_go (fun t k => XS.ifNo X0.here hx rfl (hb hby d2_6) rfl ((if0 _ _).trans (flt (by decide : ¬ ((0 : Int32) < (0 : Int32)))).1) (XS.aloadN X0.here hx rfl (hb hby d2_9) rfl rfl  (XS.iloadN X0.here hx rfl (hb hby d2_10) rfl  k))) ?_
  show own_Fin p e below _ (s₁.setTop (mkF m 11 #[.val (.ref a1), .val (.int (0 : Int32)), .unset] [(.int (0 : Int32)), (.ref a1)]))
  obtain ⟨cl5, Ar5, q5, S5, M5, H5, G5⟩ := (id V_1)
  have hin5 : ¬ ((0 : Int32) < 0 ∨ cl5.slots.size ≤ ((0 : Int32)).toNatClampNeg) := inb_of S5 ⟨by decide, by decide⟩
  have hat5 : cl5.slots[((0 : Int32)).toNatClampNeg]? = some (.int d0) := H5.at hin5 rfl
  refine own_go (fun t k => X0.baloadBytes hx (j := (0 : Int32)) (v := (.int d0)) (by rw [e0]; exact Ar5.1) (State.isArrayOf_alike hZ.alike Ar5.2.1) Ar5.2.2 hin5 hat5 (g := (mkF m 11 #[.val (.ref a1), .val (.int (0 : Int32)), .unset] [(.int (0 : Int32)), (.ref a1)])) rfl rfl (hb hby d2_11) _ (XS.iconst X0.here hx rfl (hb hby d2_12) k)) ?_
  show own_Fin p e below _ (s₁.setTop (mkF m 13 #[.val (.ref a1), .val (.int (0 : Int32)), .unset] [(.int (-1 : Int32)), (.int d0)]))
  refine own_go (fun t k => XS.icmpNo X0.here hx rfl (hb hby d2_13) rfl (teq hy0).2 (XS.iinc X0.here hx rfl (hb hby d2_16) rfl (l' := #[.val (.ref a1), .val (.int (-1 : Int32)), .unset]) rfl (XS.goto X0.here hx rfl (pc0 := 19) (pc' := 5) rfl (hb hby d2_19) (by decide) (by decide) (XS.iloadN X0.here hx rfl (hb hby d2_5) rfl  k)))) ?_
  show own_Fin p e below _ (s₁.setTop (mkF m 6 #[.val (.ref a1), .val (.int (-1 : Int32)), .unset] [(.int (-1 : Int32))]))
  refine own_go (fun t k => XS.ifYes X0.here hx rfl (pc0 := 6) (pc' := 22) rfl (hb hby d2_6) rfl ((if0 _ _).trans (tlt (by decide : (-1 : Int32) < (0 : Int32))).1) (by decide) (by decide) (XS.iloadN X0.here hx rfl (hb hby d2_22) rfl  k)) ?_
  show own_Fin p e below _ (s₁.setTop (mkF m 23 #[.val (.ref a1), .val (.int (-1 : Int32)), .unset] [(.int (-1 : Int32))]))
  refine own_go (fun t k => XS.ifNo X0.here hx rfl (hb hby d2_23) rfl ((if0 _ _).trans (tlt (by decide : (-1 : Int32) < (0 : Int32))).2.1) (XS.aconstNull X0.here hx rfl (hb hby d2_26) k)) ?_
  show own_Fin p e below _ (s₁.setTop (mkF m 27 #[.val (.ref a1), .val (.int (-1 : Int32)), .unset] [.null]))
  exact own_out X0 (fun h => by rw [Bd.returns] at h; cases h) Bd.notSynchronized (fun fs hr => retOut X0 hx Bd.returns rfl (Or.inr (Or.inr (Or.inr (Or.inr ⟨rfl, rfl, rfl⟩)))) (hb hby d2_27) hr) ⟨rfl, N0, e0⟩ (by decide) (by decide)
theorem ef_2r41 (m : MethodId) (x0 : Addr)  : entryFrame m #[(.ref x0)] 3 = mkF m 0 #[.val (.ref x0), .unset, .unset] [] := by first | (simp [entryFrame, mkF, argsToLocals, Value.category]; done) | rfl
def own_q2r41 (Z : State) (a1 : Addr) (k1 : ClassId) (d0 d1 d2 d3 : Int32) (h0 : Heap) (n0 : Nat) (v : Option Value) (h : Heap) (L : List Loc) : Prop := ∃ (a : Addr) (k : ClassId), v = some (.ref a) ∧ Fr n0 L ∧ h0.size ≤ a ∧ Keep h0 h [] ∧ Arv Z h a k .byte (1 : Int32) [(.int (nar .byte (((d0 + (1 : Int32)).toInt8.toInt32))))] (.int (0 : Int32))
set_option maxRecDepth 65536 in
set_option maxHeartbeats 40000000 in
theorem rm2r41 (l : Launch) (Z : State) (a0 : Array Value) (hw : ∀ d ∈ tables_1, d.before a0 Z = true) (ws : List Jvm.Cond) (a1 : Addr) (k1 : ClassId) (d0 d1 d2 d3 : Int32) (h0 : Heap) (n0 : Nat) (Z0 : n0 ≤ h0.size) (V_1 : Arv Z h0 a1 k1 .byte (4 : Int32) [(.int d0), (.int d1), (.int d2), (.int d3)] (.int (0 : Int32))) (E_1 : Exa Z h0 a1 "[B") (hy3 : d3 = (-1 : Int32)) (hy2 : d2 = (-1 : Int32)) (hy1 : d1 = (-1 : Int32)) (hn0 : ¬ d0 = (-1 : Int32)) :
    MetFree l (⟨"com/example/keyslice/keyslice/storage/KeyRange", "after", "([B)[B"⟩ : MethodName) (head1 (Jvm.Cond.code (⟨"com/example/keyslice/keyslice/storage/KeyRange", "after", "([B)[B"⟩ : MethodName) prog_64_method_8_code 3 (some (.array .byte)) :: ws) ({ frames := 2, cells := 1, slots := 1, locals := 32 } : Room)) (fun a U => a = #[(.ref a1)] ∧ Z.Warmed39 U.vm ∧ U.heap = h0) (fun _ _ _ _ _ => True) (fun _ U o U' => ∃ v L, o = .returned v ∧ (own_q2r41 Z a1 k1 d0 d1 d2 d3 h0 n0) v U'.heap L ∧ FrameEnd U o U' L ({ frames := 2, cells := 1, slots := 1, locals := 32 } : Room).cells ({ frames := 2, cells := 1, slots := 1, locals := 32 } : Room).slots) := by
  refine MetFree.of_bodySF (plainFor_of_name pn_2) hisR ?_
  intro p e s m args below meth c s₁ Bd hml0 hP hK
  obtain ⟨rfl, hZ, hh⟩ := hP
  have hx := Bd.exec
  have hby := Bd.bytes
  have hml : c.maxLocals = 3 := hml0
  have hown : s.vm.findClass "com/example/keyslice/keyslice/storage/KeyRange" = some m.cls := findClass_of_methodNamed Bd.named
  have hnm := (name_of_methodNamed Bd.named Bd.method).1
  have X0 : Stand p l e ({ frames := 2, cells := 1, slots := 1, locals := 32 } : Room) s m #[(.ref a1)] below meth c s₁ [] 0 0 := Stand.of_body Bd
  have e0 : s₁.heap = h0 := by rw [← hh, Bd.state]; rfl
  have N0 := Fr.nil n0
  have Kz := Keep.refl h0 []
  have hw_13 := hw _ (List.mem_of_getElem? (i := 13) rfl)
  have hw_14 := hw _ (List.mem_of_getElem? (i := 14) rfl)
  have hw_15 := hw _ (List.mem_of_getElem? (i := 15) rfl)
  have hw_16 := hw _ (List.mem_of_getElem? (i := 16) rfl)
  show own_Fin p e below (own_A s ({ frames := 2, cells := 1, slots := 1, locals := 32 } : Room).cells ({ frames := 2, cells := 1, slots := 1, locals := 32 } : Room).slots (own_q2r41 Z a1 k1 d0 d1 d2 d3 h0 n0)) _
  refine own_go (fun t k => castTop (ef_2r41 m (a1)) k) ?_
  show own_Fin p e below _ (s₁.setTop (mkF m 0 #[.val (.ref a1), .unset, .unset] []))
  refine own_go (fun t k => XS.aloadN X0.here hx rfl (hb hby d2_0) rfl rfl  k) ?_
  show own_Fin p e below _ (s₁.setTop (mkF m 1 #[.val (.ref a1), .unset, .unset] [(.ref a1)]))
  obtain ⟨cl1, Ar1, q1, S1, M1, H1, G1⟩ := (id V_1)
  refine own_go (fun t k => X0.arraylength hx (by rw [e0]; exact Ar1.1) (State.isArrayOf_alike hZ.alike Ar1.2.1) (g := (mkF m 1 #[.val (.ref a1), .unset, .unset] [(.ref a1)])) rfl rfl (hb hby d2_1) _ k) ?_
  rw [len_of S1 M1]
  show own_Fin p e below _ (s₁.setTop (mkF m 2 #[.val (.ref a1), .unset, .unset] [(.int (4 : Int32))]))
  refine own_go (fun t k => XS.iconst X0.here hx rfl (hb hby d2_2) (XS.isub X0.here hx rfl (hb hby d2_3) rfl (XS.istoreN X0.here hx rfl (hb hby d2_4) rfl (l' := #[.val (.ref a1), .val (.int (3 : Int32)), .unset]) rfl (XS.iloadN X0.here hx rfl (hb hby d2_5) rfl  k)))) ?_
  show own_Fin p e below _ (s₁.setTop (mkF m 6 #[.val (.ref a1), .val (.int (3 : Int32)), .unset] [(.int (3 : Int32))]))
  refine own_go (fun t k => XS.ifNo X0.here hx rfl (hb hby d2_6) rfl ((if0 _ _).trans (flt (by decide : ¬ ((3 : Int32) < (0 : Int32)))).1) (XS.aloadN X0.here hx rfl (hb hby d2_9) rfl rfl  (XS.iloadN X0.here hx rfl (hb hby d2_10) rfl  k))) ?_
  show own_Fin p e below _ (s₁.setTop (mkF m 11 #[.val (.ref a1), .val (.int (3 : Int32)), .unset] [(.int (3 : Int32)), (.ref a1)]))
  obtain ⟨cl2, Ar2, q2, S2, M2, H2, G2⟩ := (id V_1)
  have hin2 : ¬ ((3 : Int32) < 0 ∨ cl2.slots.size ≤ ((3 : Int32)).toNatClampNeg) := inb_of S2 ⟨by decide, by decide⟩
  have hat2 : cl2.slots[((3 : Int32)).toNatClampNeg]? = some (.int d3) := H2.at hin2 rfl
  refine own_go (fun t k => X0.baloadBytes hx (j := (3 : Int32)) (v := (.int d3)) (by rw [e0]; exact Ar2.1) (State.isArrayOf_alike hZ.alike Ar2.2.1) Ar2.2.2 hin2 hat2 (g := (mkF m 11 #[.val (.ref a1), .val (.int (3 : Int32)), .unset] [(.int (3 : Int32)), (.ref a1)])) rfl rfl (hb hby d2_11) _ (XS.iconst X0.here hx rfl (hb hby d2_12) k)) ?_
  show own_Fin p e below _ (s₁.setTop (mkF m 13 #[.val (.ref a1), .val (.int (3 : Int32)), .unset] [(.int (-1 : Int32)), (.int d3)]))
  refine own_go (fun t k => XS.icmpNo X0.here hx rfl (hb hby d2_13) rfl (teq hy3).2 (XS.iinc X0.here hx rfl (hb hby d2_16) rfl (l' := #[.val (.ref a1), .val (.int (2 : Int32)), .unset]) rfl (XS.goto X0.here hx rfl (pc0 := 19) (pc' := 5) rfl (hb hby d2_19) (by decide) (by decide) (XS.iloadN X0.here hx rfl (hb hby d2_5) rfl  k)))) ?_
  show own_Fin p e below _ (s₁.setTop (mkF m 6 #[.val (.ref a1), .val (.int (2 : Int32)), .unset] [(.int (2 : Int32))]))
  refine own_go (fun t k => XS.ifNo X0.here hx rfl (hb hby d2_6) rfl ((if0 _ _).trans (flt (by decide : ¬ ((2 : Int32) < (0 : Int32)))).1) (XS.aloadN X0.here hx rfl (hb hby d2_9) rfl rfl  (XS.iloadN X0.here hx rfl (hb hby d2_10) rfl  k))) ?_
  show own_Fin p e below _ (s₁.setTop (mkF m 11 #[.val (.ref a1), .val (.int (2 : Int32)), .unset] [(.int (2 : Int32)), (.ref a1)]))
  obtain ⟨cl3, Ar3, q3, S3, M3, H3, G3⟩ := (id V_1)
  have hin3 : ¬ ((2 : Int32) < 0 ∨ cl3.slots.size ≤ ((2 : Int32)).toNatClampNeg) := inb_of S3 ⟨by decide, by decide⟩
  have hat3 : cl3.slots[((2 : Int32)).toNatClampNeg]? = some (.int d2) := H3.at hin3 rfl
  refine own_go (fun t k => X0.baloadBytes hx (j := (2 : Int32)) (v := (.int d2)) (by rw [e0]; exact Ar3.1) (State.isArrayOf_alike hZ.alike Ar3.2.1) Ar3.2.2 hin3 hat3 (g := (mkF m 11 #[.val (.ref a1), .val (.int (2 : Int32)), .unset] [(.int (2 : Int32)), (.ref a1)])) rfl rfl (hb hby d2_11) _ (XS.iconst X0.here hx rfl (hb hby d2_12) k)) ?_
  show own_Fin p e below _ (s₁.setTop (mkF m 13 #[.val (.ref a1), .val (.int (2 : Int32)), .unset] [(.int (-1 : Int32)), (.int d2)]))
  refine own_go (fun t k => XS.icmpNo X0.here hx rfl (hb hby d2_13) rfl (teq hy2).2 (XS.iinc X0.here hx rfl (hb hby d2_16) rfl (l' := #[.val (.ref a1), .val (.int (1 : Int32)), .unset]) rfl (XS.goto X0.here hx rfl (pc0 := 19) (pc' := 5) rfl (hb hby d2_19) (by decide) (by decide) (XS.iloadN X0.here hx rfl (hb hby d2_5) rfl  k)))) ?_
  show own_Fin p e below _ (s₁.setTop (mkF m 6 #[.val (.ref a1), .val (.int (1 : Int32)), .unset] [(.int (1 : Int32))]))
  refine own_go (fun t k => XS.ifNo X0.here hx rfl (hb hby d2_6) rfl ((if0 _ _).trans (flt (by decide : ¬ ((1 : Int32) < (0 : Int32)))).1) (XS.aloadN X0.here hx rfl (hb hby d2_9) rfl rfl  (XS.iloadN X0.here hx rfl (hb hby d2_10) rfl  k))) ?_
  show own_Fin p e below _ (s₁.setTop (mkF m 11 #[.val (.ref a1), .val (.int (1 : Int32)), .unset] [(.int (1 : Int32)), (.ref a1)]))
  obtain ⟨cl4, Ar4, q4, S4, M4, H4, G4⟩ := (id V_1)
  have hin4 : ¬ ((1 : Int32) < 0 ∨ cl4.slots.size ≤ ((1 : Int32)).toNatClampNeg) := inb_of S4 ⟨by decide, by decide⟩
  have hat4 : cl4.slots[((1 : Int32)).toNatClampNeg]? = some (.int d1) := H4.at hin4 rfl
  refine own_go (fun t k => X0.baloadBytes hx (j := (1 : Int32)) (v := (.int d1)) (by rw [e0]; exact Ar4.1) (State.isArrayOf_alike hZ.alike Ar4.2.1) Ar4.2.2 hin4 hat4 (g := (mkF m 11 #[.val (.ref a1), .val (.int (1 : Int32)), .unset] [(.int (1 : Int32)), (.ref a1)])) rfl rfl (hb hby d2_11) _ (XS.iconst X0.here hx rfl (hb hby d2_12) k)) ?_
  show own_Fin p e below _ (s₁.setTop (mkF m 13 #[.val (.ref a1), .val (.int (1 : Int32)), .unset] [(.int (-1 : Int32)), (.int d1)]))
  refine own_go (fun t k => XS.icmpNo X0.here hx rfl (hb hby d2_13) rfl (teq hy1).2 (XS.iinc X0.here hx rfl (hb hby d2_16) rfl (l' := #[.val (.ref a1), .val (.int (0 : Int32)), .unset]) rfl (XS.goto X0.here hx rfl (pc0 := 19) (pc' := 5) rfl (hb hby d2_19) (by decide) (by decide) (XS.iloadN X0.here hx rfl (hb hby d2_5) rfl  k)))) ?_
  show own_Fin p e below _ (s₁.setTop (mkF m 6 #[.val (.ref a1), .val (.int (0 : Int32)), .unset] [(.int (0 : Int32))]))
  refine own_go (fun t k => XS.ifNo X0.here hx rfl (hb hby d2_6) rfl ((if0 _ _).trans (flt (by decide : ¬ ((0 : Int32) < (0 : Int32)))).1) (XS.aloadN X0.here hx rfl (hb hby d2_9) rfl rfl  (XS.iloadN X0.here hx rfl (hb hby d2_10) rfl  k))) ?_
  show own_Fin p e below _ (s₁.setTop (mkF m 11 #[.val (.ref a1), .val (.int (0 : Int32)), .unset] [(.int (0 : Int32)), (.ref a1)]))
  obtain ⟨cl5, Ar5, q5, S5, M5, H5, G5⟩ := (id V_1)
  have hin5 : ¬ ((0 : Int32) < 0 ∨ cl5.slots.size ≤ ((0 : Int32)).toNatClampNeg) := inb_of S5 ⟨by decide, by decide⟩
  have hat5 : cl5.slots[((0 : Int32)).toNatClampNeg]? = some (.int d0) := H5.at hin5 rfl
  refine own_go (fun t k => X0.baloadBytes hx (j := (0 : Int32)) (v := (.int d0)) (by rw [e0]; exact Ar5.1) (State.isArrayOf_alike hZ.alike Ar5.2.1) Ar5.2.2 hin5 hat5 (g := (mkF m 11 #[.val (.ref a1), .val (.int (0 : Int32)), .unset] [(.int (0 : Int32)), (.ref a1)])) rfl rfl (hb hby d2_11) _ (XS.iconst X0.here hx rfl (hb hby d2_12) k)) ?_
  show own_Fin p e below _ (s₁.setTop (mkF m 13 #[.val (.ref a1), .val (.int (0 : Int32)), .unset] [(.int (-1 : Int32)), (.int d0)]))
  refine own_go (fun t k => XS.icmpYes X0.here hx rfl (pc0 := 13) (pc' := 22) rfl (hb hby d2_13) rfl (feq hn0).2 (by decide) (by decide) (XS.iloadN X0.here hx rfl (hb hby d2_22) rfl  k)) ?_
  show own_Fin p e below _ (s₁.setTop (mkF m 23 #[.val (.ref a1), .val (.int (0 : Int32)), .unset] [(.int (0 : Int32))]))
  refine own_go (fun t k => XS.ifYes X0.here hx rfl (pc0 := 23) (pc' := 28) rfl (hb hby d2_23) rfl ((if0 _ _).trans (flt (by decide : ¬ ((0 : Int32) < (0 : Int32)))).2.1) (by decide) (by decide) (XS.aloadN X0.here hx rfl (hb hby d2_28) rfl rfl  (XS.iloadN X0.here hx rfl (hb hby d2_29) rfl  (XS.iconst X0.here hx rfl (hb hby d2_30) (XS.iadd X0.here hx rfl (hb hby d2_31) rfl k))))) ?_
  show own_Fin p e below _ (s₁.setTop (mkF m 32 #[.val (.ref a1), .val (.int (0 : Int32)), .unset] [(.int (1 : Int32)), (.ref a1)]))
  obtain ⟨_, _, ⟨T6, L6, k6, n6⟩, -, X6, ⟨Lc6, hQ6, l6, y6, z6⟩, st6⟩ := Jvm.LawKit.callS X0 hx (y := (⟨"java/util/Arrays", "copyOf", "([BI)[B"⟩ : MethodName)) hown (mvT hZ hw_13) (mvT hZ hw_14) (mvT hZ hw_15) (mvT hZ hw_16) (by decide) (backOf (W := 0) (rm4c41 l Z a0 hw [] (a1) k1 (d0) (d1) (d2) (d3) h0 n0 Z0 V_1 E_1) hZ hw_16 hw_15 (by decide) (by decide)) (g := (mkF m 32 #[.val (.ref a1), .val (.int (0 : Int32)), .unset] [(.int (1 : Int32)), (.ref a1)])) rfl (by rw [hml]; rfl) (argsL := [(.ref a1), (.int (1 : Int32))]) (rest := []) (lenOf pd_1 rfl) rfl (by show 2 * 0 + _ ≤ _; exact Nat.le_of_eq rfl) (hb hby d2_32) (fun _ _ => ⟨rfl, e0, (by decide : 0 + 1 ≤ _), (by decide : 0 + 1 ≤ _)⟩)
  dsimp only [Pt.U, Pt.locs, Pt.cells, Pt.slots] at X6 l6 y6 z6 st6 hQ6
  subst l6 y6 z6
  obtain ⟨b6, k6, rfl, N6q, sz6, K6, V6⟩ := hQ6
  have N6 := Fr.app N0 N6q
  have g_b6 : n0 ≤ b6 := Nat.le_trans Z0 sz6
  have sz_b6 : h0.size ≤ b6 := Nat.le_trans Kz.1 sz6
  have ne7 : a1 ≠ b6 := Nat.ne_of_lt (Nat.lt_of_lt_of_le V_1.lt sz6)
  have E6 : Ext _ _ := ⟨K6.1, fun a c q => K6.2.1 a c q nin0⟩
  have f8 := V_1.ext E6
  have f9 := E_1.ext E6
  have Zh10 : n0 ≤ T6.heap.size := Nat.le_trans Z0 K6.1
  have K11 := Kz.ext E6
  refine own_go st6 ?_
  show own_Fin p e below _ (T6.setTop (mkF m 35 #[.val (.ref a1), .val (.int (0 : Int32)), .unset] [(.ref b6)]))
  refine own_go (fun t k => XS.astoreN X6.here hx rfl (hb hby d2_35) rfl rfl (l' := #[.val (.ref a1), .val (.int (0 : Int32)), .val (.ref b6)]) rfl (XS.aloadN X6.here hx rfl (hb hby d2_36) rfl rfl  (XS.iloadN X6.here hx rfl (hb hby d2_37) rfl  (XT.dup2 X6.here hx rfl (hb hby d2_38) rfl rfl rfl k)))) ?_
  show own_Fin p e below _ (T6.setTop (mkF m 39 #[.val (.ref a1), .val (.int (0 : Int32)), .val (.ref b6)] [(.int (0 : Int32)), (.ref b6), (.int (0 : Int32)), (.ref b6)]))
  obtain ⟨cl12, Ar12, q12, S12, M12, H12, G12⟩ := (id V6)
  have hin12 : ¬ ((0 : Int32) < 0 ∨ cl12.slots.size ≤ ((0 : Int32)).toNatClampNeg) := inb_of S12 ⟨by decide, by decide⟩
  have hat12 : cl12.slots[((0 : Int32)).toNatClampNeg]? = some (.int d0) := H12.at hin12 rfl
  refine own_go (fun t k => X6.baloadBytes hx (j := (0 : Int32)) (v := (.int d0)) Ar12.1 (State.isArrayOf_alike hZ.alike Ar12.2.1) Ar12.2.2 hin12 hat12 (g := (mkF m 39 #[.val (.ref a1), .val (.int (0 : Int32)), .val (.ref b6)] [(.int (0 : Int32)), (.ref b6), (.int (0 : Int32)), (.ref b6)])) rfl rfl (hb hby d2_39) _ (XS.iconst X6.here hx rfl (hb hby d2_40) (XS.iadd X6.here hx rfl (hb hby d2_41) rfl (XS.i2b X6.here hx rfl (hb hby d2_42) rfl k)))) ?_
  show own_Fin p e below _ (T6.setTop (mkF m 43 #[.val (.ref a1), .val (.int (0 : Int32)), .val (.ref b6)] [(.int ((d0 + (1 : Int32)).toInt8.toInt32)), (.int (0 : Int32)), (.ref b6)]))
  obtain ⟨cl13, Ar13, q13, S13, M13, H13, G13⟩ := (id V6)
  have hin13 : ¬ ((0 : Int32) < 0 ∨ cl13.slots.size ≤ ((0 : Int32)).toNatClampNeg) := inb_of S13 ⟨by decide, by decide⟩
  obtain ⟨T13, h13, X13, e13, W13, st13⟩ := stB X6 hx hZ rfl Ar13 (j := (0 : Int32)) hin13 (g := (mkF m 43 #[.val (.ref a1), .val (.int (0 : Int32)), .val (.ref b6)] [(.int ((d0 + (1 : Int32)).toInt8.toInt32)), (.int (0 : Int32)), (.ref b6)])) rfl rfl (hb hby d2_43)
  have f14 := f8.other W13 ne7
  have f15 := f9.wr W13
  have V13 := Arv.set Ar13 q13 S13 M13 H13 G13 (fits_nar_byte _) W13 0 rfl (Nat.le_of_ble_eq_true rfl)
  have f17 : Arv Z h13 b6 k6 .byte (1 : Int32) [(.int (nar .byte ((d0 + (1 : Int32)).toInt8.toInt32)))] (.int (0 : Int32)) := V13
  have Zh18 : n0 ≤ h13.size := Nat.le_trans Zh10 (Nat.le_of_eq W13.size.symm)
  have N13 := Fr.snoc X13 N6 g_b6
  have K19 := K11.wr W13 (Or.inr sz_b6)
  refine own_go st13 ?_
  show own_Fin p e below _ (T13.setTop (mkF m 44 #[.val (.ref a1), .val (.int (0 : Int32)), .val (.ref b6)] []))
  refine own_go (fun t k => XS.aloadN X13.here hx rfl (hb hby d2_44) rfl rfl  k) ?_
  show own_Fin p e below _ (T13.setTop (mkF m 45 #[.val (.ref a1), .val (.int (0 : Int32)), .val (.ref b6)] [(.ref b6)]))
  exact own_out X13 (fun h => by rw [Bd.returns] at h; cases h) Bd.notSynchronized (fun fs hr => retOut X13 hx Bd.returns rfl (Or.inr (Or.inr (Or.inr (Or.inr ⟨rfl, rfl, rfl⟩)))) (hb hby d2_45) hr) (by rw [e13]; exact ⟨_, _, rfl, N13, sz_b6, K19, f17⟩) (by decide) (by decide)
theorem ef_2r42 (m : MethodId) (x0 : Addr)  : entryFrame m #[(.ref x0)] 3 = mkF m 0 #[.val (.ref x0), .unset, .unset] [] := by first | (simp [entryFrame, mkF, argsToLocals, Value.category]; done) | rfl
def own_q2r42 (Z : State) (a1 : Addr) (k1 : ClassId) (d0 d1 d2 d3 : Int32) (h0 : Heap) (n0 : Nat) (v : Option Value) (h : Heap) (L : List Loc) : Prop := ∃ (a : Addr) (k : ClassId), v = some (.ref a) ∧ Fr n0 L ∧ h0.size ≤ a ∧ Keep h0 h [] ∧ Arv Z h a k .byte (2 : Int32) [(.int d0), (.int (nar .byte (((d1 + (1 : Int32)).toInt8.toInt32))))] (.int (0 : Int32))
set_option maxRecDepth 65536 in
set_option maxHeartbeats 40000000 in
theorem rm2r42 (l : Launch) (Z : State) (a0 : Array Value) (hw : ∀ d ∈ tables_1, d.before a0 Z = true) (ws : List Jvm.Cond) (a1 : Addr) (k1 : ClassId) (d0 d1 d2 d3 : Int32) (h0 : Heap) (n0 : Nat) (Z0 : n0 ≤ h0.size) (V_1 : Arv Z h0 a1 k1 .byte (4 : Int32) [(.int d0), (.int d1), (.int d2), (.int d3)] (.int (0 : Int32))) (E_1 : Exa Z h0 a1 "[B") (hy3 : d3 = (-1 : Int32)) (hy2 : d2 = (-1 : Int32)) (hn1 : ¬ d1 = (-1 : Int32)) :
    MetFree l (⟨"com/example/keyslice/keyslice/storage/KeyRange", "after", "([B)[B"⟩ : MethodName) (head1 (Jvm.Cond.code (⟨"com/example/keyslice/keyslice/storage/KeyRange", "after", "([B)[B"⟩ : MethodName) prog_64_method_8_code 3 (some (.array .byte)) :: ws) ({ frames := 2, cells := 1, slots := 2, locals := 32 } : Room)) (fun a U => a = #[(.ref a1)] ∧ Z.Warmed39 U.vm ∧ U.heap = h0) (fun _ _ _ _ _ => True) (fun _ U o U' => ∃ v L, o = .returned v ∧ (own_q2r42 Z a1 k1 d0 d1 d2 d3 h0 n0) v U'.heap L ∧ FrameEnd U o U' L ({ frames := 2, cells := 1, slots := 2, locals := 32 } : Room).cells ({ frames := 2, cells := 1, slots := 2, locals := 32 } : Room).slots) := by
  refine MetFree.of_bodySF (plainFor_of_name pn_2) hisR ?_
  intro p e s m args below meth c s₁ Bd hml0 hP hK
  obtain ⟨rfl, hZ, hh⟩ := hP
  have hx := Bd.exec
  have hby := Bd.bytes
  have hml : c.maxLocals = 3 := hml0
  have hown : s.vm.findClass "com/example/keyslice/keyslice/storage/KeyRange" = some m.cls := findClass_of_methodNamed Bd.named
  have hnm := (name_of_methodNamed Bd.named Bd.method).1
  have X0 : Stand p l e ({ frames := 2, cells := 1, slots := 2, locals := 32 } : Room) s m #[(.ref a1)] below meth c s₁ [] 0 0 := Stand.of_body Bd
  have e0 : s₁.heap = h0 := by rw [← hh, Bd.state]; rfl
  have N0 := Fr.nil n0
  have Kz := Keep.refl h0 []
  have hw_13 := hw _ (List.mem_of_getElem? (i := 13) rfl)
  have hw_14 := hw _ (List.mem_of_getElem? (i := 14) rfl)
  have hw_15 := hw _ (List.mem_of_getElem? (i := 15) rfl)
  have hw_16 := hw _ (List.mem_of_getElem? (i := 16) rfl)
  show own_Fin p e below (own_A s ({ frames := 2, cells := 1, slots := 2, locals := 32 } : Room).cells ({ frames := 2, cells := 1, slots := 2, locals := 32 } : Room).slots (own_q2r42 Z a1 k1 d0 d1 d2 d3 h0 n0)) _
  refine own_go (fun t k => castTop (ef_2r42 m (a1)) k) ?_
  show own_Fin p e below _ (s₁.setTop (mkF m 0 #[.val (.ref a1), .unset, .unset] []))
  refine own_go (fun t k => XS.aloadN X0.here hx rfl (hb hby d2_0) rfl rfl  k) ?_
  show own_Fin p e below _ (s₁.setTop (mkF m 1 #[.val (.ref a1), .unset, .unset] [(.ref a1)]))
  obtain ⟨cl1, Ar1, q1, S1, M1, H1, G1⟩ := (id V_1)
  refine own_go (fun t k => X0.arraylength hx (by rw [e0]; exact Ar1.1) (State.isArrayOf_alike hZ.alike Ar1.2.1) (g := (mkF m 1 #[.val (.ref a1), .unset, .unset] [(.ref a1)])) rfl rfl (hb hby d2_1) _ k) ?_
  rw [len_of S1 M1]
  show own_Fin p e below _ (s₁.setTop (mkF m 2 #[.val (.ref a1), .unset, .unset] [(.int (4 : Int32))]))
  refine own_go (fun t k => XS.iconst X0.here hx rfl (hb hby d2_2) (XS.isub X0.here hx rfl (hb hby d2_3) rfl (XS.istoreN X0.here hx rfl (hb hby d2_4) rfl (l' := #[.val (.ref a1), .val (.int (3 : Int32)), .unset]) rfl (XS.iloadN X0.here hx rfl (hb hby d2_5) rfl  k)))) ?_
  show own_Fin p e below _ (s₁.setTop (mkF m 6 #[.val (.ref a1), .val (.int (3 : Int32)), .unset] [(.int (3 : Int32))]))
  refine own_go (fun t k => XS.ifNo X0.here hx rfl (hb hby d2_6) rfl ((if0 _ _).trans (flt (by decide : ¬ ((3 : Int32) < (0 : Int32)))).1) (XS.aloadN X0.here hx rfl (hb hby d2_9) rfl rfl  (XS.iloadN X0.here hx rfl (hb hby d2_10) rfl  k))) ?_
  show own_Fin p e below _ (s₁.setTop (mkF m 11 #[.val (.ref a1), .val (.int (3 : Int32)), .unset] [(.int (3 : Int32)), (.ref a1)]))
  obtain ⟨cl2, Ar2, q2, S2, M2, H2, G2⟩ := (id V_1)
  have hin2 : ¬ ((3 : Int32) < 0 ∨ cl2.slots.size ≤ ((3 : Int32)).toNatClampNeg) := inb_of S2 ⟨by decide, by decide⟩
  have hat2 : cl2.slots[((3 : Int32)).toNatClampNeg]? = some (.int d3) := H2.at hin2 rfl
  refine own_go (fun t k => X0.baloadBytes hx (j := (3 : Int32)) (v := (.int d3)) (by rw [e0]; exact Ar2.1) (State.isArrayOf_alike hZ.alike Ar2.2.1) Ar2.2.2 hin2 hat2 (g := (mkF m 11 #[.val (.ref a1), .val (.int (3 : Int32)), .unset] [(.int (3 : Int32)), (.ref a1)])) rfl rfl (hb hby d2_11) _ (XS.iconst X0.here hx rfl (hb hby d2_12) k)) ?_
  show own_Fin p e below _ (s₁.setTop (mkF m 13 #[.val (.ref a1), .val (.int (3 : Int32)), .unset] [(.int (-1 : Int32)), (.int d3)]))
  refine own_go (fun t k => XS.icmpNo X0.here hx rfl (hb hby d2_13) rfl (teq hy3).2 (XS.iinc X0.here hx rfl (hb hby d2_16) rfl (l' := #[.val (.ref a1), .val (.int (2 : Int32)), .unset]) rfl (XS.goto X0.here hx rfl (pc0 := 19) (pc' := 5) rfl (hb hby d2_19) (by decide) (by decide) (XS.iloadN X0.here hx rfl (hb hby d2_5) rfl  k)))) ?_
  show own_Fin p e below _ (s₁.setTop (mkF m 6 #[.val (.ref a1), .val (.int (2 : Int32)), .unset] [(.int (2 : Int32))]))
  refine own_go (fun t k => XS.ifNo X0.here hx rfl (hb hby d2_6) rfl ((if0 _ _).trans (flt (by decide : ¬ ((2 : Int32) < (0 : Int32)))).1) (XS.aloadN X0.here hx rfl (hb hby d2_9) rfl rfl  (XS.iloadN X0.here hx rfl (hb hby d2_10) rfl  k))) ?_
  show own_Fin p e below _ (s₁.setTop (mkF m 11 #[.val (.ref a1), .val (.int (2 : Int32)), .unset] [(.int (2 : Int32)), (.ref a1)]))
  obtain ⟨cl3, Ar3, q3, S3, M3, H3, G3⟩ := (id V_1)
  have hin3 : ¬ ((2 : Int32) < 0 ∨ cl3.slots.size ≤ ((2 : Int32)).toNatClampNeg) := inb_of S3 ⟨by decide, by decide⟩
  have hat3 : cl3.slots[((2 : Int32)).toNatClampNeg]? = some (.int d2) := H3.at hin3 rfl
  refine own_go (fun t k => X0.baloadBytes hx (j := (2 : Int32)) (v := (.int d2)) (by rw [e0]; exact Ar3.1) (State.isArrayOf_alike hZ.alike Ar3.2.1) Ar3.2.2 hin3 hat3 (g := (mkF m 11 #[.val (.ref a1), .val (.int (2 : Int32)), .unset] [(.int (2 : Int32)), (.ref a1)])) rfl rfl (hb hby d2_11) _ (XS.iconst X0.here hx rfl (hb hby d2_12) k)) ?_
  show own_Fin p e below _ (s₁.setTop (mkF m 13 #[.val (.ref a1), .val (.int (2 : Int32)), .unset] [(.int (-1 : Int32)), (.int d2)]))
  refine own_go (fun t k => XS.icmpNo X0.here hx rfl (hb hby d2_13) rfl (teq hy2).2 (XS.iinc X0.here hx rfl (hb hby d2_16) rfl (l' := #[.val (.ref a1), .val (.int (1 : Int32)), .unset]) rfl (XS.goto X0.here hx rfl (pc0 := 19) (pc' := 5) rfl (hb hby d2_19) (by decide) (by decide) (XS.iloadN X0.here hx rfl (hb hby d2_5) rfl  k)))) ?_
  show own_Fin p e below _ (s₁.setTop (mkF m 6 #[.val (.ref a1), .val (.int (1 : Int32)), .unset] [(.int (1 : Int32))]))
  refine own_go (fun t k => XS.ifNo X0.here hx rfl (hb hby d2_6) rfl ((if0 _ _).trans (flt (by decide : ¬ ((1 : Int32) < (0 : Int32)))).1) (XS.aloadN X0.here hx rfl (hb hby d2_9) rfl rfl  (XS.iloadN X0.here hx rfl (hb hby d2_10) rfl  k))) ?_
  show own_Fin p e below _ (s₁.setTop (mkF m 11 #[.val (.ref a1), .val (.int (1 : Int32)), .unset] [(.int (1 : Int32)), (.ref a1)]))
  obtain ⟨cl4, Ar4, q4, S4, M4, H4, G4⟩ := (id V_1)
  have hin4 : ¬ ((1 : Int32) < 0 ∨ cl4.slots.size ≤ ((1 : Int32)).toNatClampNeg) := inb_of S4 ⟨by decide, by decide⟩
  have hat4 : cl4.slots[((1 : Int32)).toNatClampNeg]? = some (.int d1) := H4.at hin4 rfl
  refine own_go (fun t k => X0.baloadBytes hx (j := (1 : Int32)) (v := (.int d1)) (by rw [e0]; exact Ar4.1) (State.isArrayOf_alike hZ.alike Ar4.2.1) Ar4.2.2 hin4 hat4 (g := (mkF m 11 #[.val (.ref a1), .val (.int (1 : Int32)), .unset] [(.int (1 : Int32)), (.ref a1)])) rfl rfl (hb hby d2_11) _ (XS.iconst X0.here hx rfl (hb hby d2_12) k)) ?_
  show own_Fin p e below _ (s₁.setTop (mkF m 13 #[.val (.ref a1), .val (.int (1 : Int32)), .unset] [(.int (-1 : Int32)), (.int d1)]))
  refine own_go (fun t k => XS.icmpYes X0.here hx rfl (pc0 := 13) (pc' := 22) rfl (hb hby d2_13) rfl (feq hn1).2 (by decide) (by decide) (XS.iloadN X0.here hx rfl (hb hby d2_22) rfl  k)) ?_
  show own_Fin p e below _ (s₁.setTop (mkF m 23 #[.val (.ref a1), .val (.int (1 : Int32)), .unset] [(.int (1 : Int32))]))
  refine own_go (fun t k => XS.ifYes X0.here hx rfl (pc0 := 23) (pc' := 28) rfl (hb hby d2_23) rfl ((if0 _ _).trans (flt (by decide : ¬ ((1 : Int32) < (0 : Int32)))).2.1) (by decide) (by decide) (XS.aloadN X0.here hx rfl (hb hby d2_28) rfl rfl  (XS.iloadN X0.here hx rfl (hb hby d2_29) rfl  (XS.iconst X0.here hx rfl (hb hby d2_30) (XS.iadd X0.here hx rfl (hb hby d2_31) rfl k))))) ?_
  show own_Fin p e below _ (s₁.setTop (mkF m 32 #[.val (.ref a1), .val (.int (1 : Int32)), .unset] [(.int (2 : Int32)), (.ref a1)]))
  obtain ⟨_, _, ⟨T5, L5, k5, n5⟩, -, X5, ⟨Lc5, hQ5, l5, y5, z5⟩, st5⟩ := Jvm.LawKit.callS X0 hx (y := (⟨"java/util/Arrays", "copyOf", "([BI)[B"⟩ : MethodName)) hown (mvT hZ hw_13) (mvT hZ hw_14) (mvT hZ hw_15) (mvT hZ hw_16) (by decide) (backOf (W := 0) (rm4c42 l Z a0 hw [] (a1) k1 (d0) (d1) (d2) (d3) h0 n0 Z0 V_1 E_1) hZ hw_16 hw_15 (by decide) (by decide)) (g := (mkF m 32 #[.val (.ref a1), .val (.int (1 : Int32)), .unset] [(.int (2 : Int32)), (.ref a1)])) rfl (by rw [hml]; rfl) (argsL := [(.ref a1), (.int (2 : Int32))]) (rest := []) (lenOf pd_1 rfl) rfl (by show 2 * 0 + _ ≤ _; exact Nat.le_of_eq rfl) (hb hby d2_32) (fun _ _ => ⟨rfl, e0, (by decide : 0 + 1 ≤ _), (by decide : 0 + 2 ≤ _)⟩)
  dsimp only [Pt.U, Pt.locs, Pt.cells, Pt.slots] at X5 l5 y5 z5 st5 hQ5
  subst l5 y5 z5
  obtain ⟨b5, k5, rfl, N5q, sz5, K5, V5⟩ := hQ5
  have N5 := Fr.app N0 N5q
  have g_b5 : n0 ≤ b5 := Nat.le_trans Z0 sz5
  have sz_b5 : h0.size ≤ b5 := Nat.le_trans Kz.1 sz5
  have ne6 : a1 ≠ b5 := Nat.ne_of_lt (Nat.lt_of_lt_of_le V_1.lt sz5)
  have E5 : Ext _ _ := ⟨K5.1, fun a c q => K5.2.1 a c q nin0⟩
  have f7 := V_1.ext E5
  have f8 := E_1.ext E5
  have Zh9 : n0 ≤ T5.heap.size := Nat.le_trans Z0 K5.1
  have K10 := Kz.ext E5
  refine own_go st5 ?_
  show own_Fin p e below _ (T5.setTop (mkF m 35 #[.val (.ref a1), .val (.int (1 : Int32)), .unset] [(.ref b5)]))
  refine own_go (fun t k => XS.astoreN X5.here hx rfl (hb hby d2_35) rfl rfl (l' := #[.val (.ref a1), .val (.int (1 : Int32)), .val (.ref b5)]) rfl (XS.aloadN X5.here hx rfl (hb hby d2_36) rfl rfl  (XS.iloadN X5.here hx rfl (hb hby d2_37) rfl  (XT.dup2 X5.here hx rfl (hb hby d2_38) rfl rfl rfl k)))) ?_
  show own_Fin p e below _ (T5.setTop (mkF m 39 #[.val (.ref a1), .val (.int (1 : Int32)), .val (.ref b5)] [(.int (1 : Int32)), (.ref b5), (.int (1 : Int32)), (.ref b5)]))
  obtain ⟨cl11, Ar11, q11, S11, M11, H11, G11⟩ := (id V5)
  have hin11 : ¬ ((1 : Int32) < 0 ∨ cl11.slots.size ≤ ((1 : Int32)).toNatClampNeg) := inb_of S11 ⟨by decide, by decide⟩
  have hat11 : cl11.slots[((1 : Int32)).toNatClampNeg]? = some (.int d1) := H11.at hin11 rfl
  refine own_go (fun t k => X5.baloadBytes hx (j := (1 : Int32)) (v := (.int d1)) Ar11.1 (State.isArrayOf_alike hZ.alike Ar11.2.1) Ar11.2.2 hin11 hat11 (g := (mkF m 39 #[.val (.ref a1), .val (.int (1 : Int32)), .val (.ref b5)] [(.int (1 : Int32)), (.ref b5), (.int (1 : Int32)), (.ref b5)])) rfl rfl (hb hby d2_39) _ (XS.iconst X5.here hx rfl (hb hby d2_40) (XS.iadd X5.here hx rfl (hb hby d2_41) rfl (XS.i2b X5.here hx rfl (hb hby d2_42) rfl k)))) ?_
  show own_Fin p e below _ (T5.setTop (mkF m 43 #[.val (.ref a1), .val (.int (1 : Int32)), .val (.ref b5)] [(.int ((d1 + (1 : Int32)).toInt8.toInt32)), (.int (1 : Int32)), (.ref b5)]))
  obtain ⟨cl12, Ar12, q12, S12, M12, H12, G12⟩ := (id V5)
  have hin12 : ¬ ((1 : Int32) < 0 ∨ cl12.slots.size ≤ ((1 : Int32)).toNatClampNeg) := inb_of S12 ⟨by decide, by decide⟩
  obtain ⟨T12, h12, X12, e12, W12, st12⟩ := stB X5 hx hZ rfl Ar12 (j := (1 : Int32)) hin12 (g := (mkF m 43 #[.val (.ref a1), .val (.int (1 : Int32)), .val (.ref b5)] [(.int ((d1 + (1 : Int32)).toInt8.toInt32)), (.int (1 : Int32)), (.ref b5)])) rfl rfl (hb hby d2_43)
  have f13 := f7.other W12 ne6
  have f14 := f8.wr W12
  have V12 := Arv.set Ar12 q12 S12 M12 H12 G12 (fits_nar_byte _) W12 1 rfl (Nat.le_of_ble_eq_true rfl)
  have f16 : Arv Z h12 b5 k5 .byte (2 : Int32) [(.int d0), (.int (nar .byte ((d1 + (1 : Int32)).toInt8.toInt32)))] (.int (0 : Int32)) := V12
  have Zh17 : n0 ≤ h12.size := Nat.le_trans Zh9 (Nat.le_of_eq W12.size.symm)
  have N12 := Fr.snoc X12 N5 g_b5
  have K18 := K10.wr W12 (Or.inr sz_b5)
  refine own_go st12 ?_
  show own_Fin p e below _ (T12.setTop (mkF m 44 #[.val (.ref a1), .val (.int (1 : Int32)), .val (.ref b5)] []))
  refine own_go (fun t k => XS.aloadN X12.here hx rfl (hb hby d2_44) rfl rfl  k) ?_
  show own_Fin p e below _ (T12.setTop (mkF m 45 #[.val (.ref a1), .val (.int (1 : Int32)), .val (.ref b5)] [(.ref b5)]))
  exact own_out X12 (fun h => by rw [Bd.returns] at h; cases h) Bd.notSynchronized (fun fs hr => retOut X12 hx Bd.returns rfl (Or.inr (Or.inr (Or.inr (Or.inr ⟨rfl, rfl, rfl⟩)))) (hb hby d2_45) hr) (by rw [e12]; exact ⟨_, _, rfl, N12, sz_b5, K18, f16⟩) (by decide) (by decide)
theorem ef_2r43 (m : MethodId) (x0 : Addr)  : entryFrame m #[(.ref x0)] 3 = mkF m 0 #[.val (.ref x0), .unset, .unset] [] := by first | (simp [entryFrame, mkF, argsToLocals, Value.category]; done) | rfl
def own_q2r43 (Z : State) (a1 : Addr) (k1 : ClassId) (d0 d1 d2 d3 : Int32) (h0 : Heap) (n0 : Nat) (v : Option Value) (h : Heap) (L : List Loc) : Prop := ∃ (a : Addr) (k : ClassId), v = some (.ref a) ∧ Fr n0 L ∧ h0.size ≤ a ∧ Keep h0 h [] ∧ Arv Z h a k .byte (3 : Int32) [(.int d0), (.int d1), (.int (nar .byte (((d2 + (1 : Int32)).toInt8.toInt32))))] (.int (0 : Int32))
set_option maxRecDepth 65536 in
set_option maxHeartbeats 40000000 in
theorem rm2r43 (l : Launch) (Z : State) (a0 : Array Value) (hw : ∀ d ∈ tables_1, d.before a0 Z = true) (ws : List Jvm.Cond) (a1 : Addr) (k1 : ClassId) (d0 d1 d2 d3 : Int32) (h0 : Heap) (n0 : Nat) (Z0 : n0 ≤ h0.size) (V_1 : Arv Z h0 a1 k1 .byte (4 : Int32) [(.int d0), (.int d1), (.int d2), (.int d3)] (.int (0 : Int32))) (E_1 : Exa Z h0 a1 "[B") (hy3 : d3 = (-1 : Int32)) (hn2 : ¬ d2 = (-1 : Int32)) :
    MetFree l (⟨"com/example/keyslice/keyslice/storage/KeyRange", "after", "([B)[B"⟩ : MethodName) (head1 (Jvm.Cond.code (⟨"com/example/keyslice/keyslice/storage/KeyRange", "after", "([B)[B"⟩ : MethodName) prog_64_method_8_code 3 (some (.array .byte)) :: ws) ({ frames := 2, cells := 1, slots := 3, locals := 32 } : Room)) (fun a U => a = #[(.ref a1)] ∧ Z.Warmed39 U.vm ∧ U.heap = h0) (fun _ _ _ _ _ => True) (fun _ U o U' => ∃ v L, o = .returned v ∧ (own_q2r43 Z a1 k1 d0 d1 d2 d3 h0 n0) v U'.heap L ∧ FrameEnd U o U' L ({ frames := 2, cells := 1, slots := 3, locals := 32 } : Room).cells ({ frames := 2, cells := 1, slots := 3, locals := 32 } : Room).slots) := by
  refine MetFree.of_bodySF (plainFor_of_name pn_2) hisR ?_
  intro p e s m args below meth c s₁ Bd hml0 hP hK
  obtain ⟨rfl, hZ, hh⟩ := hP
  have hx := Bd.exec
  have hby := Bd.bytes
  have hml : c.maxLocals = 3 := hml0
  have hown : s.vm.findClass "com/example/keyslice/keyslice/storage/KeyRange" = some m.cls := findClass_of_methodNamed Bd.named
  have hnm := (name_of_methodNamed Bd.named Bd.method).1
  have X0 : Stand p l e ({ frames := 2, cells := 1, slots := 3, locals := 32 } : Room) s m #[(.ref a1)] below meth c s₁ [] 0 0 := Stand.of_body Bd
  have e0 : s₁.heap = h0 := by rw [← hh, Bd.state]; rfl
  have N0 := Fr.nil n0
  have Kz := Keep.refl h0 []
  have hw_13 := hw _ (List.mem_of_getElem? (i := 13) rfl)
  have hw_14 := hw _ (List.mem_of_getElem? (i := 14) rfl)
  have hw_15 := hw _ (List.mem_of_getElem? (i := 15) rfl)
  have hw_16 := hw _ (List.mem_of_getElem? (i := 16) rfl)
  show own_Fin p e below (own_A s ({ frames := 2, cells := 1, slots := 3, locals := 32 } : Room).cells ({ frames := 2, cells := 1, slots := 3, locals := 32 } : Room).slots (own_q2r43 Z a1 k1 d0 d1 d2 d3 h0 n0)) _
  refine own_go (fun t k => castTop (ef_2r43 m (a1)) k) ?_
  show own_Fin p e below _ (s₁.setTop (mkF m 0 #[.val (.ref a1), .unset, .unset] []))
  refine own_go (fun t k => XS.aloadN X0.here hx rfl (hb hby d2_0) rfl rfl  k) ?_
  show own_Fin p e below _ (s₁.setTop (mkF m 1 #[.val (.ref a1), .unset, .unset] [(.ref a1)]))
  obtain ⟨cl1, Ar1, q1, S1, M1, H1, G1⟩ := (id V_1)
  refine own_go (fun t k => X0.arraylength hx (by rw [e0]; exact Ar1.1) (State.isArrayOf_alike hZ.alike Ar1.2.1) (g := (mkF m 1 #[.val (.ref a1), .unset, .unset] [(.ref a1)])) rfl rfl (hb hby d2_1) _ k) ?_
  rw [len_of S1 M1]
  show own_Fin p e below _ (s₁.setTop (mkF m 2 #[.val (.ref a1), .unset, .unset] [(.int (4 : Int32))]))
  refine own_go (fun t k => XS.iconst X0.here hx rfl (hb hby d2_2) (XS.isub X0.here hx rfl (hb hby d2_3) rfl (XS.istoreN X0.here hx rfl (hb hby d2_4) rfl (l' := #[.val (.ref a1), .val (.int (3 : Int32)), .unset]) rfl (XS.iloadN X0.here hx rfl (hb hby d2_5) rfl  k)))) ?_
  show own_Fin p e below _ (s₁.setTop (mkF m 6 #[.val (.ref a1), .val (.int (3 : Int32)), .unset] [(.int (3 : Int32))]))
  refine own_go (fun t k => XS.ifNo X0.here hx rfl (hb hby d2_6) rfl ((if0 _ _).trans (flt (by decide : ¬ ((3 : Int32) < (0 : Int32)))).1) (XS.aloadN X0.here hx rfl (hb hby d2_9) rfl rfl  (XS.iloadN X0.here hx rfl (hb hby d2_10) rfl  k))) ?_
  show own_Fin p e below _ (s₁.setTop (mkF m 11 #[.val (.ref a1), .val (.int (3 : Int32)), .unset] [(.int (3 : Int32)), (.ref a1)]))
  obtain ⟨cl2, Ar2, q2, S2, M2, H2, G2⟩ := (id V_1)
  have hin2 : ¬ ((3 : Int32) < 0 ∨ cl2.slots.size ≤ ((3 : Int32)).toNatClampNeg) := inb_of S2 ⟨by decide, by decide⟩
  have hat2 : cl2.slots[((3 : Int32)).toNatClampNeg]? = some (.int d3) := H2.at hin2 rfl
  refine own_go (fun t k => X0.baloadBytes hx (j := (3 : Int32)) (v := (.int d3)) (by rw [e0]; exact Ar2.1) (State.isArrayOf_alike hZ.alike Ar2.2.1) Ar2.2.2 hin2 hat2 (g := (mkF m 11 #[.val (.ref a1), .val (.int (3 : Int32)), .unset] [(.int (3 : Int32)), (.ref a1)])) rfl rfl (hb hby d2_11) _ (XS.iconst X0.here hx rfl (hb hby d2_12) k)) ?_
  show own_Fin p e below _ (s₁.setTop (mkF m 13 #[.val (.ref a1), .val (.int (3 : Int32)), .unset] [(.int (-1 : Int32)), (.int d3)]))
  refine own_go (fun t k => XS.icmpNo X0.here hx rfl (hb hby d2_13) rfl (teq hy3).2 (XS.iinc X0.here hx rfl (hb hby d2_16) rfl (l' := #[.val (.ref a1), .val (.int (2 : Int32)), .unset]) rfl (XS.goto X0.here hx rfl (pc0 := 19) (pc' := 5) rfl (hb hby d2_19) (by decide) (by decide) (XS.iloadN X0.here hx rfl (hb hby d2_5) rfl  k)))) ?_
  show own_Fin p e below _ (s₁.setTop (mkF m 6 #[.val (.ref a1), .val (.int (2 : Int32)), .unset] [(.int (2 : Int32))]))
  refine own_go (fun t k => XS.ifNo X0.here hx rfl (hb hby d2_6) rfl ((if0 _ _).trans (flt (by decide : ¬ ((2 : Int32) < (0 : Int32)))).1) (XS.aloadN X0.here hx rfl (hb hby d2_9) rfl rfl  (XS.iloadN X0.here hx rfl (hb hby d2_10) rfl  k))) ?_
  show own_Fin p e below _ (s₁.setTop (mkF m 11 #[.val (.ref a1), .val (.int (2 : Int32)), .unset] [(.int (2 : Int32)), (.ref a1)]))
  obtain ⟨cl3, Ar3, q3, S3, M3, H3, G3⟩ := (id V_1)
  have hin3 : ¬ ((2 : Int32) < 0 ∨ cl3.slots.size ≤ ((2 : Int32)).toNatClampNeg) := inb_of S3 ⟨by decide, by decide⟩
  have hat3 : cl3.slots[((2 : Int32)).toNatClampNeg]? = some (.int d2) := H3.at hin3 rfl
  refine own_go (fun t k => X0.baloadBytes hx (j := (2 : Int32)) (v := (.int d2)) (by rw [e0]; exact Ar3.1) (State.isArrayOf_alike hZ.alike Ar3.2.1) Ar3.2.2 hin3 hat3 (g := (mkF m 11 #[.val (.ref a1), .val (.int (2 : Int32)), .unset] [(.int (2 : Int32)), (.ref a1)])) rfl rfl (hb hby d2_11) _ (XS.iconst X0.here hx rfl (hb hby d2_12) k)) ?_
  show own_Fin p e below _ (s₁.setTop (mkF m 13 #[.val (.ref a1), .val (.int (2 : Int32)), .unset] [(.int (-1 : Int32)), (.int d2)]))
  refine own_go (fun t k => XS.icmpYes X0.here hx rfl (pc0 := 13) (pc' := 22) rfl (hb hby d2_13) rfl (feq hn2).2 (by decide) (by decide) (XS.iloadN X0.here hx rfl (hb hby d2_22) rfl  k)) ?_
  show own_Fin p e below _ (s₁.setTop (mkF m 23 #[.val (.ref a1), .val (.int (2 : Int32)), .unset] [(.int (2 : Int32))]))
  refine own_go (fun t k => XS.ifYes X0.here hx rfl (pc0 := 23) (pc' := 28) rfl (hb hby d2_23) rfl ((if0 _ _).trans (flt (by decide : ¬ ((2 : Int32) < (0 : Int32)))).2.1) (by decide) (by decide) (XS.aloadN X0.here hx rfl (hb hby d2_28) rfl rfl  (XS.iloadN X0.here hx rfl (hb hby d2_29) rfl  (XS.iconst X0.here hx rfl (hb hby d2_30) (XS.iadd X0.here hx rfl (hb hby d2_31) rfl k))))) ?_
  show own_Fin p e below _ (s₁.setTop (mkF m 32 #[.val (.ref a1), .val (.int (2 : Int32)), .unset] [(.int (3 : Int32)), (.ref a1)]))
  obtain ⟨_, _, ⟨T4, L4, k4, n4⟩, -, X4, ⟨Lc4, hQ4, l4, y4, z4⟩, st4⟩ := Jvm.LawKit.callS X0 hx (y := (⟨"java/util/Arrays", "copyOf", "([BI)[B"⟩ : MethodName)) hown (mvT hZ hw_13) (mvT hZ hw_14) (mvT hZ hw_15) (mvT hZ hw_16) (by decide) (backOf (W := 0) (rm4c43 l Z a0 hw [] (a1) k1 (d0) (d1) (d2) (d3) h0 n0 Z0 V_1 E_1) hZ hw_16 hw_15 (by decide) (by decide)) (g := (mkF m 32 #[.val (.ref a1), .val (.int (2 : Int32)), .unset] [(.int (3 : Int32)), (.ref a1)])) rfl (by rw [hml]; rfl) (argsL := [(.ref a1), (.int (3 : Int32))]) (rest := []) (lenOf pd_1 rfl) rfl (by show 2 * 0 + _ ≤ _; exact Nat.le_of_eq rfl) (hb hby d2_32) (fun _ _ => ⟨rfl, e0, (by decide : 0 + 1 ≤ _), (by decide : 0 + 3 ≤ _)⟩)
  dsimp only [Pt.U, Pt.locs, Pt.cells, Pt.slots] at X4 l4 y4 z4 st4 hQ4
  subst l4 y4 z4
  obtain ⟨b4, k4, rfl, N4q, sz4, K4, V4⟩ := hQ4
  have N4 := Fr.app N0 N4q
  have g_b4 : n0 ≤ b4 := Nat.le_trans Z0 sz4
  have sz_b4 : h0.size ≤ b4 := Nat.le_trans Kz.1 sz4
  have ne5 : a1 ≠ b4 := Nat.ne_of_lt (Nat.lt_of_lt_of_le V_1.lt sz4)
  have E4 : Ext _ _ := ⟨K4.1, fun a c q => K4.2.1 a c q nin0⟩
  have f6 := V_1.ext E4
  have f7 := E_1.ext E4
  have Zh8 : n0 ≤ T4.heap.size := Nat.le_trans Z0 K4.1
  have K9 := Kz.ext E4
  refine own_go st4 ?_
  show own_Fin p e below _ (T4.setTop (mkF m 35 #[.val (.ref a1), .val (.int (2 : Int32)), .unset] [(.ref b4)]))
  refine own_go (fun t k => XS.astoreN X4.here hx rfl (hb hby d2_35) rfl rfl (l' := #[.val (.ref a1), .val (.int (2 : Int32)), .val (.ref b4)]) rfl (XS.aloadN X4.here hx rfl (hb hby d2_36) rfl rfl  (XS.iloadN X4.here hx rfl (hb hby d2_37) rfl  (XT.dup2 X4.here hx rfl (hb hby d2_38) rfl rfl rfl k)))) ?_
  show own_Fin p e below _ (T4.setTop (mkF m 39 #[.val (.ref a1), .val (.int (2 : Int32)), .val (.ref b4)] [(.int (2 : Int32)), (.ref b4), (.int (2 : Int32)), (.ref b4)]))
  obtain ⟨cl10, Ar10, q10, S10, M10, H10, G10⟩ := (id V4)
  have hin10 : ¬ ((2 : Int32) < 0 ∨ cl10.slots.size ≤ ((2 : Int32)).toNatClampNeg) := inb_of S10 ⟨by decide, by decide⟩
  have hat10 : cl10.slots[((2 : Int32)).toNatClampNeg]? = some (.int d2) := H10.at hin10 rfl
  refine own_go (fun t k => X4.baloadBytes hx (j := (2 : Int32)) (v := (.int d2)) Ar10.1 (State.isArrayOf_alike hZ.alike Ar10.2.1) Ar10.2.2 hin10 hat10 (g := (mkF m 39 #[.val (.ref a1), .val (.int (2 : Int32)), .val (.ref b4)] [(.int (2 : Int32)), (.ref b4), (.int (2 : Int32)), (.ref b4)])) rfl rfl (hb hby d2_39) _ (XS.iconst X4.here hx rfl (hb hby d2_40) (XS.iadd X4.here hx rfl (hb hby d2_41) rfl (XS.i2b X4.here hx rfl (hb hby d2_42) rfl k)))) ?_
  show own_Fin p e below _ (T4.setTop (mkF m 43 #[.val (.ref a1), .val (.int (2 : Int32)), .val (.ref b4)] [(.int ((d2 + (1 : Int32)).toInt8.toInt32)), (.int (2 : Int32)), (.ref b4)]))
  obtain ⟨cl11, Ar11, q11, S11, M11, H11, G11⟩ := (id V4)
  have hin11 : ¬ ((2 : Int32) < 0 ∨ cl11.slots.size ≤ ((2 : Int32)).toNatClampNeg) := inb_of S11 ⟨by decide, by decide⟩
  obtain ⟨T11, h11, X11, e11, W11, st11⟩ := stB X4 hx hZ rfl Ar11 (j := (2 : Int32)) hin11 (g := (mkF m 43 #[.val (.ref a1), .val (.int (2 : Int32)), .val (.ref b4)] [(.int ((d2 + (1 : Int32)).toInt8.toInt32)), (.int (2 : Int32)), (.ref b4)])) rfl rfl (hb hby d2_43)
  have f12 := f6.other W11 ne5
  have f13 := f7.wr W11
  have V11 := Arv.set Ar11 q11 S11 M11 H11 G11 (fits_nar_byte _) W11 2 rfl (Nat.le_of_ble_eq_true rfl)
  have f15 : Arv Z h11 b4 k4 .byte (3 : Int32) [(.int d0), (.int d1), (.int (nar .byte ((d2 + (1 : Int32)).toInt8.toInt32)))] (.int (0 : Int32)) := V11
  have Zh16 : n0 ≤ h11.size := Nat.le_trans Zh8 (Nat.le_of_eq W11.size.symm)
  have N11 := Fr.snoc X11 N4 g_b4
  have K17 := K9.wr W11 (Or.inr sz_b4)
  refine own_go st11 ?_
  show own_Fin p e below _ (T11.setTop (mkF m 44 #[.val (.ref a1), .val (.int (2 : Int32)), .val (.ref b4)] []))
  refine own_go (fun t k => XS.aloadN X11.here hx rfl (hb hby d2_44) rfl rfl  k) ?_
  show own_Fin p e below _ (T11.setTop (mkF m 45 #[.val (.ref a1), .val (.int (2 : Int32)), .val (.ref b4)] [(.ref b4)]))
  exact own_out X11 (fun h => by rw [Bd.returns] at h; cases h) Bd.notSynchronized (fun fs hr => retOut X11 hx Bd.returns rfl (Or.inr (Or.inr (Or.inr (Or.inr ⟨rfl, rfl, rfl⟩)))) (hb hby d2_45) hr) (by rw [e11]; exact ⟨_, _, rfl, N11, sz_b4, K17, f15⟩) (by decide) (by decide)
theorem ef_2r44 (m : MethodId) (x0 : Addr)  : entryFrame m #[(.ref x0)] 3 = mkF m 0 #[.val (.ref x0), .unset, .unset] [] := by first | (simp [entryFrame, mkF, argsToLocals, Value.category]; done) | rfl
def own_q2r44 (Z : State) (a1 : Addr) (k1 : ClassId) (d0 d1 d2 d3 : Int32) (h0 : Heap) (n0 : Nat) (v : Option Value) (h : Heap) (L : List Loc) : Prop := ∃ (a : Addr) (k : ClassId), v = some (.ref a) ∧ Fr n0 L ∧ h0.size ≤ a ∧ Keep h0 h [] ∧ Arv Z h a k .byte (4 : Int32) [(.int d0), (.int d1), (.int d2), (.int (nar .byte (((d3 + (1 : Int32)).toInt8.toInt32))))] (.int (0 : Int32))
set_option maxRecDepth 65536 in
set_option maxHeartbeats 40000000 in
theorem rm2r44 (l : Launch) (Z : State) (a0 : Array Value) (hw : ∀ d ∈ tables_1, d.before a0 Z = true) (ws : List Jvm.Cond) (a1 : Addr) (k1 : ClassId) (d0 d1 d2 d3 : Int32) (h0 : Heap) (n0 : Nat) (Z0 : n0 ≤ h0.size) (V_1 : Arv Z h0 a1 k1 .byte (4 : Int32) [(.int d0), (.int d1), (.int d2), (.int d3)] (.int (0 : Int32))) (E_1 : Exa Z h0 a1 "[B") (hn3 : ¬ d3 = (-1 : Int32)) :
    MetFree l (⟨"com/example/keyslice/keyslice/storage/KeyRange", "after", "([B)[B"⟩ : MethodName) (head1 (Jvm.Cond.code (⟨"com/example/keyslice/keyslice/storage/KeyRange", "after", "([B)[B"⟩ : MethodName) prog_64_method_8_code 3 (some (.array .byte)) :: ws) ({ frames := 2, cells := 1, slots := 4, locals := 28 } : Room)) (fun a U => a = #[(.ref a1)] ∧ Z.Warmed39 U.vm ∧ U.heap = h0) (fun _ _ _ _ _ => True) (fun _ U o U' => ∃ v L, o = .returned v ∧ (own_q2r44 Z a1 k1 d0 d1 d2 d3 h0 n0) v U'.heap L ∧ FrameEnd U o U' L ({ frames := 2, cells := 1, slots := 4, locals := 28 } : Room).cells ({ frames := 2, cells := 1, slots := 4, locals := 28 } : Room).slots) := by
  refine MetFree.of_bodySF (plainFor_of_name pn_2) hisR ?_
  intro p e s m args below meth c s₁ Bd hml0 hP hK
  obtain ⟨rfl, hZ, hh⟩ := hP
  have hx := Bd.exec
  have hby := Bd.bytes
  have hml : c.maxLocals = 3 := hml0
  have hown : s.vm.findClass "com/example/keyslice/keyslice/storage/KeyRange" = some m.cls := findClass_of_methodNamed Bd.named
  have hnm := (name_of_methodNamed Bd.named Bd.method).1
  have X0 : Stand p l e ({ frames := 2, cells := 1, slots := 4, locals := 28 } : Room) s m #[(.ref a1)] below meth c s₁ [] 0 0 := Stand.of_body Bd
  have e0 : s₁.heap = h0 := by rw [← hh, Bd.state]; rfl
  have N0 := Fr.nil n0
  have Kz := Keep.refl h0 []
  have hw_13 := hw _ (List.mem_of_getElem? (i := 13) rfl)
  have hw_14 := hw _ (List.mem_of_getElem? (i := 14) rfl)
  have hw_15 := hw _ (List.mem_of_getElem? (i := 15) rfl)
  have hw_16 := hw _ (List.mem_of_getElem? (i := 16) rfl)
  show own_Fin p e below (own_A s ({ frames := 2, cells := 1, slots := 4, locals := 28 } : Room).cells ({ frames := 2, cells := 1, slots := 4, locals := 28 } : Room).slots (own_q2r44 Z a1 k1 d0 d1 d2 d3 h0 n0)) _
  refine own_go (fun t k => castTop (ef_2r44 m (a1)) k) ?_
  show own_Fin p e below _ (s₁.setTop (mkF m 0 #[.val (.ref a1), .unset, .unset] []))
  refine own_go (fun t k => XS.aloadN X0.here hx rfl (hb hby d2_0) rfl rfl  k) ?_
  show own_Fin p e below _ (s₁.setTop (mkF m 1 #[.val (.ref a1), .unset, .unset] [(.ref a1)]))
  obtain ⟨cl1, Ar1, q1, S1, M1, H1, G1⟩ := (id V_1)
  refine own_go (fun t k => X0.arraylength hx (by rw [e0]; exact Ar1.1) (State.isArrayOf_alike hZ.alike Ar1.2.1) (g := (mkF m 1 #[.val (.ref a1), .unset, .unset] [(.ref a1)])) rfl rfl (hb hby d2_1) _ k) ?_
  rw [len_of S1 M1]
  show own_Fin p e below _ (s₁.setTop (mkF m 2 #[.val (.ref a1), .unset, .unset] [(.int (4 : Int32))]))
  refine own_go (fun t k => XS.iconst X0.here hx rfl (hb hby d2_2) (XS.isub X0.here hx rfl (hb hby d2_3) rfl (XS.istoreN X0.here hx rfl (hb hby d2_4) rfl (l' := #[.val (.ref a1), .val (.int (3 : Int32)), .unset]) rfl (XS.iloadN X0.here hx rfl (hb hby d2_5) rfl  k)))) ?_
  show own_Fin p e below _ (s₁.setTop (mkF m 6 #[.val (.ref a1), .val (.int (3 : Int32)), .unset] [(.int (3 : Int32))]))
  refine own_go (fun t k => XS.ifNo X0.here hx rfl (hb hby d2_6) rfl ((if0 _ _).trans (flt (by decide : ¬ ((3 : Int32) < (0 : Int32)))).1) (XS.aloadN X0.here hx rfl (hb hby d2_9) rfl rfl  (XS.iloadN X0.here hx rfl (hb hby d2_10) rfl  k))) ?_
  show own_Fin p e below _ (s₁.setTop (mkF m 11 #[.val (.ref a1), .val (.int (3 : Int32)), .unset] [(.int (3 : Int32)), (.ref a1)]))
  obtain ⟨cl2, Ar2, q2, S2, M2, H2, G2⟩ := (id V_1)
  have hin2 : ¬ ((3 : Int32) < 0 ∨ cl2.slots.size ≤ ((3 : Int32)).toNatClampNeg) := inb_of S2 ⟨by decide, by decide⟩
  have hat2 : cl2.slots[((3 : Int32)).toNatClampNeg]? = some (.int d3) := H2.at hin2 rfl
  refine own_go (fun t k => X0.baloadBytes hx (j := (3 : Int32)) (v := (.int d3)) (by rw [e0]; exact Ar2.1) (State.isArrayOf_alike hZ.alike Ar2.2.1) Ar2.2.2 hin2 hat2 (g := (mkF m 11 #[.val (.ref a1), .val (.int (3 : Int32)), .unset] [(.int (3 : Int32)), (.ref a1)])) rfl rfl (hb hby d2_11) _ (XS.iconst X0.here hx rfl (hb hby d2_12) k)) ?_
  show own_Fin p e below _ (s₁.setTop (mkF m 13 #[.val (.ref a1), .val (.int (3 : Int32)), .unset] [(.int (-1 : Int32)), (.int d3)]))
  refine own_go (fun t k => XS.icmpYes X0.here hx rfl (pc0 := 13) (pc' := 22) rfl (hb hby d2_13) rfl (feq hn3).2 (by decide) (by decide) (XS.iloadN X0.here hx rfl (hb hby d2_22) rfl  k)) ?_
  show own_Fin p e below _ (s₁.setTop (mkF m 23 #[.val (.ref a1), .val (.int (3 : Int32)), .unset] [(.int (3 : Int32))]))
  refine own_go (fun t k => XS.ifYes X0.here hx rfl (pc0 := 23) (pc' := 28) rfl (hb hby d2_23) rfl ((if0 _ _).trans (flt (by decide : ¬ ((3 : Int32) < (0 : Int32)))).2.1) (by decide) (by decide) (XS.aloadN X0.here hx rfl (hb hby d2_28) rfl rfl  (XS.iloadN X0.here hx rfl (hb hby d2_29) rfl  (XS.iconst X0.here hx rfl (hb hby d2_30) (XS.iadd X0.here hx rfl (hb hby d2_31) rfl k))))) ?_
  show own_Fin p e below _ (s₁.setTop (mkF m 32 #[.val (.ref a1), .val (.int (3 : Int32)), .unset] [(.int (4 : Int32)), (.ref a1)]))
  obtain ⟨_, _, ⟨T3, L3, k3, n3⟩, -, X3, ⟨Lc3, hQ3, l3, y3, z3⟩, st3⟩ := Jvm.LawKit.callS X0 hx (y := (⟨"java/util/Arrays", "copyOf", "([BI)[B"⟩ : MethodName)) hown (mvT hZ hw_13) (mvT hZ hw_14) (mvT hZ hw_15) (mvT hZ hw_16) (by decide) (backOf (W := 0) (rm4c44 l Z a0 hw [] (a1) k1 (d0) (d1) (d2) (d3) h0 n0 Z0 V_1 E_1) hZ hw_16 hw_15 (by decide) (by decide)) (g := (mkF m 32 #[.val (.ref a1), .val (.int (3 : Int32)), .unset] [(.int (4 : Int32)), (.ref a1)])) rfl (by rw [hml]; rfl) (argsL := [(.ref a1), (.int (4 : Int32))]) (rest := []) (lenOf pd_1 rfl) rfl (by show 2 * 0 + _ ≤ _; exact Nat.le_of_eq rfl) (hb hby d2_32) (fun _ _ => ⟨rfl, e0, (by decide : 0 + 1 ≤ _), (by decide : 0 + 4 ≤ _)⟩)
  dsimp only [Pt.U, Pt.locs, Pt.cells, Pt.slots] at X3 l3 y3 z3 st3 hQ3
  subst l3 y3 z3
  obtain ⟨b3, k3, rfl, N3q, sz3, K3, V3⟩ := hQ3
  have N3 := Fr.app N0 N3q
  have g_b3 : n0 ≤ b3 := Nat.le_trans Z0 sz3
  have sz_b3 : h0.size ≤ b3 := Nat.le_trans Kz.1 sz3
  have ne4 : a1 ≠ b3 := Nat.ne_of_lt (Nat.lt_of_lt_of_le V_1.lt sz3)
  have E3 : Ext _ _ := ⟨K3.1, fun a c q => K3.2.1 a c q nin0⟩
  have f5 := V_1.ext E3
  have f6 := E_1.ext E3
  have Zh7 : n0 ≤ T3.heap.size := Nat.le_trans Z0 K3.1
  have K8 := Kz.ext E3
  refine own_go st3 ?_
  show own_Fin p e below _ (T3.setTop (mkF m 35 #[.val (.ref a1), .val (.int (3 : Int32)), .unset] [(.ref b3)]))
  refine own_go (fun t k => XS.astoreN X3.here hx rfl (hb hby d2_35) rfl rfl (l' := #[.val (.ref a1), .val (.int (3 : Int32)), .val (.ref b3)]) rfl (XS.aloadN X3.here hx rfl (hb hby d2_36) rfl rfl  (XS.iloadN X3.here hx rfl (hb hby d2_37) rfl  (XT.dup2 X3.here hx rfl (hb hby d2_38) rfl rfl rfl k)))) ?_
  show own_Fin p e below _ (T3.setTop (mkF m 39 #[.val (.ref a1), .val (.int (3 : Int32)), .val (.ref b3)] [(.int (3 : Int32)), (.ref b3), (.int (3 : Int32)), (.ref b3)]))
  obtain ⟨cl9, Ar9, q9, S9, M9, H9, G9⟩ := (id V3)
  have hin9 : ¬ ((3 : Int32) < 0 ∨ cl9.slots.size ≤ ((3 : Int32)).toNatClampNeg) := inb_of S9 ⟨by decide, by decide⟩
  have hat9 : cl9.slots[((3 : Int32)).toNatClampNeg]? = some (.int d3) := H9.at hin9 rfl
  refine own_go (fun t k => X3.baloadBytes hx (j := (3 : Int32)) (v := (.int d3)) Ar9.1 (State.isArrayOf_alike hZ.alike Ar9.2.1) Ar9.2.2 hin9 hat9 (g := (mkF m 39 #[.val (.ref a1), .val (.int (3 : Int32)), .val (.ref b3)] [(.int (3 : Int32)), (.ref b3), (.int (3 : Int32)), (.ref b3)])) rfl rfl (hb hby d2_39) _ (XS.iconst X3.here hx rfl (hb hby d2_40) (XS.iadd X3.here hx rfl (hb hby d2_41) rfl (XS.i2b X3.here hx rfl (hb hby d2_42) rfl k)))) ?_
  show own_Fin p e below _ (T3.setTop (mkF m 43 #[.val (.ref a1), .val (.int (3 : Int32)), .val (.ref b3)] [(.int ((d3 + (1 : Int32)).toInt8.toInt32)), (.int (3 : Int32)), (.ref b3)]))
  obtain ⟨cl10, Ar10, q10, S10, M10, H10, G10⟩ := (id V3)
  have hin10 : ¬ ((3 : Int32) < 0 ∨ cl10.slots.size ≤ ((3 : Int32)).toNatClampNeg) := inb_of S10 ⟨by decide, by decide⟩
  obtain ⟨T10, h10, X10, e10, W10, st10⟩ := stB X3 hx hZ rfl Ar10 (j := (3 : Int32)) hin10 (g := (mkF m 43 #[.val (.ref a1), .val (.int (3 : Int32)), .val (.ref b3)] [(.int ((d3 + (1 : Int32)).toInt8.toInt32)), (.int (3 : Int32)), (.ref b3)])) rfl rfl (hb hby d2_43)
  have f11 := f5.other W10 ne4
  have f12 := f6.wr W10
  have V10 := Arv.set Ar10 q10 S10 M10 H10 G10 (fits_nar_byte _) W10 3 rfl (Nat.le_of_ble_eq_true rfl)
  have f14 : Arv Z h10 b3 k3 .byte (4 : Int32) [(.int d0), (.int d1), (.int d2), (.int (nar .byte ((d3 + (1 : Int32)).toInt8.toInt32)))] (.int (0 : Int32)) := V10
  have Zh15 : n0 ≤ h10.size := Nat.le_trans Zh7 (Nat.le_of_eq W10.size.symm)
  have N10 := Fr.snoc X10 N3 g_b3
  have K16 := K8.wr W10 (Or.inr sz_b3)
  refine own_go st10 ?_
  show own_Fin p e below _ (T10.setTop (mkF m 44 #[.val (.ref a1), .val (.int (3 : Int32)), .val (.ref b3)] []))
  refine own_go (fun t k => XS.aloadN X10.here hx rfl (hb hby d2_44) rfl rfl  k) ?_
  show own_Fin p e below _ (T10.setTop (mkF m 45 #[.val (.ref a1), .val (.int (3 : Int32)), .val (.ref b3)] [(.ref b3)]))
  exact own_out X10 (fun h => by rw [Bd.returns] at h; cases h) Bd.notSynchronized (fun fs hr => retOut X10 hx Bd.returns rfl (Or.inr (Or.inr (Or.inr (Or.inr ⟨rfl, rfl, rfl⟩)))) (hb hby d2_45) hr) (by rw [e10]; exact ⟨_, _, rfl, N10, sz_b3, K16, f14⟩) (by decide) (by decide)
theorem d3_0 : decode method_3_code 0 = .ok (.iload_n 2, 1) := by decide +kernel
theorem d3_1 : decode method_3_code 1 = .ok (.iload_n 3, 1) := by decide +kernel
theorem d3_2 : decode method_3_code 2 = .ok (.if_icmp .ge 12, 3) := by decide +kernel
theorem d3_14 : decode method_3_code 14 = .ok (.iconst 1, 1) := by decide +kernel
theorem d3_15 : decode method_3_code 15 = .ok (.goto 4, 3) := by decide +kernel
theorem d3_19 : decode method_3_code 19 = .ok (.ireturn, 1) := by decide +kernel
theorem ef_3h00 (m : MethodId) (x0 : Addr) (x1 : Addr) (x2 : Int32) (x3 : Int32)  : entryFrame m #[(.ref x0), (.ref x1), (.int x2), (.int x3)] 4 = mkF m 0 #[.val (.ref x0), .val (.ref x1), .val (.int x2), .val (.int x3)] [] := by first | (simp [entryFrame, mkF, argsToLocals, Value.category]; done) | rfl
set_option maxRecDepth 65536 in
set_option maxHeartbeats 40000000 in
theorem rm3h00 (l : Launch) (Z : State) (a0 : Array Value) (hw : ∀ d ∈ tables_1, d.before a0 Z = true) (ws : List Jvm.Cond) (a1 : Addr) (a2 : Addr) (k1 k2 : ClassId) (d0 d1 d2 d3 : Int32) (h0 : Heap) (n0 : Nat) (Z0 : n0 ≤ h0.size) (V_1 : Arv Z h0 a1 k1 .byte (0 : Int32) [] (.int (0 : Int32))) (V_2 : Arv Z h0 a2 k2 .byte (4 : Int32) [(.int d0), (.int d1), (.int d2), (.int d3)] (.int (0 : Int32))) :
    MetFree l (⟨"com/example/keyslice/keyslice/storage/KeyRangeAfterPinLaw", "held", "([B[BII)Z"⟩ : MethodName) (head1 (Jvm.Cond.code (⟨"com/example/keyslice/keyslice/storage/KeyRangeAfterPinLaw", "held", "([B[BII)Z"⟩ : MethodName) method_3_code 4 (some .boolean) :: ws) ({ frames := 0, cells := 0, slots := 0, locals := 0 } : Room)) (fun a U => a = #[(.ref a1), (.ref a2), (.int (0 : Int32)), (.int (0 : Int32))] ∧ Z.Warmed39 U.vm ∧ U.heap = h0) (fun _ _ _ _ _ => True) (fun _ U o U' => ∃ v L, o = .returned v ∧ (own_P h0 n0 (.int (1 : Int32))) v U'.heap L ∧ FrameEnd U o U' L ({ frames := 0, cells := 0, slots := 0, locals := 0 } : Room).cells ({ frames := 0, cells := 0, slots := 0, locals := 0 } : Room).slots) := by
  refine MetFree.of_bodySF (plainFor_of_name pn_0) hisR ?_
  intro p e s m args below meth c s₁ Bd hml0 hP hK
  obtain ⟨rfl, hZ, hh⟩ := hP
  have hx := Bd.exec
  have hby := Bd.bytes
  have hml : c.maxLocals = 4 := hml0
  have hown : s.vm.findClass "com/example/keyslice/keyslice/storage/KeyRangeAfterPinLaw" = some m.cls := findClass_of_methodNamed Bd.named
  have hnm := (name_of_methodNamed Bd.named Bd.method).1
  have X0 : Stand p l e ({ frames := 0, cells := 0, slots := 0, locals := 0 } : Room) s m #[(.ref a1), (.ref a2), (.int (0 : Int32)), (.int (0 : Int32))] below meth c s₁ [] 0 0 := Stand.of_body Bd
  have e0 : s₁.heap = h0 := by rw [← hh, Bd.state]; rfl
  have N0 := Fr.nil n0
  show own_Fin p e below (own_A s ({ frames := 0, cells := 0, slots := 0, locals := 0 } : Room).cells ({ frames := 0, cells := 0, slots := 0, locals := 0 } : Room).slots (own_P h0 n0 (.int (1 : Int32)))) _
  refine own_go (fun t k => castTop (ef_3h00 m (a1) (a2) ((0 : Int32)) ((0 : Int32))) k) ?_
  show own_Fin p e below _ (s₁.setTop (mkF m 0 #[.val (.ref a1), .val (.ref a2), .val (.int (0 : Int32)), .val (.int (0 : Int32))] []))
  refine own_go (fun t k => XS.iloadN X0.here hx rfl (hb hby d3_0) rfl  (XS.iloadN X0.here hx rfl (hb hby d3_1) rfl  k)) ?_
  show own_Fin p e below _ (s₁.setTop (mkF m 2 #[.val (.ref a1), .val (.ref a2), .val (.int (0 : Int32)), .val (.int (0 : Int32))] [(.int (0 : Int32)), (.int (0 : Int32))]))
  refine own_go (fun t k => XS.icmpYes X0.here hx rfl (pc0 := 2) (pc' := 14) rfl (hb hby d3_2) rfl (flt (by decide : ¬ ((0 : Int32) < (0 : Int32)))).2.1 (by decide) (by decide) (XS.iconst X0.here hx rfl (hb hby d3_14) (XS.goto X0.here hx rfl (pc0 := 15) (pc' := 19) rfl (hb hby d3_15) (by decide) (by decide) k))) ?_
  show own_Fin p e below _ (s₁.setTop (mkF m 19 #[.val (.ref a1), .val (.ref a2), .val (.int (0 : Int32)), .val (.int (0 : Int32))] [(.int (1 : Int32))]))
  exact own_out X0 (fun h => by rw [Bd.returns] at h; cases h) Bd.notSynchronized (fun fs hr => retN X0 hx (t := .boolean) Bd.returns (by simp) (hb hby d3_19) hr) ⟨rfl, N0, e0⟩ (by decide) (by decide)
theorem ef_3h10 (m : MethodId) (x0 : Addr) (x1 : Addr) (x2 : Int32) (x3 : Int32)  : entryFrame m #[(.ref x0), (.ref x1), (.int x2), (.int x3)] 4 = mkF m 0 #[.val (.ref x0), .val (.ref x1), .val (.int x2), .val (.int x3)] [] := by first | (simp [entryFrame, mkF, argsToLocals, Value.category]; done) | rfl
set_option maxRecDepth 65536 in
set_option maxHeartbeats 40000000 in
theorem rm3h10 (l : Launch) (Z : State) (a0 : Array Value) (hw : ∀ d ∈ tables_1, d.before a0 Z = true) (ws : List Jvm.Cond) (a1 : Addr) (a2 : Addr) (k1 k2 : ClassId) (d0 d1 d2 d3 : Int32) (h0 : Heap) (n0 : Nat) (Z0 : n0 ≤ h0.size) (V_1 : Arv Z h0 a1 k1 .byte (0 : Int32) [] (.int (0 : Int32))) (V_2 : Arv Z h0 a2 k2 .byte (4 : Int32) [(.int d0), (.int d1), (.int d2), (.int d3)] (.int (0 : Int32))) :
    MetFree l (⟨"com/example/keyslice/keyslice/storage/KeyRangeAfterPinLaw", "held", "([B[BII)Z"⟩ : MethodName) (head1 (Jvm.Cond.code (⟨"com/example/keyslice/keyslice/storage/KeyRangeAfterPinLaw", "held", "([B[BII)Z"⟩ : MethodName) method_3_code 4 (some .boolean) :: ws) ({ frames := 0, cells := 0, slots := 0, locals := 0 } : Room)) (fun a U => a = #[(.ref a1), (.ref a2), (.int (1 : Int32)), (.int (0 : Int32))] ∧ Z.Warmed39 U.vm ∧ U.heap = h0) (fun _ _ _ _ _ => True) (fun _ U o U' => ∃ v L, o = .returned v ∧ (own_P h0 n0 (.int (1 : Int32))) v U'.heap L ∧ FrameEnd U o U' L ({ frames := 0, cells := 0, slots := 0, locals := 0 } : Room).cells ({ frames := 0, cells := 0, slots := 0, locals := 0 } : Room).slots) := by
  refine MetFree.of_bodySF (plainFor_of_name pn_0) hisR ?_
  intro p e s m args below meth c s₁ Bd hml0 hP hK
  obtain ⟨rfl, hZ, hh⟩ := hP
  have hx := Bd.exec
  have hby := Bd.bytes
  have hml : c.maxLocals = 4 := hml0
  have hown : s.vm.findClass "com/example/keyslice/keyslice/storage/KeyRangeAfterPinLaw" = some m.cls := findClass_of_methodNamed Bd.named
  have hnm := (name_of_methodNamed Bd.named Bd.method).1
  have X0 : Stand p l e ({ frames := 0, cells := 0, slots := 0, locals := 0 } : Room) s m #[(.ref a1), (.ref a2), (.int (1 : Int32)), (.int (0 : Int32))] below meth c s₁ [] 0 0 := Stand.of_body Bd
  have e0 : s₁.heap = h0 := by rw [← hh, Bd.state]; rfl
  have N0 := Fr.nil n0
  show own_Fin p e below (own_A s ({ frames := 0, cells := 0, slots := 0, locals := 0 } : Room).cells ({ frames := 0, cells := 0, slots := 0, locals := 0 } : Room).slots (own_P h0 n0 (.int (1 : Int32)))) _
  refine own_go (fun t k => castTop (ef_3h10 m (a1) (a2) ((1 : Int32)) ((0 : Int32))) k) ?_
  show own_Fin p e below _ (s₁.setTop (mkF m 0 #[.val (.ref a1), .val (.ref a2), .val (.int (1 : Int32)), .val (.int (0 : Int32))] []))
  refine own_go (fun t k => XS.iloadN X0.here hx rfl (hb hby d3_0) rfl  (XS.iloadN X0.here hx rfl (hb hby d3_1) rfl  k)) ?_
  show own_Fin p e below _ (s₁.setTop (mkF m 2 #[.val (.ref a1), .val (.ref a2), .val (.int (1 : Int32)), .val (.int (0 : Int32))] [(.int (0 : Int32)), (.int (1 : Int32))]))
  refine own_go (fun t k => XS.icmpYes X0.here hx rfl (pc0 := 2) (pc' := 14) rfl (hb hby d3_2) rfl (flt (by decide : ¬ ((1 : Int32) < (0 : Int32)))).2.1 (by decide) (by decide) (XS.iconst X0.here hx rfl (hb hby d3_14) (XS.goto X0.here hx rfl (pc0 := 15) (pc' := 19) rfl (hb hby d3_15) (by decide) (by decide) k))) ?_
  show own_Fin p e below _ (s₁.setTop (mkF m 19 #[.val (.ref a1), .val (.ref a2), .val (.int (1 : Int32)), .val (.int (0 : Int32))] [(.int (1 : Int32))]))
  exact own_out X0 (fun h => by rw [Bd.returns] at h; cases h) Bd.notSynchronized (fun fs hr => retN X0 hx (t := .boolean) Bd.returns (by simp) (hb hby d3_19) hr) ⟨rfl, N0, e0⟩ (by decide) (by decide)
theorem ef_3h20 (m : MethodId) (x0 : Addr) (x1 : Addr) (x2 : Int32) (x3 : Int32)  : entryFrame m #[(.ref x0), (.ref x1), (.int x2), (.int x3)] 4 = mkF m 0 #[.val (.ref x0), .val (.ref x1), .val (.int x2), .val (.int x3)] [] := by first | (simp [entryFrame, mkF, argsToLocals, Value.category]; done) | rfl
set_option maxRecDepth 65536 in
set_option maxHeartbeats 40000000 in
theorem rm3h20 (l : Launch) (Z : State) (a0 : Array Value) (hw : ∀ d ∈ tables_1, d.before a0 Z = true) (ws : List Jvm.Cond) (a1 : Addr) (a2 : Addr) (k1 k2 : ClassId) (d0 d1 d2 d3 : Int32) (h0 : Heap) (n0 : Nat) (Z0 : n0 ≤ h0.size) (V_1 : Arv Z h0 a1 k1 .byte (0 : Int32) [] (.int (0 : Int32))) (V_2 : Arv Z h0 a2 k2 .byte (4 : Int32) [(.int d0), (.int d1), (.int d2), (.int d3)] (.int (0 : Int32))) :
    MetFree l (⟨"com/example/keyslice/keyslice/storage/KeyRangeAfterPinLaw", "held", "([B[BII)Z"⟩ : MethodName) (head1 (Jvm.Cond.code (⟨"com/example/keyslice/keyslice/storage/KeyRangeAfterPinLaw", "held", "([B[BII)Z"⟩ : MethodName) method_3_code 4 (some .boolean) :: ws) ({ frames := 0, cells := 0, slots := 0, locals := 0 } : Room)) (fun a U => a = #[(.ref a1), (.ref a2), (.int (2 : Int32)), (.int (0 : Int32))] ∧ Z.Warmed39 U.vm ∧ U.heap = h0) (fun _ _ _ _ _ => True) (fun _ U o U' => ∃ v L, o = .returned v ∧ (own_P h0 n0 (.int (1 : Int32))) v U'.heap L ∧ FrameEnd U o U' L ({ frames := 0, cells := 0, slots := 0, locals := 0 } : Room).cells ({ frames := 0, cells := 0, slots := 0, locals := 0 } : Room).slots) := by
  refine MetFree.of_bodySF (plainFor_of_name pn_0) hisR ?_
  intro p e s m args below meth c s₁ Bd hml0 hP hK
  obtain ⟨rfl, hZ, hh⟩ := hP
  have hx := Bd.exec
  have hby := Bd.bytes
  have hml : c.maxLocals = 4 := hml0
  have hown : s.vm.findClass "com/example/keyslice/keyslice/storage/KeyRangeAfterPinLaw" = some m.cls := findClass_of_methodNamed Bd.named
  have hnm := (name_of_methodNamed Bd.named Bd.method).1
  have X0 : Stand p l e ({ frames := 0, cells := 0, slots := 0, locals := 0 } : Room) s m #[(.ref a1), (.ref a2), (.int (2 : Int32)), (.int (0 : Int32))] below meth c s₁ [] 0 0 := Stand.of_body Bd
  have e0 : s₁.heap = h0 := by rw [← hh, Bd.state]; rfl
  have N0 := Fr.nil n0
  show own_Fin p e below (own_A s ({ frames := 0, cells := 0, slots := 0, locals := 0 } : Room).cells ({ frames := 0, cells := 0, slots := 0, locals := 0 } : Room).slots (own_P h0 n0 (.int (1 : Int32)))) _
  refine own_go (fun t k => castTop (ef_3h20 m (a1) (a2) ((2 : Int32)) ((0 : Int32))) k) ?_
  show own_Fin p e below _ (s₁.setTop (mkF m 0 #[.val (.ref a1), .val (.ref a2), .val (.int (2 : Int32)), .val (.int (0 : Int32))] []))
  refine own_go (fun t k => XS.iloadN X0.here hx rfl (hb hby d3_0) rfl  (XS.iloadN X0.here hx rfl (hb hby d3_1) rfl  k)) ?_
  show own_Fin p e below _ (s₁.setTop (mkF m 2 #[.val (.ref a1), .val (.ref a2), .val (.int (2 : Int32)), .val (.int (0 : Int32))] [(.int (0 : Int32)), (.int (2 : Int32))]))
  refine own_go (fun t k => XS.icmpYes X0.here hx rfl (pc0 := 2) (pc' := 14) rfl (hb hby d3_2) rfl (flt (by decide : ¬ ((2 : Int32) < (0 : Int32)))).2.1 (by decide) (by decide) (XS.iconst X0.here hx rfl (hb hby d3_14) (XS.goto X0.here hx rfl (pc0 := 15) (pc' := 19) rfl (hb hby d3_15) (by decide) (by decide) k))) ?_
  show own_Fin p e below _ (s₁.setTop (mkF m 19 #[.val (.ref a1), .val (.ref a2), .val (.int (2 : Int32)), .val (.int (0 : Int32))] [(.int (1 : Int32))]))
  exact own_out X0 (fun h => by rw [Bd.returns] at h; cases h) Bd.notSynchronized (fun fs hr => retN X0 hx (t := .boolean) Bd.returns (by simp) (hb hby d3_19) hr) ⟨rfl, N0, e0⟩ (by decide) (by decide)
theorem ef_3h30 (m : MethodId) (x0 : Addr) (x1 : Addr) (x2 : Int32) (x3 : Int32)  : entryFrame m #[(.ref x0), (.ref x1), (.int x2), (.int x3)] 4 = mkF m 0 #[.val (.ref x0), .val (.ref x1), .val (.int x2), .val (.int x3)] [] := by first | (simp [entryFrame, mkF, argsToLocals, Value.category]; done) | rfl
set_option maxRecDepth 65536 in
set_option maxHeartbeats 40000000 in
theorem rm3h30 (l : Launch) (Z : State) (a0 : Array Value) (hw : ∀ d ∈ tables_1, d.before a0 Z = true) (ws : List Jvm.Cond) (a1 : Addr) (a2 : Addr) (k1 k2 : ClassId) (d0 d1 d2 d3 : Int32) (h0 : Heap) (n0 : Nat) (Z0 : n0 ≤ h0.size) (V_1 : Arv Z h0 a1 k1 .byte (0 : Int32) [] (.int (0 : Int32))) (V_2 : Arv Z h0 a2 k2 .byte (4 : Int32) [(.int d0), (.int d1), (.int d2), (.int d3)] (.int (0 : Int32))) :
    MetFree l (⟨"com/example/keyslice/keyslice/storage/KeyRangeAfterPinLaw", "held", "([B[BII)Z"⟩ : MethodName) (head1 (Jvm.Cond.code (⟨"com/example/keyslice/keyslice/storage/KeyRangeAfterPinLaw", "held", "([B[BII)Z"⟩ : MethodName) method_3_code 4 (some .boolean) :: ws) ({ frames := 0, cells := 0, slots := 0, locals := 0 } : Room)) (fun a U => a = #[(.ref a1), (.ref a2), (.int (3 : Int32)), (.int (0 : Int32))] ∧ Z.Warmed39 U.vm ∧ U.heap = h0) (fun _ _ _ _ _ => True) (fun _ U o U' => ∃ v L, o = .returned v ∧ (own_P h0 n0 (.int (1 : Int32))) v U'.heap L ∧ FrameEnd U o U' L ({ frames := 0, cells := 0, slots := 0, locals := 0 } : Room).cells ({ frames := 0, cells := 0, slots := 0, locals := 0 } : Room).slots) := by
  refine MetFree.of_bodySF (plainFor_of_name pn_0) hisR ?_
  intro p e s m args below meth c s₁ Bd hml0 hP hK
  obtain ⟨rfl, hZ, hh⟩ := hP
  have hx := Bd.exec
  have hby := Bd.bytes
  have hml : c.maxLocals = 4 := hml0
  have hown : s.vm.findClass "com/example/keyslice/keyslice/storage/KeyRangeAfterPinLaw" = some m.cls := findClass_of_methodNamed Bd.named
  have hnm := (name_of_methodNamed Bd.named Bd.method).1
  have X0 : Stand p l e ({ frames := 0, cells := 0, slots := 0, locals := 0 } : Room) s m #[(.ref a1), (.ref a2), (.int (3 : Int32)), (.int (0 : Int32))] below meth c s₁ [] 0 0 := Stand.of_body Bd
  have e0 : s₁.heap = h0 := by rw [← hh, Bd.state]; rfl
  have N0 := Fr.nil n0
  show own_Fin p e below (own_A s ({ frames := 0, cells := 0, slots := 0, locals := 0 } : Room).cells ({ frames := 0, cells := 0, slots := 0, locals := 0 } : Room).slots (own_P h0 n0 (.int (1 : Int32)))) _
  refine own_go (fun t k => castTop (ef_3h30 m (a1) (a2) ((3 : Int32)) ((0 : Int32))) k) ?_
  show own_Fin p e below _ (s₁.setTop (mkF m 0 #[.val (.ref a1), .val (.ref a2), .val (.int (3 : Int32)), .val (.int (0 : Int32))] []))
  refine own_go (fun t k => XS.iloadN X0.here hx rfl (hb hby d3_0) rfl  (XS.iloadN X0.here hx rfl (hb hby d3_1) rfl  k)) ?_
  show own_Fin p e below _ (s₁.setTop (mkF m 2 #[.val (.ref a1), .val (.ref a2), .val (.int (3 : Int32)), .val (.int (0 : Int32))] [(.int (0 : Int32)), (.int (3 : Int32))]))
  refine own_go (fun t k => XS.icmpYes X0.here hx rfl (pc0 := 2) (pc' := 14) rfl (hb hby d3_2) rfl (flt (by decide : ¬ ((3 : Int32) < (0 : Int32)))).2.1 (by decide) (by decide) (XS.iconst X0.here hx rfl (hb hby d3_14) (XS.goto X0.here hx rfl (pc0 := 15) (pc' := 19) rfl (hb hby d3_15) (by decide) (by decide) k))) ?_
  show own_Fin p e below _ (s₁.setTop (mkF m 19 #[.val (.ref a1), .val (.ref a2), .val (.int (3 : Int32)), .val (.int (0 : Int32))] [(.int (1 : Int32))]))
  exact own_out X0 (fun h => by rw [Bd.returns] at h; cases h) Bd.notSynchronized (fun fs hr => retN X0 hx (t := .boolean) Bd.returns (by simp) (hb hby d3_19) hr) ⟨rfl, N0, e0⟩ (by decide) (by decide)
theorem d3_5 : decode method_3_code 5 = .ok (.aload_n 0, 1) := by decide +kernel
theorem d3_6 : decode method_3_code 6 = .ok (.iload_n 2, 1) := by decide +kernel
theorem d3_7 : decode method_3_code 7 = .ok (.baload, 1) := by decide +kernel
theorem d3_8 : decode method_3_code 8 = .ok (.aload_n 1, 1) := by decide +kernel
theorem d3_9 : decode method_3_code 9 = .ok (.iload_n 2, 1) := by decide +kernel
theorem d3_10 : decode method_3_code 10 = .ok (.baload, 1) := by decide +kernel
theorem d3_11 : decode method_3_code 11 = .ok (.if_icmp .ne 7, 3) := by decide +kernel
theorem ef_3h01 (m : MethodId) (x0 : Addr) (x1 : Addr) (x2 : Int32) (x3 : Int32)  : entryFrame m #[(.ref x0), (.ref x1), (.int x2), (.int x3)] 4 = mkF m 0 #[.val (.ref x0), .val (.ref x1), .val (.int x2), .val (.int x3)] [] := by first | (simp [entryFrame, mkF, argsToLocals, Value.category]; done) | rfl
set_option maxRecDepth 65536 in
set_option maxHeartbeats 40000000 in
theorem rm3h01 (l : Launch) (Z : State) (a0 : Array Value) (hw : ∀ d ∈ tables_1, d.before a0 Z = true) (ws : List Jvm.Cond) (a1 : Addr) (a2 : Addr) (k1 k2 : ClassId) (d0 d1 d2 d3 : Int32) (h0 : Heap) (n0 : Nat) (Z0 : n0 ≤ h0.size) (V_1 : Arv Z h0 a1 k1 .byte (1 : Int32) [(.int d0)] (.int (0 : Int32))) (V_2 : Arv Z h0 a2 k2 .byte (4 : Int32) [(.int d0), (.int d1), (.int d2), (.int d3)] (.int (0 : Int32))) :
    MetFree l (⟨"com/example/keyslice/keyslice/storage/KeyRangeAfterPinLaw", "held", "([B[BII)Z"⟩ : MethodName) (head1 (Jvm.Cond.code (⟨"com/example/keyslice/keyslice/storage/KeyRangeAfterPinLaw", "held", "([B[BII)Z"⟩ : MethodName) method_3_code 4 (some .boolean) :: ws) ({ frames := 0, cells := 0, slots := 0, locals := 0 } : Room)) (fun a U => a = #[(.ref a1), (.ref a2), (.int (0 : Int32)), (.int (1 : Int32))] ∧ Z.Warmed39 U.vm ∧ U.heap = h0) (fun _ _ _ _ _ => True) (fun _ U o U' => ∃ v L, o = .returned v ∧ (own_P h0 n0 (.int (1 : Int32))) v U'.heap L ∧ FrameEnd U o U' L ({ frames := 0, cells := 0, slots := 0, locals := 0 } : Room).cells ({ frames := 0, cells := 0, slots := 0, locals := 0 } : Room).slots) := by
  refine MetFree.of_bodySF (plainFor_of_name pn_0) hisR ?_
  intro p e s m args below meth c s₁ Bd hml0 hP hK
  obtain ⟨rfl, hZ, hh⟩ := hP
  have hx := Bd.exec
  have hby := Bd.bytes
  have hml : c.maxLocals = 4 := hml0
  have hown : s.vm.findClass "com/example/keyslice/keyslice/storage/KeyRangeAfterPinLaw" = some m.cls := findClass_of_methodNamed Bd.named
  have hnm := (name_of_methodNamed Bd.named Bd.method).1
  have X0 : Stand p l e ({ frames := 0, cells := 0, slots := 0, locals := 0 } : Room) s m #[(.ref a1), (.ref a2), (.int (0 : Int32)), (.int (1 : Int32))] below meth c s₁ [] 0 0 := Stand.of_body Bd
  have e0 : s₁.heap = h0 := by rw [← hh, Bd.state]; rfl
  have N0 := Fr.nil n0
  show own_Fin p e below (own_A s ({ frames := 0, cells := 0, slots := 0, locals := 0 } : Room).cells ({ frames := 0, cells := 0, slots := 0, locals := 0 } : Room).slots (own_P h0 n0 (.int (1 : Int32)))) _
  refine own_go (fun t k => castTop (ef_3h01 m (a1) (a2) ((0 : Int32)) ((1 : Int32))) k) ?_
  show own_Fin p e below _ (s₁.setTop (mkF m 0 #[.val (.ref a1), .val (.ref a2), .val (.int (0 : Int32)), .val (.int (1 : Int32))] []))
  refine own_go (fun t k => XS.iloadN X0.here hx rfl (hb hby d3_0) rfl  (XS.iloadN X0.here hx rfl (hb hby d3_1) rfl  k)) ?_
  show own_Fin p e below _ (s₁.setTop (mkF m 2 #[.val (.ref a1), .val (.ref a2), .val (.int (0 : Int32)), .val (.int (1 : Int32))] [(.int (1 : Int32)), (.int (0 : Int32))]))
  refine own_go (fun t k => XS.icmpNo X0.here hx rfl (hb hby d3_2) rfl (tlt (by decide : (0 : Int32) < (1 : Int32))).2.1 (XS.aloadN X0.here hx rfl (hb hby d3_5) rfl rfl  (XS.iloadN X0.here hx rfl (hb hby d3_6) rfl  k))) ?_
  show own_Fin p e below _ (s₁.setTop (mkF m 7 #[.val (.ref a1), .val (.ref a2), .val (.int (0 : Int32)), .val (.int (1 : Int32))] [(.int (0 : Int32)), (.ref a1)]))
  obtain ⟨cl1, Ar1, q1, S1, M1, H1, G1⟩ := (id V_1)
  have hin1 : ¬ ((0 : Int32) < 0 ∨ cl1.slots.size ≤ ((0 : Int32)).toNatClampNeg) := inb_of S1 ⟨by decide, by decide⟩
  have hat1 : cl1.slots[((0 : Int32)).toNatClampNeg]? = some (.int d0) := H1.at hin1 rfl
  refine own_go (fun t k => X0.baloadBytes hx (j := (0 : Int32)) (v := (.int d0)) (by rw [e0]; exact Ar1.1) (State.isArrayOf_alike hZ.alike Ar1.2.1) Ar1.2.2 hin1 hat1 (g := (mkF m 7 #[.val (.ref a1), .val (.ref a2), .val (.int (0 : Int32)), .val (.int (1 : Int32))] [(.int (0 : Int32)), (.ref a1)])) rfl rfl (hb hby d3_7) _ (XS.aloadN X0.here hx rfl (hb hby d3_8) rfl rfl  (XS.iloadN X0.here hx rfl (hb hby d3_9) rfl  k))) ?_
  show own_Fin p e below _ (s₁.setTop (mkF m 10 #[.val (.ref a1), .val (.ref a2), .val (.int (0 : Int32)), .val (.int (1 : Int32))] [(.int (0 : Int32)), (.ref a2), (.int d0)]))
  obtain ⟨cl2, Ar2, q2, S2, M2, H2, G2⟩ := (id V_2)
  have hin2 : ¬ ((0 : Int32) < 0 ∨ cl2.slots.size ≤ ((0 : Int32)).toNatClampNeg) := inb_of S2 ⟨by decide, by decide⟩
  have hat2 : cl2.slots[((0 : Int32)).toNatClampNeg]? = some (.int d0) := H2.at hin2 rfl
  refine own_go (fun t k => X0.baloadBytes hx (j := (0 : Int32)) (v := (.int d0)) (by rw [e0]; exact Ar2.1) (State.isArrayOf_alike hZ.alike Ar2.2.1) Ar2.2.2 hin2 hat2 (g := (mkF m 10 #[.val (.ref a1), .val (.ref a2), .val (.int (0 : Int32)), .val (.int (1 : Int32))] [(.int (0 : Int32)), (.ref a2), (.int d0)])) rfl rfl (hb hby d3_10) _ k) ?_
  show own_Fin p e below _ (s₁.setTop (mkF m 11 #[.val (.ref a1), .val (.ref a2), .val (.int (0 : Int32)), .val (.int (1 : Int32))] [(.int d0), (.int d0)]))
  refine own_go (fun t k => XS.icmpNo X0.here hx rfl (hb hby d3_11) rfl (teq rfl).2 (XS.iconst X0.here hx rfl (hb hby d3_14) (XS.goto X0.here hx rfl (pc0 := 15) (pc' := 19) rfl (hb hby d3_15) (by decide) (by decide) k))) ?_
  show own_Fin p e below _ (s₁.setTop (mkF m 19 #[.val (.ref a1), .val (.ref a2), .val (.int (0 : Int32)), .val (.int (1 : Int32))] [(.int (1 : Int32))]))
  exact own_out X0 (fun h => by rw [Bd.returns] at h; cases h) Bd.notSynchronized (fun fs hr => retN X0 hx (t := .boolean) Bd.returns (by simp) (hb hby d3_19) hr) ⟨rfl, N0, e0⟩ (by decide) (by decide)
theorem ef_3h11 (m : MethodId) (x0 : Addr) (x1 : Addr) (x2 : Int32) (x3 : Int32)  : entryFrame m #[(.ref x0), (.ref x1), (.int x2), (.int x3)] 4 = mkF m 0 #[.val (.ref x0), .val (.ref x1), .val (.int x2), .val (.int x3)] [] := by first | (simp [entryFrame, mkF, argsToLocals, Value.category]; done) | rfl
set_option maxRecDepth 65536 in
set_option maxHeartbeats 40000000 in
theorem rm3h11 (l : Launch) (Z : State) (a0 : Array Value) (hw : ∀ d ∈ tables_1, d.before a0 Z = true) (ws : List Jvm.Cond) (a1 : Addr) (a2 : Addr) (k1 k2 : ClassId) (d0 d1 d2 d3 : Int32) (h0 : Heap) (n0 : Nat) (Z0 : n0 ≤ h0.size) (V_1 : Arv Z h0 a1 k1 .byte (1 : Int32) [(.int d0)] (.int (0 : Int32))) (V_2 : Arv Z h0 a2 k2 .byte (4 : Int32) [(.int d0), (.int d1), (.int d2), (.int d3)] (.int (0 : Int32))) :
    MetFree l (⟨"com/example/keyslice/keyslice/storage/KeyRangeAfterPinLaw", "held", "([B[BII)Z"⟩ : MethodName) (head1 (Jvm.Cond.code (⟨"com/example/keyslice/keyslice/storage/KeyRangeAfterPinLaw", "held", "([B[BII)Z"⟩ : MethodName) method_3_code 4 (some .boolean) :: ws) ({ frames := 0, cells := 0, slots := 0, locals := 0 } : Room)) (fun a U => a = #[(.ref a1), (.ref a2), (.int (1 : Int32)), (.int (1 : Int32))] ∧ Z.Warmed39 U.vm ∧ U.heap = h0) (fun _ _ _ _ _ => True) (fun _ U o U' => ∃ v L, o = .returned v ∧ (own_P h0 n0 (.int (1 : Int32))) v U'.heap L ∧ FrameEnd U o U' L ({ frames := 0, cells := 0, slots := 0, locals := 0 } : Room).cells ({ frames := 0, cells := 0, slots := 0, locals := 0 } : Room).slots) := by
  refine MetFree.of_bodySF (plainFor_of_name pn_0) hisR ?_
  intro p e s m args below meth c s₁ Bd hml0 hP hK
  obtain ⟨rfl, hZ, hh⟩ := hP
  have hx := Bd.exec
  have hby := Bd.bytes
  have hml : c.maxLocals = 4 := hml0
  have hown : s.vm.findClass "com/example/keyslice/keyslice/storage/KeyRangeAfterPinLaw" = some m.cls := findClass_of_methodNamed Bd.named
  have hnm := (name_of_methodNamed Bd.named Bd.method).1
  have X0 : Stand p l e ({ frames := 0, cells := 0, slots := 0, locals := 0 } : Room) s m #[(.ref a1), (.ref a2), (.int (1 : Int32)), (.int (1 : Int32))] below meth c s₁ [] 0 0 := Stand.of_body Bd
  have e0 : s₁.heap = h0 := by rw [← hh, Bd.state]; rfl
  have N0 := Fr.nil n0
  show own_Fin p e below (own_A s ({ frames := 0, cells := 0, slots := 0, locals := 0 } : Room).cells ({ frames := 0, cells := 0, slots := 0, locals := 0 } : Room).slots (own_P h0 n0 (.int (1 : Int32)))) _
  refine own_go (fun t k => castTop (ef_3h11 m (a1) (a2) ((1 : Int32)) ((1 : Int32))) k) ?_
  show own_Fin p e below _ (s₁.setTop (mkF m 0 #[.val (.ref a1), .val (.ref a2), .val (.int (1 : Int32)), .val (.int (1 : Int32))] []))
  refine own_go (fun t k => XS.iloadN X0.here hx rfl (hb hby d3_0) rfl  (XS.iloadN X0.here hx rfl (hb hby d3_1) rfl  k)) ?_
  show own_Fin p e below _ (s₁.setTop (mkF m 2 #[.val (.ref a1), .val (.ref a2), .val (.int (1 : Int32)), .val (.int (1 : Int32))] [(.int (1 : Int32)), (.int (1 : Int32))]))
  refine own_go (fun t k => XS.icmpYes X0.here hx rfl (pc0 := 2) (pc' := 14) rfl (hb hby d3_2) rfl (flt (by decide : ¬ ((1 : Int32) < (1 : Int32)))).2.1 (by decide) (by decide) (XS.iconst X0.here hx rfl (hb hby d3_14) (XS.goto X0.here hx rfl (pc0 := 15) (pc' := 19) rfl (hb hby d3_15) (by decide) (by decide) k))) ?_
  show own_Fin p e below _ (s₁.setTop (mkF m 19 #[.val (.ref a1), .val (.ref a2), .val (.int (1 : Int32)), .val (.int (1 : Int32))] [(.int (1 : Int32))]))
  exact own_out X0 (fun h => by rw [Bd.returns] at h; cases h) Bd.notSynchronized (fun fs hr => retN X0 hx (t := .boolean) Bd.returns (by simp) (hb hby d3_19) hr) ⟨rfl, N0, e0⟩ (by decide) (by decide)
theorem ef_3h21 (m : MethodId) (x0 : Addr) (x1 : Addr) (x2 : Int32) (x3 : Int32)  : entryFrame m #[(.ref x0), (.ref x1), (.int x2), (.int x3)] 4 = mkF m 0 #[.val (.ref x0), .val (.ref x1), .val (.int x2), .val (.int x3)] [] := by first | (simp [entryFrame, mkF, argsToLocals, Value.category]; done) | rfl
set_option maxRecDepth 65536 in
set_option maxHeartbeats 40000000 in
theorem rm3h21 (l : Launch) (Z : State) (a0 : Array Value) (hw : ∀ d ∈ tables_1, d.before a0 Z = true) (ws : List Jvm.Cond) (a1 : Addr) (a2 : Addr) (k1 k2 : ClassId) (d0 d1 d2 d3 : Int32) (h0 : Heap) (n0 : Nat) (Z0 : n0 ≤ h0.size) (V_1 : Arv Z h0 a1 k1 .byte (1 : Int32) [(.int d0)] (.int (0 : Int32))) (V_2 : Arv Z h0 a2 k2 .byte (4 : Int32) [(.int d0), (.int d1), (.int d2), (.int d3)] (.int (0 : Int32))) :
    MetFree l (⟨"com/example/keyslice/keyslice/storage/KeyRangeAfterPinLaw", "held", "([B[BII)Z"⟩ : MethodName) (head1 (Jvm.Cond.code (⟨"com/example/keyslice/keyslice/storage/KeyRangeAfterPinLaw", "held", "([B[BII)Z"⟩ : MethodName) method_3_code 4 (some .boolean) :: ws) ({ frames := 0, cells := 0, slots := 0, locals := 0 } : Room)) (fun a U => a = #[(.ref a1), (.ref a2), (.int (2 : Int32)), (.int (1 : Int32))] ∧ Z.Warmed39 U.vm ∧ U.heap = h0) (fun _ _ _ _ _ => True) (fun _ U o U' => ∃ v L, o = .returned v ∧ (own_P h0 n0 (.int (1 : Int32))) v U'.heap L ∧ FrameEnd U o U' L ({ frames := 0, cells := 0, slots := 0, locals := 0 } : Room).cells ({ frames := 0, cells := 0, slots := 0, locals := 0 } : Room).slots) := by
  refine MetFree.of_bodySF (plainFor_of_name pn_0) hisR ?_
  intro p e s m args below meth c s₁ Bd hml0 hP hK
  obtain ⟨rfl, hZ, hh⟩ := hP
  have hx := Bd.exec
  have hby := Bd.bytes
  have hml : c.maxLocals = 4 := hml0
  have hown : s.vm.findClass "com/example/keyslice/keyslice/storage/KeyRangeAfterPinLaw" = some m.cls := findClass_of_methodNamed Bd.named
  have hnm := (name_of_methodNamed Bd.named Bd.method).1
  have X0 : Stand p l e ({ frames := 0, cells := 0, slots := 0, locals := 0 } : Room) s m #[(.ref a1), (.ref a2), (.int (2 : Int32)), (.int (1 : Int32))] below meth c s₁ [] 0 0 := Stand.of_body Bd
  have e0 : s₁.heap = h0 := by rw [← hh, Bd.state]; rfl
  have N0 := Fr.nil n0
  show own_Fin p e below (own_A s ({ frames := 0, cells := 0, slots := 0, locals := 0 } : Room).cells ({ frames := 0, cells := 0, slots := 0, locals := 0 } : Room).slots (own_P h0 n0 (.int (1 : Int32)))) _
  refine own_go (fun t k => castTop (ef_3h21 m (a1) (a2) ((2 : Int32)) ((1 : Int32))) k) ?_
  show own_Fin p e below _ (s₁.setTop (mkF m 0 #[.val (.ref a1), .val (.ref a2), .val (.int (2 : Int32)), .val (.int (1 : Int32))] []))
  refine own_go (fun t k => XS.iloadN X0.here hx rfl (hb hby d3_0) rfl  (XS.iloadN X0.here hx rfl (hb hby d3_1) rfl  k)) ?_
  show own_Fin p e below _ (s₁.setTop (mkF m 2 #[.val (.ref a1), .val (.ref a2), .val (.int (2 : Int32)), .val (.int (1 : Int32))] [(.int (1 : Int32)), (.int (2 : Int32))]))
  refine own_go (fun t k => XS.icmpYes X0.here hx rfl (pc0 := 2) (pc' := 14) rfl (hb hby d3_2) rfl (flt (by decide : ¬ ((2 : Int32) < (1 : Int32)))).2.1 (by decide) (by decide) (XS.iconst X0.here hx rfl (hb hby d3_14) (XS.goto X0.here hx rfl (pc0 := 15) (pc' := 19) rfl (hb hby d3_15) (by decide) (by decide) k))) ?_
  show own_Fin p e below _ (s₁.setTop (mkF m 19 #[.val (.ref a1), .val (.ref a2), .val (.int (2 : Int32)), .val (.int (1 : Int32))] [(.int (1 : Int32))]))
  exact own_out X0 (fun h => by rw [Bd.returns] at h; cases h) Bd.notSynchronized (fun fs hr => retN X0 hx (t := .boolean) Bd.returns (by simp) (hb hby d3_19) hr) ⟨rfl, N0, e0⟩ (by decide) (by decide)
theorem ef_3h31 (m : MethodId) (x0 : Addr) (x1 : Addr) (x2 : Int32) (x3 : Int32)  : entryFrame m #[(.ref x0), (.ref x1), (.int x2), (.int x3)] 4 = mkF m 0 #[.val (.ref x0), .val (.ref x1), .val (.int x2), .val (.int x3)] [] := by first | (simp [entryFrame, mkF, argsToLocals, Value.category]; done) | rfl
set_option maxRecDepth 65536 in
set_option maxHeartbeats 40000000 in
theorem rm3h31 (l : Launch) (Z : State) (a0 : Array Value) (hw : ∀ d ∈ tables_1, d.before a0 Z = true) (ws : List Jvm.Cond) (a1 : Addr) (a2 : Addr) (k1 k2 : ClassId) (d0 d1 d2 d3 : Int32) (h0 : Heap) (n0 : Nat) (Z0 : n0 ≤ h0.size) (V_1 : Arv Z h0 a1 k1 .byte (1 : Int32) [(.int d0)] (.int (0 : Int32))) (V_2 : Arv Z h0 a2 k2 .byte (4 : Int32) [(.int d0), (.int d1), (.int d2), (.int d3)] (.int (0 : Int32))) :
    MetFree l (⟨"com/example/keyslice/keyslice/storage/KeyRangeAfterPinLaw", "held", "([B[BII)Z"⟩ : MethodName) (head1 (Jvm.Cond.code (⟨"com/example/keyslice/keyslice/storage/KeyRangeAfterPinLaw", "held", "([B[BII)Z"⟩ : MethodName) method_3_code 4 (some .boolean) :: ws) ({ frames := 0, cells := 0, slots := 0, locals := 0 } : Room)) (fun a U => a = #[(.ref a1), (.ref a2), (.int (3 : Int32)), (.int (1 : Int32))] ∧ Z.Warmed39 U.vm ∧ U.heap = h0) (fun _ _ _ _ _ => True) (fun _ U o U' => ∃ v L, o = .returned v ∧ (own_P h0 n0 (.int (1 : Int32))) v U'.heap L ∧ FrameEnd U o U' L ({ frames := 0, cells := 0, slots := 0, locals := 0 } : Room).cells ({ frames := 0, cells := 0, slots := 0, locals := 0 } : Room).slots) := by
  refine MetFree.of_bodySF (plainFor_of_name pn_0) hisR ?_
  intro p e s m args below meth c s₁ Bd hml0 hP hK
  obtain ⟨rfl, hZ, hh⟩ := hP
  have hx := Bd.exec
  have hby := Bd.bytes
  have hml : c.maxLocals = 4 := hml0
  have hown : s.vm.findClass "com/example/keyslice/keyslice/storage/KeyRangeAfterPinLaw" = some m.cls := findClass_of_methodNamed Bd.named
  have hnm := (name_of_methodNamed Bd.named Bd.method).1
  have X0 : Stand p l e ({ frames := 0, cells := 0, slots := 0, locals := 0 } : Room) s m #[(.ref a1), (.ref a2), (.int (3 : Int32)), (.int (1 : Int32))] below meth c s₁ [] 0 0 := Stand.of_body Bd
  have e0 : s₁.heap = h0 := by rw [← hh, Bd.state]; rfl
  have N0 := Fr.nil n0
  show own_Fin p e below (own_A s ({ frames := 0, cells := 0, slots := 0, locals := 0 } : Room).cells ({ frames := 0, cells := 0, slots := 0, locals := 0 } : Room).slots (own_P h0 n0 (.int (1 : Int32)))) _
  refine own_go (fun t k => castTop (ef_3h31 m (a1) (a2) ((3 : Int32)) ((1 : Int32))) k) ?_
  show own_Fin p e below _ (s₁.setTop (mkF m 0 #[.val (.ref a1), .val (.ref a2), .val (.int (3 : Int32)), .val (.int (1 : Int32))] []))
  refine own_go (fun t k => XS.iloadN X0.here hx rfl (hb hby d3_0) rfl  (XS.iloadN X0.here hx rfl (hb hby d3_1) rfl  k)) ?_
  show own_Fin p e below _ (s₁.setTop (mkF m 2 #[.val (.ref a1), .val (.ref a2), .val (.int (3 : Int32)), .val (.int (1 : Int32))] [(.int (1 : Int32)), (.int (3 : Int32))]))
  refine own_go (fun t k => XS.icmpYes X0.here hx rfl (pc0 := 2) (pc' := 14) rfl (hb hby d3_2) rfl (flt (by decide : ¬ ((3 : Int32) < (1 : Int32)))).2.1 (by decide) (by decide) (XS.iconst X0.here hx rfl (hb hby d3_14) (XS.goto X0.here hx rfl (pc0 := 15) (pc' := 19) rfl (hb hby d3_15) (by decide) (by decide) k))) ?_
  show own_Fin p e below _ (s₁.setTop (mkF m 19 #[.val (.ref a1), .val (.ref a2), .val (.int (3 : Int32)), .val (.int (1 : Int32))] [(.int (1 : Int32))]))
  exact own_out X0 (fun h => by rw [Bd.returns] at h; cases h) Bd.notSynchronized (fun fs hr => retN X0 hx (t := .boolean) Bd.returns (by simp) (hb hby d3_19) hr) ⟨rfl, N0, e0⟩ (by decide) (by decide)
theorem ef_3h02 (m : MethodId) (x0 : Addr) (x1 : Addr) (x2 : Int32) (x3 : Int32)  : entryFrame m #[(.ref x0), (.ref x1), (.int x2), (.int x3)] 4 = mkF m 0 #[.val (.ref x0), .val (.ref x1), .val (.int x2), .val (.int x3)] [] := by first | (simp [entryFrame, mkF, argsToLocals, Value.category]; done) | rfl
set_option maxRecDepth 65536 in
set_option maxHeartbeats 40000000 in
theorem rm3h02 (l : Launch) (Z : State) (a0 : Array Value) (hw : ∀ d ∈ tables_1, d.before a0 Z = true) (ws : List Jvm.Cond) (a1 : Addr) (a2 : Addr) (k1 k2 : ClassId) (d0 d1 d2 d3 : Int32) (h0 : Heap) (n0 : Nat) (Z0 : n0 ≤ h0.size) (V_1 : Arv Z h0 a1 k1 .byte (2 : Int32) [(.int d0), (.int d1)] (.int (0 : Int32))) (V_2 : Arv Z h0 a2 k2 .byte (4 : Int32) [(.int d0), (.int d1), (.int d2), (.int d3)] (.int (0 : Int32))) :
    MetFree l (⟨"com/example/keyslice/keyslice/storage/KeyRangeAfterPinLaw", "held", "([B[BII)Z"⟩ : MethodName) (head1 (Jvm.Cond.code (⟨"com/example/keyslice/keyslice/storage/KeyRangeAfterPinLaw", "held", "([B[BII)Z"⟩ : MethodName) method_3_code 4 (some .boolean) :: ws) ({ frames := 0, cells := 0, slots := 0, locals := 0 } : Room)) (fun a U => a = #[(.ref a1), (.ref a2), (.int (0 : Int32)), (.int (2 : Int32))] ∧ Z.Warmed39 U.vm ∧ U.heap = h0) (fun _ _ _ _ _ => True) (fun _ U o U' => ∃ v L, o = .returned v ∧ (own_P h0 n0 (.int (1 : Int32))) v U'.heap L ∧ FrameEnd U o U' L ({ frames := 0, cells := 0, slots := 0, locals := 0 } : Room).cells ({ frames := 0, cells := 0, slots := 0, locals := 0 } : Room).slots) := by
  refine MetFree.of_bodySF (plainFor_of_name pn_0) hisR ?_
  intro p e s m args below meth c s₁ Bd hml0 hP hK
  obtain ⟨rfl, hZ, hh⟩ := hP
  have hx := Bd.exec
  have hby := Bd.bytes
  have hml : c.maxLocals = 4 := hml0
  have hown : s.vm.findClass "com/example/keyslice/keyslice/storage/KeyRangeAfterPinLaw" = some m.cls := findClass_of_methodNamed Bd.named
  have hnm := (name_of_methodNamed Bd.named Bd.method).1
  have X0 : Stand p l e ({ frames := 0, cells := 0, slots := 0, locals := 0 } : Room) s m #[(.ref a1), (.ref a2), (.int (0 : Int32)), (.int (2 : Int32))] below meth c s₁ [] 0 0 := Stand.of_body Bd
  have e0 : s₁.heap = h0 := by rw [← hh, Bd.state]; rfl
  have N0 := Fr.nil n0
  show own_Fin p e below (own_A s ({ frames := 0, cells := 0, slots := 0, locals := 0 } : Room).cells ({ frames := 0, cells := 0, slots := 0, locals := 0 } : Room).slots (own_P h0 n0 (.int (1 : Int32)))) _
  refine own_go (fun t k => castTop (ef_3h02 m (a1) (a2) ((0 : Int32)) ((2 : Int32))) k) ?_
  show own_Fin p e below _ (s₁.setTop (mkF m 0 #[.val (.ref a1), .val (.ref a2), .val (.int (0 : Int32)), .val (.int (2 : Int32))] []))
  refine own_go (fun t k => XS.iloadN X0.here hx rfl (hb hby d3_0) rfl  (XS.iloadN X0.here hx rfl (hb hby d3_1) rfl  k)) ?_
  show own_Fin p e below _ (s₁.setTop (mkF m 2 #[.val (.ref a1), .val (.ref a2), .val (.int (0 : Int32)), .val (.int (2 : Int32))] [(.int (2 : Int32)), (.int (0 : Int32))]))
  refine own_go (fun t k => XS.icmpNo X0.here hx rfl (hb hby d3_2) rfl (tlt (by decide : (0 : Int32) < (2 : Int32))).2.1 (XS.aloadN X0.here hx rfl (hb hby d3_5) rfl rfl  (XS.iloadN X0.here hx rfl (hb hby d3_6) rfl  k))) ?_
  show own_Fin p e below _ (s₁.setTop (mkF m 7 #[.val (.ref a1), .val (.ref a2), .val (.int (0 : Int32)), .val (.int (2 : Int32))] [(.int (0 : Int32)), (.ref a1)]))
  obtain ⟨cl1, Ar1, q1, S1, M1, H1, G1⟩ := (id V_1)
  have hin1 : ¬ ((0 : Int32) < 0 ∨ cl1.slots.size ≤ ((0 : Int32)).toNatClampNeg) := inb_of S1 ⟨by decide, by decide⟩
  have hat1 : cl1.slots[((0 : Int32)).toNatClampNeg]? = some (.int d0) := H1.at hin1 rfl
  refine own_go (fun t k => X0.baloadBytes hx (j := (0 : Int32)) (v := (.int d0)) (by rw [e0]; exact Ar1.1) (State.isArrayOf_alike hZ.alike Ar1.2.1) Ar1.2.2 hin1 hat1 (g := (mkF m 7 #[.val (.ref a1), .val (.ref a2), .val (.int (0 : Int32)), .val (.int (2 : Int32))] [(.int (0 : Int32)), (.ref a1)])) rfl rfl (hb hby d3_7) _ (XS.aloadN X0.here hx rfl (hb hby d3_8) rfl rfl  (XS.iloadN X0.here hx rfl (hb hby d3_9) rfl  k))) ?_
  show own_Fin p e below _ (s₁.setTop (mkF m 10 #[.val (.ref a1), .val (.ref a2), .val (.int (0 : Int32)), .val (.int (2 : Int32))] [(.int (0 : Int32)), (.ref a2), (.int d0)]))
  obtain ⟨cl2, Ar2, q2, S2, M2, H2, G2⟩ := (id V_2)
  have hin2 : ¬ ((0 : Int32) < 0 ∨ cl2.slots.size ≤ ((0 : Int32)).toNatClampNeg) := inb_of S2 ⟨by decide, by decide⟩
  have hat2 : cl2.slots[((0 : Int32)).toNatClampNeg]? = some (.int d0) := H2.at hin2 rfl
  refine own_go (fun t k => X0.baloadBytes hx (j := (0 : Int32)) (v := (.int d0)) (by rw [e0]; exact Ar2.1) (State.isArrayOf_alike hZ.alike Ar2.2.1) Ar2.2.2 hin2 hat2 (g := (mkF m 10 #[.val (.ref a1), .val (.ref a2), .val (.int (0 : Int32)), .val (.int (2 : Int32))] [(.int (0 : Int32)), (.ref a2), (.int d0)])) rfl rfl (hb hby d3_10) _ k) ?_
  show own_Fin p e below _ (s₁.setTop (mkF m 11 #[.val (.ref a1), .val (.ref a2), .val (.int (0 : Int32)), .val (.int (2 : Int32))] [(.int d0), (.int d0)]))
  refine own_go (fun t k => XS.icmpNo X0.here hx rfl (hb hby d3_11) rfl (teq rfl).2 (XS.iconst X0.here hx rfl (hb hby d3_14) (XS.goto X0.here hx rfl (pc0 := 15) (pc' := 19) rfl (hb hby d3_15) (by decide) (by decide) k))) ?_
  show own_Fin p e below _ (s₁.setTop (mkF m 19 #[.val (.ref a1), .val (.ref a2), .val (.int (0 : Int32)), .val (.int (2 : Int32))] [(.int (1 : Int32))]))
  exact own_out X0 (fun h => by rw [Bd.returns] at h; cases h) Bd.notSynchronized (fun fs hr => retN X0 hx (t := .boolean) Bd.returns (by simp) (hb hby d3_19) hr) ⟨rfl, N0, e0⟩ (by decide) (by decide)
theorem ef_3h12 (m : MethodId) (x0 : Addr) (x1 : Addr) (x2 : Int32) (x3 : Int32)  : entryFrame m #[(.ref x0), (.ref x1), (.int x2), (.int x3)] 4 = mkF m 0 #[.val (.ref x0), .val (.ref x1), .val (.int x2), .val (.int x3)] [] := by first | (simp [entryFrame, mkF, argsToLocals, Value.category]; done) | rfl
set_option maxRecDepth 65536 in
set_option maxHeartbeats 40000000 in
theorem rm3h12 (l : Launch) (Z : State) (a0 : Array Value) (hw : ∀ d ∈ tables_1, d.before a0 Z = true) (ws : List Jvm.Cond) (a1 : Addr) (a2 : Addr) (k1 k2 : ClassId) (d0 d1 d2 d3 : Int32) (h0 : Heap) (n0 : Nat) (Z0 : n0 ≤ h0.size) (V_1 : Arv Z h0 a1 k1 .byte (2 : Int32) [(.int d0), (.int d1)] (.int (0 : Int32))) (V_2 : Arv Z h0 a2 k2 .byte (4 : Int32) [(.int d0), (.int d1), (.int d2), (.int d3)] (.int (0 : Int32))) :
    MetFree l (⟨"com/example/keyslice/keyslice/storage/KeyRangeAfterPinLaw", "held", "([B[BII)Z"⟩ : MethodName) (head1 (Jvm.Cond.code (⟨"com/example/keyslice/keyslice/storage/KeyRangeAfterPinLaw", "held", "([B[BII)Z"⟩ : MethodName) method_3_code 4 (some .boolean) :: ws) ({ frames := 0, cells := 0, slots := 0, locals := 0 } : Room)) (fun a U => a = #[(.ref a1), (.ref a2), (.int (1 : Int32)), (.int (2 : Int32))] ∧ Z.Warmed39 U.vm ∧ U.heap = h0) (fun _ _ _ _ _ => True) (fun _ U o U' => ∃ v L, o = .returned v ∧ (own_P h0 n0 (.int (1 : Int32))) v U'.heap L ∧ FrameEnd U o U' L ({ frames := 0, cells := 0, slots := 0, locals := 0 } : Room).cells ({ frames := 0, cells := 0, slots := 0, locals := 0 } : Room).slots) := by
  refine MetFree.of_bodySF (plainFor_of_name pn_0) hisR ?_
  intro p e s m args below meth c s₁ Bd hml0 hP hK
  obtain ⟨rfl, hZ, hh⟩ := hP
  have hx := Bd.exec
  have hby := Bd.bytes
  have hml : c.maxLocals = 4 := hml0
  have hown : s.vm.findClass "com/example/keyslice/keyslice/storage/KeyRangeAfterPinLaw" = some m.cls := findClass_of_methodNamed Bd.named
  have hnm := (name_of_methodNamed Bd.named Bd.method).1
  have X0 : Stand p l e ({ frames := 0, cells := 0, slots := 0, locals := 0 } : Room) s m #[(.ref a1), (.ref a2), (.int (1 : Int32)), (.int (2 : Int32))] below meth c s₁ [] 0 0 := Stand.of_body Bd
  have e0 : s₁.heap = h0 := by rw [← hh, Bd.state]; rfl
  have N0 := Fr.nil n0
  show own_Fin p e below (own_A s ({ frames := 0, cells := 0, slots := 0, locals := 0 } : Room).cells ({ frames := 0, cells := 0, slots := 0, locals := 0 } : Room).slots (own_P h0 n0 (.int (1 : Int32)))) _
  refine own_go (fun t k => castTop (ef_3h12 m (a1) (a2) ((1 : Int32)) ((2 : Int32))) k) ?_
  show own_Fin p e below _ (s₁.setTop (mkF m 0 #[.val (.ref a1), .val (.ref a2), .val (.int (1 : Int32)), .val (.int (2 : Int32))] []))
  refine own_go (fun t k => XS.iloadN X0.here hx rfl (hb hby d3_0) rfl  (XS.iloadN X0.here hx rfl (hb hby d3_1) rfl  k)) ?_
  show own_Fin p e below _ (s₁.setTop (mkF m 2 #[.val (.ref a1), .val (.ref a2), .val (.int (1 : Int32)), .val (.int (2 : Int32))] [(.int (2 : Int32)), (.int (1 : Int32))]))
  refine own_go (fun t k => XS.icmpNo X0.here hx rfl (hb hby d3_2) rfl (tlt (by decide : (1 : Int32) < (2 : Int32))).2.1 (XS.aloadN X0.here hx rfl (hb hby d3_5) rfl rfl  (XS.iloadN X0.here hx rfl (hb hby d3_6) rfl  k))) ?_
  show own_Fin p e below _ (s₁.setTop (mkF m 7 #[.val (.ref a1), .val (.ref a2), .val (.int (1 : Int32)), .val (.int (2 : Int32))] [(.int (1 : Int32)), (.ref a1)]))
  obtain ⟨cl1, Ar1, q1, S1, M1, H1, G1⟩ := (id V_1)
  have hin1 : ¬ ((1 : Int32) < 0 ∨ cl1.slots.size ≤ ((1 : Int32)).toNatClampNeg) := inb_of S1 ⟨by decide, by decide⟩
  have hat1 : cl1.slots[((1 : Int32)).toNatClampNeg]? = some (.int d1) := H1.at hin1 rfl
  refine own_go (fun t k => X0.baloadBytes hx (j := (1 : Int32)) (v := (.int d1)) (by rw [e0]; exact Ar1.1) (State.isArrayOf_alike hZ.alike Ar1.2.1) Ar1.2.2 hin1 hat1 (g := (mkF m 7 #[.val (.ref a1), .val (.ref a2), .val (.int (1 : Int32)), .val (.int (2 : Int32))] [(.int (1 : Int32)), (.ref a1)])) rfl rfl (hb hby d3_7) _ (XS.aloadN X0.here hx rfl (hb hby d3_8) rfl rfl  (XS.iloadN X0.here hx rfl (hb hby d3_9) rfl  k))) ?_
  show own_Fin p e below _ (s₁.setTop (mkF m 10 #[.val (.ref a1), .val (.ref a2), .val (.int (1 : Int32)), .val (.int (2 : Int32))] [(.int (1 : Int32)), (.ref a2), (.int d1)]))
  obtain ⟨cl2, Ar2, q2, S2, M2, H2, G2⟩ := (id V_2)
  have hin2 : ¬ ((1 : Int32) < 0 ∨ cl2.slots.size ≤ ((1 : Int32)).toNatClampNeg) := inb_of S2 ⟨by decide, by decide⟩
  have hat2 : cl2.slots[((1 : Int32)).toNatClampNeg]? = some (.int d1) := H2.at hin2 rfl
  refine own_go (fun t k => X0.baloadBytes hx (j := (1 : Int32)) (v := (.int d1)) (by rw [e0]; exact Ar2.1) (State.isArrayOf_alike hZ.alike Ar2.2.1) Ar2.2.2 hin2 hat2 (g := (mkF m 10 #[.val (.ref a1), .val (.ref a2), .val (.int (1 : Int32)), .val (.int (2 : Int32))] [(.int (1 : Int32)), (.ref a2), (.int d1)])) rfl rfl (hb hby d3_10) _ k) ?_
  show own_Fin p e below _ (s₁.setTop (mkF m 11 #[.val (.ref a1), .val (.ref a2), .val (.int (1 : Int32)), .val (.int (2 : Int32))] [(.int d1), (.int d1)]))
  refine own_go (fun t k => XS.icmpNo X0.here hx rfl (hb hby d3_11) rfl (teq rfl).2 (XS.iconst X0.here hx rfl (hb hby d3_14) (XS.goto X0.here hx rfl (pc0 := 15) (pc' := 19) rfl (hb hby d3_15) (by decide) (by decide) k))) ?_
  show own_Fin p e below _ (s₁.setTop (mkF m 19 #[.val (.ref a1), .val (.ref a2), .val (.int (1 : Int32)), .val (.int (2 : Int32))] [(.int (1 : Int32))]))
  exact own_out X0 (fun h => by rw [Bd.returns] at h; cases h) Bd.notSynchronized (fun fs hr => retN X0 hx (t := .boolean) Bd.returns (by simp) (hb hby d3_19) hr) ⟨rfl, N0, e0⟩ (by decide) (by decide)
theorem ef_3h22 (m : MethodId) (x0 : Addr) (x1 : Addr) (x2 : Int32) (x3 : Int32)  : entryFrame m #[(.ref x0), (.ref x1), (.int x2), (.int x3)] 4 = mkF m 0 #[.val (.ref x0), .val (.ref x1), .val (.int x2), .val (.int x3)] [] := by first | (simp [entryFrame, mkF, argsToLocals, Value.category]; done) | rfl
set_option maxRecDepth 65536 in
set_option maxHeartbeats 40000000 in
theorem rm3h22 (l : Launch) (Z : State) (a0 : Array Value) (hw : ∀ d ∈ tables_1, d.before a0 Z = true) (ws : List Jvm.Cond) (a1 : Addr) (a2 : Addr) (k1 k2 : ClassId) (d0 d1 d2 d3 : Int32) (h0 : Heap) (n0 : Nat) (Z0 : n0 ≤ h0.size) (V_1 : Arv Z h0 a1 k1 .byte (2 : Int32) [(.int d0), (.int d1)] (.int (0 : Int32))) (V_2 : Arv Z h0 a2 k2 .byte (4 : Int32) [(.int d0), (.int d1), (.int d2), (.int d3)] (.int (0 : Int32))) :
    MetFree l (⟨"com/example/keyslice/keyslice/storage/KeyRangeAfterPinLaw", "held", "([B[BII)Z"⟩ : MethodName) (head1 (Jvm.Cond.code (⟨"com/example/keyslice/keyslice/storage/KeyRangeAfterPinLaw", "held", "([B[BII)Z"⟩ : MethodName) method_3_code 4 (some .boolean) :: ws) ({ frames := 0, cells := 0, slots := 0, locals := 0 } : Room)) (fun a U => a = #[(.ref a1), (.ref a2), (.int (2 : Int32)), (.int (2 : Int32))] ∧ Z.Warmed39 U.vm ∧ U.heap = h0) (fun _ _ _ _ _ => True) (fun _ U o U' => ∃ v L, o = .returned v ∧ (own_P h0 n0 (.int (1 : Int32))) v U'.heap L ∧ FrameEnd U o U' L ({ frames := 0, cells := 0, slots := 0, locals := 0 } : Room).cells ({ frames := 0, cells := 0, slots := 0, locals := 0 } : Room).slots) := by
  refine MetFree.of_bodySF (plainFor_of_name pn_0) hisR ?_
  intro p e s m args below meth c s₁ Bd hml0 hP hK
  obtain ⟨rfl, hZ, hh⟩ := hP
  have hx := Bd.exec
  have hby := Bd.bytes
  have hml : c.maxLocals = 4 := hml0
  have hown : s.vm.findClass "com/example/keyslice/keyslice/storage/KeyRangeAfterPinLaw" = some m.cls := findClass_of_methodNamed Bd.named
  have hnm := (name_of_methodNamed Bd.named Bd.method).1
  have X0 : Stand p l e ({ frames := 0, cells := 0, slots := 0, locals := 0 } : Room) s m #[(.ref a1), (.ref a2), (.int (2 : Int32)), (.int (2 : Int32))] below meth c s₁ [] 0 0 := Stand.of_body Bd
  have e0 : s₁.heap = h0 := by rw [← hh, Bd.state]; rfl
  have N0 := Fr.nil n0
  show own_Fin p e below (own_A s ({ frames := 0, cells := 0, slots := 0, locals := 0 } : Room).cells ({ frames := 0, cells := 0, slots := 0, locals := 0 } : Room).slots (own_P h0 n0 (.int (1 : Int32)))) _
  refine own_go (fun t k => castTop (ef_3h22 m (a1) (a2) ((2 : Int32)) ((2 : Int32))) k) ?_
  show own_Fin p e below _ (s₁.setTop (mkF m 0 #[.val (.ref a1), .val (.ref a2), .val (.int (2 : Int32)), .val (.int (2 : Int32))] []))
  refine own_go (fun t k => XS.iloadN X0.here hx rfl (hb hby d3_0) rfl  (XS.iloadN X0.here hx rfl (hb hby d3_1) rfl  k)) ?_
  show own_Fin p e below _ (s₁.setTop (mkF m 2 #[.val (.ref a1), .val (.ref a2), .val (.int (2 : Int32)), .val (.int (2 : Int32))] [(.int (2 : Int32)), (.int (2 : Int32))]))
  refine own_go (fun t k => XS.icmpYes X0.here hx rfl (pc0 := 2) (pc' := 14) rfl (hb hby d3_2) rfl (flt (by decide : ¬ ((2 : Int32) < (2 : Int32)))).2.1 (by decide) (by decide) (XS.iconst X0.here hx rfl (hb hby d3_14) (XS.goto X0.here hx rfl (pc0 := 15) (pc' := 19) rfl (hb hby d3_15) (by decide) (by decide) k))) ?_
  show own_Fin p e below _ (s₁.setTop (mkF m 19 #[.val (.ref a1), .val (.ref a2), .val (.int (2 : Int32)), .val (.int (2 : Int32))] [(.int (1 : Int32))]))
  exact own_out X0 (fun h => by rw [Bd.returns] at h; cases h) Bd.notSynchronized (fun fs hr => retN X0 hx (t := .boolean) Bd.returns (by simp) (hb hby d3_19) hr) ⟨rfl, N0, e0⟩ (by decide) (by decide)
theorem ef_3h32 (m : MethodId) (x0 : Addr) (x1 : Addr) (x2 : Int32) (x3 : Int32)  : entryFrame m #[(.ref x0), (.ref x1), (.int x2), (.int x3)] 4 = mkF m 0 #[.val (.ref x0), .val (.ref x1), .val (.int x2), .val (.int x3)] [] := by first | (simp [entryFrame, mkF, argsToLocals, Value.category]; done) | rfl
set_option maxRecDepth 65536 in
set_option maxHeartbeats 40000000 in
theorem rm3h32 (l : Launch) (Z : State) (a0 : Array Value) (hw : ∀ d ∈ tables_1, d.before a0 Z = true) (ws : List Jvm.Cond) (a1 : Addr) (a2 : Addr) (k1 k2 : ClassId) (d0 d1 d2 d3 : Int32) (h0 : Heap) (n0 : Nat) (Z0 : n0 ≤ h0.size) (V_1 : Arv Z h0 a1 k1 .byte (2 : Int32) [(.int d0), (.int d1)] (.int (0 : Int32))) (V_2 : Arv Z h0 a2 k2 .byte (4 : Int32) [(.int d0), (.int d1), (.int d2), (.int d3)] (.int (0 : Int32))) :
    MetFree l (⟨"com/example/keyslice/keyslice/storage/KeyRangeAfterPinLaw", "held", "([B[BII)Z"⟩ : MethodName) (head1 (Jvm.Cond.code (⟨"com/example/keyslice/keyslice/storage/KeyRangeAfterPinLaw", "held", "([B[BII)Z"⟩ : MethodName) method_3_code 4 (some .boolean) :: ws) ({ frames := 0, cells := 0, slots := 0, locals := 0 } : Room)) (fun a U => a = #[(.ref a1), (.ref a2), (.int (3 : Int32)), (.int (2 : Int32))] ∧ Z.Warmed39 U.vm ∧ U.heap = h0) (fun _ _ _ _ _ => True) (fun _ U o U' => ∃ v L, o = .returned v ∧ (own_P h0 n0 (.int (1 : Int32))) v U'.heap L ∧ FrameEnd U o U' L ({ frames := 0, cells := 0, slots := 0, locals := 0 } : Room).cells ({ frames := 0, cells := 0, slots := 0, locals := 0 } : Room).slots) := by
  refine MetFree.of_bodySF (plainFor_of_name pn_0) hisR ?_
  intro p e s m args below meth c s₁ Bd hml0 hP hK
  obtain ⟨rfl, hZ, hh⟩ := hP
  have hx := Bd.exec
  have hby := Bd.bytes
  have hml : c.maxLocals = 4 := hml0
  have hown : s.vm.findClass "com/example/keyslice/keyslice/storage/KeyRangeAfterPinLaw" = some m.cls := findClass_of_methodNamed Bd.named
  have hnm := (name_of_methodNamed Bd.named Bd.method).1
  have X0 : Stand p l e ({ frames := 0, cells := 0, slots := 0, locals := 0 } : Room) s m #[(.ref a1), (.ref a2), (.int (3 : Int32)), (.int (2 : Int32))] below meth c s₁ [] 0 0 := Stand.of_body Bd
  have e0 : s₁.heap = h0 := by rw [← hh, Bd.state]; rfl
  have N0 := Fr.nil n0
  show own_Fin p e below (own_A s ({ frames := 0, cells := 0, slots := 0, locals := 0 } : Room).cells ({ frames := 0, cells := 0, slots := 0, locals := 0 } : Room).slots (own_P h0 n0 (.int (1 : Int32)))) _
  refine own_go (fun t k => castTop (ef_3h32 m (a1) (a2) ((3 : Int32)) ((2 : Int32))) k) ?_
  show own_Fin p e below _ (s₁.setTop (mkF m 0 #[.val (.ref a1), .val (.ref a2), .val (.int (3 : Int32)), .val (.int (2 : Int32))] []))
  refine own_go (fun t k => XS.iloadN X0.here hx rfl (hb hby d3_0) rfl  (XS.iloadN X0.here hx rfl (hb hby d3_1) rfl  k)) ?_
  show own_Fin p e below _ (s₁.setTop (mkF m 2 #[.val (.ref a1), .val (.ref a2), .val (.int (3 : Int32)), .val (.int (2 : Int32))] [(.int (2 : Int32)), (.int (3 : Int32))]))
  refine own_go (fun t k => XS.icmpYes X0.here hx rfl (pc0 := 2) (pc' := 14) rfl (hb hby d3_2) rfl (flt (by decide : ¬ ((3 : Int32) < (2 : Int32)))).2.1 (by decide) (by decide) (XS.iconst X0.here hx rfl (hb hby d3_14) (XS.goto X0.here hx rfl (pc0 := 15) (pc' := 19) rfl (hb hby d3_15) (by decide) (by decide) k))) ?_
  show own_Fin p e below _ (s₁.setTop (mkF m 19 #[.val (.ref a1), .val (.ref a2), .val (.int (3 : Int32)), .val (.int (2 : Int32))] [(.int (1 : Int32))]))
  exact own_out X0 (fun h => by rw [Bd.returns] at h; cases h) Bd.notSynchronized (fun fs hr => retN X0 hx (t := .boolean) Bd.returns (by simp) (hb hby d3_19) hr) ⟨rfl, N0, e0⟩ (by decide) (by decide)
theorem ef_3h03 (m : MethodId) (x0 : Addr) (x1 : Addr) (x2 : Int32) (x3 : Int32)  : entryFrame m #[(.ref x0), (.ref x1), (.int x2), (.int x3)] 4 = mkF m 0 #[.val (.ref x0), .val (.ref x1), .val (.int x2), .val (.int x3)] [] := by first | (simp [entryFrame, mkF, argsToLocals, Value.category]; done) | rfl
set_option maxRecDepth 65536 in
set_option maxHeartbeats 40000000 in
theorem rm3h03 (l : Launch) (Z : State) (a0 : Array Value) (hw : ∀ d ∈ tables_1, d.before a0 Z = true) (ws : List Jvm.Cond) (a1 : Addr) (a2 : Addr) (k1 k2 : ClassId) (d0 d1 d2 d3 : Int32) (h0 : Heap) (n0 : Nat) (Z0 : n0 ≤ h0.size) (V_1 : Arv Z h0 a1 k1 .byte (3 : Int32) [(.int d0), (.int d1), (.int d2)] (.int (0 : Int32))) (V_2 : Arv Z h0 a2 k2 .byte (4 : Int32) [(.int d0), (.int d1), (.int d2), (.int d3)] (.int (0 : Int32))) :
    MetFree l (⟨"com/example/keyslice/keyslice/storage/KeyRangeAfterPinLaw", "held", "([B[BII)Z"⟩ : MethodName) (head1 (Jvm.Cond.code (⟨"com/example/keyslice/keyslice/storage/KeyRangeAfterPinLaw", "held", "([B[BII)Z"⟩ : MethodName) method_3_code 4 (some .boolean) :: ws) ({ frames := 0, cells := 0, slots := 0, locals := 0 } : Room)) (fun a U => a = #[(.ref a1), (.ref a2), (.int (0 : Int32)), (.int (3 : Int32))] ∧ Z.Warmed39 U.vm ∧ U.heap = h0) (fun _ _ _ _ _ => True) (fun _ U o U' => ∃ v L, o = .returned v ∧ (own_P h0 n0 (.int (1 : Int32))) v U'.heap L ∧ FrameEnd U o U' L ({ frames := 0, cells := 0, slots := 0, locals := 0 } : Room).cells ({ frames := 0, cells := 0, slots := 0, locals := 0 } : Room).slots) := by
  refine MetFree.of_bodySF (plainFor_of_name pn_0) hisR ?_
  intro p e s m args below meth c s₁ Bd hml0 hP hK
  obtain ⟨rfl, hZ, hh⟩ := hP
  have hx := Bd.exec
  have hby := Bd.bytes
  have hml : c.maxLocals = 4 := hml0
  have hown : s.vm.findClass "com/example/keyslice/keyslice/storage/KeyRangeAfterPinLaw" = some m.cls := findClass_of_methodNamed Bd.named
  have hnm := (name_of_methodNamed Bd.named Bd.method).1
  have X0 : Stand p l e ({ frames := 0, cells := 0, slots := 0, locals := 0 } : Room) s m #[(.ref a1), (.ref a2), (.int (0 : Int32)), (.int (3 : Int32))] below meth c s₁ [] 0 0 := Stand.of_body Bd
  have e0 : s₁.heap = h0 := by rw [← hh, Bd.state]; rfl
  have N0 := Fr.nil n0
  show own_Fin p e below (own_A s ({ frames := 0, cells := 0, slots := 0, locals := 0 } : Room).cells ({ frames := 0, cells := 0, slots := 0, locals := 0 } : Room).slots (own_P h0 n0 (.int (1 : Int32)))) _
  refine own_go (fun t k => castTop (ef_3h03 m (a1) (a2) ((0 : Int32)) ((3 : Int32))) k) ?_
  show own_Fin p e below _ (s₁.setTop (mkF m 0 #[.val (.ref a1), .val (.ref a2), .val (.int (0 : Int32)), .val (.int (3 : Int32))] []))
  refine own_go (fun t k => XS.iloadN X0.here hx rfl (hb hby d3_0) rfl  (XS.iloadN X0.here hx rfl (hb hby d3_1) rfl  k)) ?_
  show own_Fin p e below _ (s₁.setTop (mkF m 2 #[.val (.ref a1), .val (.ref a2), .val (.int (0 : Int32)), .val (.int (3 : Int32))] [(.int (3 : Int32)), (.int (0 : Int32))]))
  refine own_go (fun t k => XS.icmpNo X0.here hx rfl (hb hby d3_2) rfl (tlt (by decide : (0 : Int32) < (3 : Int32))).2.1 (XS.aloadN X0.here hx rfl (hb hby d3_5) rfl rfl  (XS.iloadN X0.here hx rfl (hb hby d3_6) rfl  k))) ?_
  show own_Fin p e below _ (s₁.setTop (mkF m 7 #[.val (.ref a1), .val (.ref a2), .val (.int (0 : Int32)), .val (.int (3 : Int32))] [(.int (0 : Int32)), (.ref a1)]))
  obtain ⟨cl1, Ar1, q1, S1, M1, H1, G1⟩ := (id V_1)
  have hin1 : ¬ ((0 : Int32) < 0 ∨ cl1.slots.size ≤ ((0 : Int32)).toNatClampNeg) := inb_of S1 ⟨by decide, by decide⟩
  have hat1 : cl1.slots[((0 : Int32)).toNatClampNeg]? = some (.int d0) := H1.at hin1 rfl
  refine own_go (fun t k => X0.baloadBytes hx (j := (0 : Int32)) (v := (.int d0)) (by rw [e0]; exact Ar1.1) (State.isArrayOf_alike hZ.alike Ar1.2.1) Ar1.2.2 hin1 hat1 (g := (mkF m 7 #[.val (.ref a1), .val (.ref a2), .val (.int (0 : Int32)), .val (.int (3 : Int32))] [(.int (0 : Int32)), (.ref a1)])) rfl rfl (hb hby d3_7) _ (XS.aloadN X0.here hx rfl (hb hby d3_8) rfl rfl  (XS.iloadN X0.here hx rfl (hb hby d3_9) rfl  k))) ?_
  show own_Fin p e below _ (s₁.setTop (mkF m 10 #[.val (.ref a1), .val (.ref a2), .val (.int (0 : Int32)), .val (.int (3 : Int32))] [(.int (0 : Int32)), (.ref a2), (.int d0)]))
  obtain ⟨cl2, Ar2, q2, S2, M2, H2, G2⟩ := (id V_2)
  have hin2 : ¬ ((0 : Int32) < 0 ∨ cl2.slots.size ≤ ((0 : Int32)).toNatClampNeg) := inb_of S2 ⟨by decide, by decide⟩
  have hat2 : cl2.slots[((0 : Int32)).toNatClampNeg]? = some (.int d0) := H2.at hin2 rfl
  refine own_go (fun t k => X0.baloadBytes hx (j := (0 : Int32)) (v := (.int d0)) (by rw [e0]; exact Ar2.1) (State.isArrayOf_alike hZ.alike Ar2.2.1) Ar2.2.2 hin2 hat2 (g := (mkF m 10 #[.val (.ref a1), .val (.ref a2), .val (.int (0 : Int32)), .val (.int (3 : Int32))] [(.int (0 : Int32)), (.ref a2), (.int d0)])) rfl rfl (hb hby d3_10) _ k) ?_
  show own_Fin p e below _ (s₁.setTop (mkF m 11 #[.val (.ref a1), .val (.ref a2), .val (.int (0 : Int32)), .val (.int (3 : Int32))] [(.int d0), (.int d0)]))
  refine own_go (fun t k => XS.icmpNo X0.here hx rfl (hb hby d3_11) rfl (teq rfl).2 (XS.iconst X0.here hx rfl (hb hby d3_14) (XS.goto X0.here hx rfl (pc0 := 15) (pc' := 19) rfl (hb hby d3_15) (by decide) (by decide) k))) ?_
  show own_Fin p e below _ (s₁.setTop (mkF m 19 #[.val (.ref a1), .val (.ref a2), .val (.int (0 : Int32)), .val (.int (3 : Int32))] [(.int (1 : Int32))]))
  exact own_out X0 (fun h => by rw [Bd.returns] at h; cases h) Bd.notSynchronized (fun fs hr => retN X0 hx (t := .boolean) Bd.returns (by simp) (hb hby d3_19) hr) ⟨rfl, N0, e0⟩ (by decide) (by decide)
theorem ef_3h13 (m : MethodId) (x0 : Addr) (x1 : Addr) (x2 : Int32) (x3 : Int32)  : entryFrame m #[(.ref x0), (.ref x1), (.int x2), (.int x3)] 4 = mkF m 0 #[.val (.ref x0), .val (.ref x1), .val (.int x2), .val (.int x3)] [] := by first | (simp [entryFrame, mkF, argsToLocals, Value.category]; done) | rfl
set_option maxRecDepth 65536 in
set_option maxHeartbeats 40000000 in
theorem rm3h13 (l : Launch) (Z : State) (a0 : Array Value) (hw : ∀ d ∈ tables_1, d.before a0 Z = true) (ws : List Jvm.Cond) (a1 : Addr) (a2 : Addr) (k1 k2 : ClassId) (d0 d1 d2 d3 : Int32) (h0 : Heap) (n0 : Nat) (Z0 : n0 ≤ h0.size) (V_1 : Arv Z h0 a1 k1 .byte (3 : Int32) [(.int d0), (.int d1), (.int d2)] (.int (0 : Int32))) (V_2 : Arv Z h0 a2 k2 .byte (4 : Int32) [(.int d0), (.int d1), (.int d2), (.int d3)] (.int (0 : Int32))) :
    MetFree l (⟨"com/example/keyslice/keyslice/storage/KeyRangeAfterPinLaw", "held", "([B[BII)Z"⟩ : MethodName) (head1 (Jvm.Cond.code (⟨"com/example/keyslice/keyslice/storage/KeyRangeAfterPinLaw", "held", "([B[BII)Z"⟩ : MethodName) method_3_code 4 (some .boolean) :: ws) ({ frames := 0, cells := 0, slots := 0, locals := 0 } : Room)) (fun a U => a = #[(.ref a1), (.ref a2), (.int (1 : Int32)), (.int (3 : Int32))] ∧ Z.Warmed39 U.vm ∧ U.heap = h0) (fun _ _ _ _ _ => True) (fun _ U o U' => ∃ v L, o = .returned v ∧ (own_P h0 n0 (.int (1 : Int32))) v U'.heap L ∧ FrameEnd U o U' L ({ frames := 0, cells := 0, slots := 0, locals := 0 } : Room).cells ({ frames := 0, cells := 0, slots := 0, locals := 0 } : Room).slots) := by
  refine MetFree.of_bodySF (plainFor_of_name pn_0) hisR ?_
  intro p e s m args below meth c s₁ Bd hml0 hP hK
  obtain ⟨rfl, hZ, hh⟩ := hP
  have hx := Bd.exec
  have hby := Bd.bytes
  have hml : c.maxLocals = 4 := hml0
  have hown : s.vm.findClass "com/example/keyslice/keyslice/storage/KeyRangeAfterPinLaw" = some m.cls := findClass_of_methodNamed Bd.named
  have hnm := (name_of_methodNamed Bd.named Bd.method).1
  have X0 : Stand p l e ({ frames := 0, cells := 0, slots := 0, locals := 0 } : Room) s m #[(.ref a1), (.ref a2), (.int (1 : Int32)), (.int (3 : Int32))] below meth c s₁ [] 0 0 := Stand.of_body Bd
  have e0 : s₁.heap = h0 := by rw [← hh, Bd.state]; rfl
  have N0 := Fr.nil n0
  show own_Fin p e below (own_A s ({ frames := 0, cells := 0, slots := 0, locals := 0 } : Room).cells ({ frames := 0, cells := 0, slots := 0, locals := 0 } : Room).slots (own_P h0 n0 (.int (1 : Int32)))) _
  refine own_go (fun t k => castTop (ef_3h13 m (a1) (a2) ((1 : Int32)) ((3 : Int32))) k) ?_
  show own_Fin p e below _ (s₁.setTop (mkF m 0 #[.val (.ref a1), .val (.ref a2), .val (.int (1 : Int32)), .val (.int (3 : Int32))] []))
  refine own_go (fun t k => XS.iloadN X0.here hx rfl (hb hby d3_0) rfl  (XS.iloadN X0.here hx rfl (hb hby d3_1) rfl  k)) ?_
  show own_Fin p e below _ (s₁.setTop (mkF m 2 #[.val (.ref a1), .val (.ref a2), .val (.int (1 : Int32)), .val (.int (3 : Int32))] [(.int (3 : Int32)), (.int (1 : Int32))]))
  refine own_go (fun t k => XS.icmpNo X0.here hx rfl (hb hby d3_2) rfl (tlt (by decide : (1 : Int32) < (3 : Int32))).2.1 (XS.aloadN X0.here hx rfl (hb hby d3_5) rfl rfl  (XS.iloadN X0.here hx rfl (hb hby d3_6) rfl  k))) ?_
  show own_Fin p e below _ (s₁.setTop (mkF m 7 #[.val (.ref a1), .val (.ref a2), .val (.int (1 : Int32)), .val (.int (3 : Int32))] [(.int (1 : Int32)), (.ref a1)]))
  obtain ⟨cl1, Ar1, q1, S1, M1, H1, G1⟩ := (id V_1)
  have hin1 : ¬ ((1 : Int32) < 0 ∨ cl1.slots.size ≤ ((1 : Int32)).toNatClampNeg) := inb_of S1 ⟨by decide, by decide⟩
  have hat1 : cl1.slots[((1 : Int32)).toNatClampNeg]? = some (.int d1) := H1.at hin1 rfl
  refine own_go (fun t k => X0.baloadBytes hx (j := (1 : Int32)) (v := (.int d1)) (by rw [e0]; exact Ar1.1) (State.isArrayOf_alike hZ.alike Ar1.2.1) Ar1.2.2 hin1 hat1 (g := (mkF m 7 #[.val (.ref a1), .val (.ref a2), .val (.int (1 : Int32)), .val (.int (3 : Int32))] [(.int (1 : Int32)), (.ref a1)])) rfl rfl (hb hby d3_7) _ (XS.aloadN X0.here hx rfl (hb hby d3_8) rfl rfl  (XS.iloadN X0.here hx rfl (hb hby d3_9) rfl  k))) ?_
  show own_Fin p e below _ (s₁.setTop (mkF m 10 #[.val (.ref a1), .val (.ref a2), .val (.int (1 : Int32)), .val (.int (3 : Int32))] [(.int (1 : Int32)), (.ref a2), (.int d1)]))
  obtain ⟨cl2, Ar2, q2, S2, M2, H2, G2⟩ := (id V_2)
  have hin2 : ¬ ((1 : Int32) < 0 ∨ cl2.slots.size ≤ ((1 : Int32)).toNatClampNeg) := inb_of S2 ⟨by decide, by decide⟩
  have hat2 : cl2.slots[((1 : Int32)).toNatClampNeg]? = some (.int d1) := H2.at hin2 rfl
  refine own_go (fun t k => X0.baloadBytes hx (j := (1 : Int32)) (v := (.int d1)) (by rw [e0]; exact Ar2.1) (State.isArrayOf_alike hZ.alike Ar2.2.1) Ar2.2.2 hin2 hat2 (g := (mkF m 10 #[.val (.ref a1), .val (.ref a2), .val (.int (1 : Int32)), .val (.int (3 : Int32))] [(.int (1 : Int32)), (.ref a2), (.int d1)])) rfl rfl (hb hby d3_10) _ k) ?_
  show own_Fin p e below _ (s₁.setTop (mkF m 11 #[.val (.ref a1), .val (.ref a2), .val (.int (1 : Int32)), .val (.int (3 : Int32))] [(.int d1), (.int d1)]))
  refine own_go (fun t k => XS.icmpNo X0.here hx rfl (hb hby d3_11) rfl (teq rfl).2 (XS.iconst X0.here hx rfl (hb hby d3_14) (XS.goto X0.here hx rfl (pc0 := 15) (pc' := 19) rfl (hb hby d3_15) (by decide) (by decide) k))) ?_
  show own_Fin p e below _ (s₁.setTop (mkF m 19 #[.val (.ref a1), .val (.ref a2), .val (.int (1 : Int32)), .val (.int (3 : Int32))] [(.int (1 : Int32))]))
  exact own_out X0 (fun h => by rw [Bd.returns] at h; cases h) Bd.notSynchronized (fun fs hr => retN X0 hx (t := .boolean) Bd.returns (by simp) (hb hby d3_19) hr) ⟨rfl, N0, e0⟩ (by decide) (by decide)
theorem ef_3h23 (m : MethodId) (x0 : Addr) (x1 : Addr) (x2 : Int32) (x3 : Int32)  : entryFrame m #[(.ref x0), (.ref x1), (.int x2), (.int x3)] 4 = mkF m 0 #[.val (.ref x0), .val (.ref x1), .val (.int x2), .val (.int x3)] [] := by first | (simp [entryFrame, mkF, argsToLocals, Value.category]; done) | rfl
set_option maxRecDepth 65536 in
set_option maxHeartbeats 40000000 in
theorem rm3h23 (l : Launch) (Z : State) (a0 : Array Value) (hw : ∀ d ∈ tables_1, d.before a0 Z = true) (ws : List Jvm.Cond) (a1 : Addr) (a2 : Addr) (k1 k2 : ClassId) (d0 d1 d2 d3 : Int32) (h0 : Heap) (n0 : Nat) (Z0 : n0 ≤ h0.size) (V_1 : Arv Z h0 a1 k1 .byte (3 : Int32) [(.int d0), (.int d1), (.int d2)] (.int (0 : Int32))) (V_2 : Arv Z h0 a2 k2 .byte (4 : Int32) [(.int d0), (.int d1), (.int d2), (.int d3)] (.int (0 : Int32))) :
    MetFree l (⟨"com/example/keyslice/keyslice/storage/KeyRangeAfterPinLaw", "held", "([B[BII)Z"⟩ : MethodName) (head1 (Jvm.Cond.code (⟨"com/example/keyslice/keyslice/storage/KeyRangeAfterPinLaw", "held", "([B[BII)Z"⟩ : MethodName) method_3_code 4 (some .boolean) :: ws) ({ frames := 0, cells := 0, slots := 0, locals := 0 } : Room)) (fun a U => a = #[(.ref a1), (.ref a2), (.int (2 : Int32)), (.int (3 : Int32))] ∧ Z.Warmed39 U.vm ∧ U.heap = h0) (fun _ _ _ _ _ => True) (fun _ U o U' => ∃ v L, o = .returned v ∧ (own_P h0 n0 (.int (1 : Int32))) v U'.heap L ∧ FrameEnd U o U' L ({ frames := 0, cells := 0, slots := 0, locals := 0 } : Room).cells ({ frames := 0, cells := 0, slots := 0, locals := 0 } : Room).slots) := by
  refine MetFree.of_bodySF (plainFor_of_name pn_0) hisR ?_
  intro p e s m args below meth c s₁ Bd hml0 hP hK
  obtain ⟨rfl, hZ, hh⟩ := hP
  have hx := Bd.exec
  have hby := Bd.bytes
  have hml : c.maxLocals = 4 := hml0
  have hown : s.vm.findClass "com/example/keyslice/keyslice/storage/KeyRangeAfterPinLaw" = some m.cls := findClass_of_methodNamed Bd.named
  have hnm := (name_of_methodNamed Bd.named Bd.method).1
  have X0 : Stand p l e ({ frames := 0, cells := 0, slots := 0, locals := 0 } : Room) s m #[(.ref a1), (.ref a2), (.int (2 : Int32)), (.int (3 : Int32))] below meth c s₁ [] 0 0 := Stand.of_body Bd
  have e0 : s₁.heap = h0 := by rw [← hh, Bd.state]; rfl
  have N0 := Fr.nil n0
  show own_Fin p e below (own_A s ({ frames := 0, cells := 0, slots := 0, locals := 0 } : Room).cells ({ frames := 0, cells := 0, slots := 0, locals := 0 } : Room).slots (own_P h0 n0 (.int (1 : Int32)))) _
  refine own_go (fun t k => castTop (ef_3h23 m (a1) (a2) ((2 : Int32)) ((3 : Int32))) k) ?_
  show own_Fin p e below _ (s₁.setTop (mkF m 0 #[.val (.ref a1), .val (.ref a2), .val (.int (2 : Int32)), .val (.int (3 : Int32))] []))
  refine own_go (fun t k => XS.iloadN X0.here hx rfl (hb hby d3_0) rfl  (XS.iloadN X0.here hx rfl (hb hby d3_1) rfl  k)) ?_
  show own_Fin p e below _ (s₁.setTop (mkF m 2 #[.val (.ref a1), .val (.ref a2), .val (.int (2 : Int32)), .val (.int (3 : Int32))] [(.int (3 : Int32)), (.int (2 : Int32))]))
  refine own_go (fun t k => XS.icmpNo X0.here hx rfl (hb hby d3_2) rfl (tlt (by decide : (2 : Int32) < (3 : Int32))).2.1 (XS.aloadN X0.here hx rfl (hb hby d3_5) rfl rfl  (XS.iloadN X0.here hx rfl (hb hby d3_6) rfl  k))) ?_
  show own_Fin p e below _ (s₁.setTop (mkF m 7 #[.val (.ref a1), .val (.ref a2), .val (.int (2 : Int32)), .val (.int (3 : Int32))] [(.int (2 : Int32)), (.ref a1)]))
  obtain ⟨cl1, Ar1, q1, S1, M1, H1, G1⟩ := (id V_1)
  have hin1 : ¬ ((2 : Int32) < 0 ∨ cl1.slots.size ≤ ((2 : Int32)).toNatClampNeg) := inb_of S1 ⟨by decide, by decide⟩
  have hat1 : cl1.slots[((2 : Int32)).toNatClampNeg]? = some (.int d2) := H1.at hin1 rfl
  refine own_go (fun t k => X0.baloadBytes hx (j := (2 : Int32)) (v := (.int d2)) (by rw [e0]; exact Ar1.1) (State.isArrayOf_alike hZ.alike Ar1.2.1) Ar1.2.2 hin1 hat1 (g := (mkF m 7 #[.val (.ref a1), .val (.ref a2), .val (.int (2 : Int32)), .val (.int (3 : Int32))] [(.int (2 : Int32)), (.ref a1)])) rfl rfl (hb hby d3_7) _ (XS.aloadN X0.here hx rfl (hb hby d3_8) rfl rfl  (XS.iloadN X0.here hx rfl (hb hby d3_9) rfl  k))) ?_
  show own_Fin p e below _ (s₁.setTop (mkF m 10 #[.val (.ref a1), .val (.ref a2), .val (.int (2 : Int32)), .val (.int (3 : Int32))] [(.int (2 : Int32)), (.ref a2), (.int d2)]))
  obtain ⟨cl2, Ar2, q2, S2, M2, H2, G2⟩ := (id V_2)
  have hin2 : ¬ ((2 : Int32) < 0 ∨ cl2.slots.size ≤ ((2 : Int32)).toNatClampNeg) := inb_of S2 ⟨by decide, by decide⟩
  have hat2 : cl2.slots[((2 : Int32)).toNatClampNeg]? = some (.int d2) := H2.at hin2 rfl
  refine own_go (fun t k => X0.baloadBytes hx (j := (2 : Int32)) (v := (.int d2)) (by rw [e0]; exact Ar2.1) (State.isArrayOf_alike hZ.alike Ar2.2.1) Ar2.2.2 hin2 hat2 (g := (mkF m 10 #[.val (.ref a1), .val (.ref a2), .val (.int (2 : Int32)), .val (.int (3 : Int32))] [(.int (2 : Int32)), (.ref a2), (.int d2)])) rfl rfl (hb hby d3_10) _ k) ?_
  show own_Fin p e below _ (s₁.setTop (mkF m 11 #[.val (.ref a1), .val (.ref a2), .val (.int (2 : Int32)), .val (.int (3 : Int32))] [(.int d2), (.int d2)]))
  refine own_go (fun t k => XS.icmpNo X0.here hx rfl (hb hby d3_11) rfl (teq rfl).2 (XS.iconst X0.here hx rfl (hb hby d3_14) (XS.goto X0.here hx rfl (pc0 := 15) (pc' := 19) rfl (hb hby d3_15) (by decide) (by decide) k))) ?_
  show own_Fin p e below _ (s₁.setTop (mkF m 19 #[.val (.ref a1), .val (.ref a2), .val (.int (2 : Int32)), .val (.int (3 : Int32))] [(.int (1 : Int32))]))
  exact own_out X0 (fun h => by rw [Bd.returns] at h; cases h) Bd.notSynchronized (fun fs hr => retN X0 hx (t := .boolean) Bd.returns (by simp) (hb hby d3_19) hr) ⟨rfl, N0, e0⟩ (by decide) (by decide)
theorem ef_3h33 (m : MethodId) (x0 : Addr) (x1 : Addr) (x2 : Int32) (x3 : Int32)  : entryFrame m #[(.ref x0), (.ref x1), (.int x2), (.int x3)] 4 = mkF m 0 #[.val (.ref x0), .val (.ref x1), .val (.int x2), .val (.int x3)] [] := by first | (simp [entryFrame, mkF, argsToLocals, Value.category]; done) | rfl
set_option maxRecDepth 65536 in
set_option maxHeartbeats 40000000 in
theorem rm3h33 (l : Launch) (Z : State) (a0 : Array Value) (hw : ∀ d ∈ tables_1, d.before a0 Z = true) (ws : List Jvm.Cond) (a1 : Addr) (a2 : Addr) (k1 k2 : ClassId) (d0 d1 d2 d3 : Int32) (h0 : Heap) (n0 : Nat) (Z0 : n0 ≤ h0.size) (V_1 : Arv Z h0 a1 k1 .byte (3 : Int32) [(.int d0), (.int d1), (.int d2)] (.int (0 : Int32))) (V_2 : Arv Z h0 a2 k2 .byte (4 : Int32) [(.int d0), (.int d1), (.int d2), (.int d3)] (.int (0 : Int32))) :
    MetFree l (⟨"com/example/keyslice/keyslice/storage/KeyRangeAfterPinLaw", "held", "([B[BII)Z"⟩ : MethodName) (head1 (Jvm.Cond.code (⟨"com/example/keyslice/keyslice/storage/KeyRangeAfterPinLaw", "held", "([B[BII)Z"⟩ : MethodName) method_3_code 4 (some .boolean) :: ws) ({ frames := 0, cells := 0, slots := 0, locals := 0 } : Room)) (fun a U => a = #[(.ref a1), (.ref a2), (.int (3 : Int32)), (.int (3 : Int32))] ∧ Z.Warmed39 U.vm ∧ U.heap = h0) (fun _ _ _ _ _ => True) (fun _ U o U' => ∃ v L, o = .returned v ∧ (own_P h0 n0 (.int (1 : Int32))) v U'.heap L ∧ FrameEnd U o U' L ({ frames := 0, cells := 0, slots := 0, locals := 0 } : Room).cells ({ frames := 0, cells := 0, slots := 0, locals := 0 } : Room).slots) := by
  refine MetFree.of_bodySF (plainFor_of_name pn_0) hisR ?_
  intro p e s m args below meth c s₁ Bd hml0 hP hK
  obtain ⟨rfl, hZ, hh⟩ := hP
  have hx := Bd.exec
  have hby := Bd.bytes
  have hml : c.maxLocals = 4 := hml0
  have hown : s.vm.findClass "com/example/keyslice/keyslice/storage/KeyRangeAfterPinLaw" = some m.cls := findClass_of_methodNamed Bd.named
  have hnm := (name_of_methodNamed Bd.named Bd.method).1
  have X0 : Stand p l e ({ frames := 0, cells := 0, slots := 0, locals := 0 } : Room) s m #[(.ref a1), (.ref a2), (.int (3 : Int32)), (.int (3 : Int32))] below meth c s₁ [] 0 0 := Stand.of_body Bd
  have e0 : s₁.heap = h0 := by rw [← hh, Bd.state]; rfl
  have N0 := Fr.nil n0
  show own_Fin p e below (own_A s ({ frames := 0, cells := 0, slots := 0, locals := 0 } : Room).cells ({ frames := 0, cells := 0, slots := 0, locals := 0 } : Room).slots (own_P h0 n0 (.int (1 : Int32)))) _
  refine own_go (fun t k => castTop (ef_3h33 m (a1) (a2) ((3 : Int32)) ((3 : Int32))) k) ?_
  show own_Fin p e below _ (s₁.setTop (mkF m 0 #[.val (.ref a1), .val (.ref a2), .val (.int (3 : Int32)), .val (.int (3 : Int32))] []))
  refine own_go (fun t k => XS.iloadN X0.here hx rfl (hb hby d3_0) rfl  (XS.iloadN X0.here hx rfl (hb hby d3_1) rfl  k)) ?_
  show own_Fin p e below _ (s₁.setTop (mkF m 2 #[.val (.ref a1), .val (.ref a2), .val (.int (3 : Int32)), .val (.int (3 : Int32))] [(.int (3 : Int32)), (.int (3 : Int32))]))
  refine own_go (fun t k => XS.icmpYes X0.here hx rfl (pc0 := 2) (pc' := 14) rfl (hb hby d3_2) rfl (flt (by decide : ¬ ((3 : Int32) < (3 : Int32)))).2.1 (by decide) (by decide) (XS.iconst X0.here hx rfl (hb hby d3_14) (XS.goto X0.here hx rfl (pc0 := 15) (pc' := 19) rfl (hb hby d3_15) (by decide) (by decide) k))) ?_
  show own_Fin p e below _ (s₁.setTop (mkF m 19 #[.val (.ref a1), .val (.ref a2), .val (.int (3 : Int32)), .val (.int (3 : Int32))] [(.int (1 : Int32))]))
  exact own_out X0 (fun h => by rw [Bd.returns] at h; cases h) Bd.notSynchronized (fun fs hr => retN X0 hx (t := .boolean) Bd.returns (by simp) (hb hby d3_19) hr) ⟨rfl, N0, e0⟩ (by decide) (by decide)
theorem ef_3h04 (m : MethodId) (x0 : Addr) (x1 : Addr) (x2 : Int32) (x3 : Int32)  : entryFrame m #[(.ref x0), (.ref x1), (.int x2), (.int x3)] 4 = mkF m 0 #[.val (.ref x0), .val (.ref x1), .val (.int x2), .val (.int x3)] [] := by first | (simp [entryFrame, mkF, argsToLocals, Value.category]; done) | rfl
set_option maxRecDepth 65536 in
set_option maxHeartbeats 40000000 in
theorem rm3h04 (l : Launch) (Z : State) (a0 : Array Value) (hw : ∀ d ∈ tables_1, d.before a0 Z = true) (ws : List Jvm.Cond) (a1 : Addr) (a2 : Addr) (k1 k2 : ClassId) (d0 d1 d2 d3 : Int32) (h0 : Heap) (n0 : Nat) (Z0 : n0 ≤ h0.size) (V_1 : Arv Z h0 a1 k1 .byte (4 : Int32) [(.int d0), (.int d1), (.int d2), (.int d3)] (.int (0 : Int32))) (V_2 : Arv Z h0 a2 k2 .byte (4 : Int32) [(.int d0), (.int d1), (.int d2), (.int d3)] (.int (0 : Int32))) :
    MetFree l (⟨"com/example/keyslice/keyslice/storage/KeyRangeAfterPinLaw", "held", "([B[BII)Z"⟩ : MethodName) (head1 (Jvm.Cond.code (⟨"com/example/keyslice/keyslice/storage/KeyRangeAfterPinLaw", "held", "([B[BII)Z"⟩ : MethodName) method_3_code 4 (some .boolean) :: ws) ({ frames := 0, cells := 0, slots := 0, locals := 0 } : Room)) (fun a U => a = #[(.ref a1), (.ref a2), (.int (0 : Int32)), (.int (4 : Int32))] ∧ Z.Warmed39 U.vm ∧ U.heap = h0) (fun _ _ _ _ _ => True) (fun _ U o U' => ∃ v L, o = .returned v ∧ (own_P h0 n0 (.int (1 : Int32))) v U'.heap L ∧ FrameEnd U o U' L ({ frames := 0, cells := 0, slots := 0, locals := 0 } : Room).cells ({ frames := 0, cells := 0, slots := 0, locals := 0 } : Room).slots) := by
  refine MetFree.of_bodySF (plainFor_of_name pn_0) hisR ?_
  intro p e s m args below meth c s₁ Bd hml0 hP hK
  obtain ⟨rfl, hZ, hh⟩ := hP
  have hx := Bd.exec
  have hby := Bd.bytes
  have hml : c.maxLocals = 4 := hml0
  have hown : s.vm.findClass "com/example/keyslice/keyslice/storage/KeyRangeAfterPinLaw" = some m.cls := findClass_of_methodNamed Bd.named
  have hnm := (name_of_methodNamed Bd.named Bd.method).1
  have X0 : Stand p l e ({ frames := 0, cells := 0, slots := 0, locals := 0 } : Room) s m #[(.ref a1), (.ref a2), (.int (0 : Int32)), (.int (4 : Int32))] below meth c s₁ [] 0 0 := Stand.of_body Bd
  have e0 : s₁.heap = h0 := by rw [← hh, Bd.state]; rfl
  have N0 := Fr.nil n0
  show own_Fin p e below (own_A s ({ frames := 0, cells := 0, slots := 0, locals := 0 } : Room).cells ({ frames := 0, cells := 0, slots := 0, locals := 0 } : Room).slots (own_P h0 n0 (.int (1 : Int32)))) _
  refine own_go (fun t k => castTop (ef_3h04 m (a1) (a2) ((0 : Int32)) ((4 : Int32))) k) ?_
  show own_Fin p e below _ (s₁.setTop (mkF m 0 #[.val (.ref a1), .val (.ref a2), .val (.int (0 : Int32)), .val (.int (4 : Int32))] []))
  refine own_go (fun t k => XS.iloadN X0.here hx rfl (hb hby d3_0) rfl  (XS.iloadN X0.here hx rfl (hb hby d3_1) rfl  k)) ?_
  show own_Fin p e below _ (s₁.setTop (mkF m 2 #[.val (.ref a1), .val (.ref a2), .val (.int (0 : Int32)), .val (.int (4 : Int32))] [(.int (4 : Int32)), (.int (0 : Int32))]))
  refine own_go (fun t k => XS.icmpNo X0.here hx rfl (hb hby d3_2) rfl (tlt (by decide : (0 : Int32) < (4 : Int32))).2.1 (XS.aloadN X0.here hx rfl (hb hby d3_5) rfl rfl  (XS.iloadN X0.here hx rfl (hb hby d3_6) rfl  k))) ?_
  show own_Fin p e below _ (s₁.setTop (mkF m 7 #[.val (.ref a1), .val (.ref a2), .val (.int (0 : Int32)), .val (.int (4 : Int32))] [(.int (0 : Int32)), (.ref a1)]))
  obtain ⟨cl1, Ar1, q1, S1, M1, H1, G1⟩ := (id V_1)
  have hin1 : ¬ ((0 : Int32) < 0 ∨ cl1.slots.size ≤ ((0 : Int32)).toNatClampNeg) := inb_of S1 ⟨by decide, by decide⟩
  have hat1 : cl1.slots[((0 : Int32)).toNatClampNeg]? = some (.int d0) := H1.at hin1 rfl
  refine own_go (fun t k => X0.baloadBytes hx (j := (0 : Int32)) (v := (.int d0)) (by rw [e0]; exact Ar1.1) (State.isArrayOf_alike hZ.alike Ar1.2.1) Ar1.2.2 hin1 hat1 (g := (mkF m 7 #[.val (.ref a1), .val (.ref a2), .val (.int (0 : Int32)), .val (.int (4 : Int32))] [(.int (0 : Int32)), (.ref a1)])) rfl rfl (hb hby d3_7) _ (XS.aloadN X0.here hx rfl (hb hby d3_8) rfl rfl  (XS.iloadN X0.here hx rfl (hb hby d3_9) rfl  k))) ?_
  show own_Fin p e below _ (s₁.setTop (mkF m 10 #[.val (.ref a1), .val (.ref a2), .val (.int (0 : Int32)), .val (.int (4 : Int32))] [(.int (0 : Int32)), (.ref a2), (.int d0)]))
  obtain ⟨cl2, Ar2, q2, S2, M2, H2, G2⟩ := (id V_2)
  have hin2 : ¬ ((0 : Int32) < 0 ∨ cl2.slots.size ≤ ((0 : Int32)).toNatClampNeg) := inb_of S2 ⟨by decide, by decide⟩
  have hat2 : cl2.slots[((0 : Int32)).toNatClampNeg]? = some (.int d0) := H2.at hin2 rfl
  refine own_go (fun t k => X0.baloadBytes hx (j := (0 : Int32)) (v := (.int d0)) (by rw [e0]; exact Ar2.1) (State.isArrayOf_alike hZ.alike Ar2.2.1) Ar2.2.2 hin2 hat2 (g := (mkF m 10 #[.val (.ref a1), .val (.ref a2), .val (.int (0 : Int32)), .val (.int (4 : Int32))] [(.int (0 : Int32)), (.ref a2), (.int d0)])) rfl rfl (hb hby d3_10) _ k) ?_
  show own_Fin p e below _ (s₁.setTop (mkF m 11 #[.val (.ref a1), .val (.ref a2), .val (.int (0 : Int32)), .val (.int (4 : Int32))] [(.int d0), (.int d0)]))
  refine own_go (fun t k => XS.icmpNo X0.here hx rfl (hb hby d3_11) rfl (teq rfl).2 (XS.iconst X0.here hx rfl (hb hby d3_14) (XS.goto X0.here hx rfl (pc0 := 15) (pc' := 19) rfl (hb hby d3_15) (by decide) (by decide) k))) ?_
  show own_Fin p e below _ (s₁.setTop (mkF m 19 #[.val (.ref a1), .val (.ref a2), .val (.int (0 : Int32)), .val (.int (4 : Int32))] [(.int (1 : Int32))]))
  exact own_out X0 (fun h => by rw [Bd.returns] at h; cases h) Bd.notSynchronized (fun fs hr => retN X0 hx (t := .boolean) Bd.returns (by simp) (hb hby d3_19) hr) ⟨rfl, N0, e0⟩ (by decide) (by decide)
theorem ef_3h14 (m : MethodId) (x0 : Addr) (x1 : Addr) (x2 : Int32) (x3 : Int32)  : entryFrame m #[(.ref x0), (.ref x1), (.int x2), (.int x3)] 4 = mkF m 0 #[.val (.ref x0), .val (.ref x1), .val (.int x2), .val (.int x3)] [] := by first | (simp [entryFrame, mkF, argsToLocals, Value.category]; done) | rfl
set_option maxRecDepth 65536 in
set_option maxHeartbeats 40000000 in
theorem rm3h14 (l : Launch) (Z : State) (a0 : Array Value) (hw : ∀ d ∈ tables_1, d.before a0 Z = true) (ws : List Jvm.Cond) (a1 : Addr) (a2 : Addr) (k1 k2 : ClassId) (d0 d1 d2 d3 : Int32) (h0 : Heap) (n0 : Nat) (Z0 : n0 ≤ h0.size) (V_1 : Arv Z h0 a1 k1 .byte (4 : Int32) [(.int d0), (.int d1), (.int d2), (.int d3)] (.int (0 : Int32))) (V_2 : Arv Z h0 a2 k2 .byte (4 : Int32) [(.int d0), (.int d1), (.int d2), (.int d3)] (.int (0 : Int32))) :
    MetFree l (⟨"com/example/keyslice/keyslice/storage/KeyRangeAfterPinLaw", "held", "([B[BII)Z"⟩ : MethodName) (head1 (Jvm.Cond.code (⟨"com/example/keyslice/keyslice/storage/KeyRangeAfterPinLaw", "held", "([B[BII)Z"⟩ : MethodName) method_3_code 4 (some .boolean) :: ws) ({ frames := 0, cells := 0, slots := 0, locals := 0 } : Room)) (fun a U => a = #[(.ref a1), (.ref a2), (.int (1 : Int32)), (.int (4 : Int32))] ∧ Z.Warmed39 U.vm ∧ U.heap = h0) (fun _ _ _ _ _ => True) (fun _ U o U' => ∃ v L, o = .returned v ∧ (own_P h0 n0 (.int (1 : Int32))) v U'.heap L ∧ FrameEnd U o U' L ({ frames := 0, cells := 0, slots := 0, locals := 0 } : Room).cells ({ frames := 0, cells := 0, slots := 0, locals := 0 } : Room).slots) := by
  refine MetFree.of_bodySF (plainFor_of_name pn_0) hisR ?_
  intro p e s m args below meth c s₁ Bd hml0 hP hK
  obtain ⟨rfl, hZ, hh⟩ := hP
  have hx := Bd.exec
  have hby := Bd.bytes
  have hml : c.maxLocals = 4 := hml0
  have hown : s.vm.findClass "com/example/keyslice/keyslice/storage/KeyRangeAfterPinLaw" = some m.cls := findClass_of_methodNamed Bd.named
  have hnm := (name_of_methodNamed Bd.named Bd.method).1
  have X0 : Stand p l e ({ frames := 0, cells := 0, slots := 0, locals := 0 } : Room) s m #[(.ref a1), (.ref a2), (.int (1 : Int32)), (.int (4 : Int32))] below meth c s₁ [] 0 0 := Stand.of_body Bd
  have e0 : s₁.heap = h0 := by rw [← hh, Bd.state]; rfl
  have N0 := Fr.nil n0
  show own_Fin p e below (own_A s ({ frames := 0, cells := 0, slots := 0, locals := 0 } : Room).cells ({ frames := 0, cells := 0, slots := 0, locals := 0 } : Room).slots (own_P h0 n0 (.int (1 : Int32)))) _
  refine own_go (fun t k => castTop (ef_3h14 m (a1) (a2) ((1 : Int32)) ((4 : Int32))) k) ?_
  show own_Fin p e below _ (s₁.setTop (mkF m 0 #[.val (.ref a1), .val (.ref a2), .val (.int (1 : Int32)), .val (.int (4 : Int32))] []))
  refine own_go (fun t k => XS.iloadN X0.here hx rfl (hb hby d3_0) rfl  (XS.iloadN X0.here hx rfl (hb hby d3_1) rfl  k)) ?_
  show own_Fin p e below _ (s₁.setTop (mkF m 2 #[.val (.ref a1), .val (.ref a2), .val (.int (1 : Int32)), .val (.int (4 : Int32))] [(.int (4 : Int32)), (.int (1 : Int32))]))
  refine own_go (fun t k => XS.icmpNo X0.here hx rfl (hb hby d3_2) rfl (tlt (by decide : (1 : Int32) < (4 : Int32))).2.1 (XS.aloadN X0.here hx rfl (hb hby d3_5) rfl rfl  (XS.iloadN X0.here hx rfl (hb hby d3_6) rfl  k))) ?_
  show own_Fin p e below _ (s₁.setTop (mkF m 7 #[.val (.ref a1), .val (.ref a2), .val (.int (1 : Int32)), .val (.int (4 : Int32))] [(.int (1 : Int32)), (.ref a1)]))
  obtain ⟨cl1, Ar1, q1, S1, M1, H1, G1⟩ := (id V_1)
  have hin1 : ¬ ((1 : Int32) < 0 ∨ cl1.slots.size ≤ ((1 : Int32)).toNatClampNeg) := inb_of S1 ⟨by decide, by decide⟩
  have hat1 : cl1.slots[((1 : Int32)).toNatClampNeg]? = some (.int d1) := H1.at hin1 rfl
  refine own_go (fun t k => X0.baloadBytes hx (j := (1 : Int32)) (v := (.int d1)) (by rw [e0]; exact Ar1.1) (State.isArrayOf_alike hZ.alike Ar1.2.1) Ar1.2.2 hin1 hat1 (g := (mkF m 7 #[.val (.ref a1), .val (.ref a2), .val (.int (1 : Int32)), .val (.int (4 : Int32))] [(.int (1 : Int32)), (.ref a1)])) rfl rfl (hb hby d3_7) _ (XS.aloadN X0.here hx rfl (hb hby d3_8) rfl rfl  (XS.iloadN X0.here hx rfl (hb hby d3_9) rfl  k))) ?_
  show own_Fin p e below _ (s₁.setTop (mkF m 10 #[.val (.ref a1), .val (.ref a2), .val (.int (1 : Int32)), .val (.int (4 : Int32))] [(.int (1 : Int32)), (.ref a2), (.int d1)]))
  obtain ⟨cl2, Ar2, q2, S2, M2, H2, G2⟩ := (id V_2)
  have hin2 : ¬ ((1 : Int32) < 0 ∨ cl2.slots.size ≤ ((1 : Int32)).toNatClampNeg) := inb_of S2 ⟨by decide, by decide⟩
  have hat2 : cl2.slots[((1 : Int32)).toNatClampNeg]? = some (.int d1) := H2.at hin2 rfl
  refine own_go (fun t k => X0.baloadBytes hx (j := (1 : Int32)) (v := (.int d1)) (by rw [e0]; exact Ar2.1) (State.isArrayOf_alike hZ.alike Ar2.2.1) Ar2.2.2 hin2 hat2 (g := (mkF m 10 #[.val (.ref a1), .val (.ref a2), .val (.int (1 : Int32)), .val (.int (4 : Int32))] [(.int (1 : Int32)), (.ref a2), (.int d1)])) rfl rfl (hb hby d3_10) _ k) ?_
  show own_Fin p e below _ (s₁.setTop (mkF m 11 #[.val (.ref a1), .val (.ref a2), .val (.int (1 : Int32)), .val (.int (4 : Int32))] [(.int d1), (.int d1)]))
  refine own_go (fun t k => XS.icmpNo X0.here hx rfl (hb hby d3_11) rfl (teq rfl).2 (XS.iconst X0.here hx rfl (hb hby d3_14) (XS.goto X0.here hx rfl (pc0 := 15) (pc' := 19) rfl (hb hby d3_15) (by decide) (by decide) k))) ?_
  show own_Fin p e below _ (s₁.setTop (mkF m 19 #[.val (.ref a1), .val (.ref a2), .val (.int (1 : Int32)), .val (.int (4 : Int32))] [(.int (1 : Int32))]))
  exact own_out X0 (fun h => by rw [Bd.returns] at h; cases h) Bd.notSynchronized (fun fs hr => retN X0 hx (t := .boolean) Bd.returns (by simp) (hb hby d3_19) hr) ⟨rfl, N0, e0⟩ (by decide) (by decide)
theorem ef_3h24 (m : MethodId) (x0 : Addr) (x1 : Addr) (x2 : Int32) (x3 : Int32)  : entryFrame m #[(.ref x0), (.ref x1), (.int x2), (.int x3)] 4 = mkF m 0 #[.val (.ref x0), .val (.ref x1), .val (.int x2), .val (.int x3)] [] := by first | (simp [entryFrame, mkF, argsToLocals, Value.category]; done) | rfl
set_option maxRecDepth 65536 in
set_option maxHeartbeats 40000000 in
theorem rm3h24 (l : Launch) (Z : State) (a0 : Array Value) (hw : ∀ d ∈ tables_1, d.before a0 Z = true) (ws : List Jvm.Cond) (a1 : Addr) (a2 : Addr) (k1 k2 : ClassId) (d0 d1 d2 d3 : Int32) (h0 : Heap) (n0 : Nat) (Z0 : n0 ≤ h0.size) (V_1 : Arv Z h0 a1 k1 .byte (4 : Int32) [(.int d0), (.int d1), (.int d2), (.int d3)] (.int (0 : Int32))) (V_2 : Arv Z h0 a2 k2 .byte (4 : Int32) [(.int d0), (.int d1), (.int d2), (.int d3)] (.int (0 : Int32))) :
    MetFree l (⟨"com/example/keyslice/keyslice/storage/KeyRangeAfterPinLaw", "held", "([B[BII)Z"⟩ : MethodName) (head1 (Jvm.Cond.code (⟨"com/example/keyslice/keyslice/storage/KeyRangeAfterPinLaw", "held", "([B[BII)Z"⟩ : MethodName) method_3_code 4 (some .boolean) :: ws) ({ frames := 0, cells := 0, slots := 0, locals := 0 } : Room)) (fun a U => a = #[(.ref a1), (.ref a2), (.int (2 : Int32)), (.int (4 : Int32))] ∧ Z.Warmed39 U.vm ∧ U.heap = h0) (fun _ _ _ _ _ => True) (fun _ U o U' => ∃ v L, o = .returned v ∧ (own_P h0 n0 (.int (1 : Int32))) v U'.heap L ∧ FrameEnd U o U' L ({ frames := 0, cells := 0, slots := 0, locals := 0 } : Room).cells ({ frames := 0, cells := 0, slots := 0, locals := 0 } : Room).slots) := by
  refine MetFree.of_bodySF (plainFor_of_name pn_0) hisR ?_
  intro p e s m args below meth c s₁ Bd hml0 hP hK
  obtain ⟨rfl, hZ, hh⟩ := hP
  have hx := Bd.exec
  have hby := Bd.bytes
  have hml : c.maxLocals = 4 := hml0
  have hown : s.vm.findClass "com/example/keyslice/keyslice/storage/KeyRangeAfterPinLaw" = some m.cls := findClass_of_methodNamed Bd.named
  have hnm := (name_of_methodNamed Bd.named Bd.method).1
  have X0 : Stand p l e ({ frames := 0, cells := 0, slots := 0, locals := 0 } : Room) s m #[(.ref a1), (.ref a2), (.int (2 : Int32)), (.int (4 : Int32))] below meth c s₁ [] 0 0 := Stand.of_body Bd
  have e0 : s₁.heap = h0 := by rw [← hh, Bd.state]; rfl
  have N0 := Fr.nil n0
  show own_Fin p e below (own_A s ({ frames := 0, cells := 0, slots := 0, locals := 0 } : Room).cells ({ frames := 0, cells := 0, slots := 0, locals := 0 } : Room).slots (own_P h0 n0 (.int (1 : Int32)))) _
  refine own_go (fun t k => castTop (ef_3h24 m (a1) (a2) ((2 : Int32)) ((4 : Int32))) k) ?_
  show own_Fin p e below _ (s₁.setTop (mkF m 0 #[.val (.ref a1), .val (.ref a2), .val (.int (2 : Int32)), .val (.int (4 : Int32))] []))
  refine own_go (fun t k => XS.iloadN X0.here hx rfl (hb hby d3_0) rfl  (XS.iloadN X0.here hx rfl (hb hby d3_1) rfl  k)) ?_
  show own_Fin p e below _ (s₁.setTop (mkF m 2 #[.val (.ref a1), .val (.ref a2), .val (.int (2 : Int32)), .val (.int (4 : Int32))] [(.int (4 : Int32)), (.int (2 : Int32))]))
  refine own_go (fun t k => XS.icmpNo X0.here hx rfl (hb hby d3_2) rfl (tlt (by decide : (2 : Int32) < (4 : Int32))).2.1 (XS.aloadN X0.here hx rfl (hb hby d3_5) rfl rfl  (XS.iloadN X0.here hx rfl (hb hby d3_6) rfl  k))) ?_
  show own_Fin p e below _ (s₁.setTop (mkF m 7 #[.val (.ref a1), .val (.ref a2), .val (.int (2 : Int32)), .val (.int (4 : Int32))] [(.int (2 : Int32)), (.ref a1)]))
  obtain ⟨cl1, Ar1, q1, S1, M1, H1, G1⟩ := (id V_1)
  have hin1 : ¬ ((2 : Int32) < 0 ∨ cl1.slots.size ≤ ((2 : Int32)).toNatClampNeg) := inb_of S1 ⟨by decide, by decide⟩
  have hat1 : cl1.slots[((2 : Int32)).toNatClampNeg]? = some (.int d2) := H1.at hin1 rfl
  refine own_go (fun t k => X0.baloadBytes hx (j := (2 : Int32)) (v := (.int d2)) (by rw [e0]; exact Ar1.1) (State.isArrayOf_alike hZ.alike Ar1.2.1) Ar1.2.2 hin1 hat1 (g := (mkF m 7 #[.val (.ref a1), .val (.ref a2), .val (.int (2 : Int32)), .val (.int (4 : Int32))] [(.int (2 : Int32)), (.ref a1)])) rfl rfl (hb hby d3_7) _ (XS.aloadN X0.here hx rfl (hb hby d3_8) rfl rfl  (XS.iloadN X0.here hx rfl (hb hby d3_9) rfl  k))) ?_
  show own_Fin p e below _ (s₁.setTop (mkF m 10 #[.val (.ref a1), .val (.ref a2), .val (.int (2 : Int32)), .val (.int (4 : Int32))] [(.int (2 : Int32)), (.ref a2), (.int d2)]))
  obtain ⟨cl2, Ar2, q2, S2, M2, H2, G2⟩ := (id V_2)
  have hin2 : ¬ ((2 : Int32) < 0 ∨ cl2.slots.size ≤ ((2 : Int32)).toNatClampNeg) := inb_of S2 ⟨by decide, by decide⟩
  have hat2 : cl2.slots[((2 : Int32)).toNatClampNeg]? = some (.int d2) := H2.at hin2 rfl
  refine own_go (fun t k => X0.baloadBytes hx (j := (2 : Int32)) (v := (.int d2)) (by rw [e0]; exact Ar2.1) (State.isArrayOf_alike hZ.alike Ar2.2.1) Ar2.2.2 hin2 hat2 (g := (mkF m 10 #[.val (.ref a1), .val (.ref a2), .val (.int (2 : Int32)), .val (.int (4 : Int32))] [(.int (2 : Int32)), (.ref a2), (.int d2)])) rfl rfl (hb hby d3_10) _ k) ?_
  show own_Fin p e below _ (s₁.setTop (mkF m 11 #[.val (.ref a1), .val (.ref a2), .val (.int (2 : Int32)), .val (.int (4 : Int32))] [(.int d2), (.int d2)]))
  refine own_go (fun t k => XS.icmpNo X0.here hx rfl (hb hby d3_11) rfl (teq rfl).2 (XS.iconst X0.here hx rfl (hb hby d3_14) (XS.goto X0.here hx rfl (pc0 := 15) (pc' := 19) rfl (hb hby d3_15) (by decide) (by decide) k))) ?_
  show own_Fin p e below _ (s₁.setTop (mkF m 19 #[.val (.ref a1), .val (.ref a2), .val (.int (2 : Int32)), .val (.int (4 : Int32))] [(.int (1 : Int32))]))
  exact own_out X0 (fun h => by rw [Bd.returns] at h; cases h) Bd.notSynchronized (fun fs hr => retN X0 hx (t := .boolean) Bd.returns (by simp) (hb hby d3_19) hr) ⟨rfl, N0, e0⟩ (by decide) (by decide)
theorem ef_3h34 (m : MethodId) (x0 : Addr) (x1 : Addr) (x2 : Int32) (x3 : Int32)  : entryFrame m #[(.ref x0), (.ref x1), (.int x2), (.int x3)] 4 = mkF m 0 #[.val (.ref x0), .val (.ref x1), .val (.int x2), .val (.int x3)] [] := by first | (simp [entryFrame, mkF, argsToLocals, Value.category]; done) | rfl
set_option maxRecDepth 65536 in
set_option maxHeartbeats 40000000 in
theorem rm3h34 (l : Launch) (Z : State) (a0 : Array Value) (hw : ∀ d ∈ tables_1, d.before a0 Z = true) (ws : List Jvm.Cond) (a1 : Addr) (a2 : Addr) (k1 k2 : ClassId) (d0 d1 d2 d3 : Int32) (h0 : Heap) (n0 : Nat) (Z0 : n0 ≤ h0.size) (V_1 : Arv Z h0 a1 k1 .byte (4 : Int32) [(.int d0), (.int d1), (.int d2), (.int d3)] (.int (0 : Int32))) (V_2 : Arv Z h0 a2 k2 .byte (4 : Int32) [(.int d0), (.int d1), (.int d2), (.int d3)] (.int (0 : Int32))) :
    MetFree l (⟨"com/example/keyslice/keyslice/storage/KeyRangeAfterPinLaw", "held", "([B[BII)Z"⟩ : MethodName) (head1 (Jvm.Cond.code (⟨"com/example/keyslice/keyslice/storage/KeyRangeAfterPinLaw", "held", "([B[BII)Z"⟩ : MethodName) method_3_code 4 (some .boolean) :: ws) ({ frames := 0, cells := 0, slots := 0, locals := 0 } : Room)) (fun a U => a = #[(.ref a1), (.ref a2), (.int (3 : Int32)), (.int (4 : Int32))] ∧ Z.Warmed39 U.vm ∧ U.heap = h0) (fun _ _ _ _ _ => True) (fun _ U o U' => ∃ v L, o = .returned v ∧ (own_P h0 n0 (.int (1 : Int32))) v U'.heap L ∧ FrameEnd U o U' L ({ frames := 0, cells := 0, slots := 0, locals := 0 } : Room).cells ({ frames := 0, cells := 0, slots := 0, locals := 0 } : Room).slots) := by
  refine MetFree.of_bodySF (plainFor_of_name pn_0) hisR ?_
  intro p e s m args below meth c s₁ Bd hml0 hP hK
  obtain ⟨rfl, hZ, hh⟩ := hP
  have hx := Bd.exec
  have hby := Bd.bytes
  have hml : c.maxLocals = 4 := hml0
  have hown : s.vm.findClass "com/example/keyslice/keyslice/storage/KeyRangeAfterPinLaw" = some m.cls := findClass_of_methodNamed Bd.named
  have hnm := (name_of_methodNamed Bd.named Bd.method).1
  have X0 : Stand p l e ({ frames := 0, cells := 0, slots := 0, locals := 0 } : Room) s m #[(.ref a1), (.ref a2), (.int (3 : Int32)), (.int (4 : Int32))] below meth c s₁ [] 0 0 := Stand.of_body Bd
  have e0 : s₁.heap = h0 := by rw [← hh, Bd.state]; rfl
  have N0 := Fr.nil n0
  show own_Fin p e below (own_A s ({ frames := 0, cells := 0, slots := 0, locals := 0 } : Room).cells ({ frames := 0, cells := 0, slots := 0, locals := 0 } : Room).slots (own_P h0 n0 (.int (1 : Int32)))) _
  refine own_go (fun t k => castTop (ef_3h34 m (a1) (a2) ((3 : Int32)) ((4 : Int32))) k) ?_
  show own_Fin p e below _ (s₁.setTop (mkF m 0 #[.val (.ref a1), .val (.ref a2), .val (.int (3 : Int32)), .val (.int (4 : Int32))] []))
  refine own_go (fun t k => XS.iloadN X0.here hx rfl (hb hby d3_0) rfl  (XS.iloadN X0.here hx rfl (hb hby d3_1) rfl  k)) ?_
  show own_Fin p e below _ (s₁.setTop (mkF m 2 #[.val (.ref a1), .val (.ref a2), .val (.int (3 : Int32)), .val (.int (4 : Int32))] [(.int (4 : Int32)), (.int (3 : Int32))]))
  refine own_go (fun t k => XS.icmpNo X0.here hx rfl (hb hby d3_2) rfl (tlt (by decide : (3 : Int32) < (4 : Int32))).2.1 (XS.aloadN X0.here hx rfl (hb hby d3_5) rfl rfl  (XS.iloadN X0.here hx rfl (hb hby d3_6) rfl  k))) ?_
  show own_Fin p e below _ (s₁.setTop (mkF m 7 #[.val (.ref a1), .val (.ref a2), .val (.int (3 : Int32)), .val (.int (4 : Int32))] [(.int (3 : Int32)), (.ref a1)]))
  obtain ⟨cl1, Ar1, q1, S1, M1, H1, G1⟩ := (id V_1)
  have hin1 : ¬ ((3 : Int32) < 0 ∨ cl1.slots.size ≤ ((3 : Int32)).toNatClampNeg) := inb_of S1 ⟨by decide, by decide⟩
  have hat1 : cl1.slots[((3 : Int32)).toNatClampNeg]? = some (.int d3) := H1.at hin1 rfl
  refine own_go (fun t k => X0.baloadBytes hx (j := (3 : Int32)) (v := (.int d3)) (by rw [e0]; exact Ar1.1) (State.isArrayOf_alike hZ.alike Ar1.2.1) Ar1.2.2 hin1 hat1 (g := (mkF m 7 #[.val (.ref a1), .val (.ref a2), .val (.int (3 : Int32)), .val (.int (4 : Int32))] [(.int (3 : Int32)), (.ref a1)])) rfl rfl (hb hby d3_7) _ (XS.aloadN X0.here hx rfl (hb hby d3_8) rfl rfl  (XS.iloadN X0.here hx rfl (hb hby d3_9) rfl  k))) ?_
  show own_Fin p e below _ (s₁.setTop (mkF m 10 #[.val (.ref a1), .val (.ref a2), .val (.int (3 : Int32)), .val (.int (4 : Int32))] [(.int (3 : Int32)), (.ref a2), (.int d3)]))
  obtain ⟨cl2, Ar2, q2, S2, M2, H2, G2⟩ := (id V_2)
  have hin2 : ¬ ((3 : Int32) < 0 ∨ cl2.slots.size ≤ ((3 : Int32)).toNatClampNeg) := inb_of S2 ⟨by decide, by decide⟩
  have hat2 : cl2.slots[((3 : Int32)).toNatClampNeg]? = some (.int d3) := H2.at hin2 rfl
  refine own_go (fun t k => X0.baloadBytes hx (j := (3 : Int32)) (v := (.int d3)) (by rw [e0]; exact Ar2.1) (State.isArrayOf_alike hZ.alike Ar2.2.1) Ar2.2.2 hin2 hat2 (g := (mkF m 10 #[.val (.ref a1), .val (.ref a2), .val (.int (3 : Int32)), .val (.int (4 : Int32))] [(.int (3 : Int32)), (.ref a2), (.int d3)])) rfl rfl (hb hby d3_10) _ k) ?_
  show own_Fin p e below _ (s₁.setTop (mkF m 11 #[.val (.ref a1), .val (.ref a2), .val (.int (3 : Int32)), .val (.int (4 : Int32))] [(.int d3), (.int d3)]))
  refine own_go (fun t k => XS.icmpNo X0.here hx rfl (hb hby d3_11) rfl (teq rfl).2 (XS.iconst X0.here hx rfl (hb hby d3_14) (XS.goto X0.here hx rfl (pc0 := 15) (pc' := 19) rfl (hb hby d3_15) (by decide) (by decide) k))) ?_
  show own_Fin p e below _ (s₁.setTop (mkF m 19 #[.val (.ref a1), .val (.ref a2), .val (.int (3 : Int32)), .val (.int (4 : Int32))] [(.int (1 : Int32))]))
  exact own_out X0 (fun h => by rw [Bd.returns] at h; cases h) Bd.notSynchronized (fun fs hr => retN X0 hx (t := .boolean) Bd.returns (by simp) (hb hby d3_19) hr) ⟨rfl, N0, e0⟩ (by decide) (by decide)
theorem d5_0 : decode method_4_code 0 = .ok (.iload_n 2, 1) := by decide +kernel
theorem d5_1 : decode method_4_code 1 = .ok (.iload_n 3, 1) := by decide +kernel
theorem d5_2 : decode method_4_code 2 = .ok (.if_icmp .lt 5, 3) := by decide +kernel
theorem d5_7 : decode method_4_code 7 = .ok (.iload_n 2, 1) := by decide +kernel
theorem d5_8 : decode method_4_code 8 = .ok (.iload_n 3, 1) := by decide +kernel
theorem d5_9 : decode method_4_code 9 = .ok (.iconst 1, 1) := by decide +kernel
theorem d5_10 : decode method_4_code 10 = .ok (.isub, 1) := by decide +kernel
theorem d5_11 : decode method_4_code 11 = .ok (.if_icmp .ne 12, 3) := by decide +kernel
theorem d5_14 : decode method_4_code 14 = .ok (.aload_n 1, 1) := by decide +kernel
theorem d5_15 : decode method_4_code 15 = .ok (.iload_n 2, 1) := by decide +kernel
theorem d5_16 : decode method_4_code 16 = .ok (.baload, 1) := by decide +kernel
theorem d5_17 : decode method_4_code 17 = .ok (.iconst 1, 1) := by decide +kernel
theorem d5_18 : decode method_4_code 18 = .ok (.iadd, 1) := by decide +kernel
theorem d5_19 : decode method_4_code 19 = .ok (.i2b, 1) := by decide +kernel
theorem d5_20 : decode method_4_code 20 = .ok (.goto 6, 3) := by decide +kernel
theorem d5_26 : decode method_4_code 26 = .ok (.istore 4, 2) := by decide +kernel
theorem d5_28 : decode method_4_code 28 = .ok (.aload_n 0, 1) := by decide +kernel
theorem d5_29 : decode method_4_code 29 = .ok (.iload_n 2, 1) := by decide +kernel
theorem d5_30 : decode method_4_code 30 = .ok (.baload, 1) := by decide +kernel
theorem d5_31 : decode method_4_code 31 = .ok (.iload 4, 2) := by decide +kernel
theorem d5_33 : decode method_4_code 33 = .ok (.if_icmp .ne 7, 3) := by decide +kernel
theorem d5_36 : decode method_4_code 36 = .ok (.iconst 1, 1) := by decide +kernel
theorem d5_37 : decode method_4_code 37 = .ok (.goto 4, 3) := by decide +kernel
theorem d5_41 : decode method_4_code 41 = .ok (.ireturn, 1) := by decide +kernel
theorem ef_5s01 (m : MethodId) (x0 : Addr) (x1 : Addr) (x2 : Int32) (x3 : Int32)  : entryFrame m #[(.ref x0), (.ref x1), (.int x2), (.int x3)] 5 = mkF m 0 #[.val (.ref x0), .val (.ref x1), .val (.int x2), .val (.int x3), .unset] [] := by first | (simp [entryFrame, mkF, argsToLocals, Value.category]; done) | rfl
set_option maxRecDepth 65536 in
set_option maxHeartbeats 40000000 in
theorem rm5s01 (l : Launch) (Z : State) (a0 : Array Value) (hw : ∀ d ∈ tables_1, d.before a0 Z = true) (ws : List Jvm.Cond) (a1 : Addr) (a2 : Addr) (k1 k2 : ClassId) (d0 d1 d2 d3 : Int32) (h0 : Heap) (n0 : Nat) (Z0 : n0 ≤ h0.size) (V_1 : Arv Z h0 a1 k1 .byte (1 : Int32) [(.int (nar .byte (((d0 + (1 : Int32)).toInt8.toInt32))))] (.int (0 : Int32))) (V_2 : Arv Z h0 a2 k2 .byte (4 : Int32) [(.int d0), (.int d1), (.int d2), (.int d3)] (.int (0 : Int32))) :
    MetFree l (⟨"com/example/keyslice/keyslice/storage/KeyRangeAfterPinLaw", "slot", "([B[BII)Z"⟩ : MethodName) (head1 (Jvm.Cond.code (⟨"com/example/keyslice/keyslice/storage/KeyRangeAfterPinLaw", "slot", "([B[BII)Z"⟩ : MethodName) method_4_code 5 (some .boolean) :: ws) ({ frames := 0, cells := 0, slots := 0, locals := 0 } : Room)) (fun a U => a = #[(.ref a1), (.ref a2), (.int (0 : Int32)), (.int (1 : Int32))] ∧ Z.Warmed39 U.vm ∧ U.heap = h0) (fun _ _ _ _ _ => True) (fun _ U o U' => ∃ v L, o = .returned v ∧ (own_P h0 n0 (.int (1 : Int32))) v U'.heap L ∧ FrameEnd U o U' L ({ frames := 0, cells := 0, slots := 0, locals := 0 } : Room).cells ({ frames := 0, cells := 0, slots := 0, locals := 0 } : Room).slots) := by
  refine MetFree.of_bodySF (plainFor_of_name pn_0) hisR ?_
  intro p e s m args below meth c s₁ Bd hml0 hP hK
  obtain ⟨rfl, hZ, hh⟩ := hP
  have hx := Bd.exec
  have hby := Bd.bytes
  have hml : c.maxLocals = 5 := hml0
  have hown : s.vm.findClass "com/example/keyslice/keyslice/storage/KeyRangeAfterPinLaw" = some m.cls := findClass_of_methodNamed Bd.named
  have hnm := (name_of_methodNamed Bd.named Bd.method).1
  have X0 : Stand p l e ({ frames := 0, cells := 0, slots := 0, locals := 0 } : Room) s m #[(.ref a1), (.ref a2), (.int (0 : Int32)), (.int (1 : Int32))] below meth c s₁ [] 0 0 := Stand.of_body Bd
  have e0 : s₁.heap = h0 := by rw [← hh, Bd.state]; rfl
  have N0 := Fr.nil n0
  show own_Fin p e below (own_A s ({ frames := 0, cells := 0, slots := 0, locals := 0 } : Room).cells ({ frames := 0, cells := 0, slots := 0, locals := 0 } : Room).slots (own_P h0 n0 (.int (1 : Int32)))) _
  refine own_go (fun t k => castTop (ef_5s01 m (a1) (a2) ((0 : Int32)) ((1 : Int32))) k) ?_
  show own_Fin p e below _ (s₁.setTop (mkF m 0 #[.val (.ref a1), .val (.ref a2), .val (.int (0 : Int32)), .val (.int (1 : Int32)), .unset] []))
  refine own_go (fun t k => XS.iloadN X0.here hx rfl (hb hby d5_0) rfl  (XS.iloadN X0.here hx rfl (hb hby d5_1) rfl  k)) ?_
  show own_Fin p e below _ (s₁.setTop (mkF m 2 #[.val (.ref a1), .val (.ref a2), .val (.int (0 : Int32)), .val (.int (1 : Int32)), .unset] [(.int (1 : Int32)), (.int (0 : Int32))]))
  refine own_go (fun t k => XS.icmpYes X0.here hx rfl (pc0 := 2) (pc' := 7) rfl (hb hby d5_2) rfl (tlt (by decide : (0 : Int32) < (1 : Int32))).1 (by decide) (by decide) (XS.iloadN X0.here hx rfl (hb hby d5_7) rfl  (XS.iloadN X0.here hx rfl (hb hby d5_8) rfl  (XS.iconst X0.here hx rfl (hb hby d5_9) (XS.isub X0.here hx rfl (hb hby d5_10) rfl k))))) ?_
  show own_Fin p e below _ (s₁.setTop (mkF m 11 #[.val (.ref a1), .val (.ref a2), .val (.int (0 : Int32)), .val (.int (1 : Int32)), .unset] [(.int (0 : Int32)), (.int (0 : Int32))]))
  refine own_go (fun t k => XS.icmpNo X0.here hx rfl (hb hby d5_11) rfl (teq (by decide : (0 : Int32) = (0 : Int32))).2 (XS.aloadN X0.here hx rfl (hb hby d5_14) rfl rfl  (XS.iloadN X0.here hx rfl (hb hby d5_15) rfl  k))) ?_
  show own_Fin p e below _ (s₁.setTop (mkF m 16 #[.val (.ref a1), .val (.ref a2), .val (.int (0 : Int32)), .val (.int (1 : Int32)), .unset] [(.int (0 : Int32)), (.ref a2)]))
  obtain ⟨cl1, Ar1, q1, S1, M1, H1, G1⟩ := (id V_2)
  have hin1 : ¬ ((0 : Int32) < 0 ∨ cl1.slots.size ≤ ((0 : Int32)).toNatClampNeg) := inb_of S1 ⟨by decide, by decide⟩
  have hat1 : cl1.slots[((0 : Int32)).toNatClampNeg]? = some (.int d0) := H1.at hin1 rfl
  refine own_go (fun t k => X0.baloadBytes hx (j := (0 : Int32)) (v := (.int d0)) (by rw [e0]; exact Ar1.1) (State.isArrayOf_alike hZ.alike Ar1.2.1) Ar1.2.2 hin1 hat1 (g := (mkF m 16 #[.val (.ref a1), .val (.ref a2), .val (.int (0 : Int32)), .val (.int (1 : Int32)), .unset] [(.int (0 : Int32)), (.ref a2)])) rfl rfl (hb hby d5_16) _ (XS.iconst X0.here hx rfl (hb hby d5_17) (XS.iadd X0.here hx rfl (hb hby d5_18) rfl (XS.i2b X0.here hx rfl (hb hby d5_19) rfl (XS.goto X0.here hx rfl (pc0 := 20) (pc' := 26) rfl (hb hby d5_20) (by decide) (by decide) k))))) ?_
  show own_Fin p e below _ (s₁.setTop (mkF m 26 #[.val (.ref a1), .val (.ref a2), .val (.int (0 : Int32)), .val (.int (1 : Int32)), .unset] [(.int ((d0 + (1 : Int32)).toInt8.toInt32))]))
  refine own_go (fun t k => XS.istore X0.here hx rfl (hb hby d5_26) rfl (l' := #[.val (.ref a1), .val (.ref a2), .val (.int (0 : Int32)), .val (.int (1 : Int32)), .val (.int ((d0 + (1 : Int32)).toInt8.toInt32))]) rfl (XS.aloadN X0.here hx rfl (hb hby d5_28) rfl rfl  (XS.iloadN X0.here hx rfl (hb hby d5_29) rfl  k))) ?_
  show own_Fin p e below _ (s₁.setTop (mkF m 30 #[.val (.ref a1), .val (.ref a2), .val (.int (0 : Int32)), .val (.int (1 : Int32)), .val (.int ((d0 + (1 : Int32)).toInt8.toInt32))] [(.int (0 : Int32)), (.ref a1)]))
  obtain ⟨cl2, Ar2, q2, S2, M2, H2, G2⟩ := (id V_1)
  have hin2 : ¬ ((0 : Int32) < 0 ∨ cl2.slots.size ≤ ((0 : Int32)).toNatClampNeg) := inb_of S2 ⟨by decide, by decide⟩
  have hat2 : cl2.slots[((0 : Int32)).toNatClampNeg]? = some (.int (nar .byte (((d0 + (1 : Int32)).toInt8.toInt32)))) := H2.at hin2 rfl
  refine own_go (fun t k => X0.baloadBytes hx (j := (0 : Int32)) (v := (.int (nar .byte (((d0 + (1 : Int32)).toInt8.toInt32))))) (by rw [e0]; exact Ar2.1) (State.isArrayOf_alike hZ.alike Ar2.2.1) Ar2.2.2 hin2 hat2 (g := (mkF m 30 #[.val (.ref a1), .val (.ref a2), .val (.int (0 : Int32)), .val (.int (1 : Int32)), .val (.int ((d0 + (1 : Int32)).toInt8.toInt32))] [(.int (0 : Int32)), (.ref a1)])) rfl rfl (hb hby d5_30) _ (XS.iload X0.here hx rfl (hb hby d5_31) rfl  k)) ?_
  show own_Fin p e below _ (s₁.setTop (mkF m 33 #[.val (.ref a1), .val (.ref a2), .val (.int (0 : Int32)), .val (.int (1 : Int32)), .val (.int ((d0 + (1 : Int32)).toInt8.toInt32))] [(.int ((d0 + (1 : Int32)).toInt8.toInt32)), (.int (nar .byte (((d0 + (1 : Int32)).toInt8.toInt32))))]))
  refine own_go (fun t k => XS.icmpNo X0.here hx rfl (hb hby d5_33) rfl (teq (own_nb _)).2 (XS.iconst X0.here hx rfl (hb hby d5_36) (XS.goto X0.here hx rfl (pc0 := 37) (pc' := 41) rfl (hb hby d5_37) (by decide) (by decide) k))) ?_
  show own_Fin p e below _ (s₁.setTop (mkF m 41 #[.val (.ref a1), .val (.ref a2), .val (.int (0 : Int32)), .val (.int (1 : Int32)), .val (.int ((d0 + (1 : Int32)).toInt8.toInt32))] [(.int (1 : Int32))]))
  exact own_out X0 (fun h => by rw [Bd.returns] at h; cases h) Bd.notSynchronized (fun fs hr => retN X0 hx (t := .boolean) Bd.returns (by simp) (hb hby d5_41) hr) ⟨rfl, N0, e0⟩ (by decide) (by decide)
theorem d5_5 : decode method_4_code 5 = .ok (.iconst 1, 1) := by decide +kernel
theorem d5_6 : decode method_4_code 6 = .ok (.ireturn, 1) := by decide +kernel
theorem ef_5s11 (m : MethodId) (x0 : Addr) (x1 : Addr) (x2 : Int32) (x3 : Int32)  : entryFrame m #[(.ref x0), (.ref x1), (.int x2), (.int x3)] 5 = mkF m 0 #[.val (.ref x0), .val (.ref x1), .val (.int x2), .val (.int x3), .unset] [] := by first | (simp [entryFrame, mkF, argsToLocals, Value.category]; done) | rfl
set_option maxRecDepth 65536 in
set_option maxHeartbeats 40000000 in
theorem rm5s11 (l : Launch) (Z : State) (a0 : Array Value) (hw : ∀ d ∈ tables_1, d.before a0 Z = true) (ws : List Jvm.Cond) (a1 : Addr) (a2 : Addr) (k1 k2 : ClassId) (d0 d1 d2 d3 : Int32) (h0 : Heap) (n0 : Nat) (Z0 : n0 ≤ h0.size) (V_1 : Arv Z h0 a1 k1 .byte (1 : Int32) [(.int (nar .byte (((d0 + (1 : Int32)).toInt8.toInt32))))] (.int (0 : Int32))) (V_2 : Arv Z h0 a2 k2 .byte (4 : Int32) [(.int d0), (.int d1), (.int d2), (.int d3)] (.int (0 : Int32))) :
    MetFree l (⟨"com/example/keyslice/keyslice/storage/KeyRangeAfterPinLaw", "slot", "([B[BII)Z"⟩ : MethodName) (head1 (Jvm.Cond.code (⟨"com/example/keyslice/keyslice/storage/KeyRangeAfterPinLaw", "slot", "([B[BII)Z"⟩ : MethodName) method_4_code 5 (some .boolean) :: ws) ({ frames := 0, cells := 0, slots := 0, locals := 0 } : Room)) (fun a U => a = #[(.ref a1), (.ref a2), (.int (1 : Int32)), (.int (1 : Int32))] ∧ Z.Warmed39 U.vm ∧ U.heap = h0) (fun _ _ _ _ _ => True) (fun _ U o U' => ∃ v L, o = .returned v ∧ (own_P h0 n0 (.int (1 : Int32))) v U'.heap L ∧ FrameEnd U o U' L ({ frames := 0, cells := 0, slots := 0, locals := 0 } : Room).cells ({ frames := 0, cells := 0, slots := 0, locals := 0 } : Room).slots) := by
  refine MetFree.of_bodySF (plainFor_of_name pn_0) hisR ?_
  intro p e s m args below meth c s₁ Bd hml0 hP hK
  obtain ⟨rfl, hZ, hh⟩ := hP
  have hx := Bd.exec
  have hby := Bd.bytes
  have hml : c.maxLocals = 5 := hml0
  have hown : s.vm.findClass "com/example/keyslice/keyslice/storage/KeyRangeAfterPinLaw" = some m.cls := findClass_of_methodNamed Bd.named
  have hnm := (name_of_methodNamed Bd.named Bd.method).1
  have X0 : Stand p l e ({ frames := 0, cells := 0, slots := 0, locals := 0 } : Room) s m #[(.ref a1), (.ref a2), (.int (1 : Int32)), (.int (1 : Int32))] below meth c s₁ [] 0 0 := Stand.of_body Bd
  have e0 : s₁.heap = h0 := by rw [← hh, Bd.state]; rfl
  have N0 := Fr.nil n0
  show own_Fin p e below (own_A s ({ frames := 0, cells := 0, slots := 0, locals := 0 } : Room).cells ({ frames := 0, cells := 0, slots := 0, locals := 0 } : Room).slots (own_P h0 n0 (.int (1 : Int32)))) _
  refine own_go (fun t k => castTop (ef_5s11 m (a1) (a2) ((1 : Int32)) ((1 : Int32))) k) ?_
  show own_Fin p e below _ (s₁.setTop (mkF m 0 #[.val (.ref a1), .val (.ref a2), .val (.int (1 : Int32)), .val (.int (1 : Int32)), .unset] []))
  refine own_go (fun t k => XS.iloadN X0.here hx rfl (hb hby d5_0) rfl  (XS.iloadN X0.here hx rfl (hb hby d5_1) rfl  k)) ?_
  show own_Fin p e below _ (s₁.setTop (mkF m 2 #[.val (.ref a1), .val (.ref a2), .val (.int (1 : Int32)), .val (.int (1 : Int32)), .unset] [(.int (1 : Int32)), (.int (1 : Int32))]))
  refine own_go (fun t k => XS.icmpNo X0.here hx rfl (hb hby d5_2) rfl (flt (by decide : ¬ ((1 : Int32) < (1 : Int32)))).1 (XS.iconst X0.here hx rfl (hb hby d5_5) k)) ?_
  show own_Fin p e below _ (s₁.setTop (mkF m 6 #[.val (.ref a1), .val (.ref a2), .val (.int (1 : Int32)), .val (.int (1 : Int32)), .unset] [(.int (1 : Int32))]))
  exact own_out X0 (fun h => by rw [Bd.returns] at h; cases h) Bd.notSynchronized (fun fs hr => retN X0 hx (t := .boolean) Bd.returns (by simp) (hb hby d5_6) hr) ⟨rfl, N0, e0⟩ (by decide) (by decide)
theorem ef_5s21 (m : MethodId) (x0 : Addr) (x1 : Addr) (x2 : Int32) (x3 : Int32)  : entryFrame m #[(.ref x0), (.ref x1), (.int x2), (.int x3)] 5 = mkF m 0 #[.val (.ref x0), .val (.ref x1), .val (.int x2), .val (.int x3), .unset] [] := by first | (simp [entryFrame, mkF, argsToLocals, Value.category]; done) | rfl
set_option maxRecDepth 65536 in
set_option maxHeartbeats 40000000 in
theorem rm5s21 (l : Launch) (Z : State) (a0 : Array Value) (hw : ∀ d ∈ tables_1, d.before a0 Z = true) (ws : List Jvm.Cond) (a1 : Addr) (a2 : Addr) (k1 k2 : ClassId) (d0 d1 d2 d3 : Int32) (h0 : Heap) (n0 : Nat) (Z0 : n0 ≤ h0.size) (V_1 : Arv Z h0 a1 k1 .byte (1 : Int32) [(.int (nar .byte (((d0 + (1 : Int32)).toInt8.toInt32))))] (.int (0 : Int32))) (V_2 : Arv Z h0 a2 k2 .byte (4 : Int32) [(.int d0), (.int d1), (.int d2), (.int d3)] (.int (0 : Int32))) :
    MetFree l (⟨"com/example/keyslice/keyslice/storage/KeyRangeAfterPinLaw", "slot", "([B[BII)Z"⟩ : MethodName) (head1 (Jvm.Cond.code (⟨"com/example/keyslice/keyslice/storage/KeyRangeAfterPinLaw", "slot", "([B[BII)Z"⟩ : MethodName) method_4_code 5 (some .boolean) :: ws) ({ frames := 0, cells := 0, slots := 0, locals := 0 } : Room)) (fun a U => a = #[(.ref a1), (.ref a2), (.int (2 : Int32)), (.int (1 : Int32))] ∧ Z.Warmed39 U.vm ∧ U.heap = h0) (fun _ _ _ _ _ => True) (fun _ U o U' => ∃ v L, o = .returned v ∧ (own_P h0 n0 (.int (1 : Int32))) v U'.heap L ∧ FrameEnd U o U' L ({ frames := 0, cells := 0, slots := 0, locals := 0 } : Room).cells ({ frames := 0, cells := 0, slots := 0, locals := 0 } : Room).slots) := by
  refine MetFree.of_bodySF (plainFor_of_name pn_0) hisR ?_
  intro p e s m args below meth c s₁ Bd hml0 hP hK
  obtain ⟨rfl, hZ, hh⟩ := hP
  have hx := Bd.exec
  have hby := Bd.bytes
  have hml : c.maxLocals = 5 := hml0
  have hown : s.vm.findClass "com/example/keyslice/keyslice/storage/KeyRangeAfterPinLaw" = some m.cls := findClass_of_methodNamed Bd.named
  have hnm := (name_of_methodNamed Bd.named Bd.method).1
  have X0 : Stand p l e ({ frames := 0, cells := 0, slots := 0, locals := 0 } : Room) s m #[(.ref a1), (.ref a2), (.int (2 : Int32)), (.int (1 : Int32))] below meth c s₁ [] 0 0 := Stand.of_body Bd
  have e0 : s₁.heap = h0 := by rw [← hh, Bd.state]; rfl
  have N0 := Fr.nil n0
  show own_Fin p e below (own_A s ({ frames := 0, cells := 0, slots := 0, locals := 0 } : Room).cells ({ frames := 0, cells := 0, slots := 0, locals := 0 } : Room).slots (own_P h0 n0 (.int (1 : Int32)))) _
  refine own_go (fun t k => castTop (ef_5s21 m (a1) (a2) ((2 : Int32)) ((1 : Int32))) k) ?_
  show own_Fin p e below _ (s₁.setTop (mkF m 0 #[.val (.ref a1), .val (.ref a2), .val (.int (2 : Int32)), .val (.int (1 : Int32)), .unset] []))
  refine own_go (fun t k => XS.iloadN X0.here hx rfl (hb hby d5_0) rfl  (XS.iloadN X0.here hx rfl (hb hby d5_1) rfl  k)) ?_
  show own_Fin p e below _ (s₁.setTop (mkF m 2 #[.val (.ref a1), .val (.ref a2), .val (.int (2 : Int32)), .val (.int (1 : Int32)), .unset] [(.int (1 : Int32)), (.int (2 : Int32))]))
  refine own_go (fun t k => XS.icmpNo X0.here hx rfl (hb hby d5_2) rfl (flt (by decide : ¬ ((2 : Int32) < (1 : Int32)))).1 (XS.iconst X0.here hx rfl (hb hby d5_5) k)) ?_
  show own_Fin p e below _ (s₁.setTop (mkF m 6 #[.val (.ref a1), .val (.ref a2), .val (.int (2 : Int32)), .val (.int (1 : Int32)), .unset] [(.int (1 : Int32))]))
  exact own_out X0 (fun h => by rw [Bd.returns] at h; cases h) Bd.notSynchronized (fun fs hr => retN X0 hx (t := .boolean) Bd.returns (by simp) (hb hby d5_6) hr) ⟨rfl, N0, e0⟩ (by decide) (by decide)
theorem ef_5s31 (m : MethodId) (x0 : Addr) (x1 : Addr) (x2 : Int32) (x3 : Int32)  : entryFrame m #[(.ref x0), (.ref x1), (.int x2), (.int x3)] 5 = mkF m 0 #[.val (.ref x0), .val (.ref x1), .val (.int x2), .val (.int x3), .unset] [] := by first | (simp [entryFrame, mkF, argsToLocals, Value.category]; done) | rfl
set_option maxRecDepth 65536 in
set_option maxHeartbeats 40000000 in
theorem rm5s31 (l : Launch) (Z : State) (a0 : Array Value) (hw : ∀ d ∈ tables_1, d.before a0 Z = true) (ws : List Jvm.Cond) (a1 : Addr) (a2 : Addr) (k1 k2 : ClassId) (d0 d1 d2 d3 : Int32) (h0 : Heap) (n0 : Nat) (Z0 : n0 ≤ h0.size) (V_1 : Arv Z h0 a1 k1 .byte (1 : Int32) [(.int (nar .byte (((d0 + (1 : Int32)).toInt8.toInt32))))] (.int (0 : Int32))) (V_2 : Arv Z h0 a2 k2 .byte (4 : Int32) [(.int d0), (.int d1), (.int d2), (.int d3)] (.int (0 : Int32))) :
    MetFree l (⟨"com/example/keyslice/keyslice/storage/KeyRangeAfterPinLaw", "slot", "([B[BII)Z"⟩ : MethodName) (head1 (Jvm.Cond.code (⟨"com/example/keyslice/keyslice/storage/KeyRangeAfterPinLaw", "slot", "([B[BII)Z"⟩ : MethodName) method_4_code 5 (some .boolean) :: ws) ({ frames := 0, cells := 0, slots := 0, locals := 0 } : Room)) (fun a U => a = #[(.ref a1), (.ref a2), (.int (3 : Int32)), (.int (1 : Int32))] ∧ Z.Warmed39 U.vm ∧ U.heap = h0) (fun _ _ _ _ _ => True) (fun _ U o U' => ∃ v L, o = .returned v ∧ (own_P h0 n0 (.int (1 : Int32))) v U'.heap L ∧ FrameEnd U o U' L ({ frames := 0, cells := 0, slots := 0, locals := 0 } : Room).cells ({ frames := 0, cells := 0, slots := 0, locals := 0 } : Room).slots) := by
  refine MetFree.of_bodySF (plainFor_of_name pn_0) hisR ?_
  intro p e s m args below meth c s₁ Bd hml0 hP hK
  obtain ⟨rfl, hZ, hh⟩ := hP
  have hx := Bd.exec
  have hby := Bd.bytes
  have hml : c.maxLocals = 5 := hml0
  have hown : s.vm.findClass "com/example/keyslice/keyslice/storage/KeyRangeAfterPinLaw" = some m.cls := findClass_of_methodNamed Bd.named
  have hnm := (name_of_methodNamed Bd.named Bd.method).1
  have X0 : Stand p l e ({ frames := 0, cells := 0, slots := 0, locals := 0 } : Room) s m #[(.ref a1), (.ref a2), (.int (3 : Int32)), (.int (1 : Int32))] below meth c s₁ [] 0 0 := Stand.of_body Bd
  have e0 : s₁.heap = h0 := by rw [← hh, Bd.state]; rfl
  have N0 := Fr.nil n0
  show own_Fin p e below (own_A s ({ frames := 0, cells := 0, slots := 0, locals := 0 } : Room).cells ({ frames := 0, cells := 0, slots := 0, locals := 0 } : Room).slots (own_P h0 n0 (.int (1 : Int32)))) _
  refine own_go (fun t k => castTop (ef_5s31 m (a1) (a2) ((3 : Int32)) ((1 : Int32))) k) ?_
  show own_Fin p e below _ (s₁.setTop (mkF m 0 #[.val (.ref a1), .val (.ref a2), .val (.int (3 : Int32)), .val (.int (1 : Int32)), .unset] []))
  refine own_go (fun t k => XS.iloadN X0.here hx rfl (hb hby d5_0) rfl  (XS.iloadN X0.here hx rfl (hb hby d5_1) rfl  k)) ?_
  show own_Fin p e below _ (s₁.setTop (mkF m 2 #[.val (.ref a1), .val (.ref a2), .val (.int (3 : Int32)), .val (.int (1 : Int32)), .unset] [(.int (1 : Int32)), (.int (3 : Int32))]))
  refine own_go (fun t k => XS.icmpNo X0.here hx rfl (hb hby d5_2) rfl (flt (by decide : ¬ ((3 : Int32) < (1 : Int32)))).1 (XS.iconst X0.here hx rfl (hb hby d5_5) k)) ?_
  show own_Fin p e below _ (s₁.setTop (mkF m 6 #[.val (.ref a1), .val (.ref a2), .val (.int (3 : Int32)), .val (.int (1 : Int32)), .unset] [(.int (1 : Int32))]))
  exact own_out X0 (fun h => by rw [Bd.returns] at h; cases h) Bd.notSynchronized (fun fs hr => retN X0 hx (t := .boolean) Bd.returns (by simp) (hb hby d5_6) hr) ⟨rfl, N0, e0⟩ (by decide) (by decide)
theorem d5_23 : decode method_4_code 23 = .ok (.aload_n 1, 1) := by decide +kernel
theorem d5_24 : decode method_4_code 24 = .ok (.iload_n 2, 1) := by decide +kernel
theorem d5_25 : decode method_4_code 25 = .ok (.baload, 1) := by decide +kernel
theorem ef_5s02 (m : MethodId) (x0 : Addr) (x1 : Addr) (x2 : Int32) (x3 : Int32)  : entryFrame m #[(.ref x0), (.ref x1), (.int x2), (.int x3)] 5 = mkF m 0 #[.val (.ref x0), .val (.ref x1), .val (.int x2), .val (.int x3), .unset] [] := by first | (simp [entryFrame, mkF, argsToLocals, Value.category]; done) | rfl
set_option maxRecDepth 65536 in
set_option maxHeartbeats 40000000 in
theorem rm5s02 (l : Launch) (Z : State) (a0 : Array Value) (hw : ∀ d ∈ tables_1, d.before a0 Z = true) (ws : List Jvm.Cond) (a1 : Addr) (a2 : Addr) (k1 k2 : ClassId) (d0 d1 d2 d3 : Int32) (h0 : Heap) (n0 : Nat) (Z0 : n0 ≤ h0.size) (V_1 : Arv Z h0 a1 k1 .byte (2 : Int32) [(.int d0), (.int (nar .byte (((d1 + (1 : Int32)).toInt8.toInt32))))] (.int (0 : Int32))) (V_2 : Arv Z h0 a2 k2 .byte (4 : Int32) [(.int d0), (.int d1), (.int d2), (.int d3)] (.int (0 : Int32))) :
    MetFree l (⟨"com/example/keyslice/keyslice/storage/KeyRangeAfterPinLaw", "slot", "([B[BII)Z"⟩ : MethodName) (head1 (Jvm.Cond.code (⟨"com/example/keyslice/keyslice/storage/KeyRangeAfterPinLaw", "slot", "([B[BII)Z"⟩ : MethodName) method_4_code 5 (some .boolean) :: ws) ({ frames := 0, cells := 0, slots := 0, locals := 0 } : Room)) (fun a U => a = #[(.ref a1), (.ref a2), (.int (0 : Int32)), (.int (2 : Int32))] ∧ Z.Warmed39 U.vm ∧ U.heap = h0) (fun _ _ _ _ _ => True) (fun _ U o U' => ∃ v L, o = .returned v ∧ (own_P h0 n0 (.int (1 : Int32))) v U'.heap L ∧ FrameEnd U o U' L ({ frames := 0, cells := 0, slots := 0, locals := 0 } : Room).cells ({ frames := 0, cells := 0, slots := 0, locals := 0 } : Room).slots) := by
  refine MetFree.of_bodySF (plainFor_of_name pn_0) hisR ?_
  intro p e s m args below meth c s₁ Bd hml0 hP hK
  obtain ⟨rfl, hZ, hh⟩ := hP
  have hx := Bd.exec
  have hby := Bd.bytes
  have hml : c.maxLocals = 5 := hml0
  have hown : s.vm.findClass "com/example/keyslice/keyslice/storage/KeyRangeAfterPinLaw" = some m.cls := findClass_of_methodNamed Bd.named
  have hnm := (name_of_methodNamed Bd.named Bd.method).1
  have X0 : Stand p l e ({ frames := 0, cells := 0, slots := 0, locals := 0 } : Room) s m #[(.ref a1), (.ref a2), (.int (0 : Int32)), (.int (2 : Int32))] below meth c s₁ [] 0 0 := Stand.of_body Bd
  have e0 : s₁.heap = h0 := by rw [← hh, Bd.state]; rfl
  have N0 := Fr.nil n0
  show own_Fin p e below (own_A s ({ frames := 0, cells := 0, slots := 0, locals := 0 } : Room).cells ({ frames := 0, cells := 0, slots := 0, locals := 0 } : Room).slots (own_P h0 n0 (.int (1 : Int32)))) _
  refine own_go (fun t k => castTop (ef_5s02 m (a1) (a2) ((0 : Int32)) ((2 : Int32))) k) ?_
  show own_Fin p e below _ (s₁.setTop (mkF m 0 #[.val (.ref a1), .val (.ref a2), .val (.int (0 : Int32)), .val (.int (2 : Int32)), .unset] []))
  refine own_go (fun t k => XS.iloadN X0.here hx rfl (hb hby d5_0) rfl  (XS.iloadN X0.here hx rfl (hb hby d5_1) rfl  k)) ?_
  show own_Fin p e below _ (s₁.setTop (mkF m 2 #[.val (.ref a1), .val (.ref a2), .val (.int (0 : Int32)), .val (.int (2 : Int32)), .unset] [(.int (2 : Int32)), (.int (0 : Int32))]))
  refine own_go (fun t k => XS.icmpYes X0.here hx rfl (pc0 := 2) (pc' := 7) rfl (hb hby d5_2) rfl (tlt (by decide : (0 : Int32) < (2 : Int32))).1 (by decide) (by decide) (XS.iloadN X0.here hx rfl (hb hby d5_7) rfl  (XS.iloadN X0.here hx rfl (hb hby d5_8) rfl  (XS.iconst X0.here hx rfl (hb hby d5_9) (XS.isub X0.here hx rfl (hb hby d5_10) rfl k))))) ?_
  show own_Fin p e below _ (s₁.setTop (mkF m 11 #[.val (.ref a1), .val (.ref a2), .val (.int (0 : Int32)), .val (.int (2 : Int32)), .unset] [(.int (1 : Int32)), (.int (0 : Int32))]))
  refine own_go (fun t k => XS.icmpYes X0.here hx rfl (pc0 := 11) (pc' := 23) rfl (hb hby d5_11) rfl (feq (by decide : ¬ ((0 : Int32) = (1 : Int32)))).2 (by decide) (by decide) (XS.aloadN X0.here hx rfl (hb hby d5_23) rfl rfl  (XS.iloadN X0.here hx rfl (hb hby d5_24) rfl  k))) ?_
  show own_Fin p e below _ (s₁.setTop (mkF m 25 #[.val (.ref a1), .val (.ref a2), .val (.int (0 : Int32)), .val (.int (2 : Int32)), .unset] [(.int (0 : Int32)), (.ref a2)]))
  obtain ⟨cl1, Ar1, q1, S1, M1, H1, G1⟩ := (id V_2)
  have hin1 : ¬ ((0 : Int32) < 0 ∨ cl1.slots.size ≤ ((0 : Int32)).toNatClampNeg) := inb_of S1 ⟨by decide, by decide⟩
  have hat1 : cl1.slots[((0 : Int32)).toNatClampNeg]? = some (.int d0) := H1.at hin1 rfl
  refine own_go (fun t k => X0.baloadBytes hx (j := (0 : Int32)) (v := (.int d0)) (by rw [e0]; exact Ar1.1) (State.isArrayOf_alike hZ.alike Ar1.2.1) Ar1.2.2 hin1 hat1 (g := (mkF m 25 #[.val (.ref a1), .val (.ref a2), .val (.int (0 : Int32)), .val (.int (2 : Int32)), .unset] [(.int (0 : Int32)), (.ref a2)])) rfl rfl (hb hby d5_25) _ (XS.istore X0.here hx rfl (hb hby d5_26) rfl (l' := #[.val (.ref a1), .val (.ref a2), .val (.int (0 : Int32)), .val (.int (2 : Int32)), .val (.int d0)]) rfl (XS.aloadN X0.here hx rfl (hb hby d5_28) rfl rfl  (XS.iloadN X0.here hx rfl (hb hby d5_29) rfl  k)))) ?_
  show own_Fin p e below _ (s₁.setTop (mkF m 30 #[.val (.ref a1), .val (.ref a2), .val (.int (0 : Int32)), .val (.int (2 : Int32)), .val (.int d0)] [(.int (0 : Int32)), (.ref a1)]))
  obtain ⟨cl2, Ar2, q2, S2, M2, H2, G2⟩ := (id V_1)
  have hin2 : ¬ ((0 : Int32) < 0 ∨ cl2.slots.size ≤ ((0 : Int32)).toNatClampNeg) := inb_of S2 ⟨by decide, by decide⟩
  have hat2 : cl2.slots[((0 : Int32)).toNatClampNeg]? = some (.int d0) := H2.at hin2 rfl
  refine own_go (fun t k => X0.baloadBytes hx (j := (0 : Int32)) (v := (.int d0)) (by rw [e0]; exact Ar2.1) (State.isArrayOf_alike hZ.alike Ar2.2.1) Ar2.2.2 hin2 hat2 (g := (mkF m 30 #[.val (.ref a1), .val (.ref a2), .val (.int (0 : Int32)), .val (.int (2 : Int32)), .val (.int d0)] [(.int (0 : Int32)), (.ref a1)])) rfl rfl (hb hby d5_30) _ (XS.iload X0.here hx rfl (hb hby d5_31) rfl  k)) ?_
  show own_Fin p e below _ (s₁.setTop (mkF m 33 #[.val (.ref a1), .val (.ref a2), .val (.int (0 : Int32)), .val (.int (2 : Int32)), .val (.int d0)] [(.int d0), (.int d0)]))
  refine own_go (fun t k => XS.icmpNo X0.here hx rfl (hb hby d5_33) rfl (teq rfl).2 (XS.iconst X0.here hx rfl (hb hby d5_36) (XS.goto X0.here hx rfl (pc0 := 37) (pc' := 41) rfl (hb hby d5_37) (by decide) (by decide) k))) ?_
  show own_Fin p e below _ (s₁.setTop (mkF m 41 #[.val (.ref a1), .val (.ref a2), .val (.int (0 : Int32)), .val (.int (2 : Int32)), .val (.int d0)] [(.int (1 : Int32))]))
  exact own_out X0 (fun h => by rw [Bd.returns] at h; cases h) Bd.notSynchronized (fun fs hr => retN X0 hx (t := .boolean) Bd.returns (by simp) (hb hby d5_41) hr) ⟨rfl, N0, e0⟩ (by decide) (by decide)
theorem ef_5s12 (m : MethodId) (x0 : Addr) (x1 : Addr) (x2 : Int32) (x3 : Int32)  : entryFrame m #[(.ref x0), (.ref x1), (.int x2), (.int x3)] 5 = mkF m 0 #[.val (.ref x0), .val (.ref x1), .val (.int x2), .val (.int x3), .unset] [] := by first | (simp [entryFrame, mkF, argsToLocals, Value.category]; done) | rfl
set_option maxRecDepth 65536 in
set_option maxHeartbeats 40000000 in
theorem rm5s12 (l : Launch) (Z : State) (a0 : Array Value) (hw : ∀ d ∈ tables_1, d.before a0 Z = true) (ws : List Jvm.Cond) (a1 : Addr) (a2 : Addr) (k1 k2 : ClassId) (d0 d1 d2 d3 : Int32) (h0 : Heap) (n0 : Nat) (Z0 : n0 ≤ h0.size) (V_1 : Arv Z h0 a1 k1 .byte (2 : Int32) [(.int d0), (.int (nar .byte (((d1 + (1 : Int32)).toInt8.toInt32))))] (.int (0 : Int32))) (V_2 : Arv Z h0 a2 k2 .byte (4 : Int32) [(.int d0), (.int d1), (.int d2), (.int d3)] (.int (0 : Int32))) :
    MetFree l (⟨"com/example/keyslice/keyslice/storage/KeyRangeAfterPinLaw", "slot", "([B[BII)Z"⟩ : MethodName) (head1 (Jvm.Cond.code (⟨"com/example/keyslice/keyslice/storage/KeyRangeAfterPinLaw", "slot", "([B[BII)Z"⟩ : MethodName) method_4_code 5 (some .boolean) :: ws) ({ frames := 0, cells := 0, slots := 0, locals := 0 } : Room)) (fun a U => a = #[(.ref a1), (.ref a2), (.int (1 : Int32)), (.int (2 : Int32))] ∧ Z.Warmed39 U.vm ∧ U.heap = h0) (fun _ _ _ _ _ => True) (fun _ U o U' => ∃ v L, o = .returned v ∧ (own_P h0 n0 (.int (1 : Int32))) v U'.heap L ∧ FrameEnd U o U' L ({ frames := 0, cells := 0, slots := 0, locals := 0 } : Room).cells ({ frames := 0, cells := 0, slots := 0, locals := 0 } : Room).slots) := by
  refine MetFree.of_bodySF (plainFor_of_name pn_0) hisR ?_
  intro p e s m args below meth c s₁ Bd hml0 hP hK
  obtain ⟨rfl, hZ, hh⟩ := hP
  have hx := Bd.exec
  have hby := Bd.bytes
  have hml : c.maxLocals = 5 := hml0
  have hown : s.vm.findClass "com/example/keyslice/keyslice/storage/KeyRangeAfterPinLaw" = some m.cls := findClass_of_methodNamed Bd.named
  have hnm := (name_of_methodNamed Bd.named Bd.method).1
  have X0 : Stand p l e ({ frames := 0, cells := 0, slots := 0, locals := 0 } : Room) s m #[(.ref a1), (.ref a2), (.int (1 : Int32)), (.int (2 : Int32))] below meth c s₁ [] 0 0 := Stand.of_body Bd
  have e0 : s₁.heap = h0 := by rw [← hh, Bd.state]; rfl
  have N0 := Fr.nil n0
  show own_Fin p e below (own_A s ({ frames := 0, cells := 0, slots := 0, locals := 0 } : Room).cells ({ frames := 0, cells := 0, slots := 0, locals := 0 } : Room).slots (own_P h0 n0 (.int (1 : Int32)))) _
  refine own_go (fun t k => castTop (ef_5s12 m (a1) (a2) ((1 : Int32)) ((2 : Int32))) k) ?_
  show own_Fin p e below _ (s₁.setTop (mkF m 0 #[.val (.ref a1), .val (.ref a2), .val (.int (1 : Int32)), .val (.int (2 : Int32)), .unset] []))
  refine own_go (fun t k => XS.iloadN X0.here hx rfl (hb hby d5_0) rfl  (XS.iloadN X0.here hx rfl (hb hby d5_1) rfl  k)) ?_
  show own_Fin p e below _ (s₁.setTop (mkF m 2 #[.val (.ref a1), .val (.ref a2), .val (.int (1 : Int32)), .val (.int (2 : Int32)), .unset] [(.int (2 : Int32)), (.int (1 : Int32))]))
  refine own_go (fun t k => XS.icmpYes X0.here hx rfl (pc0 := 2) (pc' := 7) rfl (hb hby d5_2) rfl (tlt (by decide : (1 : Int32) < (2 : Int32))).1 (by decide) (by decide) (XS.iloadN X0.here hx rfl (hb hby d5_7) rfl  (XS.iloadN X0.here hx rfl (hb hby d5_8) rfl  (XS.iconst X0.here hx rfl (hb hby d5_9) (XS.isub X0.here hx rfl (hb hby d5_10) rfl k))))) ?_
  show own_Fin p e below _ (s₁.setTop (mkF m 11 #[.val (.ref a1), .val (.ref a2), .val (.int (1 : Int32)), .val (.int (2 : Int32)), .unset] [(.int (1 : Int32)), (.int (1 : Int32))]))
  refine own_go (fun t k => XS.icmpNo X0.here hx rfl (hb hby d5_11) rfl (teq (by decide : (1 : Int32) = (1 : Int32))).2 (XS.aloadN X0.here hx rfl (hb hby d5_14) rfl rfl  (XS.iloadN X0.here hx rfl (hb hby d5_15) rfl  k))) ?_
  show own_Fin p e below _ (s₁.setTop (mkF m 16 #[.val (.ref a1), .val (.ref a2), .val (.int (1 : Int32)), .val (.int (2 : Int32)), .unset] [(.int (1 : Int32)), (.ref a2)]))
  obtain ⟨cl1, Ar1, q1, S1, M1, H1, G1⟩ := (id V_2)
  have hin1 : ¬ ((1 : Int32) < 0 ∨ cl1.slots.size ≤ ((1 : Int32)).toNatClampNeg) := inb_of S1 ⟨by decide, by decide⟩
  have hat1 : cl1.slots[((1 : Int32)).toNatClampNeg]? = some (.int d1) := H1.at hin1 rfl
  refine own_go (fun t k => X0.baloadBytes hx (j := (1 : Int32)) (v := (.int d1)) (by rw [e0]; exact Ar1.1) (State.isArrayOf_alike hZ.alike Ar1.2.1) Ar1.2.2 hin1 hat1 (g := (mkF m 16 #[.val (.ref a1), .val (.ref a2), .val (.int (1 : Int32)), .val (.int (2 : Int32)), .unset] [(.int (1 : Int32)), (.ref a2)])) rfl rfl (hb hby d5_16) _ (XS.iconst X0.here hx rfl (hb hby d5_17) (XS.iadd X0.here hx rfl (hb hby d5_18) rfl (XS.i2b X0.here hx rfl (hb hby d5_19) rfl (XS.goto X0.here hx rfl (pc0 := 20) (pc' := 26) rfl (hb hby d5_20) (by decide) (by decide) k))))) ?_
  show own_Fin p e below _ (s₁.setTop (mkF m 26 #[.val (.ref a1), .val (.ref a2), .val (.int (1 : Int32)), .val (.int (2 : Int32)), .unset] [(.int ((d1 + (1 : Int32)).toInt8.toInt32))]))
  refine own_go (fun t k => XS.istore X0.here hx rfl (hb hby d5_26) rfl (l' := #[.val (.ref a1), .val (.ref a2), .val (.int (1 : Int32)), .val (.int (2 : Int32)), .val (.int ((d1 + (1 : Int32)).toInt8.toInt32))]) rfl (XS.aloadN X0.here hx rfl (hb hby d5_28) rfl rfl  (XS.iloadN X0.here hx rfl (hb hby d5_29) rfl  k))) ?_
  show own_Fin p e below _ (s₁.setTop (mkF m 30 #[.val (.ref a1), .val (.ref a2), .val (.int (1 : Int32)), .val (.int (2 : Int32)), .val (.int ((d1 + (1 : Int32)).toInt8.toInt32))] [(.int (1 : Int32)), (.ref a1)]))
  obtain ⟨cl2, Ar2, q2, S2, M2, H2, G2⟩ := (id V_1)
  have hin2 : ¬ ((1 : Int32) < 0 ∨ cl2.slots.size ≤ ((1 : Int32)).toNatClampNeg) := inb_of S2 ⟨by decide, by decide⟩
  have hat2 : cl2.slots[((1 : Int32)).toNatClampNeg]? = some (.int (nar .byte (((d1 + (1 : Int32)).toInt8.toInt32)))) := H2.at hin2 rfl
  refine own_go (fun t k => X0.baloadBytes hx (j := (1 : Int32)) (v := (.int (nar .byte (((d1 + (1 : Int32)).toInt8.toInt32))))) (by rw [e0]; exact Ar2.1) (State.isArrayOf_alike hZ.alike Ar2.2.1) Ar2.2.2 hin2 hat2 (g := (mkF m 30 #[.val (.ref a1), .val (.ref a2), .val (.int (1 : Int32)), .val (.int (2 : Int32)), .val (.int ((d1 + (1 : Int32)).toInt8.toInt32))] [(.int (1 : Int32)), (.ref a1)])) rfl rfl (hb hby d5_30) _ (XS.iload X0.here hx rfl (hb hby d5_31) rfl  k)) ?_
  show own_Fin p e below _ (s₁.setTop (mkF m 33 #[.val (.ref a1), .val (.ref a2), .val (.int (1 : Int32)), .val (.int (2 : Int32)), .val (.int ((d1 + (1 : Int32)).toInt8.toInt32))] [(.int ((d1 + (1 : Int32)).toInt8.toInt32)), (.int (nar .byte (((d1 + (1 : Int32)).toInt8.toInt32))))]))
  refine own_go (fun t k => XS.icmpNo X0.here hx rfl (hb hby d5_33) rfl (teq (own_nb _)).2 (XS.iconst X0.here hx rfl (hb hby d5_36) (XS.goto X0.here hx rfl (pc0 := 37) (pc' := 41) rfl (hb hby d5_37) (by decide) (by decide) k))) ?_
  show own_Fin p e below _ (s₁.setTop (mkF m 41 #[.val (.ref a1), .val (.ref a2), .val (.int (1 : Int32)), .val (.int (2 : Int32)), .val (.int ((d1 + (1 : Int32)).toInt8.toInt32))] [(.int (1 : Int32))]))
  exact own_out X0 (fun h => by rw [Bd.returns] at h; cases h) Bd.notSynchronized (fun fs hr => retN X0 hx (t := .boolean) Bd.returns (by simp) (hb hby d5_41) hr) ⟨rfl, N0, e0⟩ (by decide) (by decide)
theorem ef_5s22 (m : MethodId) (x0 : Addr) (x1 : Addr) (x2 : Int32) (x3 : Int32)  : entryFrame m #[(.ref x0), (.ref x1), (.int x2), (.int x3)] 5 = mkF m 0 #[.val (.ref x0), .val (.ref x1), .val (.int x2), .val (.int x3), .unset] [] := by first | (simp [entryFrame, mkF, argsToLocals, Value.category]; done) | rfl
set_option maxRecDepth 65536 in
set_option maxHeartbeats 40000000 in
theorem rm5s22 (l : Launch) (Z : State) (a0 : Array Value) (hw : ∀ d ∈ tables_1, d.before a0 Z = true) (ws : List Jvm.Cond) (a1 : Addr) (a2 : Addr) (k1 k2 : ClassId) (d0 d1 d2 d3 : Int32) (h0 : Heap) (n0 : Nat) (Z0 : n0 ≤ h0.size) (V_1 : Arv Z h0 a1 k1 .byte (2 : Int32) [(.int d0), (.int (nar .byte (((d1 + (1 : Int32)).toInt8.toInt32))))] (.int (0 : Int32))) (V_2 : Arv Z h0 a2 k2 .byte (4 : Int32) [(.int d0), (.int d1), (.int d2), (.int d3)] (.int (0 : Int32))) :
    MetFree l (⟨"com/example/keyslice/keyslice/storage/KeyRangeAfterPinLaw", "slot", "([B[BII)Z"⟩ : MethodName) (head1 (Jvm.Cond.code (⟨"com/example/keyslice/keyslice/storage/KeyRangeAfterPinLaw", "slot", "([B[BII)Z"⟩ : MethodName) method_4_code 5 (some .boolean) :: ws) ({ frames := 0, cells := 0, slots := 0, locals := 0 } : Room)) (fun a U => a = #[(.ref a1), (.ref a2), (.int (2 : Int32)), (.int (2 : Int32))] ∧ Z.Warmed39 U.vm ∧ U.heap = h0) (fun _ _ _ _ _ => True) (fun _ U o U' => ∃ v L, o = .returned v ∧ (own_P h0 n0 (.int (1 : Int32))) v U'.heap L ∧ FrameEnd U o U' L ({ frames := 0, cells := 0, slots := 0, locals := 0 } : Room).cells ({ frames := 0, cells := 0, slots := 0, locals := 0 } : Room).slots) := by
  refine MetFree.of_bodySF (plainFor_of_name pn_0) hisR ?_
  intro p e s m args below meth c s₁ Bd hml0 hP hK
  obtain ⟨rfl, hZ, hh⟩ := hP
  have hx := Bd.exec
  have hby := Bd.bytes
  have hml : c.maxLocals = 5 := hml0
  have hown : s.vm.findClass "com/example/keyslice/keyslice/storage/KeyRangeAfterPinLaw" = some m.cls := findClass_of_methodNamed Bd.named
  have hnm := (name_of_methodNamed Bd.named Bd.method).1
  have X0 : Stand p l e ({ frames := 0, cells := 0, slots := 0, locals := 0 } : Room) s m #[(.ref a1), (.ref a2), (.int (2 : Int32)), (.int (2 : Int32))] below meth c s₁ [] 0 0 := Stand.of_body Bd
  have e0 : s₁.heap = h0 := by rw [← hh, Bd.state]; rfl
  have N0 := Fr.nil n0
  show own_Fin p e below (own_A s ({ frames := 0, cells := 0, slots := 0, locals := 0 } : Room).cells ({ frames := 0, cells := 0, slots := 0, locals := 0 } : Room).slots (own_P h0 n0 (.int (1 : Int32)))) _
  refine own_go (fun t k => castTop (ef_5s22 m (a1) (a2) ((2 : Int32)) ((2 : Int32))) k) ?_
  show own_Fin p e below _ (s₁.setTop (mkF m 0 #[.val (.ref a1), .val (.ref a2), .val (.int (2 : Int32)), .val (.int (2 : Int32)), .unset] []))
  refine own_go (fun t k => XS.iloadN X0.here hx rfl (hb hby d5_0) rfl  (XS.iloadN X0.here hx rfl (hb hby d5_1) rfl  k)) ?_
  show own_Fin p e below _ (s₁.setTop (mkF m 2 #[.val (.ref a1), .val (.ref a2), .val (.int (2 : Int32)), .val (.int (2 : Int32)), .unset] [(.int (2 : Int32)), (.int (2 : Int32))]))
  refine own_go (fun t k => XS.icmpNo X0.here hx rfl (hb hby d5_2) rfl (flt (by decide : ¬ ((2 : Int32) < (2 : Int32)))).1 (XS.iconst X0.here hx rfl (hb hby d5_5) k)) ?_
  show own_Fin p e below _ (s₁.setTop (mkF m 6 #[.val (.ref a1), .val (.ref a2), .val (.int (2 : Int32)), .val (.int (2 : Int32)), .unset] [(.int (1 : Int32))]))
  exact own_out X0 (fun h => by rw [Bd.returns] at h; cases h) Bd.notSynchronized (fun fs hr => retN X0 hx (t := .boolean) Bd.returns (by simp) (hb hby d5_6) hr) ⟨rfl, N0, e0⟩ (by decide) (by decide)
theorem ef_5s32 (m : MethodId) (x0 : Addr) (x1 : Addr) (x2 : Int32) (x3 : Int32)  : entryFrame m #[(.ref x0), (.ref x1), (.int x2), (.int x3)] 5 = mkF m 0 #[.val (.ref x0), .val (.ref x1), .val (.int x2), .val (.int x3), .unset] [] := by first | (simp [entryFrame, mkF, argsToLocals, Value.category]; done) | rfl
set_option maxRecDepth 65536 in
set_option maxHeartbeats 40000000 in
theorem rm5s32 (l : Launch) (Z : State) (a0 : Array Value) (hw : ∀ d ∈ tables_1, d.before a0 Z = true) (ws : List Jvm.Cond) (a1 : Addr) (a2 : Addr) (k1 k2 : ClassId) (d0 d1 d2 d3 : Int32) (h0 : Heap) (n0 : Nat) (Z0 : n0 ≤ h0.size) (V_1 : Arv Z h0 a1 k1 .byte (2 : Int32) [(.int d0), (.int (nar .byte (((d1 + (1 : Int32)).toInt8.toInt32))))] (.int (0 : Int32))) (V_2 : Arv Z h0 a2 k2 .byte (4 : Int32) [(.int d0), (.int d1), (.int d2), (.int d3)] (.int (0 : Int32))) :
    MetFree l (⟨"com/example/keyslice/keyslice/storage/KeyRangeAfterPinLaw", "slot", "([B[BII)Z"⟩ : MethodName) (head1 (Jvm.Cond.code (⟨"com/example/keyslice/keyslice/storage/KeyRangeAfterPinLaw", "slot", "([B[BII)Z"⟩ : MethodName) method_4_code 5 (some .boolean) :: ws) ({ frames := 0, cells := 0, slots := 0, locals := 0 } : Room)) (fun a U => a = #[(.ref a1), (.ref a2), (.int (3 : Int32)), (.int (2 : Int32))] ∧ Z.Warmed39 U.vm ∧ U.heap = h0) (fun _ _ _ _ _ => True) (fun _ U o U' => ∃ v L, o = .returned v ∧ (own_P h0 n0 (.int (1 : Int32))) v U'.heap L ∧ FrameEnd U o U' L ({ frames := 0, cells := 0, slots := 0, locals := 0 } : Room).cells ({ frames := 0, cells := 0, slots := 0, locals := 0 } : Room).slots) := by
  refine MetFree.of_bodySF (plainFor_of_name pn_0) hisR ?_
  intro p e s m args below meth c s₁ Bd hml0 hP hK
  obtain ⟨rfl, hZ, hh⟩ := hP
  have hx := Bd.exec
  have hby := Bd.bytes
  have hml : c.maxLocals = 5 := hml0
  have hown : s.vm.findClass "com/example/keyslice/keyslice/storage/KeyRangeAfterPinLaw" = some m.cls := findClass_of_methodNamed Bd.named
  have hnm := (name_of_methodNamed Bd.named Bd.method).1
  have X0 : Stand p l e ({ frames := 0, cells := 0, slots := 0, locals := 0 } : Room) s m #[(.ref a1), (.ref a2), (.int (3 : Int32)), (.int (2 : Int32))] below meth c s₁ [] 0 0 := Stand.of_body Bd
  have e0 : s₁.heap = h0 := by rw [← hh, Bd.state]; rfl
  have N0 := Fr.nil n0
  show own_Fin p e below (own_A s ({ frames := 0, cells := 0, slots := 0, locals := 0 } : Room).cells ({ frames := 0, cells := 0, slots := 0, locals := 0 } : Room).slots (own_P h0 n0 (.int (1 : Int32)))) _
  refine own_go (fun t k => castTop (ef_5s32 m (a1) (a2) ((3 : Int32)) ((2 : Int32))) k) ?_
  show own_Fin p e below _ (s₁.setTop (mkF m 0 #[.val (.ref a1), .val (.ref a2), .val (.int (3 : Int32)), .val (.int (2 : Int32)), .unset] []))
  refine own_go (fun t k => XS.iloadN X0.here hx rfl (hb hby d5_0) rfl  (XS.iloadN X0.here hx rfl (hb hby d5_1) rfl  k)) ?_
  show own_Fin p e below _ (s₁.setTop (mkF m 2 #[.val (.ref a1), .val (.ref a2), .val (.int (3 : Int32)), .val (.int (2 : Int32)), .unset] [(.int (2 : Int32)), (.int (3 : Int32))]))
  refine own_go (fun t k => XS.icmpNo X0.here hx rfl (hb hby d5_2) rfl (flt (by decide : ¬ ((3 : Int32) < (2 : Int32)))).1 (XS.iconst X0.here hx rfl (hb hby d5_5) k)) ?_
  show own_Fin p e below _ (s₁.setTop (mkF m 6 #[.val (.ref a1), .val (.ref a2), .val (.int (3 : Int32)), .val (.int (2 : Int32)), .unset] [(.int (1 : Int32))]))
  exact own_out X0 (fun h => by rw [Bd.returns] at h; cases h) Bd.notSynchronized (fun fs hr => retN X0 hx (t := .boolean) Bd.returns (by simp) (hb hby d5_6) hr) ⟨rfl, N0, e0⟩ (by decide) (by decide)
theorem ef_5s03 (m : MethodId) (x0 : Addr) (x1 : Addr) (x2 : Int32) (x3 : Int32)  : entryFrame m #[(.ref x0), (.ref x1), (.int x2), (.int x3)] 5 = mkF m 0 #[.val (.ref x0), .val (.ref x1), .val (.int x2), .val (.int x3), .unset] [] := by first | (simp [entryFrame, mkF, argsToLocals, Value.category]; done) | rfl
set_option maxRecDepth 65536 in
set_option maxHeartbeats 40000000 in
theorem rm5s03 (l : Launch) (Z : State) (a0 : Array Value) (hw : ∀ d ∈ tables_1, d.before a0 Z = true) (ws : List Jvm.Cond) (a1 : Addr) (a2 : Addr) (k1 k2 : ClassId) (d0 d1 d2 d3 : Int32) (h0 : Heap) (n0 : Nat) (Z0 : n0 ≤ h0.size) (V_1 : Arv Z h0 a1 k1 .byte (3 : Int32) [(.int d0), (.int d1), (.int (nar .byte (((d2 + (1 : Int32)).toInt8.toInt32))))] (.int (0 : Int32))) (V_2 : Arv Z h0 a2 k2 .byte (4 : Int32) [(.int d0), (.int d1), (.int d2), (.int d3)] (.int (0 : Int32))) :
    MetFree l (⟨"com/example/keyslice/keyslice/storage/KeyRangeAfterPinLaw", "slot", "([B[BII)Z"⟩ : MethodName) (head1 (Jvm.Cond.code (⟨"com/example/keyslice/keyslice/storage/KeyRangeAfterPinLaw", "slot", "([B[BII)Z"⟩ : MethodName) method_4_code 5 (some .boolean) :: ws) ({ frames := 0, cells := 0, slots := 0, locals := 0 } : Room)) (fun a U => a = #[(.ref a1), (.ref a2), (.int (0 : Int32)), (.int (3 : Int32))] ∧ Z.Warmed39 U.vm ∧ U.heap = h0) (fun _ _ _ _ _ => True) (fun _ U o U' => ∃ v L, o = .returned v ∧ (own_P h0 n0 (.int (1 : Int32))) v U'.heap L ∧ FrameEnd U o U' L ({ frames := 0, cells := 0, slots := 0, locals := 0 } : Room).cells ({ frames := 0, cells := 0, slots := 0, locals := 0 } : Room).slots) := by
  refine MetFree.of_bodySF (plainFor_of_name pn_0) hisR ?_
  intro p e s m args below meth c s₁ Bd hml0 hP hK
  obtain ⟨rfl, hZ, hh⟩ := hP
  have hx := Bd.exec
  have hby := Bd.bytes
  have hml : c.maxLocals = 5 := hml0
  have hown : s.vm.findClass "com/example/keyslice/keyslice/storage/KeyRangeAfterPinLaw" = some m.cls := findClass_of_methodNamed Bd.named
  have hnm := (name_of_methodNamed Bd.named Bd.method).1
  have X0 : Stand p l e ({ frames := 0, cells := 0, slots := 0, locals := 0 } : Room) s m #[(.ref a1), (.ref a2), (.int (0 : Int32)), (.int (3 : Int32))] below meth c s₁ [] 0 0 := Stand.of_body Bd
  have e0 : s₁.heap = h0 := by rw [← hh, Bd.state]; rfl
  have N0 := Fr.nil n0
  show own_Fin p e below (own_A s ({ frames := 0, cells := 0, slots := 0, locals := 0 } : Room).cells ({ frames := 0, cells := 0, slots := 0, locals := 0 } : Room).slots (own_P h0 n0 (.int (1 : Int32)))) _
  refine own_go (fun t k => castTop (ef_5s03 m (a1) (a2) ((0 : Int32)) ((3 : Int32))) k) ?_
  show own_Fin p e below _ (s₁.setTop (mkF m 0 #[.val (.ref a1), .val (.ref a2), .val (.int (0 : Int32)), .val (.int (3 : Int32)), .unset] []))
  refine own_go (fun t k => XS.iloadN X0.here hx rfl (hb hby d5_0) rfl  (XS.iloadN X0.here hx rfl (hb hby d5_1) rfl  k)) ?_
  show own_Fin p e below _ (s₁.setTop (mkF m 2 #[.val (.ref a1), .val (.ref a2), .val (.int (0 : Int32)), .val (.int (3 : Int32)), .unset] [(.int (3 : Int32)), (.int (0 : Int32))]))
  refine own_go (fun t k => XS.icmpYes X0.here hx rfl (pc0 := 2) (pc' := 7) rfl (hb hby d5_2) rfl (tlt (by decide : (0 : Int32) < (3 : Int32))).1 (by decide) (by decide) (XS.iloadN X0.here hx rfl (hb hby d5_7) rfl  (XS.iloadN X0.here hx rfl (hb hby d5_8) rfl  (XS.iconst X0.here hx rfl (hb hby d5_9) (XS.isub X0.here hx rfl (hb hby d5_10) rfl k))))) ?_
  show own_Fin p e below _ (s₁.setTop (mkF m 11 #[.val (.ref a1), .val (.ref a2), .val (.int (0 : Int32)), .val (.int (3 : Int32)), .unset] [(.int (2 : Int32)), (.int (0 : Int32))]))
  refine own_go (fun t k => XS.icmpYes X0.here hx rfl (pc0 := 11) (pc' := 23) rfl (hb hby d5_11) rfl (feq (by decide : ¬ ((0 : Int32) = (2 : Int32)))).2 (by decide) (by decide) (XS.aloadN X0.here hx rfl (hb hby d5_23) rfl rfl  (XS.iloadN X0.here hx rfl (hb hby d5_24) rfl  k))) ?_
  show own_Fin p e below _ (s₁.setTop (mkF m 25 #[.val (.ref a1), .val (.ref a2), .val (.int (0 : Int32)), .val (.int (3 : Int32)), .unset] [(.int (0 : Int32)), (.ref a2)]))
  obtain ⟨cl1, Ar1, q1, S1, M1, H1, G1⟩ := (id V_2)
  have hin1 : ¬ ((0 : Int32) < 0 ∨ cl1.slots.size ≤ ((0 : Int32)).toNatClampNeg) := inb_of S1 ⟨by decide, by decide⟩
  have hat1 : cl1.slots[((0 : Int32)).toNatClampNeg]? = some (.int d0) := H1.at hin1 rfl
  refine own_go (fun t k => X0.baloadBytes hx (j := (0 : Int32)) (v := (.int d0)) (by rw [e0]; exact Ar1.1) (State.isArrayOf_alike hZ.alike Ar1.2.1) Ar1.2.2 hin1 hat1 (g := (mkF m 25 #[.val (.ref a1), .val (.ref a2), .val (.int (0 : Int32)), .val (.int (3 : Int32)), .unset] [(.int (0 : Int32)), (.ref a2)])) rfl rfl (hb hby d5_25) _ (XS.istore X0.here hx rfl (hb hby d5_26) rfl (l' := #[.val (.ref a1), .val (.ref a2), .val (.int (0 : Int32)), .val (.int (3 : Int32)), .val (.int d0)]) rfl (XS.aloadN X0.here hx rfl (hb hby d5_28) rfl rfl  (XS.iloadN X0.here hx rfl (hb hby d5_29) rfl  k)))) ?_
  show own_Fin p e below _ (s₁.setTop (mkF m 30 #[.val (.ref a1), .val (.ref a2), .val (.int (0 : Int32)), .val (.int (3 : Int32)), .val (.int d0)] [(.int (0 : Int32)), (.ref a1)]))
  obtain ⟨cl2, Ar2, q2, S2, M2, H2, G2⟩ := (id V_1)
  have hin2 : ¬ ((0 : Int32) < 0 ∨ cl2.slots.size ≤ ((0 : Int32)).toNatClampNeg) := inb_of S2 ⟨by decide, by decide⟩
  have hat2 : cl2.slots[((0 : Int32)).toNatClampNeg]? = some (.int d0) := H2.at hin2 rfl
  refine own_go (fun t k => X0.baloadBytes hx (j := (0 : Int32)) (v := (.int d0)) (by rw [e0]; exact Ar2.1) (State.isArrayOf_alike hZ.alike Ar2.2.1) Ar2.2.2 hin2 hat2 (g := (mkF m 30 #[.val (.ref a1), .val (.ref a2), .val (.int (0 : Int32)), .val (.int (3 : Int32)), .val (.int d0)] [(.int (0 : Int32)), (.ref a1)])) rfl rfl (hb hby d5_30) _ (XS.iload X0.here hx rfl (hb hby d5_31) rfl  k)) ?_
  show own_Fin p e below _ (s₁.setTop (mkF m 33 #[.val (.ref a1), .val (.ref a2), .val (.int (0 : Int32)), .val (.int (3 : Int32)), .val (.int d0)] [(.int d0), (.int d0)]))
  refine own_go (fun t k => XS.icmpNo X0.here hx rfl (hb hby d5_33) rfl (teq rfl).2 (XS.iconst X0.here hx rfl (hb hby d5_36) (XS.goto X0.here hx rfl (pc0 := 37) (pc' := 41) rfl (hb hby d5_37) (by decide) (by decide) k))) ?_
  show own_Fin p e below _ (s₁.setTop (mkF m 41 #[.val (.ref a1), .val (.ref a2), .val (.int (0 : Int32)), .val (.int (3 : Int32)), .val (.int d0)] [(.int (1 : Int32))]))
  exact own_out X0 (fun h => by rw [Bd.returns] at h; cases h) Bd.notSynchronized (fun fs hr => retN X0 hx (t := .boolean) Bd.returns (by simp) (hb hby d5_41) hr) ⟨rfl, N0, e0⟩ (by decide) (by decide)
theorem ef_5s13 (m : MethodId) (x0 : Addr) (x1 : Addr) (x2 : Int32) (x3 : Int32)  : entryFrame m #[(.ref x0), (.ref x1), (.int x2), (.int x3)] 5 = mkF m 0 #[.val (.ref x0), .val (.ref x1), .val (.int x2), .val (.int x3), .unset] [] := by first | (simp [entryFrame, mkF, argsToLocals, Value.category]; done) | rfl
set_option maxRecDepth 65536 in
set_option maxHeartbeats 40000000 in
theorem rm5s13 (l : Launch) (Z : State) (a0 : Array Value) (hw : ∀ d ∈ tables_1, d.before a0 Z = true) (ws : List Jvm.Cond) (a1 : Addr) (a2 : Addr) (k1 k2 : ClassId) (d0 d1 d2 d3 : Int32) (h0 : Heap) (n0 : Nat) (Z0 : n0 ≤ h0.size) (V_1 : Arv Z h0 a1 k1 .byte (3 : Int32) [(.int d0), (.int d1), (.int (nar .byte (((d2 + (1 : Int32)).toInt8.toInt32))))] (.int (0 : Int32))) (V_2 : Arv Z h0 a2 k2 .byte (4 : Int32) [(.int d0), (.int d1), (.int d2), (.int d3)] (.int (0 : Int32))) :
    MetFree l (⟨"com/example/keyslice/keyslice/storage/KeyRangeAfterPinLaw", "slot", "([B[BII)Z"⟩ : MethodName) (head1 (Jvm.Cond.code (⟨"com/example/keyslice/keyslice/storage/KeyRangeAfterPinLaw", "slot", "([B[BII)Z"⟩ : MethodName) method_4_code 5 (some .boolean) :: ws) ({ frames := 0, cells := 0, slots := 0, locals := 0 } : Room)) (fun a U => a = #[(.ref a1), (.ref a2), (.int (1 : Int32)), (.int (3 : Int32))] ∧ Z.Warmed39 U.vm ∧ U.heap = h0) (fun _ _ _ _ _ => True) (fun _ U o U' => ∃ v L, o = .returned v ∧ (own_P h0 n0 (.int (1 : Int32))) v U'.heap L ∧ FrameEnd U o U' L ({ frames := 0, cells := 0, slots := 0, locals := 0 } : Room).cells ({ frames := 0, cells := 0, slots := 0, locals := 0 } : Room).slots) := by
  refine MetFree.of_bodySF (plainFor_of_name pn_0) hisR ?_
  intro p e s m args below meth c s₁ Bd hml0 hP hK
  obtain ⟨rfl, hZ, hh⟩ := hP
  have hx := Bd.exec
  have hby := Bd.bytes
  have hml : c.maxLocals = 5 := hml0
  have hown : s.vm.findClass "com/example/keyslice/keyslice/storage/KeyRangeAfterPinLaw" = some m.cls := findClass_of_methodNamed Bd.named
  have hnm := (name_of_methodNamed Bd.named Bd.method).1
  have X0 : Stand p l e ({ frames := 0, cells := 0, slots := 0, locals := 0 } : Room) s m #[(.ref a1), (.ref a2), (.int (1 : Int32)), (.int (3 : Int32))] below meth c s₁ [] 0 0 := Stand.of_body Bd
  have e0 : s₁.heap = h0 := by rw [← hh, Bd.state]; rfl
  have N0 := Fr.nil n0
  show own_Fin p e below (own_A s ({ frames := 0, cells := 0, slots := 0, locals := 0 } : Room).cells ({ frames := 0, cells := 0, slots := 0, locals := 0 } : Room).slots (own_P h0 n0 (.int (1 : Int32)))) _
  refine own_go (fun t k => castTop (ef_5s13 m (a1) (a2) ((1 : Int32)) ((3 : Int32))) k) ?_
  show own_Fin p e below _ (s₁.setTop (mkF m 0 #[.val (.ref a1), .val (.ref a2), .val (.int (1 : Int32)), .val (.int (3 : Int32)), .unset] []))
  refine own_go (fun t k => XS.iloadN X0.here hx rfl (hb hby d5_0) rfl  (XS.iloadN X0.here hx rfl (hb hby d5_1) rfl  k)) ?_
  show own_Fin p e below _ (s₁.setTop (mkF m 2 #[.val (.ref a1), .val (.ref a2), .val (.int (1 : Int32)), .val (.int (3 : Int32)), .unset] [(.int (3 : Int32)), (.int (1 : Int32))]))
  refine own_go (fun t k => XS.icmpYes X0.here hx rfl (pc0 := 2) (pc' := 7) rfl (hb hby d5_2) rfl (tlt (by decide : (1 : Int32) < (3 : Int32))).1 (by decide) (by decide) (XS.iloadN X0.here hx rfl (hb hby d5_7) rfl  (XS.iloadN X0.here hx rfl (hb hby d5_8) rfl  (XS.iconst X0.here hx rfl (hb hby d5_9) (XS.isub X0.here hx rfl (hb hby d5_10) rfl k))))) ?_
  show own_Fin p e below _ (s₁.setTop (mkF m 11 #[.val (.ref a1), .val (.ref a2), .val (.int (1 : Int32)), .val (.int (3 : Int32)), .unset] [(.int (2 : Int32)), (.int (1 : Int32))]))
  refine own_go (fun t k => XS.icmpYes X0.here hx rfl (pc0 := 11) (pc' := 23) rfl (hb hby d5_11) rfl (feq (by decide : ¬ ((1 : Int32) = (2 : Int32)))).2 (by decide) (by decide) (XS.aloadN X0.here hx rfl (hb hby d5_23) rfl rfl  (XS.iloadN X0.here hx rfl (hb hby d5_24) rfl  k))) ?_
  show own_Fin p e below _ (s₁.setTop (mkF m 25 #[.val (.ref a1), .val (.ref a2), .val (.int (1 : Int32)), .val (.int (3 : Int32)), .unset] [(.int (1 : Int32)), (.ref a2)]))
  obtain ⟨cl1, Ar1, q1, S1, M1, H1, G1⟩ := (id V_2)
  have hin1 : ¬ ((1 : Int32) < 0 ∨ cl1.slots.size ≤ ((1 : Int32)).toNatClampNeg) := inb_of S1 ⟨by decide, by decide⟩
  have hat1 : cl1.slots[((1 : Int32)).toNatClampNeg]? = some (.int d1) := H1.at hin1 rfl
  refine own_go (fun t k => X0.baloadBytes hx (j := (1 : Int32)) (v := (.int d1)) (by rw [e0]; exact Ar1.1) (State.isArrayOf_alike hZ.alike Ar1.2.1) Ar1.2.2 hin1 hat1 (g := (mkF m 25 #[.val (.ref a1), .val (.ref a2), .val (.int (1 : Int32)), .val (.int (3 : Int32)), .unset] [(.int (1 : Int32)), (.ref a2)])) rfl rfl (hb hby d5_25) _ (XS.istore X0.here hx rfl (hb hby d5_26) rfl (l' := #[.val (.ref a1), .val (.ref a2), .val (.int (1 : Int32)), .val (.int (3 : Int32)), .val (.int d1)]) rfl (XS.aloadN X0.here hx rfl (hb hby d5_28) rfl rfl  (XS.iloadN X0.here hx rfl (hb hby d5_29) rfl  k)))) ?_
  show own_Fin p e below _ (s₁.setTop (mkF m 30 #[.val (.ref a1), .val (.ref a2), .val (.int (1 : Int32)), .val (.int (3 : Int32)), .val (.int d1)] [(.int (1 : Int32)), (.ref a1)]))
  obtain ⟨cl2, Ar2, q2, S2, M2, H2, G2⟩ := (id V_1)
  have hin2 : ¬ ((1 : Int32) < 0 ∨ cl2.slots.size ≤ ((1 : Int32)).toNatClampNeg) := inb_of S2 ⟨by decide, by decide⟩
  have hat2 : cl2.slots[((1 : Int32)).toNatClampNeg]? = some (.int d1) := H2.at hin2 rfl
  refine own_go (fun t k => X0.baloadBytes hx (j := (1 : Int32)) (v := (.int d1)) (by rw [e0]; exact Ar2.1) (State.isArrayOf_alike hZ.alike Ar2.2.1) Ar2.2.2 hin2 hat2 (g := (mkF m 30 #[.val (.ref a1), .val (.ref a2), .val (.int (1 : Int32)), .val (.int (3 : Int32)), .val (.int d1)] [(.int (1 : Int32)), (.ref a1)])) rfl rfl (hb hby d5_30) _ (XS.iload X0.here hx rfl (hb hby d5_31) rfl  k)) ?_
  show own_Fin p e below _ (s₁.setTop (mkF m 33 #[.val (.ref a1), .val (.ref a2), .val (.int (1 : Int32)), .val (.int (3 : Int32)), .val (.int d1)] [(.int d1), (.int d1)]))
  refine own_go (fun t k => XS.icmpNo X0.here hx rfl (hb hby d5_33) rfl (teq rfl).2 (XS.iconst X0.here hx rfl (hb hby d5_36) (XS.goto X0.here hx rfl (pc0 := 37) (pc' := 41) rfl (hb hby d5_37) (by decide) (by decide) k))) ?_
  show own_Fin p e below _ (s₁.setTop (mkF m 41 #[.val (.ref a1), .val (.ref a2), .val (.int (1 : Int32)), .val (.int (3 : Int32)), .val (.int d1)] [(.int (1 : Int32))]))
  exact own_out X0 (fun h => by rw [Bd.returns] at h; cases h) Bd.notSynchronized (fun fs hr => retN X0 hx (t := .boolean) Bd.returns (by simp) (hb hby d5_41) hr) ⟨rfl, N0, e0⟩ (by decide) (by decide)
theorem ef_5s23 (m : MethodId) (x0 : Addr) (x1 : Addr) (x2 : Int32) (x3 : Int32)  : entryFrame m #[(.ref x0), (.ref x1), (.int x2), (.int x3)] 5 = mkF m 0 #[.val (.ref x0), .val (.ref x1), .val (.int x2), .val (.int x3), .unset] [] := by first | (simp [entryFrame, mkF, argsToLocals, Value.category]; done) | rfl
set_option maxRecDepth 65536 in
set_option maxHeartbeats 40000000 in
theorem rm5s23 (l : Launch) (Z : State) (a0 : Array Value) (hw : ∀ d ∈ tables_1, d.before a0 Z = true) (ws : List Jvm.Cond) (a1 : Addr) (a2 : Addr) (k1 k2 : ClassId) (d0 d1 d2 d3 : Int32) (h0 : Heap) (n0 : Nat) (Z0 : n0 ≤ h0.size) (V_1 : Arv Z h0 a1 k1 .byte (3 : Int32) [(.int d0), (.int d1), (.int (nar .byte (((d2 + (1 : Int32)).toInt8.toInt32))))] (.int (0 : Int32))) (V_2 : Arv Z h0 a2 k2 .byte (4 : Int32) [(.int d0), (.int d1), (.int d2), (.int d3)] (.int (0 : Int32))) :
    MetFree l (⟨"com/example/keyslice/keyslice/storage/KeyRangeAfterPinLaw", "slot", "([B[BII)Z"⟩ : MethodName) (head1 (Jvm.Cond.code (⟨"com/example/keyslice/keyslice/storage/KeyRangeAfterPinLaw", "slot", "([B[BII)Z"⟩ : MethodName) method_4_code 5 (some .boolean) :: ws) ({ frames := 0, cells := 0, slots := 0, locals := 0 } : Room)) (fun a U => a = #[(.ref a1), (.ref a2), (.int (2 : Int32)), (.int (3 : Int32))] ∧ Z.Warmed39 U.vm ∧ U.heap = h0) (fun _ _ _ _ _ => True) (fun _ U o U' => ∃ v L, o = .returned v ∧ (own_P h0 n0 (.int (1 : Int32))) v U'.heap L ∧ FrameEnd U o U' L ({ frames := 0, cells := 0, slots := 0, locals := 0 } : Room).cells ({ frames := 0, cells := 0, slots := 0, locals := 0 } : Room).slots) := by
  refine MetFree.of_bodySF (plainFor_of_name pn_0) hisR ?_
  intro p e s m args below meth c s₁ Bd hml0 hP hK
  obtain ⟨rfl, hZ, hh⟩ := hP
  have hx := Bd.exec
  have hby := Bd.bytes
  have hml : c.maxLocals = 5 := hml0
  have hown : s.vm.findClass "com/example/keyslice/keyslice/storage/KeyRangeAfterPinLaw" = some m.cls := findClass_of_methodNamed Bd.named
  have hnm := (name_of_methodNamed Bd.named Bd.method).1
  have X0 : Stand p l e ({ frames := 0, cells := 0, slots := 0, locals := 0 } : Room) s m #[(.ref a1), (.ref a2), (.int (2 : Int32)), (.int (3 : Int32))] below meth c s₁ [] 0 0 := Stand.of_body Bd
  have e0 : s₁.heap = h0 := by rw [← hh, Bd.state]; rfl
  have N0 := Fr.nil n0
  show own_Fin p e below (own_A s ({ frames := 0, cells := 0, slots := 0, locals := 0 } : Room).cells ({ frames := 0, cells := 0, slots := 0, locals := 0 } : Room).slots (own_P h0 n0 (.int (1 : Int32)))) _
  refine own_go (fun t k => castTop (ef_5s23 m (a1) (a2) ((2 : Int32)) ((3 : Int32))) k) ?_
  show own_Fin p e below _ (s₁.setTop (mkF m 0 #[.val (.ref a1), .val (.ref a2), .val (.int (2 : Int32)), .val (.int (3 : Int32)), .unset] []))
  refine own_go (fun t k => XS.iloadN X0.here hx rfl (hb hby d5_0) rfl  (XS.iloadN X0.here hx rfl (hb hby d5_1) rfl  k)) ?_
  show own_Fin p e below _ (s₁.setTop (mkF m 2 #[.val (.ref a1), .val (.ref a2), .val (.int (2 : Int32)), .val (.int (3 : Int32)), .unset] [(.int (3 : Int32)), (.int (2 : Int32))]))
  refine own_go (fun t k => XS.icmpYes X0.here hx rfl (pc0 := 2) (pc' := 7) rfl (hb hby d5_2) rfl (tlt (by decide : (2 : Int32) < (3 : Int32))).1 (by decide) (by decide) (XS.iloadN X0.here hx rfl (hb hby d5_7) rfl  (XS.iloadN X0.here hx rfl (hb hby d5_8) rfl  (XS.iconst X0.here hx rfl (hb hby d5_9) (XS.isub X0.here hx rfl (hb hby d5_10) rfl k))))) ?_
  show own_Fin p e below _ (s₁.setTop (mkF m 11 #[.val (.ref a1), .val (.ref a2), .val (.int (2 : Int32)), .val (.int (3 : Int32)), .unset] [(.int (2 : Int32)), (.int (2 : Int32))]))
  refine own_go (fun t k => XS.icmpNo X0.here hx rfl (hb hby d5_11) rfl (teq (by decide : (2 : Int32) = (2 : Int32))).2 (XS.aloadN X0.here hx rfl (hb hby d5_14) rfl rfl  (XS.iloadN X0.here hx rfl (hb hby d5_15) rfl  k))) ?_
  show own_Fin p e below _ (s₁.setTop (mkF m 16 #[.val (.ref a1), .val (.ref a2), .val (.int (2 : Int32)), .val (.int (3 : Int32)), .unset] [(.int (2 : Int32)), (.ref a2)]))
  obtain ⟨cl1, Ar1, q1, S1, M1, H1, G1⟩ := (id V_2)
  have hin1 : ¬ ((2 : Int32) < 0 ∨ cl1.slots.size ≤ ((2 : Int32)).toNatClampNeg) := inb_of S1 ⟨by decide, by decide⟩
  have hat1 : cl1.slots[((2 : Int32)).toNatClampNeg]? = some (.int d2) := H1.at hin1 rfl
  refine own_go (fun t k => X0.baloadBytes hx (j := (2 : Int32)) (v := (.int d2)) (by rw [e0]; exact Ar1.1) (State.isArrayOf_alike hZ.alike Ar1.2.1) Ar1.2.2 hin1 hat1 (g := (mkF m 16 #[.val (.ref a1), .val (.ref a2), .val (.int (2 : Int32)), .val (.int (3 : Int32)), .unset] [(.int (2 : Int32)), (.ref a2)])) rfl rfl (hb hby d5_16) _ (XS.iconst X0.here hx rfl (hb hby d5_17) (XS.iadd X0.here hx rfl (hb hby d5_18) rfl (XS.i2b X0.here hx rfl (hb hby d5_19) rfl (XS.goto X0.here hx rfl (pc0 := 20) (pc' := 26) rfl (hb hby d5_20) (by decide) (by decide) k))))) ?_
  show own_Fin p e below _ (s₁.setTop (mkF m 26 #[.val (.ref a1), .val (.ref a2), .val (.int (2 : Int32)), .val (.int (3 : Int32)), .unset] [(.int ((d2 + (1 : Int32)).toInt8.toInt32))]))
  refine own_go (fun t k => XS.istore X0.here hx rfl (hb hby d5_26) rfl (l' := #[.val (.ref a1), .val (.ref a2), .val (.int (2 : Int32)), .val (.int (3 : Int32)), .val (.int ((d2 + (1 : Int32)).toInt8.toInt32))]) rfl (XS.aloadN X0.here hx rfl (hb hby d5_28) rfl rfl  (XS.iloadN X0.here hx rfl (hb hby d5_29) rfl  k))) ?_
  show own_Fin p e below _ (s₁.setTop (mkF m 30 #[.val (.ref a1), .val (.ref a2), .val (.int (2 : Int32)), .val (.int (3 : Int32)), .val (.int ((d2 + (1 : Int32)).toInt8.toInt32))] [(.int (2 : Int32)), (.ref a1)]))
  obtain ⟨cl2, Ar2, q2, S2, M2, H2, G2⟩ := (id V_1)
  have hin2 : ¬ ((2 : Int32) < 0 ∨ cl2.slots.size ≤ ((2 : Int32)).toNatClampNeg) := inb_of S2 ⟨by decide, by decide⟩
  have hat2 : cl2.slots[((2 : Int32)).toNatClampNeg]? = some (.int (nar .byte (((d2 + (1 : Int32)).toInt8.toInt32)))) := H2.at hin2 rfl
  refine own_go (fun t k => X0.baloadBytes hx (j := (2 : Int32)) (v := (.int (nar .byte (((d2 + (1 : Int32)).toInt8.toInt32))))) (by rw [e0]; exact Ar2.1) (State.isArrayOf_alike hZ.alike Ar2.2.1) Ar2.2.2 hin2 hat2 (g := (mkF m 30 #[.val (.ref a1), .val (.ref a2), .val (.int (2 : Int32)), .val (.int (3 : Int32)), .val (.int ((d2 + (1 : Int32)).toInt8.toInt32))] [(.int (2 : Int32)), (.ref a1)])) rfl rfl (hb hby d5_30) _ (XS.iload X0.here hx rfl (hb hby d5_31) rfl  k)) ?_
  show own_Fin p e below _ (s₁.setTop (mkF m 33 #[.val (.ref a1), .val (.ref a2), .val (.int (2 : Int32)), .val (.int (3 : Int32)), .val (.int ((d2 + (1 : Int32)).toInt8.toInt32))] [(.int ((d2 + (1 : Int32)).toInt8.toInt32)), (.int (nar .byte (((d2 + (1 : Int32)).toInt8.toInt32))))]))
  refine own_go (fun t k => XS.icmpNo X0.here hx rfl (hb hby d5_33) rfl (teq (own_nb _)).2 (XS.iconst X0.here hx rfl (hb hby d5_36) (XS.goto X0.here hx rfl (pc0 := 37) (pc' := 41) rfl (hb hby d5_37) (by decide) (by decide) k))) ?_
  show own_Fin p e below _ (s₁.setTop (mkF m 41 #[.val (.ref a1), .val (.ref a2), .val (.int (2 : Int32)), .val (.int (3 : Int32)), .val (.int ((d2 + (1 : Int32)).toInt8.toInt32))] [(.int (1 : Int32))]))
  exact own_out X0 (fun h => by rw [Bd.returns] at h; cases h) Bd.notSynchronized (fun fs hr => retN X0 hx (t := .boolean) Bd.returns (by simp) (hb hby d5_41) hr) ⟨rfl, N0, e0⟩ (by decide) (by decide)
theorem ef_5s33 (m : MethodId) (x0 : Addr) (x1 : Addr) (x2 : Int32) (x3 : Int32)  : entryFrame m #[(.ref x0), (.ref x1), (.int x2), (.int x3)] 5 = mkF m 0 #[.val (.ref x0), .val (.ref x1), .val (.int x2), .val (.int x3), .unset] [] := by first | (simp [entryFrame, mkF, argsToLocals, Value.category]; done) | rfl
set_option maxRecDepth 65536 in
set_option maxHeartbeats 40000000 in
theorem rm5s33 (l : Launch) (Z : State) (a0 : Array Value) (hw : ∀ d ∈ tables_1, d.before a0 Z = true) (ws : List Jvm.Cond) (a1 : Addr) (a2 : Addr) (k1 k2 : ClassId) (d0 d1 d2 d3 : Int32) (h0 : Heap) (n0 : Nat) (Z0 : n0 ≤ h0.size) (V_1 : Arv Z h0 a1 k1 .byte (3 : Int32) [(.int d0), (.int d1), (.int (nar .byte (((d2 + (1 : Int32)).toInt8.toInt32))))] (.int (0 : Int32))) (V_2 : Arv Z h0 a2 k2 .byte (4 : Int32) [(.int d0), (.int d1), (.int d2), (.int d3)] (.int (0 : Int32))) :
    MetFree l (⟨"com/example/keyslice/keyslice/storage/KeyRangeAfterPinLaw", "slot", "([B[BII)Z"⟩ : MethodName) (head1 (Jvm.Cond.code (⟨"com/example/keyslice/keyslice/storage/KeyRangeAfterPinLaw", "slot", "([B[BII)Z"⟩ : MethodName) method_4_code 5 (some .boolean) :: ws) ({ frames := 0, cells := 0, slots := 0, locals := 0 } : Room)) (fun a U => a = #[(.ref a1), (.ref a2), (.int (3 : Int32)), (.int (3 : Int32))] ∧ Z.Warmed39 U.vm ∧ U.heap = h0) (fun _ _ _ _ _ => True) (fun _ U o U' => ∃ v L, o = .returned v ∧ (own_P h0 n0 (.int (1 : Int32))) v U'.heap L ∧ FrameEnd U o U' L ({ frames := 0, cells := 0, slots := 0, locals := 0 } : Room).cells ({ frames := 0, cells := 0, slots := 0, locals := 0 } : Room).slots) := by
  refine MetFree.of_bodySF (plainFor_of_name pn_0) hisR ?_
  intro p e s m args below meth c s₁ Bd hml0 hP hK
  obtain ⟨rfl, hZ, hh⟩ := hP
  have hx := Bd.exec
  have hby := Bd.bytes
  have hml : c.maxLocals = 5 := hml0
  have hown : s.vm.findClass "com/example/keyslice/keyslice/storage/KeyRangeAfterPinLaw" = some m.cls := findClass_of_methodNamed Bd.named
  have hnm := (name_of_methodNamed Bd.named Bd.method).1
  have X0 : Stand p l e ({ frames := 0, cells := 0, slots := 0, locals := 0 } : Room) s m #[(.ref a1), (.ref a2), (.int (3 : Int32)), (.int (3 : Int32))] below meth c s₁ [] 0 0 := Stand.of_body Bd
  have e0 : s₁.heap = h0 := by rw [← hh, Bd.state]; rfl
  have N0 := Fr.nil n0
  show own_Fin p e below (own_A s ({ frames := 0, cells := 0, slots := 0, locals := 0 } : Room).cells ({ frames := 0, cells := 0, slots := 0, locals := 0 } : Room).slots (own_P h0 n0 (.int (1 : Int32)))) _
  refine own_go (fun t k => castTop (ef_5s33 m (a1) (a2) ((3 : Int32)) ((3 : Int32))) k) ?_
  show own_Fin p e below _ (s₁.setTop (mkF m 0 #[.val (.ref a1), .val (.ref a2), .val (.int (3 : Int32)), .val (.int (3 : Int32)), .unset] []))
  refine own_go (fun t k => XS.iloadN X0.here hx rfl (hb hby d5_0) rfl  (XS.iloadN X0.here hx rfl (hb hby d5_1) rfl  k)) ?_
  show own_Fin p e below _ (s₁.setTop (mkF m 2 #[.val (.ref a1), .val (.ref a2), .val (.int (3 : Int32)), .val (.int (3 : Int32)), .unset] [(.int (3 : Int32)), (.int (3 : Int32))]))
  refine own_go (fun t k => XS.icmpNo X0.here hx rfl (hb hby d5_2) rfl (flt (by decide : ¬ ((3 : Int32) < (3 : Int32)))).1 (XS.iconst X0.here hx rfl (hb hby d5_5) k)) ?_
  show own_Fin p e below _ (s₁.setTop (mkF m 6 #[.val (.ref a1), .val (.ref a2), .val (.int (3 : Int32)), .val (.int (3 : Int32)), .unset] [(.int (1 : Int32))]))
  exact own_out X0 (fun h => by rw [Bd.returns] at h; cases h) Bd.notSynchronized (fun fs hr => retN X0 hx (t := .boolean) Bd.returns (by simp) (hb hby d5_6) hr) ⟨rfl, N0, e0⟩ (by decide) (by decide)
theorem ef_5s04 (m : MethodId) (x0 : Addr) (x1 : Addr) (x2 : Int32) (x3 : Int32)  : entryFrame m #[(.ref x0), (.ref x1), (.int x2), (.int x3)] 5 = mkF m 0 #[.val (.ref x0), .val (.ref x1), .val (.int x2), .val (.int x3), .unset] [] := by first | (simp [entryFrame, mkF, argsToLocals, Value.category]; done) | rfl
set_option maxRecDepth 65536 in
set_option maxHeartbeats 40000000 in
theorem rm5s04 (l : Launch) (Z : State) (a0 : Array Value) (hw : ∀ d ∈ tables_1, d.before a0 Z = true) (ws : List Jvm.Cond) (a1 : Addr) (a2 : Addr) (k1 k2 : ClassId) (d0 d1 d2 d3 : Int32) (h0 : Heap) (n0 : Nat) (Z0 : n0 ≤ h0.size) (V_1 : Arv Z h0 a1 k1 .byte (4 : Int32) [(.int d0), (.int d1), (.int d2), (.int (nar .byte (((d3 + (1 : Int32)).toInt8.toInt32))))] (.int (0 : Int32))) (V_2 : Arv Z h0 a2 k2 .byte (4 : Int32) [(.int d0), (.int d1), (.int d2), (.int d3)] (.int (0 : Int32))) :
    MetFree l (⟨"com/example/keyslice/keyslice/storage/KeyRangeAfterPinLaw", "slot", "([B[BII)Z"⟩ : MethodName) (head1 (Jvm.Cond.code (⟨"com/example/keyslice/keyslice/storage/KeyRangeAfterPinLaw", "slot", "([B[BII)Z"⟩ : MethodName) method_4_code 5 (some .boolean) :: ws) ({ frames := 0, cells := 0, slots := 0, locals := 0 } : Room)) (fun a U => a = #[(.ref a1), (.ref a2), (.int (0 : Int32)), (.int (4 : Int32))] ∧ Z.Warmed39 U.vm ∧ U.heap = h0) (fun _ _ _ _ _ => True) (fun _ U o U' => ∃ v L, o = .returned v ∧ (own_P h0 n0 (.int (1 : Int32))) v U'.heap L ∧ FrameEnd U o U' L ({ frames := 0, cells := 0, slots := 0, locals := 0 } : Room).cells ({ frames := 0, cells := 0, slots := 0, locals := 0 } : Room).slots) := by
  refine MetFree.of_bodySF (plainFor_of_name pn_0) hisR ?_
  intro p e s m args below meth c s₁ Bd hml0 hP hK
  obtain ⟨rfl, hZ, hh⟩ := hP
  have hx := Bd.exec
  have hby := Bd.bytes
  have hml : c.maxLocals = 5 := hml0
  have hown : s.vm.findClass "com/example/keyslice/keyslice/storage/KeyRangeAfterPinLaw" = some m.cls := findClass_of_methodNamed Bd.named
  have hnm := (name_of_methodNamed Bd.named Bd.method).1
  have X0 : Stand p l e ({ frames := 0, cells := 0, slots := 0, locals := 0 } : Room) s m #[(.ref a1), (.ref a2), (.int (0 : Int32)), (.int (4 : Int32))] below meth c s₁ [] 0 0 := Stand.of_body Bd
  have e0 : s₁.heap = h0 := by rw [← hh, Bd.state]; rfl
  have N0 := Fr.nil n0
  show own_Fin p e below (own_A s ({ frames := 0, cells := 0, slots := 0, locals := 0 } : Room).cells ({ frames := 0, cells := 0, slots := 0, locals := 0 } : Room).slots (own_P h0 n0 (.int (1 : Int32)))) _
  refine own_go (fun t k => castTop (ef_5s04 m (a1) (a2) ((0 : Int32)) ((4 : Int32))) k) ?_
  show own_Fin p e below _ (s₁.setTop (mkF m 0 #[.val (.ref a1), .val (.ref a2), .val (.int (0 : Int32)), .val (.int (4 : Int32)), .unset] []))
  refine own_go (fun t k => XS.iloadN X0.here hx rfl (hb hby d5_0) rfl  (XS.iloadN X0.here hx rfl (hb hby d5_1) rfl  k)) ?_
  show own_Fin p e below _ (s₁.setTop (mkF m 2 #[.val (.ref a1), .val (.ref a2), .val (.int (0 : Int32)), .val (.int (4 : Int32)), .unset] [(.int (4 : Int32)), (.int (0 : Int32))]))
  refine own_go (fun t k => XS.icmpYes X0.here hx rfl (pc0 := 2) (pc' := 7) rfl (hb hby d5_2) rfl (tlt (by decide : (0 : Int32) < (4 : Int32))).1 (by decide) (by decide) (XS.iloadN X0.here hx rfl (hb hby d5_7) rfl  (XS.iloadN X0.here hx rfl (hb hby d5_8) rfl  (XS.iconst X0.here hx rfl (hb hby d5_9) (XS.isub X0.here hx rfl (hb hby d5_10) rfl k))))) ?_
  show own_Fin p e below _ (s₁.setTop (mkF m 11 #[.val (.ref a1), .val (.ref a2), .val (.int (0 : Int32)), .val (.int (4 : Int32)), .unset] [(.int (3 : Int32)), (.int (0 : Int32))]))
  refine own_go (fun t k => XS.icmpYes X0.here hx rfl (pc0 := 11) (pc' := 23) rfl (hb hby d5_11) rfl (feq (by decide : ¬ ((0 : Int32) = (3 : Int32)))).2 (by decide) (by decide) (XS.aloadN X0.here hx rfl (hb hby d5_23) rfl rfl  (XS.iloadN X0.here hx rfl (hb hby d5_24) rfl  k))) ?_
  show own_Fin p e below _ (s₁.setTop (mkF m 25 #[.val (.ref a1), .val (.ref a2), .val (.int (0 : Int32)), .val (.int (4 : Int32)), .unset] [(.int (0 : Int32)), (.ref a2)]))
  obtain ⟨cl1, Ar1, q1, S1, M1, H1, G1⟩ := (id V_2)
  have hin1 : ¬ ((0 : Int32) < 0 ∨ cl1.slots.size ≤ ((0 : Int32)).toNatClampNeg) := inb_of S1 ⟨by decide, by decide⟩
  have hat1 : cl1.slots[((0 : Int32)).toNatClampNeg]? = some (.int d0) := H1.at hin1 rfl
  refine own_go (fun t k => X0.baloadBytes hx (j := (0 : Int32)) (v := (.int d0)) (by rw [e0]; exact Ar1.1) (State.isArrayOf_alike hZ.alike Ar1.2.1) Ar1.2.2 hin1 hat1 (g := (mkF m 25 #[.val (.ref a1), .val (.ref a2), .val (.int (0 : Int32)), .val (.int (4 : Int32)), .unset] [(.int (0 : Int32)), (.ref a2)])) rfl rfl (hb hby d5_25) _ (XS.istore X0.here hx rfl (hb hby d5_26) rfl (l' := #[.val (.ref a1), .val (.ref a2), .val (.int (0 : Int32)), .val (.int (4 : Int32)), .val (.int d0)]) rfl (XS.aloadN X0.here hx rfl (hb hby d5_28) rfl rfl  (XS.iloadN X0.here hx rfl (hb hby d5_29) rfl  k)))) ?_
  show own_Fin p e below _ (s₁.setTop (mkF m 30 #[.val (.ref a1), .val (.ref a2), .val (.int (0 : Int32)), .val (.int (4 : Int32)), .val (.int d0)] [(.int (0 : Int32)), (.ref a1)]))
  obtain ⟨cl2, Ar2, q2, S2, M2, H2, G2⟩ := (id V_1)
  have hin2 : ¬ ((0 : Int32) < 0 ∨ cl2.slots.size ≤ ((0 : Int32)).toNatClampNeg) := inb_of S2 ⟨by decide, by decide⟩
  have hat2 : cl2.slots[((0 : Int32)).toNatClampNeg]? = some (.int d0) := H2.at hin2 rfl
  refine own_go (fun t k => X0.baloadBytes hx (j := (0 : Int32)) (v := (.int d0)) (by rw [e0]; exact Ar2.1) (State.isArrayOf_alike hZ.alike Ar2.2.1) Ar2.2.2 hin2 hat2 (g := (mkF m 30 #[.val (.ref a1), .val (.ref a2), .val (.int (0 : Int32)), .val (.int (4 : Int32)), .val (.int d0)] [(.int (0 : Int32)), (.ref a1)])) rfl rfl (hb hby d5_30) _ (XS.iload X0.here hx rfl (hb hby d5_31) rfl  k)) ?_
  show own_Fin p e below _ (s₁.setTop (mkF m 33 #[.val (.ref a1), .val (.ref a2), .val (.int (0 : Int32)), .val (.int (4 : Int32)), .val (.int d0)] [(.int d0), (.int d0)]))
  refine own_go (fun t k => XS.icmpNo X0.here hx rfl (hb hby d5_33) rfl (teq rfl).2 (XS.iconst X0.here hx rfl (hb hby d5_36) (XS.goto X0.here hx rfl (pc0 := 37) (pc' := 41) rfl (hb hby d5_37) (by decide) (by decide) k))) ?_
  show own_Fin p e below _ (s₁.setTop (mkF m 41 #[.val (.ref a1), .val (.ref a2), .val (.int (0 : Int32)), .val (.int (4 : Int32)), .val (.int d0)] [(.int (1 : Int32))]))
  exact own_out X0 (fun h => by rw [Bd.returns] at h; cases h) Bd.notSynchronized (fun fs hr => retN X0 hx (t := .boolean) Bd.returns (by simp) (hb hby d5_41) hr) ⟨rfl, N0, e0⟩ (by decide) (by decide)
theorem ef_5s14 (m : MethodId) (x0 : Addr) (x1 : Addr) (x2 : Int32) (x3 : Int32)  : entryFrame m #[(.ref x0), (.ref x1), (.int x2), (.int x3)] 5 = mkF m 0 #[.val (.ref x0), .val (.ref x1), .val (.int x2), .val (.int x3), .unset] [] := by first | (simp [entryFrame, mkF, argsToLocals, Value.category]; done) | rfl
set_option maxRecDepth 65536 in
set_option maxHeartbeats 40000000 in
theorem rm5s14 (l : Launch) (Z : State) (a0 : Array Value) (hw : ∀ d ∈ tables_1, d.before a0 Z = true) (ws : List Jvm.Cond) (a1 : Addr) (a2 : Addr) (k1 k2 : ClassId) (d0 d1 d2 d3 : Int32) (h0 : Heap) (n0 : Nat) (Z0 : n0 ≤ h0.size) (V_1 : Arv Z h0 a1 k1 .byte (4 : Int32) [(.int d0), (.int d1), (.int d2), (.int (nar .byte (((d3 + (1 : Int32)).toInt8.toInt32))))] (.int (0 : Int32))) (V_2 : Arv Z h0 a2 k2 .byte (4 : Int32) [(.int d0), (.int d1), (.int d2), (.int d3)] (.int (0 : Int32))) :
    MetFree l (⟨"com/example/keyslice/keyslice/storage/KeyRangeAfterPinLaw", "slot", "([B[BII)Z"⟩ : MethodName) (head1 (Jvm.Cond.code (⟨"com/example/keyslice/keyslice/storage/KeyRangeAfterPinLaw", "slot", "([B[BII)Z"⟩ : MethodName) method_4_code 5 (some .boolean) :: ws) ({ frames := 0, cells := 0, slots := 0, locals := 0 } : Room)) (fun a U => a = #[(.ref a1), (.ref a2), (.int (1 : Int32)), (.int (4 : Int32))] ∧ Z.Warmed39 U.vm ∧ U.heap = h0) (fun _ _ _ _ _ => True) (fun _ U o U' => ∃ v L, o = .returned v ∧ (own_P h0 n0 (.int (1 : Int32))) v U'.heap L ∧ FrameEnd U o U' L ({ frames := 0, cells := 0, slots := 0, locals := 0 } : Room).cells ({ frames := 0, cells := 0, slots := 0, locals := 0 } : Room).slots) := by
  refine MetFree.of_bodySF (plainFor_of_name pn_0) hisR ?_
  intro p e s m args below meth c s₁ Bd hml0 hP hK
  obtain ⟨rfl, hZ, hh⟩ := hP
  have hx := Bd.exec
  have hby := Bd.bytes
  have hml : c.maxLocals = 5 := hml0
  have hown : s.vm.findClass "com/example/keyslice/keyslice/storage/KeyRangeAfterPinLaw" = some m.cls := findClass_of_methodNamed Bd.named
  have hnm := (name_of_methodNamed Bd.named Bd.method).1
  have X0 : Stand p l e ({ frames := 0, cells := 0, slots := 0, locals := 0 } : Room) s m #[(.ref a1), (.ref a2), (.int (1 : Int32)), (.int (4 : Int32))] below meth c s₁ [] 0 0 := Stand.of_body Bd
  have e0 : s₁.heap = h0 := by rw [← hh, Bd.state]; rfl
  have N0 := Fr.nil n0
  show own_Fin p e below (own_A s ({ frames := 0, cells := 0, slots := 0, locals := 0 } : Room).cells ({ frames := 0, cells := 0, slots := 0, locals := 0 } : Room).slots (own_P h0 n0 (.int (1 : Int32)))) _
  refine own_go (fun t k => castTop (ef_5s14 m (a1) (a2) ((1 : Int32)) ((4 : Int32))) k) ?_
  show own_Fin p e below _ (s₁.setTop (mkF m 0 #[.val (.ref a1), .val (.ref a2), .val (.int (1 : Int32)), .val (.int (4 : Int32)), .unset] []))
  refine own_go (fun t k => XS.iloadN X0.here hx rfl (hb hby d5_0) rfl  (XS.iloadN X0.here hx rfl (hb hby d5_1) rfl  k)) ?_
  show own_Fin p e below _ (s₁.setTop (mkF m 2 #[.val (.ref a1), .val (.ref a2), .val (.int (1 : Int32)), .val (.int (4 : Int32)), .unset] [(.int (4 : Int32)), (.int (1 : Int32))]))
  refine own_go (fun t k => XS.icmpYes X0.here hx rfl (pc0 := 2) (pc' := 7) rfl (hb hby d5_2) rfl (tlt (by decide : (1 : Int32) < (4 : Int32))).1 (by decide) (by decide) (XS.iloadN X0.here hx rfl (hb hby d5_7) rfl  (XS.iloadN X0.here hx rfl (hb hby d5_8) rfl  (XS.iconst X0.here hx rfl (hb hby d5_9) (XS.isub X0.here hx rfl (hb hby d5_10) rfl k))))) ?_
  show own_Fin p e below _ (s₁.setTop (mkF m 11 #[.val (.ref a1), .val (.ref a2), .val (.int (1 : Int32)), .val (.int (4 : Int32)), .unset] [(.int (3 : Int32)), (.int (1 : Int32))]))
  refine own_go (fun t k => XS.icmpYes X0.here hx rfl (pc0 := 11) (pc' := 23) rfl (hb hby d5_11) rfl (feq (by decide : ¬ ((1 : Int32) = (3 : Int32)))).2 (by decide) (by decide) (XS.aloadN X0.here hx rfl (hb hby d5_23) rfl rfl  (XS.iloadN X0.here hx rfl (hb hby d5_24) rfl  k))) ?_
  show own_Fin p e below _ (s₁.setTop (mkF m 25 #[.val (.ref a1), .val (.ref a2), .val (.int (1 : Int32)), .val (.int (4 : Int32)), .unset] [(.int (1 : Int32)), (.ref a2)]))
  obtain ⟨cl1, Ar1, q1, S1, M1, H1, G1⟩ := (id V_2)
  have hin1 : ¬ ((1 : Int32) < 0 ∨ cl1.slots.size ≤ ((1 : Int32)).toNatClampNeg) := inb_of S1 ⟨by decide, by decide⟩
  have hat1 : cl1.slots[((1 : Int32)).toNatClampNeg]? = some (.int d1) := H1.at hin1 rfl
  refine own_go (fun t k => X0.baloadBytes hx (j := (1 : Int32)) (v := (.int d1)) (by rw [e0]; exact Ar1.1) (State.isArrayOf_alike hZ.alike Ar1.2.1) Ar1.2.2 hin1 hat1 (g := (mkF m 25 #[.val (.ref a1), .val (.ref a2), .val (.int (1 : Int32)), .val (.int (4 : Int32)), .unset] [(.int (1 : Int32)), (.ref a2)])) rfl rfl (hb hby d5_25) _ (XS.istore X0.here hx rfl (hb hby d5_26) rfl (l' := #[.val (.ref a1), .val (.ref a2), .val (.int (1 : Int32)), .val (.int (4 : Int32)), .val (.int d1)]) rfl (XS.aloadN X0.here hx rfl (hb hby d5_28) rfl rfl  (XS.iloadN X0.here hx rfl (hb hby d5_29) rfl  k)))) ?_
  show own_Fin p e below _ (s₁.setTop (mkF m 30 #[.val (.ref a1), .val (.ref a2), .val (.int (1 : Int32)), .val (.int (4 : Int32)), .val (.int d1)] [(.int (1 : Int32)), (.ref a1)]))
  obtain ⟨cl2, Ar2, q2, S2, M2, H2, G2⟩ := (id V_1)
  have hin2 : ¬ ((1 : Int32) < 0 ∨ cl2.slots.size ≤ ((1 : Int32)).toNatClampNeg) := inb_of S2 ⟨by decide, by decide⟩
  have hat2 : cl2.slots[((1 : Int32)).toNatClampNeg]? = some (.int d1) := H2.at hin2 rfl
  refine own_go (fun t k => X0.baloadBytes hx (j := (1 : Int32)) (v := (.int d1)) (by rw [e0]; exact Ar2.1) (State.isArrayOf_alike hZ.alike Ar2.2.1) Ar2.2.2 hin2 hat2 (g := (mkF m 30 #[.val (.ref a1), .val (.ref a2), .val (.int (1 : Int32)), .val (.int (4 : Int32)), .val (.int d1)] [(.int (1 : Int32)), (.ref a1)])) rfl rfl (hb hby d5_30) _ (XS.iload X0.here hx rfl (hb hby d5_31) rfl  k)) ?_
  show own_Fin p e below _ (s₁.setTop (mkF m 33 #[.val (.ref a1), .val (.ref a2), .val (.int (1 : Int32)), .val (.int (4 : Int32)), .val (.int d1)] [(.int d1), (.int d1)]))
  refine own_go (fun t k => XS.icmpNo X0.here hx rfl (hb hby d5_33) rfl (teq rfl).2 (XS.iconst X0.here hx rfl (hb hby d5_36) (XS.goto X0.here hx rfl (pc0 := 37) (pc' := 41) rfl (hb hby d5_37) (by decide) (by decide) k))) ?_
  show own_Fin p e below _ (s₁.setTop (mkF m 41 #[.val (.ref a1), .val (.ref a2), .val (.int (1 : Int32)), .val (.int (4 : Int32)), .val (.int d1)] [(.int (1 : Int32))]))
  exact own_out X0 (fun h => by rw [Bd.returns] at h; cases h) Bd.notSynchronized (fun fs hr => retN X0 hx (t := .boolean) Bd.returns (by simp) (hb hby d5_41) hr) ⟨rfl, N0, e0⟩ (by decide) (by decide)
theorem ef_5s24 (m : MethodId) (x0 : Addr) (x1 : Addr) (x2 : Int32) (x3 : Int32)  : entryFrame m #[(.ref x0), (.ref x1), (.int x2), (.int x3)] 5 = mkF m 0 #[.val (.ref x0), .val (.ref x1), .val (.int x2), .val (.int x3), .unset] [] := by first | (simp [entryFrame, mkF, argsToLocals, Value.category]; done) | rfl
set_option maxRecDepth 65536 in
set_option maxHeartbeats 40000000 in
theorem rm5s24 (l : Launch) (Z : State) (a0 : Array Value) (hw : ∀ d ∈ tables_1, d.before a0 Z = true) (ws : List Jvm.Cond) (a1 : Addr) (a2 : Addr) (k1 k2 : ClassId) (d0 d1 d2 d3 : Int32) (h0 : Heap) (n0 : Nat) (Z0 : n0 ≤ h0.size) (V_1 : Arv Z h0 a1 k1 .byte (4 : Int32) [(.int d0), (.int d1), (.int d2), (.int (nar .byte (((d3 + (1 : Int32)).toInt8.toInt32))))] (.int (0 : Int32))) (V_2 : Arv Z h0 a2 k2 .byte (4 : Int32) [(.int d0), (.int d1), (.int d2), (.int d3)] (.int (0 : Int32))) :
    MetFree l (⟨"com/example/keyslice/keyslice/storage/KeyRangeAfterPinLaw", "slot", "([B[BII)Z"⟩ : MethodName) (head1 (Jvm.Cond.code (⟨"com/example/keyslice/keyslice/storage/KeyRangeAfterPinLaw", "slot", "([B[BII)Z"⟩ : MethodName) method_4_code 5 (some .boolean) :: ws) ({ frames := 0, cells := 0, slots := 0, locals := 0 } : Room)) (fun a U => a = #[(.ref a1), (.ref a2), (.int (2 : Int32)), (.int (4 : Int32))] ∧ Z.Warmed39 U.vm ∧ U.heap = h0) (fun _ _ _ _ _ => True) (fun _ U o U' => ∃ v L, o = .returned v ∧ (own_P h0 n0 (.int (1 : Int32))) v U'.heap L ∧ FrameEnd U o U' L ({ frames := 0, cells := 0, slots := 0, locals := 0 } : Room).cells ({ frames := 0, cells := 0, slots := 0, locals := 0 } : Room).slots) := by
  refine MetFree.of_bodySF (plainFor_of_name pn_0) hisR ?_
  intro p e s m args below meth c s₁ Bd hml0 hP hK
  obtain ⟨rfl, hZ, hh⟩ := hP
  have hx := Bd.exec
  have hby := Bd.bytes
  have hml : c.maxLocals = 5 := hml0
  have hown : s.vm.findClass "com/example/keyslice/keyslice/storage/KeyRangeAfterPinLaw" = some m.cls := findClass_of_methodNamed Bd.named
  have hnm := (name_of_methodNamed Bd.named Bd.method).1
  have X0 : Stand p l e ({ frames := 0, cells := 0, slots := 0, locals := 0 } : Room) s m #[(.ref a1), (.ref a2), (.int (2 : Int32)), (.int (4 : Int32))] below meth c s₁ [] 0 0 := Stand.of_body Bd
  have e0 : s₁.heap = h0 := by rw [← hh, Bd.state]; rfl
  have N0 := Fr.nil n0
  show own_Fin p e below (own_A s ({ frames := 0, cells := 0, slots := 0, locals := 0 } : Room).cells ({ frames := 0, cells := 0, slots := 0, locals := 0 } : Room).slots (own_P h0 n0 (.int (1 : Int32)))) _
  refine own_go (fun t k => castTop (ef_5s24 m (a1) (a2) ((2 : Int32)) ((4 : Int32))) k) ?_
  show own_Fin p e below _ (s₁.setTop (mkF m 0 #[.val (.ref a1), .val (.ref a2), .val (.int (2 : Int32)), .val (.int (4 : Int32)), .unset] []))
  refine own_go (fun t k => XS.iloadN X0.here hx rfl (hb hby d5_0) rfl  (XS.iloadN X0.here hx rfl (hb hby d5_1) rfl  k)) ?_
  show own_Fin p e below _ (s₁.setTop (mkF m 2 #[.val (.ref a1), .val (.ref a2), .val (.int (2 : Int32)), .val (.int (4 : Int32)), .unset] [(.int (4 : Int32)), (.int (2 : Int32))]))
  refine own_go (fun t k => XS.icmpYes X0.here hx rfl (pc0 := 2) (pc' := 7) rfl (hb hby d5_2) rfl (tlt (by decide : (2 : Int32) < (4 : Int32))).1 (by decide) (by decide) (XS.iloadN X0.here hx rfl (hb hby d5_7) rfl  (XS.iloadN X0.here hx rfl (hb hby d5_8) rfl  (XS.iconst X0.here hx rfl (hb hby d5_9) (XS.isub X0.here hx rfl (hb hby d5_10) rfl k))))) ?_
  show own_Fin p e below _ (s₁.setTop (mkF m 11 #[.val (.ref a1), .val (.ref a2), .val (.int (2 : Int32)), .val (.int (4 : Int32)), .unset] [(.int (3 : Int32)), (.int (2 : Int32))]))
  refine own_go (fun t k => XS.icmpYes X0.here hx rfl (pc0 := 11) (pc' := 23) rfl (hb hby d5_11) rfl (feq (by decide : ¬ ((2 : Int32) = (3 : Int32)))).2 (by decide) (by decide) (XS.aloadN X0.here hx rfl (hb hby d5_23) rfl rfl  (XS.iloadN X0.here hx rfl (hb hby d5_24) rfl  k))) ?_
  show own_Fin p e below _ (s₁.setTop (mkF m 25 #[.val (.ref a1), .val (.ref a2), .val (.int (2 : Int32)), .val (.int (4 : Int32)), .unset] [(.int (2 : Int32)), (.ref a2)]))
  obtain ⟨cl1, Ar1, q1, S1, M1, H1, G1⟩ := (id V_2)
  have hin1 : ¬ ((2 : Int32) < 0 ∨ cl1.slots.size ≤ ((2 : Int32)).toNatClampNeg) := inb_of S1 ⟨by decide, by decide⟩
  have hat1 : cl1.slots[((2 : Int32)).toNatClampNeg]? = some (.int d2) := H1.at hin1 rfl
  refine own_go (fun t k => X0.baloadBytes hx (j := (2 : Int32)) (v := (.int d2)) (by rw [e0]; exact Ar1.1) (State.isArrayOf_alike hZ.alike Ar1.2.1) Ar1.2.2 hin1 hat1 (g := (mkF m 25 #[.val (.ref a1), .val (.ref a2), .val (.int (2 : Int32)), .val (.int (4 : Int32)), .unset] [(.int (2 : Int32)), (.ref a2)])) rfl rfl (hb hby d5_25) _ (XS.istore X0.here hx rfl (hb hby d5_26) rfl (l' := #[.val (.ref a1), .val (.ref a2), .val (.int (2 : Int32)), .val (.int (4 : Int32)), .val (.int d2)]) rfl (XS.aloadN X0.here hx rfl (hb hby d5_28) rfl rfl  (XS.iloadN X0.here hx rfl (hb hby d5_29) rfl  k)))) ?_
  show own_Fin p e below _ (s₁.setTop (mkF m 30 #[.val (.ref a1), .val (.ref a2), .val (.int (2 : Int32)), .val (.int (4 : Int32)), .val (.int d2)] [(.int (2 : Int32)), (.ref a1)]))
  obtain ⟨cl2, Ar2, q2, S2, M2, H2, G2⟩ := (id V_1)
  have hin2 : ¬ ((2 : Int32) < 0 ∨ cl2.slots.size ≤ ((2 : Int32)).toNatClampNeg) := inb_of S2 ⟨by decide, by decide⟩
  have hat2 : cl2.slots[((2 : Int32)).toNatClampNeg]? = some (.int d2) := H2.at hin2 rfl
  refine own_go (fun t k => X0.baloadBytes hx (j := (2 : Int32)) (v := (.int d2)) (by rw [e0]; exact Ar2.1) (State.isArrayOf_alike hZ.alike Ar2.2.1) Ar2.2.2 hin2 hat2 (g := (mkF m 30 #[.val (.ref a1), .val (.ref a2), .val (.int (2 : Int32)), .val (.int (4 : Int32)), .val (.int d2)] [(.int (2 : Int32)), (.ref a1)])) rfl rfl (hb hby d5_30) _ (XS.iload X0.here hx rfl (hb hby d5_31) rfl  k)) ?_
  show own_Fin p e below _ (s₁.setTop (mkF m 33 #[.val (.ref a1), .val (.ref a2), .val (.int (2 : Int32)), .val (.int (4 : Int32)), .val (.int d2)] [(.int d2), (.int d2)]))
  refine own_go (fun t k => XS.icmpNo X0.here hx rfl (hb hby d5_33) rfl (teq rfl).2 (XS.iconst X0.here hx rfl (hb hby d5_36) (XS.goto X0.here hx rfl (pc0 := 37) (pc' := 41) rfl (hb hby d5_37) (by decide) (by decide) k))) ?_
  show own_Fin p e below _ (s₁.setTop (mkF m 41 #[.val (.ref a1), .val (.ref a2), .val (.int (2 : Int32)), .val (.int (4 : Int32)), .val (.int d2)] [(.int (1 : Int32))]))
  exact own_out X0 (fun h => by rw [Bd.returns] at h; cases h) Bd.notSynchronized (fun fs hr => retN X0 hx (t := .boolean) Bd.returns (by simp) (hb hby d5_41) hr) ⟨rfl, N0, e0⟩ (by decide) (by decide)
theorem ef_5s34 (m : MethodId) (x0 : Addr) (x1 : Addr) (x2 : Int32) (x3 : Int32)  : entryFrame m #[(.ref x0), (.ref x1), (.int x2), (.int x3)] 5 = mkF m 0 #[.val (.ref x0), .val (.ref x1), .val (.int x2), .val (.int x3), .unset] [] := by first | (simp [entryFrame, mkF, argsToLocals, Value.category]; done) | rfl
set_option maxRecDepth 65536 in
set_option maxHeartbeats 40000000 in
theorem rm5s34 (l : Launch) (Z : State) (a0 : Array Value) (hw : ∀ d ∈ tables_1, d.before a0 Z = true) (ws : List Jvm.Cond) (a1 : Addr) (a2 : Addr) (k1 k2 : ClassId) (d0 d1 d2 d3 : Int32) (h0 : Heap) (n0 : Nat) (Z0 : n0 ≤ h0.size) (V_1 : Arv Z h0 a1 k1 .byte (4 : Int32) [(.int d0), (.int d1), (.int d2), (.int (nar .byte (((d3 + (1 : Int32)).toInt8.toInt32))))] (.int (0 : Int32))) (V_2 : Arv Z h0 a2 k2 .byte (4 : Int32) [(.int d0), (.int d1), (.int d2), (.int d3)] (.int (0 : Int32))) :
    MetFree l (⟨"com/example/keyslice/keyslice/storage/KeyRangeAfterPinLaw", "slot", "([B[BII)Z"⟩ : MethodName) (head1 (Jvm.Cond.code (⟨"com/example/keyslice/keyslice/storage/KeyRangeAfterPinLaw", "slot", "([B[BII)Z"⟩ : MethodName) method_4_code 5 (some .boolean) :: ws) ({ frames := 0, cells := 0, slots := 0, locals := 0 } : Room)) (fun a U => a = #[(.ref a1), (.ref a2), (.int (3 : Int32)), (.int (4 : Int32))] ∧ Z.Warmed39 U.vm ∧ U.heap = h0) (fun _ _ _ _ _ => True) (fun _ U o U' => ∃ v L, o = .returned v ∧ (own_P h0 n0 (.int (1 : Int32))) v U'.heap L ∧ FrameEnd U o U' L ({ frames := 0, cells := 0, slots := 0, locals := 0 } : Room).cells ({ frames := 0, cells := 0, slots := 0, locals := 0 } : Room).slots) := by
  refine MetFree.of_bodySF (plainFor_of_name pn_0) hisR ?_
  intro p e s m args below meth c s₁ Bd hml0 hP hK
  obtain ⟨rfl, hZ, hh⟩ := hP
  have hx := Bd.exec
  have hby := Bd.bytes
  have hml : c.maxLocals = 5 := hml0
  have hown : s.vm.findClass "com/example/keyslice/keyslice/storage/KeyRangeAfterPinLaw" = some m.cls := findClass_of_methodNamed Bd.named
  have hnm := (name_of_methodNamed Bd.named Bd.method).1
  have X0 : Stand p l e ({ frames := 0, cells := 0, slots := 0, locals := 0 } : Room) s m #[(.ref a1), (.ref a2), (.int (3 : Int32)), (.int (4 : Int32))] below meth c s₁ [] 0 0 := Stand.of_body Bd
  have e0 : s₁.heap = h0 := by rw [← hh, Bd.state]; rfl
  have N0 := Fr.nil n0
  show own_Fin p e below (own_A s ({ frames := 0, cells := 0, slots := 0, locals := 0 } : Room).cells ({ frames := 0, cells := 0, slots := 0, locals := 0 } : Room).slots (own_P h0 n0 (.int (1 : Int32)))) _
  refine own_go (fun t k => castTop (ef_5s34 m (a1) (a2) ((3 : Int32)) ((4 : Int32))) k) ?_
  show own_Fin p e below _ (s₁.setTop (mkF m 0 #[.val (.ref a1), .val (.ref a2), .val (.int (3 : Int32)), .val (.int (4 : Int32)), .unset] []))
  refine own_go (fun t k => XS.iloadN X0.here hx rfl (hb hby d5_0) rfl  (XS.iloadN X0.here hx rfl (hb hby d5_1) rfl  k)) ?_
  show own_Fin p e below _ (s₁.setTop (mkF m 2 #[.val (.ref a1), .val (.ref a2), .val (.int (3 : Int32)), .val (.int (4 : Int32)), .unset] [(.int (4 : Int32)), (.int (3 : Int32))]))
  refine own_go (fun t k => XS.icmpYes X0.here hx rfl (pc0 := 2) (pc' := 7) rfl (hb hby d5_2) rfl (tlt (by decide : (3 : Int32) < (4 : Int32))).1 (by decide) (by decide) (XS.iloadN X0.here hx rfl (hb hby d5_7) rfl  (XS.iloadN X0.here hx rfl (hb hby d5_8) rfl  (XS.iconst X0.here hx rfl (hb hby d5_9) (XS.isub X0.here hx rfl (hb hby d5_10) rfl k))))) ?_
  show own_Fin p e below _ (s₁.setTop (mkF m 11 #[.val (.ref a1), .val (.ref a2), .val (.int (3 : Int32)), .val (.int (4 : Int32)), .unset] [(.int (3 : Int32)), (.int (3 : Int32))]))
  refine own_go (fun t k => XS.icmpNo X0.here hx rfl (hb hby d5_11) rfl (teq (by decide : (3 : Int32) = (3 : Int32))).2 (XS.aloadN X0.here hx rfl (hb hby d5_14) rfl rfl  (XS.iloadN X0.here hx rfl (hb hby d5_15) rfl  k))) ?_
  show own_Fin p e below _ (s₁.setTop (mkF m 16 #[.val (.ref a1), .val (.ref a2), .val (.int (3 : Int32)), .val (.int (4 : Int32)), .unset] [(.int (3 : Int32)), (.ref a2)]))
  obtain ⟨cl1, Ar1, q1, S1, M1, H1, G1⟩ := (id V_2)
  have hin1 : ¬ ((3 : Int32) < 0 ∨ cl1.slots.size ≤ ((3 : Int32)).toNatClampNeg) := inb_of S1 ⟨by decide, by decide⟩
  have hat1 : cl1.slots[((3 : Int32)).toNatClampNeg]? = some (.int d3) := H1.at hin1 rfl
  refine own_go (fun t k => X0.baloadBytes hx (j := (3 : Int32)) (v := (.int d3)) (by rw [e0]; exact Ar1.1) (State.isArrayOf_alike hZ.alike Ar1.2.1) Ar1.2.2 hin1 hat1 (g := (mkF m 16 #[.val (.ref a1), .val (.ref a2), .val (.int (3 : Int32)), .val (.int (4 : Int32)), .unset] [(.int (3 : Int32)), (.ref a2)])) rfl rfl (hb hby d5_16) _ (XS.iconst X0.here hx rfl (hb hby d5_17) (XS.iadd X0.here hx rfl (hb hby d5_18) rfl (XS.i2b X0.here hx rfl (hb hby d5_19) rfl (XS.goto X0.here hx rfl (pc0 := 20) (pc' := 26) rfl (hb hby d5_20) (by decide) (by decide) k))))) ?_
  show own_Fin p e below _ (s₁.setTop (mkF m 26 #[.val (.ref a1), .val (.ref a2), .val (.int (3 : Int32)), .val (.int (4 : Int32)), .unset] [(.int ((d3 + (1 : Int32)).toInt8.toInt32))]))
  refine own_go (fun t k => XS.istore X0.here hx rfl (hb hby d5_26) rfl (l' := #[.val (.ref a1), .val (.ref a2), .val (.int (3 : Int32)), .val (.int (4 : Int32)), .val (.int ((d3 + (1 : Int32)).toInt8.toInt32))]) rfl (XS.aloadN X0.here hx rfl (hb hby d5_28) rfl rfl  (XS.iloadN X0.here hx rfl (hb hby d5_29) rfl  k))) ?_
  show own_Fin p e below _ (s₁.setTop (mkF m 30 #[.val (.ref a1), .val (.ref a2), .val (.int (3 : Int32)), .val (.int (4 : Int32)), .val (.int ((d3 + (1 : Int32)).toInt8.toInt32))] [(.int (3 : Int32)), (.ref a1)]))
  obtain ⟨cl2, Ar2, q2, S2, M2, H2, G2⟩ := (id V_1)
  have hin2 : ¬ ((3 : Int32) < 0 ∨ cl2.slots.size ≤ ((3 : Int32)).toNatClampNeg) := inb_of S2 ⟨by decide, by decide⟩
  have hat2 : cl2.slots[((3 : Int32)).toNatClampNeg]? = some (.int (nar .byte (((d3 + (1 : Int32)).toInt8.toInt32)))) := H2.at hin2 rfl
  refine own_go (fun t k => X0.baloadBytes hx (j := (3 : Int32)) (v := (.int (nar .byte (((d3 + (1 : Int32)).toInt8.toInt32))))) (by rw [e0]; exact Ar2.1) (State.isArrayOf_alike hZ.alike Ar2.2.1) Ar2.2.2 hin2 hat2 (g := (mkF m 30 #[.val (.ref a1), .val (.ref a2), .val (.int (3 : Int32)), .val (.int (4 : Int32)), .val (.int ((d3 + (1 : Int32)).toInt8.toInt32))] [(.int (3 : Int32)), (.ref a1)])) rfl rfl (hb hby d5_30) _ (XS.iload X0.here hx rfl (hb hby d5_31) rfl  k)) ?_
  show own_Fin p e below _ (s₁.setTop (mkF m 33 #[.val (.ref a1), .val (.ref a2), .val (.int (3 : Int32)), .val (.int (4 : Int32)), .val (.int ((d3 + (1 : Int32)).toInt8.toInt32))] [(.int ((d3 + (1 : Int32)).toInt8.toInt32)), (.int (nar .byte (((d3 + (1 : Int32)).toInt8.toInt32))))]))
  refine own_go (fun t k => XS.icmpNo X0.here hx rfl (hb hby d5_33) rfl (teq (own_nb _)).2 (XS.iconst X0.here hx rfl (hb hby d5_36) (XS.goto X0.here hx rfl (pc0 := 37) (pc' := 41) rfl (hb hby d5_37) (by decide) (by decide) k))) ?_
  show own_Fin p e below _ (s₁.setTop (mkF m 41 #[.val (.ref a1), .val (.ref a2), .val (.int (3 : Int32)), .val (.int (4 : Int32)), .val (.int ((d3 + (1 : Int32)).toInt8.toInt32))] [(.int (1 : Int32))]))
  exact own_out X0 (fun h => by rw [Bd.returns] at h; cases h) Bd.notSynchronized (fun fs hr => retN X0 hx (t := .boolean) Bd.returns (by simp) (hb hby d5_41) hr) ⟨rfl, N0, e0⟩ (by decide) (by decide)
theorem pd_2 : parseMethodDescriptor "(I)B" = some ⟨[.int], some .byte⟩ := by decide +kernel
theorem pd_3 : parseMethodDescriptor "([B)[B" = some ⟨[(.array .byte)], some (.array .byte)⟩ := by decide +kernel
theorem pd_4 : parseMethodDescriptor "([B[BII)Z" = some ⟨[(.array .byte), (.array .byte), .int, .int], some .boolean⟩ := by decide +kernel
theorem ef_0 (m : MethodId) (x0 : Int32) (x1 : Int32) (x2 : Int32) (x3 : Int32) (x4 : Int32)  : entryFrame m #[(.int x0), (.int x1), (.int x2), (.int x3), (.int x4)] maxLocals = mkF m 0 #[.val (.int x0), .val (.int x1), .val (.int x2), .val (.int x3), .val (.int x4), .unset, .unset, .unset, .unset, .unset, .unset] [] := by first | (simp [entryFrame, mkF, argsToLocals, Value.category, maxLocals]; done) | rfl
def own_q0 (Z : State) (p1 : Int32) (p2 : Int32) (p3 : Int32) (p4 : Int32) (p5 : Int32) (h0 : Heap) (n0 : Nat) (v : Option Value) (h : Heap) (L : List Loc) : Prop := v = some (.int (1 : Int32)) ∧ Fr n0 L
set_option maxRecDepth 65536 in
set_option maxHeartbeats 40000000 in
theorem rm0 (l : Launch) (Z : State) (a0 : Array Value) (hw : ∀ d ∈ tables_1, d.before a0 Z = true) (ws : List Jvm.Cond) (p1 : Int32) (p2 : Int32) (p3 : Int32) (p4 : Int32) (p5 : Int32) (h0 : Heap) (n0 : Nat) (Z0 : n0 ≤ h0.size) :
    MetFree l x (head1 (Jvm.Cond.code x code maxLocals ret :: ws) room_1) (fun a U => a = #[(.int p1), (.int p2), (.int p3), (.int p4), (.int p5)] ∧ Z.Warmed39 U.vm ∧ U.heap = h0) (fun _ _ _ _ _ => True) (fun _ U o U' => ∃ v L, o = .returned v ∧ (own_q0 Z p1 p2 p3 p4 p5 h0 n0) v U'.heap L ∧ FrameEnd U o U' L room_1.cells room_1.slots) := by
  refine MetFree.of_bodySF (plainFor_of_name pn_0) hisR ?_
  intro p e s m args below meth c s₁ Bd hml0 hP hK
  obtain ⟨rfl, hZ, hh⟩ := hP
  have hx := Bd.exec
  have hby := Bd.bytes
  have hml : c.maxLocals = 11 := hml0
  have hown : s.vm.findClass "com/example/keyslice/keyslice/storage/KeyRangeAfterPinLaw" = some m.cls := findClass_of_methodNamed Bd.named
  have hnm := (name_of_methodNamed Bd.named Bd.method).1
  have X0 : Stand p l e room_1 s m #[(.int p1), (.int p2), (.int p3), (.int p4), (.int p5)] below meth c s₁ [] 0 0 := Stand.of_body Bd
  have e0 : s₁.heap = h0 := by rw [← hh, Bd.state]; rfl
  have N0 := Fr.nil n0
  have hw_0 := hw _ (List.mem_of_getElem? (i := 0) rfl)
  have hw_1 := hw _ (List.mem_of_getElem? (i := 1) rfl)
  have hw_2 := hw _ (List.mem_of_getElem? (i := 2) rfl)
  have hw_3 := hw _ (List.mem_of_getElem? (i := 3) rfl)
  have hw_4 := hw _ (List.mem_of_getElem? (i := 4) rfl)
  have hw_5 := hw _ (List.mem_of_getElem? (i := 5) rfl)
  have hw_6 := hw _ (List.mem_of_getElem? (i := 6) rfl)
  have hw_7 := hw _ (List.mem_of_getElem? (i := 7) rfl)
  have hw_8 := hw _ (List.mem_of_getElem? (i := 8) rfl)
  have hw_9 := hw _ (List.mem_of_getElem? (i := 9) rfl)
  have hw_10 := hw _ (List.mem_of_getElem? (i := 10) rfl)
  have hw_11 := hw _ (List.mem_of_getElem? (i := 11) rfl)
  have hw_12 := hw _ (List.mem_of_getElem? (i := 12) rfl)
  have hw_26 := hw _ (List.mem_of_getElem? (i := 26) rfl)
  have hw_27 := hw _ (List.mem_of_getElem? (i := 27) rfl)
  have hw_28 := hw _ (List.mem_of_getElem? (i := 28) rfl)
  show own_Fin p e below (own_A s room_1.cells room_1.slots (own_q0 Z p1 p2 p3 p4 p5 h0 n0)) _
  refine own_go (fun t k => castTop (ef_0 m (p1) (p2) (p3) (p4) (p5)) k) ?_
  show own_Fin p e below _ (s₁.setTop (mkF m 0 #[.val (.int p1), .val (.int p2), .val (.int p3), .val (.int p4), .val (.int p5), .unset, .unset, .unset, .unset, .unset, .unset] []))
  refine own_go (fun t k => XS.iloadN X0.here hx rfl (hb hby at_0) rfl  k) ?_
  show own_Fin p e below _ (s₁.setTop (mkF m 1 #[.val (.int p1), .val (.int p2), .val (.int p3), .val (.int p4), .val (.int p5), .unset, .unset, .unset, .unset, .unset, .unset] [(.int p1)]))
  refine own_go (fun t k => X0.ldcInt hx hown (mvT hZ hw_0) (g := (mkF m 1 #[.val (.int p1), .val (.int p2), .val (.int p3), .val (.int p4), .val (.int p5), .unset, .unset, .unset, .unset, .unset, .unset] [(.int p1)])) rfl (hb hby at_1) _ (XS.iand X0.here hx rfl (hb hby at_3) rfl (XS.iconst X0.here hx rfl (hb hby at_4) (iremM X0 hx rfl (hb hby at_5) rfl (by decide) k)))) ?_
  show own_Fin p e below _ (s₁.setTop (mkF m 6 #[.val (.int p1), .val (.int p2), .val (.int p3), .val (.int p4), .val (.int p5), .unset, .unset, .unset, .unset, .unset, .unset] [(.int ((p1 &&& (2147483647 : Int32)) % (5 : Int32)))]))
  rcases own_five p1 with h | h | h | h | h
  · skip
    rw [h]
    show own_Fin p e below _ (s₁.setTop (mkF m 6 #[.val (.int p1), .val (.int p2), .val (.int p3), .val (.int p4), .val (.int p5), .unset, .unset, .unset, .unset, .unset, .unset] [(.int (0 : Int32))]))
    refine own_go (fun t k => XS.istore X0.here hx rfl (hb hby at_6) rfl (l' := #[.val (.int p1), .val (.int p2), .val (.int p3), .val (.int p4), .val (.int p5), .val (.int (0 : Int32)), .unset, .unset, .unset, .unset, .unset]) rfl (XS.iconst X0.here hx rfl (hb hby at_8) k)) ?_
    show own_Fin p e below _ (s₁.setTop (mkF m 9 #[.val (.int p1), .val (.int p2), .val (.int p3), .val (.int p4), .val (.int p5), .val (.int (0 : Int32)), .unset, .unset, .unset, .unset, .unset] [(.int (4 : Int32))]))
    obtain ⟨T1, h1, k1, X1, e1, E1, A1, Ea1, st1⟩ := newPE (aty := .byte) X0 hx hZ hw_1 e0 (g := (mkF m 9 #[.val (.int p1), .val (.int p2), .val (.int p3), .val (.int p4), .val (.int p5), .val (.int (0 : Int32)), .unset, .unset, .unset, .unset, .unset] [(.int (4 : Int32))])) rfl (hb hby at_9) rfl (by decide) (cap := 4) (by decide) (by decide) (by decide) (by decide) (ad := "[B") (by decide)
    obtain ⟨b1, g1⟩ : ∃ z, z = h0.size := ⟨_, rfl⟩
    rw [← g1] at A1 Ea1 st1
    have g_b1 : n0 ≤ b1 := Nat.le_trans Z0 (Nat.le_of_eq g1.symm)
    have Zh2 : n0 ≤ h1.size := Nat.le_trans Z0 E1.1
    have V1 : Arv Z h1 b1 k1 .byte (4 : Int32) [(.int (0 : Int32)), (.int (0 : Int32)), (.int (0 : Int32)), (.int (0 : Int32))] (.int (0 : Int32)) := (Arv.new A1 (by decide)).pad (pad_rep [] (.int (0 : Int32)) 4)
    refine own_go st1 ?_
    show own_Fin p e below _ (T1.setTop (mkF m 11 #[.val (.int p1), .val (.int p2), .val (.int p3), .val (.int p4), .val (.int p5), .val (.int (0 : Int32)), .unset, .unset, .unset, .unset, .unset] [(.ref b1)]))
    refine own_go (fun t k => XS.astore X1.here hx rfl (hb hby at_11) rfl rfl (l' := #[.val (.int p1), .val (.int p2), .val (.int p3), .val (.int p4), .val (.int p5), .val (.int (0 : Int32)), .val (.ref b1), .unset, .unset, .unset, .unset]) rfl (XS.aload X1.here hx rfl (hb hby at_13) rfl rfl  (XS.iconst X1.here hx rfl (hb hby at_15) (XS.iloadN X1.here hx rfl (hb hby at_16) rfl  k)))) ?_
    show own_Fin p e below _ (T1.setTop (mkF m 17 #[.val (.int p1), .val (.int p2), .val (.int p3), .val (.int p4), .val (.int p5), .val (.int (0 : Int32)), .val (.ref b1), .unset, .unset, .unset, .unset] [(.int p2), (.int (0 : Int32)), (.ref b1)]))
    obtain ⟨_, _, ⟨T3, L3, k3, n3⟩, -, X3, ⟨Lc3, hQ3, l3, y3, z3⟩, st3⟩ := Jvm.LawKit.callS X1 hx (y := (⟨"com/example/keyslice/keyslice/storage/KeyRangeAfterPinLaw", "draw", "(I)B"⟩ : MethodName)) hown (mvT hZ hw_2) (mvT hZ hw_3) (mvT hZ hw_4) (mvT hZ hw_5) (by decide) (backOf (W := 2) (rm1 l Z a0 hw [] (p2)  h1 n0 Zh2 ) hZ hw_5 hw_4 (by decide) (by decide)) (g := (mkF m 17 #[.val (.int p1), .val (.int p2), .val (.int p3), .val (.int p4), .val (.int p5), .val (.int (0 : Int32)), .val (.ref b1), .unset, .unset, .unset, .unset] [(.int p2), (.int (0 : Int32)), (.ref b1)])) rfl (by rw [hml]; rfl) (argsL := [(.int p2)]) (rest := [(.int (0 : Int32)), (.ref b1)]) (lenOf pd_2 rfl) rfl (by show 2 * 0 + _ ≤ _; exact Nat.le_of_eq rfl) (hb hby at_17) (fun _ _ => ⟨rfl, e1, (by decide : 1 + 0 ≤ _), (by decide : 4 + 0 ≤ _)⟩)
    dsimp only [Pt.U, Pt.locs, Pt.cells, Pt.slots] at X3 l3 y3 z3 st3 hQ3
    subst l3 y3 z3
    obtain ⟨rfl, N3q, e3⟩ := hQ3
    have N3 := Fr.app N0 N3q
    refine own_go st3 ?_
    show own_Fin p e below _ (T3.setTop (mkF m 20 #[.val (.int p1), .val (.int p2), .val (.int p3), .val (.int p4), .val (.int p5), .val (.int (0 : Int32)), .val (.ref b1), .unset, .unset, .unset, .unset] [(.int (own_dr_3 p2)), (.int (0 : Int32)), (.ref b1)]))
    obtain ⟨D0, h_D0⟩ : ∃ z : Int32, z = (own_dr_3 p2) := ⟨_, rfl⟩
    rw [← h_D0]
    show own_Fin p e below _ (T3.setTop (mkF m 20 #[.val (.int p1), .val (.int p2), .val (.int p3), .val (.int p4), .val (.int p5), .val (.int (0 : Int32)), .val (.ref b1), .unset, .unset, .unset, .unset] [(.int D0), (.int (0 : Int32)), (.ref b1)]))
    have hN0 : nar .byte D0 = D0 := by rw [h_D0]; exact own_nn _
    obtain ⟨cl4, Ar4, q4, S4, M4, H4, G4⟩ := (id V1)
    have hin4 : ¬ ((0 : Int32) < 0 ∨ cl4.slots.size ≤ ((0 : Int32)).toNatClampNeg) := inb_of S4 ⟨by decide, by decide⟩
    obtain ⟨T4, h4, X4, e4, W4, st4⟩ := stB X3 hx hZ e3 Ar4 (j := (0 : Int32)) hin4 (g := (mkF m 20 #[.val (.int p1), .val (.int p2), .val (.int p3), .val (.int p4), .val (.int p5), .val (.int (0 : Int32)), .val (.ref b1), .unset, .unset, .unset, .unset] [(.int D0), (.int (0 : Int32)), (.ref b1)])) rfl rfl (hb hby at_20)
    have f5 := Ea1.wr W4
    have V4 := Arv.set Ar4 q4 S4 M4 H4 G4 (fits_nar_byte _) W4 0 rfl (Nat.le_of_ble_eq_true rfl)
    have f7 : Arv Z h4 b1 k1 .byte (4 : Int32) [(.int (nar .byte D0)), (.int (0 : Int32)), (.int (0 : Int32)), (.int (0 : Int32))] (.int (0 : Int32)) := V4
    rw [hN0] at f7
    have Zh8 : n0 ≤ h4.size := Nat.le_trans Zh2 (Nat.le_of_eq W4.size.symm)
    have N4 := Fr.snoc X4 N3 g_b1
    refine own_go st4 ?_
    show own_Fin p e below _ (T4.setTop (mkF m 21 #[.val (.int p1), .val (.int p2), .val (.int p3), .val (.int p4), .val (.int p5), .val (.int (0 : Int32)), .val (.ref b1), .unset, .unset, .unset, .unset] []))
    refine own_go (fun t k => XS.aload X4.here hx rfl (hb hby at_21) rfl rfl  (XS.iconst X4.here hx rfl (hb hby at_23) (XS.iloadN X4.here hx rfl (hb hby at_24) rfl  k))) ?_
    show own_Fin p e below _ (T4.setTop (mkF m 25 #[.val (.int p1), .val (.int p2), .val (.int p3), .val (.int p4), .val (.int p5), .val (.int (0 : Int32)), .val (.ref b1), .unset, .unset, .unset, .unset] [(.int p3), (.int (1 : Int32)), (.ref b1)]))
    obtain ⟨_, _, ⟨T9, L9, k9, n9⟩, -, X9, ⟨Lc9, hQ9, l9, y9, z9⟩, st9⟩ := Jvm.LawKit.callS X4 hx (y := (⟨"com/example/keyslice/keyslice/storage/KeyRangeAfterPinLaw", "draw", "(I)B"⟩ : MethodName)) hown (mvT hZ hw_2) (mvT hZ hw_3) (mvT hZ hw_4) (mvT hZ hw_5) (by decide) (backOf (W := 2) (rm1 l Z a0 hw [] (p3)  h4 n0 Zh8 ) hZ hw_5 hw_4 (by decide) (by decide)) (g := (mkF m 25 #[.val (.int p1), .val (.int p2), .val (.int p3), .val (.int p4), .val (.int p5), .val (.int (0 : Int32)), .val (.ref b1), .unset, .unset, .unset, .unset] [(.int p3), (.int (1 : Int32)), (.ref b1)])) rfl (by rw [hml]; rfl) (argsL := [(.int p3)]) (rest := [(.int (1 : Int32)), (.ref b1)]) (lenOf pd_2 rfl) rfl (by show 2 * 0 + _ ≤ _; exact Nat.le_of_eq rfl) (hb hby at_25) (fun _ _ => ⟨rfl, e4, (by decide : 1 + 0 ≤ _), (by decide : 4 + 0 ≤ _)⟩)
    dsimp only [Pt.U, Pt.locs, Pt.cells, Pt.slots] at X9 l9 y9 z9 st9 hQ9
    subst l9 y9 z9
    obtain ⟨rfl, N9q, e9⟩ := hQ9
    have N9 := Fr.app N4 N9q
    refine own_go st9 ?_
    show own_Fin p e below _ (T9.setTop (mkF m 28 #[.val (.int p1), .val (.int p2), .val (.int p3), .val (.int p4), .val (.int p5), .val (.int (0 : Int32)), .val (.ref b1), .unset, .unset, .unset, .unset] [(.int (own_dr_3 p3)), (.int (1 : Int32)), (.ref b1)]))
    obtain ⟨D1, h_D1⟩ : ∃ z : Int32, z = (own_dr_3 p3) := ⟨_, rfl⟩
    rw [← h_D1]
    show own_Fin p e below _ (T9.setTop (mkF m 28 #[.val (.int p1), .val (.int p2), .val (.int p3), .val (.int p4), .val (.int p5), .val (.int (0 : Int32)), .val (.ref b1), .unset, .unset, .unset, .unset] [(.int D1), (.int (1 : Int32)), (.ref b1)]))
    have hN1 : nar .byte D1 = D1 := by rw [h_D1]; exact own_nn _
    obtain ⟨cl10, Ar10, q10, S10, M10, H10, G10⟩ := (id f7)
    have hin10 : ¬ ((1 : Int32) < 0 ∨ cl10.slots.size ≤ ((1 : Int32)).toNatClampNeg) := inb_of S10 ⟨by decide, by decide⟩
    obtain ⟨T10, h10, X10, e10, W10, st10⟩ := stB X9 hx hZ e9 Ar10 (j := (1 : Int32)) hin10 (g := (mkF m 28 #[.val (.int p1), .val (.int p2), .val (.int p3), .val (.int p4), .val (.int p5), .val (.int (0 : Int32)), .val (.ref b1), .unset, .unset, .unset, .unset] [(.int D1), (.int (1 : Int32)), (.ref b1)])) rfl rfl (hb hby at_28)
    have f11 := f5.wr W10
    have V10 := Arv.set Ar10 q10 S10 M10 H10 G10 (fits_nar_byte _) W10 1 rfl (Nat.le_of_ble_eq_true rfl)
    have f13 : Arv Z h10 b1 k1 .byte (4 : Int32) [(.int D0), (.int (nar .byte D1)), (.int (0 : Int32)), (.int (0 : Int32))] (.int (0 : Int32)) := V10
    rw [hN1] at f13
    have Zh14 : n0 ≤ h10.size := Nat.le_trans Zh8 (Nat.le_of_eq W10.size.symm)
    have N10 := Fr.snoc X10 N9 g_b1
    refine own_go st10 ?_
    show own_Fin p e below _ (T10.setTop (mkF m 29 #[.val (.int p1), .val (.int p2), .val (.int p3), .val (.int p4), .val (.int p5), .val (.int (0 : Int32)), .val (.ref b1), .unset, .unset, .unset, .unset] []))
    refine own_go (fun t k => XS.aload X10.here hx rfl (hb hby at_29) rfl rfl  (XS.iconst X10.here hx rfl (hb hby at_31) (XS.iloadN X10.here hx rfl (hb hby at_32) rfl  k))) ?_
    show own_Fin p e below _ (T10.setTop (mkF m 33 #[.val (.int p1), .val (.int p2), .val (.int p3), .val (.int p4), .val (.int p5), .val (.int (0 : Int32)), .val (.ref b1), .unset, .unset, .unset, .unset] [(.int p4), (.int (2 : Int32)), (.ref b1)]))
    obtain ⟨_, _, ⟨T15, L15, k15, n15⟩, -, X15, ⟨Lc15, hQ15, l15, y15, z15⟩, st15⟩ := Jvm.LawKit.callS X10 hx (y := (⟨"com/example/keyslice/keyslice/storage/KeyRangeAfterPinLaw", "draw", "(I)B"⟩ : MethodName)) hown (mvT hZ hw_2) (mvT hZ hw_3) (mvT hZ hw_4) (mvT hZ hw_5) (by decide) (backOf (W := 2) (rm1 l Z a0 hw [] (p4)  h10 n0 Zh14 ) hZ hw_5 hw_4 (by decide) (by decide)) (g := (mkF m 33 #[.val (.int p1), .val (.int p2), .val (.int p3), .val (.int p4), .val (.int p5), .val (.int (0 : Int32)), .val (.ref b1), .unset, .unset, .unset, .unset] [(.int p4), (.int (2 : Int32)), (.ref b1)])) rfl (by rw [hml]; rfl) (argsL := [(.int p4)]) (rest := [(.int (2 : Int32)), (.ref b1)]) (lenOf pd_2 rfl) rfl (by show 2 * 0 + _ ≤ _; exact Nat.le_of_eq rfl) (hb hby at_33) (fun _ _ => ⟨rfl, e10, (by decide : 1 + 0 ≤ _), (by decide : 4 + 0 ≤ _)⟩)
    dsimp only [Pt.U, Pt.locs, Pt.cells, Pt.slots] at X15 l15 y15 z15 st15 hQ15
    subst l15 y15 z15
    obtain ⟨rfl, N15q, e15⟩ := hQ15
    have N15 := Fr.app N10 N15q
    refine own_go st15 ?_
    show own_Fin p e below _ (T15.setTop (mkF m 36 #[.val (.int p1), .val (.int p2), .val (.int p3), .val (.int p4), .val (.int p5), .val (.int (0 : Int32)), .val (.ref b1), .unset, .unset, .unset, .unset] [(.int (own_dr_3 p4)), (.int (2 : Int32)), (.ref b1)]))
    obtain ⟨D2, h_D2⟩ : ∃ z : Int32, z = (own_dr_3 p4) := ⟨_, rfl⟩
    rw [← h_D2]
    show own_Fin p e below _ (T15.setTop (mkF m 36 #[.val (.int p1), .val (.int p2), .val (.int p3), .val (.int p4), .val (.int p5), .val (.int (0 : Int32)), .val (.ref b1), .unset, .unset, .unset, .unset] [(.int D2), (.int (2 : Int32)), (.ref b1)]))
    have hN2 : nar .byte D2 = D2 := by rw [h_D2]; exact own_nn _
    obtain ⟨cl16, Ar16, q16, S16, M16, H16, G16⟩ := (id f13)
    have hin16 : ¬ ((2 : Int32) < 0 ∨ cl16.slots.size ≤ ((2 : Int32)).toNatClampNeg) := inb_of S16 ⟨by decide, by decide⟩
    obtain ⟨T16, h16, X16, e16, W16, st16⟩ := stB X15 hx hZ e15 Ar16 (j := (2 : Int32)) hin16 (g := (mkF m 36 #[.val (.int p1), .val (.int p2), .val (.int p3), .val (.int p4), .val (.int p5), .val (.int (0 : Int32)), .val (.ref b1), .unset, .unset, .unset, .unset] [(.int D2), (.int (2 : Int32)), (.ref b1)])) rfl rfl (hb hby at_36)
    have f17 := f11.wr W16
    have V16 := Arv.set Ar16 q16 S16 M16 H16 G16 (fits_nar_byte _) W16 2 rfl (Nat.le_of_ble_eq_true rfl)
    have f19 : Arv Z h16 b1 k1 .byte (4 : Int32) [(.int D0), (.int D1), (.int (nar .byte D2)), (.int (0 : Int32))] (.int (0 : Int32)) := V16
    rw [hN2] at f19
    have Zh20 : n0 ≤ h16.size := Nat.le_trans Zh14 (Nat.le_of_eq W16.size.symm)
    have N16 := Fr.snoc X16 N15 g_b1
    refine own_go st16 ?_
    show own_Fin p e below _ (T16.setTop (mkF m 37 #[.val (.int p1), .val (.int p2), .val (.int p3), .val (.int p4), .val (.int p5), .val (.int (0 : Int32)), .val (.ref b1), .unset, .unset, .unset, .unset] []))
    refine own_go (fun t k => XS.aload X16.here hx rfl (hb hby at_37) rfl rfl  (XS.iconst X16.here hx rfl (hb hby at_39) (XS.iload X16.here hx rfl (hb hby at_40) rfl  k))) ?_
    show own_Fin p e below _ (T16.setTop (mkF m 42 #[.val (.int p1), .val (.int p2), .val (.int p3), .val (.int p4), .val (.int p5), .val (.int (0 : Int32)), .val (.ref b1), .unset, .unset, .unset, .unset] [(.int p5), (.int (3 : Int32)), (.ref b1)]))
    obtain ⟨_, _, ⟨T21, L21, k21, n21⟩, -, X21, ⟨Lc21, hQ21, l21, y21, z21⟩, st21⟩ := Jvm.LawKit.callS X16 hx (y := (⟨"com/example/keyslice/keyslice/storage/KeyRangeAfterPinLaw", "draw", "(I)B"⟩ : MethodName)) hown (mvT hZ hw_2) (mvT hZ hw_3) (mvT hZ hw_4) (mvT hZ hw_5) (by decide) (backOf (W := 2) (rm1 l Z a0 hw [] (p5)  h16 n0 Zh20 ) hZ hw_5 hw_4 (by decide) (by decide)) (g := (mkF m 42 #[.val (.int p1), .val (.int p2), .val (.int p3), .val (.int p4), .val (.int p5), .val (.int (0 : Int32)), .val (.ref b1), .unset, .unset, .unset, .unset] [(.int p5), (.int (3 : Int32)), (.ref b1)])) rfl (by rw [hml]; rfl) (argsL := [(.int p5)]) (rest := [(.int (3 : Int32)), (.ref b1)]) (lenOf pd_2 rfl) rfl (by show 2 * 0 + _ ≤ _; exact Nat.le_of_eq rfl) (hb hby at_42) (fun _ _ => ⟨rfl, e16, (by decide : 1 + 0 ≤ _), (by decide : 4 + 0 ≤ _)⟩)
    dsimp only [Pt.U, Pt.locs, Pt.cells, Pt.slots] at X21 l21 y21 z21 st21 hQ21
    subst l21 y21 z21
    obtain ⟨rfl, N21q, e21⟩ := hQ21
    have N21 := Fr.app N16 N21q
    refine own_go st21 ?_
    show own_Fin p e below _ (T21.setTop (mkF m 45 #[.val (.int p1), .val (.int p2), .val (.int p3), .val (.int p4), .val (.int p5), .val (.int (0 : Int32)), .val (.ref b1), .unset, .unset, .unset, .unset] [(.int (own_dr_3 p5)), (.int (3 : Int32)), (.ref b1)]))
    obtain ⟨D3, h_D3⟩ : ∃ z : Int32, z = (own_dr_3 p5) := ⟨_, rfl⟩
    rw [← h_D3]
    show own_Fin p e below _ (T21.setTop (mkF m 45 #[.val (.int p1), .val (.int p2), .val (.int p3), .val (.int p4), .val (.int p5), .val (.int (0 : Int32)), .val (.ref b1), .unset, .unset, .unset, .unset] [(.int D3), (.int (3 : Int32)), (.ref b1)]))
    have hN3 : nar .byte D3 = D3 := by rw [h_D3]; exact own_nn _
    obtain ⟨cl22, Ar22, q22, S22, M22, H22, G22⟩ := (id f19)
    have hin22 : ¬ ((3 : Int32) < 0 ∨ cl22.slots.size ≤ ((3 : Int32)).toNatClampNeg) := inb_of S22 ⟨by decide, by decide⟩
    obtain ⟨T22, h22, X22, e22, W22, st22⟩ := stB X21 hx hZ e21 Ar22 (j := (3 : Int32)) hin22 (g := (mkF m 45 #[.val (.int p1), .val (.int p2), .val (.int p3), .val (.int p4), .val (.int p5), .val (.int (0 : Int32)), .val (.ref b1), .unset, .unset, .unset, .unset] [(.int D3), (.int (3 : Int32)), (.ref b1)])) rfl rfl (hb hby at_45)
    have f23 := f17.wr W22
    have V22 := Arv.set Ar22 q22 S22 M22 H22 G22 (fits_nar_byte _) W22 3 rfl (Nat.le_of_ble_eq_true rfl)
    have f25 : Arv Z h22 b1 k1 .byte (4 : Int32) [(.int D0), (.int D1), (.int D2), (.int (nar .byte D3))] (.int (0 : Int32)) := V22
    rw [hN3] at f25
    have Zh26 : n0 ≤ h22.size := Nat.le_trans Zh20 (Nat.le_of_eq W22.size.symm)
    have N22 := Fr.snoc X22 N21 g_b1
    refine own_go st22 ?_
    show own_Fin p e below _ (T22.setTop (mkF m 46 #[.val (.int p1), .val (.int p2), .val (.int p3), .val (.int p4), .val (.int p5), .val (.int (0 : Int32)), .val (.ref b1), .unset, .unset, .unset, .unset] []))
    refine own_go (fun t k => XS.iload X22.here hx rfl (hb hby at_46) rfl  k) ?_
    show own_Fin p e below _ (T22.setTop (mkF m 48 #[.val (.int p1), .val (.int p2), .val (.int p3), .val (.int p4), .val (.int p5), .val (.int (0 : Int32)), .val (.ref b1), .unset, .unset, .unset, .unset] [(.int (0 : Int32))]))
    obtain ⟨T27, h27, k27, X27, e27, E27, A27, Ea27, st27⟩ := newPE (aty := .byte) X22 hx hZ hw_1 e22 (g := (mkF m 48 #[.val (.int p1), .val (.int p2), .val (.int p3), .val (.int p4), .val (.int p5), .val (.int (0 : Int32)), .val (.ref b1), .unset, .unset, .unset, .unset] [(.int (0 : Int32))])) rfl (hb hby at_48) rfl (by decide) (cap := 0) (by decide) (by decide) (by decide) (by decide) (ad := "[B") (by decide)
    obtain ⟨b27, g27⟩ : ∃ z, z = h22.size := ⟨_, rfl⟩
    rw [← g27] at A27 Ea27 st27
    have g_b27 : n0 ≤ b27 := Nat.le_trans Zh26 (Nat.le_of_eq g27.symm)
    have ne28 : b1 ≠ b27 := Nat.ne_of_lt (Nat.lt_of_lt_of_le f23.lt (Nat.le_of_eq g27.symm))
    have f29 := f23.ext E27
    have f30 := f25.ext E27
    have Zh31 : n0 ≤ h27.size := Nat.le_trans Zh26 E27.1
    have V27 : Arv Z h27 b27 k27 .byte (0 : Int32) [] (.int (0 : Int32)) := (Arv.new A27 (by decide)).pad (pad_rep [] (.int (0 : Int32)) 0)
    refine own_go st27 ?_
    show own_Fin p e below _ (T27.setTop (mkF m 50 #[.val (.int p1), .val (.int p2), .val (.int p3), .val (.int p4), .val (.int p5), .val (.int (0 : Int32)), .val (.ref b1), .unset, .unset, .unset, .unset] [(.ref b27)]))
    refine own_go (fun t k => XS.astore X27.here hx rfl (hb hby at_50) rfl rfl (l' := #[.val (.int p1), .val (.int p2), .val (.int p3), .val (.int p4), .val (.int p5), .val (.int (0 : Int32)), .val (.ref b1), .val (.ref b27), .unset, .unset, .unset]) rfl (XS.iload X27.here hx rfl (hb hby at_52) rfl  k)) ?_
    show own_Fin p e below _ (T27.setTop (mkF m 54 #[.val (.int p1), .val (.int p2), .val (.int p3), .val (.int p4), .val (.int p5), .val (.int (0 : Int32)), .val (.ref b1), .val (.ref b27), .unset, .unset, .unset] [(.int (0 : Int32))]))
    refine own_go (fun t k => XS.ifYes X27.here hx rfl (pc0 := 54) (pc' := 65) rfl (hb hby at_54) rfl ((if0 _ _).trans (flt (by decide : ¬ ((0 : Int32) < (0 : Int32)))).2.2.2) (by decide) (by decide) (XS.iload X27.here hx rfl (hb hby at_65) rfl  (XS.iconst X27.here hx rfl (hb hby at_67) k))) ?_
    show own_Fin p e below _ (T27.setTop (mkF m 68 #[.val (.int p1), .val (.int p2), .val (.int p3), .val (.int p4), .val (.int p5), .val (.int (0 : Int32)), .val (.ref b1), .val (.ref b27), .unset, .unset, .unset] [(.int (1 : Int32)), (.int (0 : Int32))]))
    refine own_go (fun t k => XS.icmpYes X27.here hx rfl (pc0 := 68) (pc' := 79) rfl (hb hby at_68) rfl (flt (by decide : ¬ ((1 : Int32) < (0 : Int32)))).2.2.2 (by decide) (by decide) (XS.iload X27.here hx rfl (hb hby at_79) rfl  (XS.iconst X27.here hx rfl (hb hby at_81) k))) ?_
    show own_Fin p e below _ (T27.setTop (mkF m 82 #[.val (.int p1), .val (.int p2), .val (.int p3), .val (.int p4), .val (.int p5), .val (.int (0 : Int32)), .val (.ref b1), .val (.ref b27), .unset, .unset, .unset] [(.int (2 : Int32)), (.int (0 : Int32))]))
    refine own_go (fun t k => XS.icmpYes X27.here hx rfl (pc0 := 82) (pc' := 93) rfl (hb hby at_82) rfl (flt (by decide : ¬ ((2 : Int32) < (0 : Int32)))).2.2.2 (by decide) (by decide) (XS.iload X27.here hx rfl (hb hby at_93) rfl  (XS.iconst X27.here hx rfl (hb hby at_95) k))) ?_
    show own_Fin p e below _ (T27.setTop (mkF m 96 #[.val (.int p1), .val (.int p2), .val (.int p3), .val (.int p4), .val (.int p5), .val (.int (0 : Int32)), .val (.ref b1), .val (.ref b27), .unset, .unset, .unset] [(.int (3 : Int32)), (.int (0 : Int32))]))
    refine own_go (fun t k => XS.icmpYes X27.here hx rfl (pc0 := 96) (pc' := 107) rfl (hb hby at_96) rfl (flt (by decide : ¬ ((3 : Int32) < (0 : Int32)))).2.2.2 (by decide) (by decide) (XS.iload X27.here hx rfl (hb hby at_107) rfl  (XS.iconst X27.here hx rfl (hb hby at_109) k))) ?_
    show own_Fin p e below _ (T27.setTop (mkF m 110 #[.val (.int p1), .val (.int p2), .val (.int p3), .val (.int p4), .val (.int p5), .val (.int (0 : Int32)), .val (.ref b1), .val (.ref b27), .unset, .unset, .unset] [(.int (4 : Int32)), (.int (0 : Int32))]))
    refine own_go (fun t k => XS.icmpYes X27.here hx rfl (pc0 := 110) (pc' := 127) rfl (hb hby at_110) rfl (tlt (by decide : (0 : Int32) < (4 : Int32))).1 (by decide) (by decide) (XS.iload X27.here hx rfl (hb hby at_127) rfl  (XS.iconst X27.here hx rfl (hb hby at_129) k))) ?_
    show own_Fin p e below _ (T27.setTop (mkF m 130 #[.val (.int p1), .val (.int p2), .val (.int p3), .val (.int p4), .val (.int p5), .val (.int (0 : Int32)), .val (.ref b1), .val (.ref b27), .unset, .unset, .unset] [(.int (3 : Int32)), (.int (0 : Int32))]))
    refine own_go (fun t k => XS.icmpYes X27.here hx rfl (pc0 := 130) (pc' := 147) rfl (hb hby at_130) rfl (tlt (by decide : (0 : Int32) < (3 : Int32))).1 (by decide) (by decide) (XS.iload X27.here hx rfl (hb hby at_147) rfl  (XS.iconst X27.here hx rfl (hb hby at_149) k))) ?_
    show own_Fin p e below _ (T27.setTop (mkF m 150 #[.val (.int p1), .val (.int p2), .val (.int p3), .val (.int p4), .val (.int p5), .val (.int (0 : Int32)), .val (.ref b1), .val (.ref b27), .unset, .unset, .unset] [(.int (2 : Int32)), (.int (0 : Int32))]))
    refine own_go (fun t k => XS.icmpYes X27.here hx rfl (pc0 := 150) (pc' := 167) rfl (hb hby at_150) rfl (tlt (by decide : (0 : Int32) < (2 : Int32))).1 (by decide) (by decide) (XS.iload X27.here hx rfl (hb hby at_167) rfl  (XS.iconst X27.here hx rfl (hb hby at_169) k))) ?_
    show own_Fin p e below _ (T27.setTop (mkF m 170 #[.val (.int p1), .val (.int p2), .val (.int p3), .val (.int p4), .val (.int p5), .val (.int (0 : Int32)), .val (.ref b1), .val (.ref b27), .unset, .unset, .unset] [(.int (1 : Int32)), (.int (0 : Int32))]))
    refine own_go (fun t k => XS.icmpYes X27.here hx rfl (pc0 := 170) (pc' := 187) rfl (hb hby at_170) rfl (tlt (by decide : (0 : Int32) < (1 : Int32))).1 (by decide) (by decide) (XS.iconst X27.here hx rfl (hb hby at_187) (XS.istore X27.here hx rfl (hb hby at_188) rfl (l' := #[.val (.int p1), .val (.int p2), .val (.int p3), .val (.int p4), .val (.int p5), .val (.int (0 : Int32)), .val (.ref b1), .val (.ref b27), .val (.int (0 : Int32)), .unset, .unset]) rfl (XS.aload X27.here hx rfl (hb hby at_190) rfl rfl  k)))) ?_
    show own_Fin p e below _ (T27.setTop (mkF m 192 #[.val (.int p1), .val (.int p2), .val (.int p3), .val (.int p4), .val (.int p5), .val (.int (0 : Int32)), .val (.ref b1), .val (.ref b27), .val (.int (0 : Int32)), .unset, .unset] [(.ref b27)]))
    obtain ⟨_, _, ⟨T32, L32, k32, n32⟩, -, X32, ⟨Lc32, hQ32, l32, y32, z32⟩, st32⟩ := Jvm.LawKit.callS X27 hx (y := (⟨"com/example/keyslice/keyslice/storage/KeyRange", "after", "([B)[B"⟩ : MethodName)) hown (mvT hZ hw_6) (mvT hZ hw_7) (mvT hZ hw_8) (mvT hZ hw_9) (by decide) (backOf (W := 0) (rm2r00 l Z a0 hw [] (b27) k27  h27 n0 Zh31 V27 Ea27) hZ hw_9 hw_8 (by decide) (by decide)) (g := (mkF m 192 #[.val (.int p1), .val (.int p2), .val (.int p3), .val (.int p4), .val (.int p5), .val (.int (0 : Int32)), .val (.ref b1), .val (.ref b27), .val (.int (0 : Int32)), .unset, .unset] [(.ref b27)])) rfl (by rw [hml]; rfl) (argsL := [(.ref b27)]) (rest := []) (lenOf pd_3 rfl) rfl (by show 2 * 0 + _ ≤ _; exact Nat.le_of_eq rfl) (hb hby at_192) (fun _ _ => ⟨rfl, e27, (by decide : 2 + 0 ≤ _), (by decide : 4 + 0 ≤ _)⟩)
    dsimp only [Pt.U, Pt.locs, Pt.cells, Pt.slots] at X32 l32 y32 z32 st32 hQ32
    subst l32 y32 z32
    obtain ⟨rfl, N32q, e32⟩ := hQ32
    have N32 := Fr.app N22 N32q
    refine own_go st32 ?_
    show own_Fin p e below _ (T32.setTop (mkF m 195 #[.val (.int p1), .val (.int p2), .val (.int p3), .val (.int p4), .val (.int p5), .val (.int (0 : Int32)), .val (.ref b1), .val (.ref b27), .val (.int (0 : Int32)), .unset, .unset] [.null]))
    refine own_go (fun t k => XS.astore X32.here hx rfl (hb hby at_195) rfl rfl (l' := #[.val (.int p1), .val (.int p2), .val (.int p3), .val (.int p4), .val (.int p5), .val (.int (0 : Int32)), .val (.ref b1), .val (.ref b27), .val (.int (0 : Int32)), .val .null, .unset]) rfl (XS.aload X32.here hx rfl (hb hby at_197) rfl rfl  (XS.aload X32.here hx rfl (hb hby at_199) rfl rfl  (XS.iconst X32.here hx rfl (hb hby at_201) (XS.iload X32.here hx rfl (hb hby at_202) rfl  k))))) ?_
    show own_Fin p e below _ (T32.setTop (mkF m 204 #[.val (.int p1), .val (.int p2), .val (.int p3), .val (.int p4), .val (.int p5), .val (.int (0 : Int32)), .val (.ref b1), .val (.ref b27), .val (.int (0 : Int32)), .val .null, .unset] [(.int (0 : Int32)), (.int (0 : Int32)), (.ref b1), (.ref b27)]))
    obtain ⟨_, _, ⟨T33, L33, k33, n33⟩, -, X33, ⟨Lc33, hQ33, l33, y33, z33⟩, st33⟩ := Jvm.LawKit.callS X32 hx (y := (⟨"com/example/keyslice/keyslice/storage/KeyRangeAfterPinLaw", "held", "([B[BII)Z"⟩ : MethodName)) hown (mvT hZ hw_10) (mvT hZ hw_11) (mvT hZ hw_4) (mvT hZ hw_12) (by decide) (backOf (W := 0) (rm3h00 l Z a0 hw [] (b27) (b1) k27 k1 (D0) (D1) (D2) (D3) h27 n0 Zh31 V27 f30) hZ hw_12 hw_4 (by decide) (by decide)) (g := (mkF m 204 #[.val (.int p1), .val (.int p2), .val (.int p3), .val (.int p4), .val (.int p5), .val (.int (0 : Int32)), .val (.ref b1), .val (.ref b27), .val (.int (0 : Int32)), .val .null, .unset] [(.int (0 : Int32)), (.int (0 : Int32)), (.ref b1), (.ref b27)])) rfl (by rw [hml]; rfl) (argsL := [(.ref b27), (.ref b1), (.int (0 : Int32)), (.int (0 : Int32))]) (rest := []) (lenOf pd_4 rfl) rfl (by show 2 * 0 + _ ≤ _; exact Nat.le_of_eq rfl) (hb hby at_204) (fun _ _ => ⟨rfl, e32, (by decide : 2 + 0 ≤ _), (by decide : 4 + 0 ≤ _)⟩)
    dsimp only [Pt.U, Pt.locs, Pt.cells, Pt.slots] at X33 l33 y33 z33 st33 hQ33
    subst l33 y33 z33
    obtain ⟨rfl, N33q, e33⟩ := hQ33
    have N33 := Fr.app N32 N33q
    refine own_go st33 ?_
    show own_Fin p e below _ (T33.setTop (mkF m 207 #[.val (.int p1), .val (.int p2), .val (.int p3), .val (.int p4), .val (.int p5), .val (.int (0 : Int32)), .val (.ref b1), .val (.ref b27), .val (.int (0 : Int32)), .val .null, .unset] [(.int (1 : Int32))]))
    refine own_go (fun t k => XS.ifNo X33.here hx rfl (hb hby at_207) rfl ((if0 _ _).trans (feq (by decide : ¬ ((1 : Int32) = (0 : Int32)))).1) (XS.aload X33.here hx rfl (hb hby at_210) rfl rfl  (XS.aload X33.here hx rfl (hb hby at_212) rfl rfl  (XS.iconst X33.here hx rfl (hb hby at_214) (XS.iload X33.here hx rfl (hb hby at_215) rfl  k))))) ?_
    show own_Fin p e below _ (T33.setTop (mkF m 217 #[.val (.int p1), .val (.int p2), .val (.int p3), .val (.int p4), .val (.int p5), .val (.int (0 : Int32)), .val (.ref b1), .val (.ref b27), .val (.int (0 : Int32)), .val .null, .unset] [(.int (0 : Int32)), (.int (1 : Int32)), (.ref b1), (.ref b27)]))
    obtain ⟨_, _, ⟨T34, L34, k34, n34⟩, -, X34, ⟨Lc34, hQ34, l34, y34, z34⟩, st34⟩ := Jvm.LawKit.callS X33 hx (y := (⟨"com/example/keyslice/keyslice/storage/KeyRangeAfterPinLaw", "held", "([B[BII)Z"⟩ : MethodName)) hown (mvT hZ hw_10) (mvT hZ hw_11) (mvT hZ hw_4) (mvT hZ hw_12) (by decide) (backOf (W := 0) (rm3h10 l Z a0 hw [] (b27) (b1) k27 k1 (D0) (D1) (D2) (D3) h27 n0 Zh31 V27 f30) hZ hw_12 hw_4 (by decide) (by decide)) (g := (mkF m 217 #[.val (.int p1), .val (.int p2), .val (.int p3), .val (.int p4), .val (.int p5), .val (.int (0 : Int32)), .val (.ref b1), .val (.ref b27), .val (.int (0 : Int32)), .val .null, .unset] [(.int (0 : Int32)), (.int (1 : Int32)), (.ref b1), (.ref b27)])) rfl (by rw [hml]; rfl) (argsL := [(.ref b27), (.ref b1), (.int (1 : Int32)), (.int (0 : Int32))]) (rest := []) (lenOf pd_4 rfl) rfl (by show 2 * 0 + _ ≤ _; exact Nat.le_of_eq rfl) (hb hby at_217) (fun _ _ => ⟨rfl, e33, (by decide : 2 + 0 ≤ _), (by decide : 4 + 0 ≤ _)⟩)
    dsimp only [Pt.U, Pt.locs, Pt.cells, Pt.slots] at X34 l34 y34 z34 st34 hQ34
    subst l34 y34 z34
    obtain ⟨rfl, N34q, e34⟩ := hQ34
    have N34 := Fr.app N33 N34q
    refine own_go st34 ?_
    show own_Fin p e below _ (T34.setTop (mkF m 220 #[.val (.int p1), .val (.int p2), .val (.int p3), .val (.int p4), .val (.int p5), .val (.int (0 : Int32)), .val (.ref b1), .val (.ref b27), .val (.int (0 : Int32)), .val .null, .unset] [(.int (1 : Int32))]))
    refine own_go (fun t k => XS.ifNo X34.here hx rfl (hb hby at_220) rfl ((if0 _ _).trans (feq (by decide : ¬ ((1 : Int32) = (0 : Int32)))).1) (XS.aload X34.here hx rfl (hb hby at_223) rfl rfl  (XS.aload X34.here hx rfl (hb hby at_225) rfl rfl  (XS.iconst X34.here hx rfl (hb hby at_227) (XS.iload X34.here hx rfl (hb hby at_228) rfl  k))))) ?_
    show own_Fin p e below _ (T34.setTop (mkF m 230 #[.val (.int p1), .val (.int p2), .val (.int p3), .val (.int p4), .val (.int p5), .val (.int (0 : Int32)), .val (.ref b1), .val (.ref b27), .val (.int (0 : Int32)), .val .null, .unset] [(.int (0 : Int32)), (.int (2 : Int32)), (.ref b1), (.ref b27)]))
    obtain ⟨_, _, ⟨T35, L35, k35, n35⟩, -, X35, ⟨Lc35, hQ35, l35, y35, z35⟩, st35⟩ := Jvm.LawKit.callS X34 hx (y := (⟨"com/example/keyslice/keyslice/storage/KeyRangeAfterPinLaw", "held", "([B[BII)Z"⟩ : MethodName)) hown (mvT hZ hw_10) (mvT hZ hw_11) (mvT hZ hw_4) (mvT hZ hw_12) (by decide) (backOf (W := 0) (rm3h20 l Z a0 hw [] (b27) (b1) k27 k1 (D0) (D1) (D2) (D3) h27 n0 Zh31 V27 f30) hZ hw_12 hw_4 (by decide) (by decide)) (g := (mkF m 230 #[.val (.int p1), .val (.int p2), .val (.int p3), .val (.int p4), .val (.int p5), .val (.int (0 : Int32)), .val (.ref b1), .val (.ref b27), .val (.int (0 : Int32)), .val .null, .unset] [(.int (0 : Int32)), (.int (2 : Int32)), (.ref b1), (.ref b27)])) rfl (by rw [hml]; rfl) (argsL := [(.ref b27), (.ref b1), (.int (2 : Int32)), (.int (0 : Int32))]) (rest := []) (lenOf pd_4 rfl) rfl (by show 2 * 0 + _ ≤ _; exact Nat.le_of_eq rfl) (hb hby at_230) (fun _ _ => ⟨rfl, e34, (by decide : 2 + 0 ≤ _), (by decide : 4 + 0 ≤ _)⟩)
    dsimp only [Pt.U, Pt.locs, Pt.cells, Pt.slots] at X35 l35 y35 z35 st35 hQ35
    subst l35 y35 z35
    obtain ⟨rfl, N35q, e35⟩ := hQ35
    have N35 := Fr.app N34 N35q
    refine own_go st35 ?_
    show own_Fin p e below _ (T35.setTop (mkF m 233 #[.val (.int p1), .val (.int p2), .val (.int p3), .val (.int p4), .val (.int p5), .val (.int (0 : Int32)), .val (.ref b1), .val (.ref b27), .val (.int (0 : Int32)), .val .null, .unset] [(.int (1 : Int32))]))
    refine own_go (fun t k => XS.ifNo X35.here hx rfl (hb hby at_233) rfl ((if0 _ _).trans (feq (by decide : ¬ ((1 : Int32) = (0 : Int32)))).1) (XS.aload X35.here hx rfl (hb hby at_236) rfl rfl  (XS.aload X35.here hx rfl (hb hby at_238) rfl rfl  (XS.iconst X35.here hx rfl (hb hby at_240) (XS.iload X35.here hx rfl (hb hby at_241) rfl  k))))) ?_
    show own_Fin p e below _ (T35.setTop (mkF m 243 #[.val (.int p1), .val (.int p2), .val (.int p3), .val (.int p4), .val (.int p5), .val (.int (0 : Int32)), .val (.ref b1), .val (.ref b27), .val (.int (0 : Int32)), .val .null, .unset] [(.int (0 : Int32)), (.int (3 : Int32)), (.ref b1), (.ref b27)]))
    obtain ⟨_, _, ⟨T36, L36, k36, n36⟩, -, X36, ⟨Lc36, hQ36, l36, y36, z36⟩, st36⟩ := Jvm.LawKit.callS X35 hx (y := (⟨"com/example/keyslice/keyslice/storage/KeyRangeAfterPinLaw", "held", "([B[BII)Z"⟩ : MethodName)) hown (mvT hZ hw_10) (mvT hZ hw_11) (mvT hZ hw_4) (mvT hZ hw_12) (by decide) (backOf (W := 0) (rm3h30 l Z a0 hw [] (b27) (b1) k27 k1 (D0) (D1) (D2) (D3) h27 n0 Zh31 V27 f30) hZ hw_12 hw_4 (by decide) (by decide)) (g := (mkF m 243 #[.val (.int p1), .val (.int p2), .val (.int p3), .val (.int p4), .val (.int p5), .val (.int (0 : Int32)), .val (.ref b1), .val (.ref b27), .val (.int (0 : Int32)), .val .null, .unset] [(.int (0 : Int32)), (.int (3 : Int32)), (.ref b1), (.ref b27)])) rfl (by rw [hml]; rfl) (argsL := [(.ref b27), (.ref b1), (.int (3 : Int32)), (.int (0 : Int32))]) (rest := []) (lenOf pd_4 rfl) rfl (by show 2 * 0 + _ ≤ _; exact Nat.le_of_eq rfl) (hb hby at_243) (fun _ _ => ⟨rfl, e35, (by decide : 2 + 0 ≤ _), (by decide : 4 + 0 ≤ _)⟩)
    dsimp only [Pt.U, Pt.locs, Pt.cells, Pt.slots] at X36 l36 y36 z36 st36 hQ36
    subst l36 y36 z36
    obtain ⟨rfl, N36q, e36⟩ := hQ36
    have N36 := Fr.app N35 N36q
    refine own_go st36 ?_
    show own_Fin p e below _ (T36.setTop (mkF m 246 #[.val (.int p1), .val (.int p2), .val (.int p3), .val (.int p4), .val (.int p5), .val (.int (0 : Int32)), .val (.ref b1), .val (.ref b27), .val (.int (0 : Int32)), .val .null, .unset] [(.int (1 : Int32))]))
    refine own_go (fun t k => XS.ifNo X36.here hx rfl (hb hby at_246) rfl ((if0 _ _).trans (feq (by decide : ¬ ((1 : Int32) = (0 : Int32)))).1) (XS.iconst X36.here hx rfl (hb hby at_249) (XS.goto X36.here hx rfl (pc0 := 250) (pc' := 254) rfl (hb hby at_250) (by decide) (by decide) (XS.istore X36.here hx rfl (hb hby at_254) rfl (l' := #[.val (.int p1), .val (.int p2), .val (.int p3), .val (.int p4), .val (.int p5), .val (.int (0 : Int32)), .val (.ref b1), .val (.ref b27), .val (.int (0 : Int32)), .val .null, .val (.int (1 : Int32))]) rfl (XS.iload X36.here hx rfl (hb hby at_256) rfl  k))))) ?_
    show own_Fin p e below _ (T36.setTop (mkF m 258 #[.val (.int p1), .val (.int p2), .val (.int p3), .val (.int p4), .val (.int p5), .val (.int (0 : Int32)), .val (.ref b1), .val (.ref b27), .val (.int (0 : Int32)), .val .null, .val (.int (1 : Int32))] [(.int (0 : Int32))]))
    refine own_go (fun t k => XS.ifNo X36.here hx rfl (hb hby at_258) rfl ((if0 _ _).trans (teq (by decide : (0 : Int32) = (0 : Int32))).2) (XS.aload X36.here hx rfl (hb hby at_261) rfl rfl  k)) ?_
    show own_Fin p e below _ (T36.setTop (mkF m 263 #[.val (.int p1), .val (.int p2), .val (.int p3), .val (.int p4), .val (.int p5), .val (.int (0 : Int32)), .val (.ref b1), .val (.ref b27), .val (.int (0 : Int32)), .val .null, .val (.int (1 : Int32))] [.null]))
    refine own_go (fun t k => XS.ifnonnullNo X36.here hx rfl (hb hby at_263) rfl (XS.iload X36.here hx rfl (hb hby at_266) rfl  k)) ?_
    show own_Fin p e below _ (T36.setTop (mkF m 268 #[.val (.int p1), .val (.int p2), .val (.int p3), .val (.int p4), .val (.int p5), .val (.int (0 : Int32)), .val (.ref b1), .val (.ref b27), .val (.int (0 : Int32)), .val .null, .val (.int (1 : Int32))] [(.int (1 : Int32))]))
    refine own_go (fun t k => XS.ifNo X36.here hx rfl (hb hby at_268) rfl ((if0 _ _).trans (feq (by decide : ¬ ((1 : Int32) = (0 : Int32)))).1) (XS.iconst X36.here hx rfl (hb hby at_271) (XS.goto X36.here hx rfl (pc0 := 272) (pc' := 276) rfl (hb hby at_272) (by decide) (by decide) k))) ?_
    show own_Fin p e below _ (T36.setTop (mkF m 276 #[.val (.int p1), .val (.int p2), .val (.int p3), .val (.int p4), .val (.int p5), .val (.int (0 : Int32)), .val (.ref b1), .val (.ref b27), .val (.int (0 : Int32)), .val .null, .val (.int (1 : Int32))] [(.int (1 : Int32))]))
    exact own_out X36 (fun h => by rw [Bd.returns] at h; cases h) Bd.notSynchronized (fun fs hr => retN X36 hx (t := .boolean) Bd.returns (by simp) (hb hby at_276) hr) ⟨rfl, N36⟩ (by decide) (by decide)
  · skip
    rw [h]
    show own_Fin p e below _ (s₁.setTop (mkF m 6 #[.val (.int p1), .val (.int p2), .val (.int p3), .val (.int p4), .val (.int p5), .unset, .unset, .unset, .unset, .unset, .unset] [(.int (1 : Int32))]))
    refine own_go (fun t k => XS.istore X0.here hx rfl (hb hby at_6) rfl (l' := #[.val (.int p1), .val (.int p2), .val (.int p3), .val (.int p4), .val (.int p5), .val (.int (1 : Int32)), .unset, .unset, .unset, .unset, .unset]) rfl (XS.iconst X0.here hx rfl (hb hby at_8) k)) ?_
    show own_Fin p e below _ (s₁.setTop (mkF m 9 #[.val (.int p1), .val (.int p2), .val (.int p3), .val (.int p4), .val (.int p5), .val (.int (1 : Int32)), .unset, .unset, .unset, .unset, .unset] [(.int (4 : Int32))]))
    obtain ⟨T37, h37, k37, X37, e37, E37, A37, Ea37, st37⟩ := newPE (aty := .byte) X0 hx hZ hw_1 e0 (g := (mkF m 9 #[.val (.int p1), .val (.int p2), .val (.int p3), .val (.int p4), .val (.int p5), .val (.int (1 : Int32)), .unset, .unset, .unset, .unset, .unset] [(.int (4 : Int32))])) rfl (hb hby at_9) rfl (by decide) (cap := 4) (by decide) (by decide) (by decide) (by decide) (ad := "[B") (by decide)
    obtain ⟨b37, g37⟩ : ∃ z, z = h0.size := ⟨_, rfl⟩
    rw [← g37] at A37 Ea37 st37
    have g_b37 : n0 ≤ b37 := Nat.le_trans Z0 (Nat.le_of_eq g37.symm)
    have Zh38 : n0 ≤ h37.size := Nat.le_trans Z0 E37.1
    have V37 : Arv Z h37 b37 k37 .byte (4 : Int32) [(.int (0 : Int32)), (.int (0 : Int32)), (.int (0 : Int32)), (.int (0 : Int32))] (.int (0 : Int32)) := (Arv.new A37 (by decide)).pad (pad_rep [] (.int (0 : Int32)) 4)
    refine own_go st37 ?_
    show own_Fin p e below _ (T37.setTop (mkF m 11 #[.val (.int p1), .val (.int p2), .val (.int p3), .val (.int p4), .val (.int p5), .val (.int (1 : Int32)), .unset, .unset, .unset, .unset, .unset] [(.ref b37)]))
    refine own_go (fun t k => XS.astore X37.here hx rfl (hb hby at_11) rfl rfl (l' := #[.val (.int p1), .val (.int p2), .val (.int p3), .val (.int p4), .val (.int p5), .val (.int (1 : Int32)), .val (.ref b37), .unset, .unset, .unset, .unset]) rfl (XS.aload X37.here hx rfl (hb hby at_13) rfl rfl  (XS.iconst X37.here hx rfl (hb hby at_15) (XS.iloadN X37.here hx rfl (hb hby at_16) rfl  k)))) ?_
    show own_Fin p e below _ (T37.setTop (mkF m 17 #[.val (.int p1), .val (.int p2), .val (.int p3), .val (.int p4), .val (.int p5), .val (.int (1 : Int32)), .val (.ref b37), .unset, .unset, .unset, .unset] [(.int p2), (.int (0 : Int32)), (.ref b37)]))
    obtain ⟨_, _, ⟨T39, L39, k39, n39⟩, -, X39, ⟨Lc39, hQ39, l39, y39, z39⟩, st39⟩ := Jvm.LawKit.callS X37 hx (y := (⟨"com/example/keyslice/keyslice/storage/KeyRangeAfterPinLaw", "draw", "(I)B"⟩ : MethodName)) hown (mvT hZ hw_2) (mvT hZ hw_3) (mvT hZ hw_4) (mvT hZ hw_5) (by decide) (backOf (W := 2) (rm1 l Z a0 hw [] (p2)  h37 n0 Zh38 ) hZ hw_5 hw_4 (by decide) (by decide)) (g := (mkF m 17 #[.val (.int p1), .val (.int p2), .val (.int p3), .val (.int p4), .val (.int p5), .val (.int (1 : Int32)), .val (.ref b37), .unset, .unset, .unset, .unset] [(.int p2), (.int (0 : Int32)), (.ref b37)])) rfl (by rw [hml]; rfl) (argsL := [(.int p2)]) (rest := [(.int (0 : Int32)), (.ref b37)]) (lenOf pd_2 rfl) rfl (by show 2 * 0 + _ ≤ _; exact Nat.le_of_eq rfl) (hb hby at_17) (fun _ _ => ⟨rfl, e37, (by decide : 1 + 0 ≤ _), (by decide : 4 + 0 ≤ _)⟩)
    dsimp only [Pt.U, Pt.locs, Pt.cells, Pt.slots] at X39 l39 y39 z39 st39 hQ39
    subst l39 y39 z39
    obtain ⟨rfl, N39q, e39⟩ := hQ39
    have N39 := Fr.app N0 N39q
    refine own_go st39 ?_
    show own_Fin p e below _ (T39.setTop (mkF m 20 #[.val (.int p1), .val (.int p2), .val (.int p3), .val (.int p4), .val (.int p5), .val (.int (1 : Int32)), .val (.ref b37), .unset, .unset, .unset, .unset] [(.int (own_dr_3 p2)), (.int (0 : Int32)), (.ref b37)]))
    obtain ⟨D0, h_D0⟩ : ∃ z : Int32, z = (own_dr_3 p2) := ⟨_, rfl⟩
    rw [← h_D0]
    show own_Fin p e below _ (T39.setTop (mkF m 20 #[.val (.int p1), .val (.int p2), .val (.int p3), .val (.int p4), .val (.int p5), .val (.int (1 : Int32)), .val (.ref b37), .unset, .unset, .unset, .unset] [(.int D0), (.int (0 : Int32)), (.ref b37)]))
    have hN0 : nar .byte D0 = D0 := by rw [h_D0]; exact own_nn _
    obtain ⟨cl40, Ar40, q40, S40, M40, H40, G40⟩ := (id V37)
    have hin40 : ¬ ((0 : Int32) < 0 ∨ cl40.slots.size ≤ ((0 : Int32)).toNatClampNeg) := inb_of S40 ⟨by decide, by decide⟩
    obtain ⟨T40, h40, X40, e40, W40, st40⟩ := stB X39 hx hZ e39 Ar40 (j := (0 : Int32)) hin40 (g := (mkF m 20 #[.val (.int p1), .val (.int p2), .val (.int p3), .val (.int p4), .val (.int p5), .val (.int (1 : Int32)), .val (.ref b37), .unset, .unset, .unset, .unset] [(.int D0), (.int (0 : Int32)), (.ref b37)])) rfl rfl (hb hby at_20)
    have f41 := Ea37.wr W40
    have V40 := Arv.set Ar40 q40 S40 M40 H40 G40 (fits_nar_byte _) W40 0 rfl (Nat.le_of_ble_eq_true rfl)
    have f43 : Arv Z h40 b37 k37 .byte (4 : Int32) [(.int (nar .byte D0)), (.int (0 : Int32)), (.int (0 : Int32)), (.int (0 : Int32))] (.int (0 : Int32)) := V40
    rw [hN0] at f43
    have Zh44 : n0 ≤ h40.size := Nat.le_trans Zh38 (Nat.le_of_eq W40.size.symm)
    have N40 := Fr.snoc X40 N39 g_b37
    refine own_go st40 ?_
    show own_Fin p e below _ (T40.setTop (mkF m 21 #[.val (.int p1), .val (.int p2), .val (.int p3), .val (.int p4), .val (.int p5), .val (.int (1 : Int32)), .val (.ref b37), .unset, .unset, .unset, .unset] []))
    refine own_go (fun t k => XS.aload X40.here hx rfl (hb hby at_21) rfl rfl  (XS.iconst X40.here hx rfl (hb hby at_23) (XS.iloadN X40.here hx rfl (hb hby at_24) rfl  k))) ?_
    show own_Fin p e below _ (T40.setTop (mkF m 25 #[.val (.int p1), .val (.int p2), .val (.int p3), .val (.int p4), .val (.int p5), .val (.int (1 : Int32)), .val (.ref b37), .unset, .unset, .unset, .unset] [(.int p3), (.int (1 : Int32)), (.ref b37)]))
    obtain ⟨_, _, ⟨T45, L45, k45, n45⟩, -, X45, ⟨Lc45, hQ45, l45, y45, z45⟩, st45⟩ := Jvm.LawKit.callS X40 hx (y := (⟨"com/example/keyslice/keyslice/storage/KeyRangeAfterPinLaw", "draw", "(I)B"⟩ : MethodName)) hown (mvT hZ hw_2) (mvT hZ hw_3) (mvT hZ hw_4) (mvT hZ hw_5) (by decide) (backOf (W := 2) (rm1 l Z a0 hw [] (p3)  h40 n0 Zh44 ) hZ hw_5 hw_4 (by decide) (by decide)) (g := (mkF m 25 #[.val (.int p1), .val (.int p2), .val (.int p3), .val (.int p4), .val (.int p5), .val (.int (1 : Int32)), .val (.ref b37), .unset, .unset, .unset, .unset] [(.int p3), (.int (1 : Int32)), (.ref b37)])) rfl (by rw [hml]; rfl) (argsL := [(.int p3)]) (rest := [(.int (1 : Int32)), (.ref b37)]) (lenOf pd_2 rfl) rfl (by show 2 * 0 + _ ≤ _; exact Nat.le_of_eq rfl) (hb hby at_25) (fun _ _ => ⟨rfl, e40, (by decide : 1 + 0 ≤ _), (by decide : 4 + 0 ≤ _)⟩)
    dsimp only [Pt.U, Pt.locs, Pt.cells, Pt.slots] at X45 l45 y45 z45 st45 hQ45
    subst l45 y45 z45
    obtain ⟨rfl, N45q, e45⟩ := hQ45
    have N45 := Fr.app N40 N45q
    refine own_go st45 ?_
    show own_Fin p e below _ (T45.setTop (mkF m 28 #[.val (.int p1), .val (.int p2), .val (.int p3), .val (.int p4), .val (.int p5), .val (.int (1 : Int32)), .val (.ref b37), .unset, .unset, .unset, .unset] [(.int (own_dr_3 p3)), (.int (1 : Int32)), (.ref b37)]))
    obtain ⟨D1, h_D1⟩ : ∃ z : Int32, z = (own_dr_3 p3) := ⟨_, rfl⟩
    rw [← h_D1]
    show own_Fin p e below _ (T45.setTop (mkF m 28 #[.val (.int p1), .val (.int p2), .val (.int p3), .val (.int p4), .val (.int p5), .val (.int (1 : Int32)), .val (.ref b37), .unset, .unset, .unset, .unset] [(.int D1), (.int (1 : Int32)), (.ref b37)]))
    have hN1 : nar .byte D1 = D1 := by rw [h_D1]; exact own_nn _
    obtain ⟨cl46, Ar46, q46, S46, M46, H46, G46⟩ := (id f43)
    have hin46 : ¬ ((1 : Int32) < 0 ∨ cl46.slots.size ≤ ((1 : Int32)).toNatClampNeg) := inb_of S46 ⟨by decide, by decide⟩
    obtain ⟨T46, h46, X46, e46, W46, st46⟩ := stB X45 hx hZ e45 Ar46 (j := (1 : Int32)) hin46 (g := (mkF m 28 #[.val (.int p1), .val (.int p2), .val (.int p3), .val (.int p4), .val (.int p5), .val (.int (1 : Int32)), .val (.ref b37), .unset, .unset, .unset, .unset] [(.int D1), (.int (1 : Int32)), (.ref b37)])) rfl rfl (hb hby at_28)
    have f47 := f41.wr W46
    have V46 := Arv.set Ar46 q46 S46 M46 H46 G46 (fits_nar_byte _) W46 1 rfl (Nat.le_of_ble_eq_true rfl)
    have f49 : Arv Z h46 b37 k37 .byte (4 : Int32) [(.int D0), (.int (nar .byte D1)), (.int (0 : Int32)), (.int (0 : Int32))] (.int (0 : Int32)) := V46
    rw [hN1] at f49
    have Zh50 : n0 ≤ h46.size := Nat.le_trans Zh44 (Nat.le_of_eq W46.size.symm)
    have N46 := Fr.snoc X46 N45 g_b37
    refine own_go st46 ?_
    show own_Fin p e below _ (T46.setTop (mkF m 29 #[.val (.int p1), .val (.int p2), .val (.int p3), .val (.int p4), .val (.int p5), .val (.int (1 : Int32)), .val (.ref b37), .unset, .unset, .unset, .unset] []))
    refine own_go (fun t k => XS.aload X46.here hx rfl (hb hby at_29) rfl rfl  (XS.iconst X46.here hx rfl (hb hby at_31) (XS.iloadN X46.here hx rfl (hb hby at_32) rfl  k))) ?_
    show own_Fin p e below _ (T46.setTop (mkF m 33 #[.val (.int p1), .val (.int p2), .val (.int p3), .val (.int p4), .val (.int p5), .val (.int (1 : Int32)), .val (.ref b37), .unset, .unset, .unset, .unset] [(.int p4), (.int (2 : Int32)), (.ref b37)]))
    obtain ⟨_, _, ⟨T51, L51, k51, n51⟩, -, X51, ⟨Lc51, hQ51, l51, y51, z51⟩, st51⟩ := Jvm.LawKit.callS X46 hx (y := (⟨"com/example/keyslice/keyslice/storage/KeyRangeAfterPinLaw", "draw", "(I)B"⟩ : MethodName)) hown (mvT hZ hw_2) (mvT hZ hw_3) (mvT hZ hw_4) (mvT hZ hw_5) (by decide) (backOf (W := 2) (rm1 l Z a0 hw [] (p4)  h46 n0 Zh50 ) hZ hw_5 hw_4 (by decide) (by decide)) (g := (mkF m 33 #[.val (.int p1), .val (.int p2), .val (.int p3), .val (.int p4), .val (.int p5), .val (.int (1 : Int32)), .val (.ref b37), .unset, .unset, .unset, .unset] [(.int p4), (.int (2 : Int32)), (.ref b37)])) rfl (by rw [hml]; rfl) (argsL := [(.int p4)]) (rest := [(.int (2 : Int32)), (.ref b37)]) (lenOf pd_2 rfl) rfl (by show 2 * 0 + _ ≤ _; exact Nat.le_of_eq rfl) (hb hby at_33) (fun _ _ => ⟨rfl, e46, (by decide : 1 + 0 ≤ _), (by decide : 4 + 0 ≤ _)⟩)
    dsimp only [Pt.U, Pt.locs, Pt.cells, Pt.slots] at X51 l51 y51 z51 st51 hQ51
    subst l51 y51 z51
    obtain ⟨rfl, N51q, e51⟩ := hQ51
    have N51 := Fr.app N46 N51q
    refine own_go st51 ?_
    show own_Fin p e below _ (T51.setTop (mkF m 36 #[.val (.int p1), .val (.int p2), .val (.int p3), .val (.int p4), .val (.int p5), .val (.int (1 : Int32)), .val (.ref b37), .unset, .unset, .unset, .unset] [(.int (own_dr_3 p4)), (.int (2 : Int32)), (.ref b37)]))
    obtain ⟨D2, h_D2⟩ : ∃ z : Int32, z = (own_dr_3 p4) := ⟨_, rfl⟩
    rw [← h_D2]
    show own_Fin p e below _ (T51.setTop (mkF m 36 #[.val (.int p1), .val (.int p2), .val (.int p3), .val (.int p4), .val (.int p5), .val (.int (1 : Int32)), .val (.ref b37), .unset, .unset, .unset, .unset] [(.int D2), (.int (2 : Int32)), (.ref b37)]))
    have hN2 : nar .byte D2 = D2 := by rw [h_D2]; exact own_nn _
    obtain ⟨cl52, Ar52, q52, S52, M52, H52, G52⟩ := (id f49)
    have hin52 : ¬ ((2 : Int32) < 0 ∨ cl52.slots.size ≤ ((2 : Int32)).toNatClampNeg) := inb_of S52 ⟨by decide, by decide⟩
    obtain ⟨T52, h52, X52, e52, W52, st52⟩ := stB X51 hx hZ e51 Ar52 (j := (2 : Int32)) hin52 (g := (mkF m 36 #[.val (.int p1), .val (.int p2), .val (.int p3), .val (.int p4), .val (.int p5), .val (.int (1 : Int32)), .val (.ref b37), .unset, .unset, .unset, .unset] [(.int D2), (.int (2 : Int32)), (.ref b37)])) rfl rfl (hb hby at_36)
    have f53 := f47.wr W52
    have V52 := Arv.set Ar52 q52 S52 M52 H52 G52 (fits_nar_byte _) W52 2 rfl (Nat.le_of_ble_eq_true rfl)
    have f55 : Arv Z h52 b37 k37 .byte (4 : Int32) [(.int D0), (.int D1), (.int (nar .byte D2)), (.int (0 : Int32))] (.int (0 : Int32)) := V52
    rw [hN2] at f55
    have Zh56 : n0 ≤ h52.size := Nat.le_trans Zh50 (Nat.le_of_eq W52.size.symm)
    have N52 := Fr.snoc X52 N51 g_b37
    refine own_go st52 ?_
    show own_Fin p e below _ (T52.setTop (mkF m 37 #[.val (.int p1), .val (.int p2), .val (.int p3), .val (.int p4), .val (.int p5), .val (.int (1 : Int32)), .val (.ref b37), .unset, .unset, .unset, .unset] []))
    refine own_go (fun t k => XS.aload X52.here hx rfl (hb hby at_37) rfl rfl  (XS.iconst X52.here hx rfl (hb hby at_39) (XS.iload X52.here hx rfl (hb hby at_40) rfl  k))) ?_
    show own_Fin p e below _ (T52.setTop (mkF m 42 #[.val (.int p1), .val (.int p2), .val (.int p3), .val (.int p4), .val (.int p5), .val (.int (1 : Int32)), .val (.ref b37), .unset, .unset, .unset, .unset] [(.int p5), (.int (3 : Int32)), (.ref b37)]))
    obtain ⟨_, _, ⟨T57, L57, k57, n57⟩, -, X57, ⟨Lc57, hQ57, l57, y57, z57⟩, st57⟩ := Jvm.LawKit.callS X52 hx (y := (⟨"com/example/keyslice/keyslice/storage/KeyRangeAfterPinLaw", "draw", "(I)B"⟩ : MethodName)) hown (mvT hZ hw_2) (mvT hZ hw_3) (mvT hZ hw_4) (mvT hZ hw_5) (by decide) (backOf (W := 2) (rm1 l Z a0 hw [] (p5)  h52 n0 Zh56 ) hZ hw_5 hw_4 (by decide) (by decide)) (g := (mkF m 42 #[.val (.int p1), .val (.int p2), .val (.int p3), .val (.int p4), .val (.int p5), .val (.int (1 : Int32)), .val (.ref b37), .unset, .unset, .unset, .unset] [(.int p5), (.int (3 : Int32)), (.ref b37)])) rfl (by rw [hml]; rfl) (argsL := [(.int p5)]) (rest := [(.int (3 : Int32)), (.ref b37)]) (lenOf pd_2 rfl) rfl (by show 2 * 0 + _ ≤ _; exact Nat.le_of_eq rfl) (hb hby at_42) (fun _ _ => ⟨rfl, e52, (by decide : 1 + 0 ≤ _), (by decide : 4 + 0 ≤ _)⟩)
    dsimp only [Pt.U, Pt.locs, Pt.cells, Pt.slots] at X57 l57 y57 z57 st57 hQ57
    subst l57 y57 z57
    obtain ⟨rfl, N57q, e57⟩ := hQ57
    have N57 := Fr.app N52 N57q
    refine own_go st57 ?_
    show own_Fin p e below _ (T57.setTop (mkF m 45 #[.val (.int p1), .val (.int p2), .val (.int p3), .val (.int p4), .val (.int p5), .val (.int (1 : Int32)), .val (.ref b37), .unset, .unset, .unset, .unset] [(.int (own_dr_3 p5)), (.int (3 : Int32)), (.ref b37)]))
    obtain ⟨D3, h_D3⟩ : ∃ z : Int32, z = (own_dr_3 p5) := ⟨_, rfl⟩
    rw [← h_D3]
    show own_Fin p e below _ (T57.setTop (mkF m 45 #[.val (.int p1), .val (.int p2), .val (.int p3), .val (.int p4), .val (.int p5), .val (.int (1 : Int32)), .val (.ref b37), .unset, .unset, .unset, .unset] [(.int D3), (.int (3 : Int32)), (.ref b37)]))
    have hN3 : nar .byte D3 = D3 := by rw [h_D3]; exact own_nn _
    obtain ⟨cl58, Ar58, q58, S58, M58, H58, G58⟩ := (id f55)
    have hin58 : ¬ ((3 : Int32) < 0 ∨ cl58.slots.size ≤ ((3 : Int32)).toNatClampNeg) := inb_of S58 ⟨by decide, by decide⟩
    obtain ⟨T58, h58, X58, e58, W58, st58⟩ := stB X57 hx hZ e57 Ar58 (j := (3 : Int32)) hin58 (g := (mkF m 45 #[.val (.int p1), .val (.int p2), .val (.int p3), .val (.int p4), .val (.int p5), .val (.int (1 : Int32)), .val (.ref b37), .unset, .unset, .unset, .unset] [(.int D3), (.int (3 : Int32)), (.ref b37)])) rfl rfl (hb hby at_45)
    have f59 := f53.wr W58
    have V58 := Arv.set Ar58 q58 S58 M58 H58 G58 (fits_nar_byte _) W58 3 rfl (Nat.le_of_ble_eq_true rfl)
    have f61 : Arv Z h58 b37 k37 .byte (4 : Int32) [(.int D0), (.int D1), (.int D2), (.int (nar .byte D3))] (.int (0 : Int32)) := V58
    rw [hN3] at f61
    have Zh62 : n0 ≤ h58.size := Nat.le_trans Zh56 (Nat.le_of_eq W58.size.symm)
    have N58 := Fr.snoc X58 N57 g_b37
    refine own_go st58 ?_
    show own_Fin p e below _ (T58.setTop (mkF m 46 #[.val (.int p1), .val (.int p2), .val (.int p3), .val (.int p4), .val (.int p5), .val (.int (1 : Int32)), .val (.ref b37), .unset, .unset, .unset, .unset] []))
    refine own_go (fun t k => XS.iload X58.here hx rfl (hb hby at_46) rfl  k) ?_
    show own_Fin p e below _ (T58.setTop (mkF m 48 #[.val (.int p1), .val (.int p2), .val (.int p3), .val (.int p4), .val (.int p5), .val (.int (1 : Int32)), .val (.ref b37), .unset, .unset, .unset, .unset] [(.int (1 : Int32))]))
    obtain ⟨T63, h63, k63, X63, e63, E63, A63, Ea63, st63⟩ := newPE (aty := .byte) X58 hx hZ hw_1 e58 (g := (mkF m 48 #[.val (.int p1), .val (.int p2), .val (.int p3), .val (.int p4), .val (.int p5), .val (.int (1 : Int32)), .val (.ref b37), .unset, .unset, .unset, .unset] [(.int (1 : Int32))])) rfl (hb hby at_48) rfl (by decide) (cap := 1) (by decide) (by decide) (by decide) (by decide) (ad := "[B") (by decide)
    obtain ⟨b63, g63⟩ : ∃ z, z = h58.size := ⟨_, rfl⟩
    rw [← g63] at A63 Ea63 st63
    have g_b63 : n0 ≤ b63 := Nat.le_trans Zh62 (Nat.le_of_eq g63.symm)
    have ne64 : b37 ≠ b63 := Nat.ne_of_lt (Nat.lt_of_lt_of_le f59.lt (Nat.le_of_eq g63.symm))
    have f65 := f59.ext E63
    have f66 := f61.ext E63
    have Zh67 : n0 ≤ h63.size := Nat.le_trans Zh62 E63.1
    have V63 : Arv Z h63 b63 k63 .byte (1 : Int32) [(.int (0 : Int32))] (.int (0 : Int32)) := (Arv.new A63 (by decide)).pad (pad_rep [] (.int (0 : Int32)) 1)
    refine own_go st63 ?_
    show own_Fin p e below _ (T63.setTop (mkF m 50 #[.val (.int p1), .val (.int p2), .val (.int p3), .val (.int p4), .val (.int p5), .val (.int (1 : Int32)), .val (.ref b37), .unset, .unset, .unset, .unset] [(.ref b63)]))
    refine own_go (fun t k => XS.astore X63.here hx rfl (hb hby at_50) rfl rfl (l' := #[.val (.int p1), .val (.int p2), .val (.int p3), .val (.int p4), .val (.int p5), .val (.int (1 : Int32)), .val (.ref b37), .val (.ref b63), .unset, .unset, .unset]) rfl (XS.iload X63.here hx rfl (hb hby at_52) rfl  k)) ?_
    show own_Fin p e below _ (T63.setTop (mkF m 54 #[.val (.int p1), .val (.int p2), .val (.int p3), .val (.int p4), .val (.int p5), .val (.int (1 : Int32)), .val (.ref b37), .val (.ref b63), .unset, .unset, .unset] [(.int (1 : Int32))]))
    refine own_go (fun t k => XS.ifNo X63.here hx rfl (hb hby at_54) rfl ((if0 _ _).trans (tlt (by decide : (0 : Int32) < (1 : Int32))).2.2.2) (XS.aload X63.here hx rfl (hb hby at_57) rfl rfl  (XS.iconst X63.here hx rfl (hb hby at_59) (XS.aload X63.here hx rfl (hb hby at_60) rfl rfl  (XS.iconst X63.here hx rfl (hb hby at_62) k))))) ?_
    show own_Fin p e below _ (T63.setTop (mkF m 63 #[.val (.int p1), .val (.int p2), .val (.int p3), .val (.int p4), .val (.int p5), .val (.int (1 : Int32)), .val (.ref b37), .val (.ref b63), .unset, .unset, .unset] [(.int (0 : Int32)), (.ref b37), (.int (0 : Int32)), (.ref b63)]))
    obtain ⟨cl68, Ar68, q68, S68, M68, H68, G68⟩ := (id f66)
    have hin68 : ¬ ((0 : Int32) < 0 ∨ cl68.slots.size ≤ ((0 : Int32)).toNatClampNeg) := inb_of S68 ⟨by decide, by decide⟩
    have hat68 : cl68.slots[((0 : Int32)).toNatClampNeg]? = some (.int D0) := H68.at hin68 rfl
    refine own_go (fun t k => X63.baloadBytes hx (j := (0 : Int32)) (v := (.int D0)) (by rw [e63]; exact Ar68.1) (State.isArrayOf_alike hZ.alike Ar68.2.1) Ar68.2.2 hin68 hat68 (g := (mkF m 63 #[.val (.int p1), .val (.int p2), .val (.int p3), .val (.int p4), .val (.int p5), .val (.int (1 : Int32)), .val (.ref b37), .val (.ref b63), .unset, .unset, .unset] [(.int (0 : Int32)), (.ref b37), (.int (0 : Int32)), (.ref b63)])) rfl rfl (hb hby at_63) _ k) ?_
    show own_Fin p e below _ (T63.setTop (mkF m 64 #[.val (.int p1), .val (.int p2), .val (.int p3), .val (.int p4), .val (.int p5), .val (.int (1 : Int32)), .val (.ref b37), .val (.ref b63), .unset, .unset, .unset] [(.int D0), (.int (0 : Int32)), (.ref b63)]))
    obtain ⟨cl69, Ar69, q69, S69, M69, H69, G69⟩ := (id V63)
    have hin69 : ¬ ((0 : Int32) < 0 ∨ cl69.slots.size ≤ ((0 : Int32)).toNatClampNeg) := inb_of S69 ⟨by decide, by decide⟩
    obtain ⟨T69, h69, X69, e69, W69, st69⟩ := stB X63 hx hZ e63 Ar69 (j := (0 : Int32)) hin69 (g := (mkF m 64 #[.val (.int p1), .val (.int p2), .val (.int p3), .val (.int p4), .val (.int p5), .val (.int (1 : Int32)), .val (.ref b37), .val (.ref b63), .unset, .unset, .unset] [(.int D0), (.int (0 : Int32)), (.ref b63)])) rfl rfl (hb hby at_64)
    have f70 := f65.wr W69
    have f71 := f66.other W69 ne64
    have f72 := Ea63.wr W69
    have V69 := Arv.set Ar69 q69 S69 M69 H69 G69 (fits_nar_byte _) W69 0 rfl (Nat.le_of_ble_eq_true rfl)
    have f74 : Arv Z h69 b63 k63 .byte (1 : Int32) [(.int (nar .byte D0))] (.int (0 : Int32)) := V69
    rw [hN0] at f74
    have Zh75 : n0 ≤ h69.size := Nat.le_trans Zh67 (Nat.le_of_eq W69.size.symm)
    have N69 := Fr.snoc X69 N58 g_b63
    refine own_go st69 ?_
    show own_Fin p e below _ (T69.setTop (mkF m 65 #[.val (.int p1), .val (.int p2), .val (.int p3), .val (.int p4), .val (.int p5), .val (.int (1 : Int32)), .val (.ref b37), .val (.ref b63), .unset, .unset, .unset] []))
    refine own_go (fun t k => XS.iload X69.here hx rfl (hb hby at_65) rfl  (XS.iconst X69.here hx rfl (hb hby at_67) k)) ?_
    show own_Fin p e below _ (T69.setTop (mkF m 68 #[.val (.int p1), .val (.int p2), .val (.int p3), .val (.int p4), .val (.int p5), .val (.int (1 : Int32)), .val (.ref b37), .val (.ref b63), .unset, .unset, .unset] [(.int (1 : Int32)), (.int (1 : Int32))]))
    refine own_go (fun t k => XS.icmpYes X69.here hx rfl (pc0 := 68) (pc' := 79) rfl (hb hby at_68) rfl (flt (by decide : ¬ ((1 : Int32) < (1 : Int32)))).2.2.2 (by decide) (by decide) (XS.iload X69.here hx rfl (hb hby at_79) rfl  (XS.iconst X69.here hx rfl (hb hby at_81) k))) ?_
    show own_Fin p e below _ (T69.setTop (mkF m 82 #[.val (.int p1), .val (.int p2), .val (.int p3), .val (.int p4), .val (.int p5), .val (.int (1 : Int32)), .val (.ref b37), .val (.ref b63), .unset, .unset, .unset] [(.int (2 : Int32)), (.int (1 : Int32))]))
    refine own_go (fun t k => XS.icmpYes X69.here hx rfl (pc0 := 82) (pc' := 93) rfl (hb hby at_82) rfl (flt (by decide : ¬ ((2 : Int32) < (1 : Int32)))).2.2.2 (by decide) (by decide) (XS.iload X69.here hx rfl (hb hby at_93) rfl  (XS.iconst X69.here hx rfl (hb hby at_95) k))) ?_
    show own_Fin p e below _ (T69.setTop (mkF m 96 #[.val (.int p1), .val (.int p2), .val (.int p3), .val (.int p4), .val (.int p5), .val (.int (1 : Int32)), .val (.ref b37), .val (.ref b63), .unset, .unset, .unset] [(.int (3 : Int32)), (.int (1 : Int32))]))
    refine own_go (fun t k => XS.icmpYes X69.here hx rfl (pc0 := 96) (pc' := 107) rfl (hb hby at_96) rfl (flt (by decide : ¬ ((3 : Int32) < (1 : Int32)))).2.2.2 (by decide) (by decide) (XS.iload X69.here hx rfl (hb hby at_107) rfl  (XS.iconst X69.here hx rfl (hb hby at_109) k))) ?_
    show own_Fin p e below _ (T69.setTop (mkF m 110 #[.val (.int p1), .val (.int p2), .val (.int p3), .val (.int p4), .val (.int p5), .val (.int (1 : Int32)), .val (.ref b37), .val (.ref b63), .unset, .unset, .unset] [(.int (4 : Int32)), (.int (1 : Int32))]))
    refine own_go (fun t k => XS.icmpYes X69.here hx rfl (pc0 := 110) (pc' := 127) rfl (hb hby at_110) rfl (tlt (by decide : (1 : Int32) < (4 : Int32))).1 (by decide) (by decide) (XS.iload X69.here hx rfl (hb hby at_127) rfl  (XS.iconst X69.here hx rfl (hb hby at_129) k))) ?_
    show own_Fin p e below _ (T69.setTop (mkF m 130 #[.val (.int p1), .val (.int p2), .val (.int p3), .val (.int p4), .val (.int p5), .val (.int (1 : Int32)), .val (.ref b37), .val (.ref b63), .unset, .unset, .unset] [(.int (3 : Int32)), (.int (1 : Int32))]))
    refine own_go (fun t k => XS.icmpYes X69.here hx rfl (pc0 := 130) (pc' := 147) rfl (hb hby at_130) rfl (tlt (by decide : (1 : Int32) < (3 : Int32))).1 (by decide) (by decide) (XS.iload X69.here hx rfl (hb hby at_147) rfl  (XS.iconst X69.here hx rfl (hb hby at_149) k))) ?_
    show own_Fin p e below _ (T69.setTop (mkF m 150 #[.val (.int p1), .val (.int p2), .val (.int p3), .val (.int p4), .val (.int p5), .val (.int (1 : Int32)), .val (.ref b37), .val (.ref b63), .unset, .unset, .unset] [(.int (2 : Int32)), (.int (1 : Int32))]))
    refine own_go (fun t k => XS.icmpYes X69.here hx rfl (pc0 := 150) (pc' := 167) rfl (hb hby at_150) rfl (tlt (by decide : (1 : Int32) < (2 : Int32))).1 (by decide) (by decide) (XS.iload X69.here hx rfl (hb hby at_167) rfl  (XS.iconst X69.here hx rfl (hb hby at_169) k))) ?_
    show own_Fin p e below _ (T69.setTop (mkF m 170 #[.val (.int p1), .val (.int p2), .val (.int p3), .val (.int p4), .val (.int p5), .val (.int (1 : Int32)), .val (.ref b37), .val (.ref b63), .unset, .unset, .unset] [(.int (1 : Int32)), (.int (1 : Int32))]))
    refine own_go (fun t k => XS.icmpNo X69.here hx rfl (hb hby at_170) rfl (flt (by decide : ¬ ((1 : Int32) < (1 : Int32)))).1 (XS.aload X69.here hx rfl (hb hby at_173) rfl rfl  (XS.iconst X69.here hx rfl (hb hby at_175) k))) ?_
    show own_Fin p e below _ (T69.setTop (mkF m 176 #[.val (.int p1), .val (.int p2), .val (.int p3), .val (.int p4), .val (.int p5), .val (.int (1 : Int32)), .val (.ref b37), .val (.ref b63), .unset, .unset, .unset] [(.int (0 : Int32)), (.ref b37)]))
    obtain ⟨cl76, Ar76, q76, S76, M76, H76, G76⟩ := (id f71)
    have hin76 : ¬ ((0 : Int32) < 0 ∨ cl76.slots.size ≤ ((0 : Int32)).toNatClampNeg) := inb_of S76 ⟨by decide, by decide⟩
    have hat76 : cl76.slots[((0 : Int32)).toNatClampNeg]? = some (.int D0) := H76.at hin76 rfl
    refine own_go (fun t k => X69.baloadBytes hx (j := (0 : Int32)) (v := (.int D0)) (by rw [e69]; exact Ar76.1) (State.isArrayOf_alike hZ.alike Ar76.2.1) Ar76.2.2 hin76 hat76 (g := (mkF m 176 #[.val (.int p1), .val (.int p2), .val (.int p3), .val (.int p4), .val (.int p5), .val (.int (1 : Int32)), .val (.ref b37), .val (.ref b63), .unset, .unset, .unset] [(.int (0 : Int32)), (.ref b37)])) rfl rfl (hb hby at_176) _ (XS.iconst X69.here hx rfl (hb hby at_177) k)) ?_
    show own_Fin p e below _ (T69.setTop (mkF m 178 #[.val (.int p1), .val (.int p2), .val (.int p3), .val (.int p4), .val (.int p5), .val (.int (1 : Int32)), .val (.ref b37), .val (.ref b63), .unset, .unset, .unset] [(.int (-1 : Int32)), (.int D0)]))
    by_cases hc77 : D0 = (-1 : Int32)
    · skip
      refine own_go (fun t k => XS.icmpYes X69.here hx rfl (pc0 := 178) (pc' := 187) rfl (hb hby at_178) rfl (teq hc77).1 (by decide) (by decide) (XS.iconst X69.here hx rfl (hb hby at_187) (XS.istore X69.here hx rfl (hb hby at_188) rfl (l' := #[.val (.int p1), .val (.int p2), .val (.int p3), .val (.int p4), .val (.int p5), .val (.int (1 : Int32)), .val (.ref b37), .val (.ref b63), .val (.int (0 : Int32)), .unset, .unset]) rfl (XS.aload X69.here hx rfl (hb hby at_190) rfl rfl  k)))) ?_
      show own_Fin p e below _ (T69.setTop (mkF m 192 #[.val (.int p1), .val (.int p2), .val (.int p3), .val (.int p4), .val (.int p5), .val (.int (1 : Int32)), .val (.ref b37), .val (.ref b63), .val (.int (0 : Int32)), .unset, .unset] [(.ref b63)]))
      obtain ⟨_, _, ⟨T78, L78, k78, n78⟩, -, X78, ⟨Lc78, hQ78, l78, y78, z78⟩, st78⟩ := Jvm.LawKit.callS X69 hx (y := (⟨"com/example/keyslice/keyslice/storage/KeyRange", "after", "([B)[B"⟩ : MethodName)) hown (mvT hZ hw_6) (mvT hZ hw_7) (mvT hZ hw_8) (mvT hZ hw_9) (by decide) (backOf (W := 0) (rm2r10 l Z a0 hw [] (b63) k63 (D0) h69 n0 Zh75 f74 f72 hc77) hZ hw_9 hw_8 (by decide) (by decide)) (g := (mkF m 192 #[.val (.int p1), .val (.int p2), .val (.int p3), .val (.int p4), .val (.int p5), .val (.int (1 : Int32)), .val (.ref b37), .val (.ref b63), .val (.int (0 : Int32)), .unset, .unset] [(.ref b63)])) rfl (by rw [hml]; rfl) (argsL := [(.ref b63)]) (rest := []) (lenOf pd_3 rfl) rfl (by show 2 * 0 + _ ≤ _; exact Nat.le_of_eq rfl) (hb hby at_192) (fun _ _ => ⟨rfl, e69, (by decide : 2 + 0 ≤ _), (by decide : 5 + 0 ≤ _)⟩)
      dsimp only [Pt.U, Pt.locs, Pt.cells, Pt.slots] at X78 l78 y78 z78 st78 hQ78
      subst l78 y78 z78
      obtain ⟨rfl, N78q, e78⟩ := hQ78
      have N78 := Fr.app N69 N78q
      refine own_go st78 ?_
      show own_Fin p e below _ (T78.setTop (mkF m 195 #[.val (.int p1), .val (.int p2), .val (.int p3), .val (.int p4), .val (.int p5), .val (.int (1 : Int32)), .val (.ref b37), .val (.ref b63), .val (.int (0 : Int32)), .unset, .unset] [.null]))
      refine own_go (fun t k => XS.astore X78.here hx rfl (hb hby at_195) rfl rfl (l' := #[.val (.int p1), .val (.int p2), .val (.int p3), .val (.int p4), .val (.int p5), .val (.int (1 : Int32)), .val (.ref b37), .val (.ref b63), .val (.int (0 : Int32)), .val .null, .unset]) rfl (XS.aload X78.here hx rfl (hb hby at_197) rfl rfl  (XS.aload X78.here hx rfl (hb hby at_199) rfl rfl  (XS.iconst X78.here hx rfl (hb hby at_201) (XS.iload X78.here hx rfl (hb hby at_202) rfl  k))))) ?_
      show own_Fin p e below _ (T78.setTop (mkF m 204 #[.val (.int p1), .val (.int p2), .val (.int p3), .val (.int p4), .val (.int p5), .val (.int (1 : Int32)), .val (.ref b37), .val (.ref b63), .val (.int (0 : Int32)), .val .null, .unset] [(.int (1 : Int32)), (.int (0 : Int32)), (.ref b37), (.ref b63)]))
      obtain ⟨_, _, ⟨T79, L79, k79, n79⟩, -, X79, ⟨Lc79, hQ79, l79, y79, z79⟩, st79⟩ := Jvm.LawKit.callS X78 hx (y := (⟨"com/example/keyslice/keyslice/storage/KeyRangeAfterPinLaw", "held", "([B[BII)Z"⟩ : MethodName)) hown (mvT hZ hw_10) (mvT hZ hw_11) (mvT hZ hw_4) (mvT hZ hw_12) (by decide) (backOf (W := 0) (rm3h01 l Z a0 hw [] (b63) (b37) k63 k37 (D0) (D1) (D2) (D3) h69 n0 Zh75 f74 f71) hZ hw_12 hw_4 (by decide) (by decide)) (g := (mkF m 204 #[.val (.int p1), .val (.int p2), .val (.int p3), .val (.int p4), .val (.int p5), .val (.int (1 : Int32)), .val (.ref b37), .val (.ref b63), .val (.int (0 : Int32)), .val .null, .unset] [(.int (1 : Int32)), (.int (0 : Int32)), (.ref b37), (.ref b63)])) rfl (by rw [hml]; rfl) (argsL := [(.ref b63), (.ref b37), (.int (0 : Int32)), (.int (1 : Int32))]) (rest := []) (lenOf pd_4 rfl) rfl (by show 2 * 0 + _ ≤ _; exact Nat.le_of_eq rfl) (hb hby at_204) (fun _ _ => ⟨rfl, e78, (by decide : 2 + 0 ≤ _), (by decide : 5 + 0 ≤ _)⟩)
      dsimp only [Pt.U, Pt.locs, Pt.cells, Pt.slots] at X79 l79 y79 z79 st79 hQ79
      subst l79 y79 z79
      obtain ⟨rfl, N79q, e79⟩ := hQ79
      have N79 := Fr.app N78 N79q
      refine own_go st79 ?_
      show own_Fin p e below _ (T79.setTop (mkF m 207 #[.val (.int p1), .val (.int p2), .val (.int p3), .val (.int p4), .val (.int p5), .val (.int (1 : Int32)), .val (.ref b37), .val (.ref b63), .val (.int (0 : Int32)), .val .null, .unset] [(.int (1 : Int32))]))
      refine own_go (fun t k => XS.ifNo X79.here hx rfl (hb hby at_207) rfl ((if0 _ _).trans (feq (by decide : ¬ ((1 : Int32) = (0 : Int32)))).1) (XS.aload X79.here hx rfl (hb hby at_210) rfl rfl  (XS.aload X79.here hx rfl (hb hby at_212) rfl rfl  (XS.iconst X79.here hx rfl (hb hby at_214) (XS.iload X79.here hx rfl (hb hby at_215) rfl  k))))) ?_
      show own_Fin p e below _ (T79.setTop (mkF m 217 #[.val (.int p1), .val (.int p2), .val (.int p3), .val (.int p4), .val (.int p5), .val (.int (1 : Int32)), .val (.ref b37), .val (.ref b63), .val (.int (0 : Int32)), .val .null, .unset] [(.int (1 : Int32)), (.int (1 : Int32)), (.ref b37), (.ref b63)]))
      obtain ⟨_, _, ⟨T80, L80, k80, n80⟩, -, X80, ⟨Lc80, hQ80, l80, y80, z80⟩, st80⟩ := Jvm.LawKit.callS X79 hx (y := (⟨"com/example/keyslice/keyslice/storage/KeyRangeAfterPinLaw", "held", "([B[BII)Z"⟩ : MethodName)) hown (mvT hZ hw_10) (mvT hZ hw_11) (mvT hZ hw_4) (mvT hZ hw_12) (by decide) (backOf (W := 0) (rm3h11 l Z a0 hw [] (b63) (b37) k63 k37 (D0) (D1) (D2) (D3) h69 n0 Zh75 f74 f71) hZ hw_12 hw_4 (by decide) (by decide)) (g := (mkF m 217 #[.val (.int p1), .val (.int p2), .val (.int p3), .val (.int p4), .val (.int p5), .val (.int (1 : Int32)), .val (.ref b37), .val (.ref b63), .val (.int (0 : Int32)), .val .null, .unset] [(.int (1 : Int32)), (.int (1 : Int32)), (.ref b37), (.ref b63)])) rfl (by rw [hml]; rfl) (argsL := [(.ref b63), (.ref b37), (.int (1 : Int32)), (.int (1 : Int32))]) (rest := []) (lenOf pd_4 rfl) rfl (by show 2 * 0 + _ ≤ _; exact Nat.le_of_eq rfl) (hb hby at_217) (fun _ _ => ⟨rfl, e79, (by decide : 2 + 0 ≤ _), (by decide : 5 + 0 ≤ _)⟩)
      dsimp only [Pt.U, Pt.locs, Pt.cells, Pt.slots] at X80 l80 y80 z80 st80 hQ80
      subst l80 y80 z80
      obtain ⟨rfl, N80q, e80⟩ := hQ80
      have N80 := Fr.app N79 N80q
      refine own_go st80 ?_
      show own_Fin p e below _ (T80.setTop (mkF m 220 #[.val (.int p1), .val (.int p2), .val (.int p3), .val (.int p4), .val (.int p5), .val (.int (1 : Int32)), .val (.ref b37), .val (.ref b63), .val (.int (0 : Int32)), .val .null, .unset] [(.int (1 : Int32))]))
      refine own_go (fun t k => XS.ifNo X80.here hx rfl (hb hby at_220) rfl ((if0 _ _).trans (feq (by decide : ¬ ((1 : Int32) = (0 : Int32)))).1) (XS.aload X80.here hx rfl (hb hby at_223) rfl rfl  (XS.aload X80.here hx rfl (hb hby at_225) rfl rfl  (XS.iconst X80.here hx rfl (hb hby at_227) (XS.iload X80.here hx rfl (hb hby at_228) rfl  k))))) ?_
      show own_Fin p e below _ (T80.setTop (mkF m 230 #[.val (.int p1), .val (.int p2), .val (.int p3), .val (.int p4), .val (.int p5), .val (.int (1 : Int32)), .val (.ref b37), .val (.ref b63), .val (.int (0 : Int32)), .val .null, .unset] [(.int (1 : Int32)), (.int (2 : Int32)), (.ref b37), (.ref b63)]))
      obtain ⟨_, _, ⟨T81, L81, k81, n81⟩, -, X81, ⟨Lc81, hQ81, l81, y81, z81⟩, st81⟩ := Jvm.LawKit.callS X80 hx (y := (⟨"com/example/keyslice/keyslice/storage/KeyRangeAfterPinLaw", "held", "([B[BII)Z"⟩ : MethodName)) hown (mvT hZ hw_10) (mvT hZ hw_11) (mvT hZ hw_4) (mvT hZ hw_12) (by decide) (backOf (W := 0) (rm3h21 l Z a0 hw [] (b63) (b37) k63 k37 (D0) (D1) (D2) (D3) h69 n0 Zh75 f74 f71) hZ hw_12 hw_4 (by decide) (by decide)) (g := (mkF m 230 #[.val (.int p1), .val (.int p2), .val (.int p3), .val (.int p4), .val (.int p5), .val (.int (1 : Int32)), .val (.ref b37), .val (.ref b63), .val (.int (0 : Int32)), .val .null, .unset] [(.int (1 : Int32)), (.int (2 : Int32)), (.ref b37), (.ref b63)])) rfl (by rw [hml]; rfl) (argsL := [(.ref b63), (.ref b37), (.int (2 : Int32)), (.int (1 : Int32))]) (rest := []) (lenOf pd_4 rfl) rfl (by show 2 * 0 + _ ≤ _; exact Nat.le_of_eq rfl) (hb hby at_230) (fun _ _ => ⟨rfl, e80, (by decide : 2 + 0 ≤ _), (by decide : 5 + 0 ≤ _)⟩)
      dsimp only [Pt.U, Pt.locs, Pt.cells, Pt.slots] at X81 l81 y81 z81 st81 hQ81
      subst l81 y81 z81
      obtain ⟨rfl, N81q, e81⟩ := hQ81
      have N81 := Fr.app N80 N81q
      refine own_go st81 ?_
      show own_Fin p e below _ (T81.setTop (mkF m 233 #[.val (.int p1), .val (.int p2), .val (.int p3), .val (.int p4), .val (.int p5), .val (.int (1 : Int32)), .val (.ref b37), .val (.ref b63), .val (.int (0 : Int32)), .val .null, .unset] [(.int (1 : Int32))]))
      refine own_go (fun t k => XS.ifNo X81.here hx rfl (hb hby at_233) rfl ((if0 _ _).trans (feq (by decide : ¬ ((1 : Int32) = (0 : Int32)))).1) (XS.aload X81.here hx rfl (hb hby at_236) rfl rfl  (XS.aload X81.here hx rfl (hb hby at_238) rfl rfl  (XS.iconst X81.here hx rfl (hb hby at_240) (XS.iload X81.here hx rfl (hb hby at_241) rfl  k))))) ?_
      show own_Fin p e below _ (T81.setTop (mkF m 243 #[.val (.int p1), .val (.int p2), .val (.int p3), .val (.int p4), .val (.int p5), .val (.int (1 : Int32)), .val (.ref b37), .val (.ref b63), .val (.int (0 : Int32)), .val .null, .unset] [(.int (1 : Int32)), (.int (3 : Int32)), (.ref b37), (.ref b63)]))
      obtain ⟨_, _, ⟨T82, L82, k82, n82⟩, -, X82, ⟨Lc82, hQ82, l82, y82, z82⟩, st82⟩ := Jvm.LawKit.callS X81 hx (y := (⟨"com/example/keyslice/keyslice/storage/KeyRangeAfterPinLaw", "held", "([B[BII)Z"⟩ : MethodName)) hown (mvT hZ hw_10) (mvT hZ hw_11) (mvT hZ hw_4) (mvT hZ hw_12) (by decide) (backOf (W := 0) (rm3h31 l Z a0 hw [] (b63) (b37) k63 k37 (D0) (D1) (D2) (D3) h69 n0 Zh75 f74 f71) hZ hw_12 hw_4 (by decide) (by decide)) (g := (mkF m 243 #[.val (.int p1), .val (.int p2), .val (.int p3), .val (.int p4), .val (.int p5), .val (.int (1 : Int32)), .val (.ref b37), .val (.ref b63), .val (.int (0 : Int32)), .val .null, .unset] [(.int (1 : Int32)), (.int (3 : Int32)), (.ref b37), (.ref b63)])) rfl (by rw [hml]; rfl) (argsL := [(.ref b63), (.ref b37), (.int (3 : Int32)), (.int (1 : Int32))]) (rest := []) (lenOf pd_4 rfl) rfl (by show 2 * 0 + _ ≤ _; exact Nat.le_of_eq rfl) (hb hby at_243) (fun _ _ => ⟨rfl, e81, (by decide : 2 + 0 ≤ _), (by decide : 5 + 0 ≤ _)⟩)
      dsimp only [Pt.U, Pt.locs, Pt.cells, Pt.slots] at X82 l82 y82 z82 st82 hQ82
      subst l82 y82 z82
      obtain ⟨rfl, N82q, e82⟩ := hQ82
      have N82 := Fr.app N81 N82q
      refine own_go st82 ?_
      show own_Fin p e below _ (T82.setTop (mkF m 246 #[.val (.int p1), .val (.int p2), .val (.int p3), .val (.int p4), .val (.int p5), .val (.int (1 : Int32)), .val (.ref b37), .val (.ref b63), .val (.int (0 : Int32)), .val .null, .unset] [(.int (1 : Int32))]))
      refine own_go (fun t k => XS.ifNo X82.here hx rfl (hb hby at_246) rfl ((if0 _ _).trans (feq (by decide : ¬ ((1 : Int32) = (0 : Int32)))).1) (XS.iconst X82.here hx rfl (hb hby at_249) (XS.goto X82.here hx rfl (pc0 := 250) (pc' := 254) rfl (hb hby at_250) (by decide) (by decide) (XS.istore X82.here hx rfl (hb hby at_254) rfl (l' := #[.val (.int p1), .val (.int p2), .val (.int p3), .val (.int p4), .val (.int p5), .val (.int (1 : Int32)), .val (.ref b37), .val (.ref b63), .val (.int (0 : Int32)), .val .null, .val (.int (1 : Int32))]) rfl (XS.iload X82.here hx rfl (hb hby at_256) rfl  k))))) ?_
      show own_Fin p e below _ (T82.setTop (mkF m 258 #[.val (.int p1), .val (.int p2), .val (.int p3), .val (.int p4), .val (.int p5), .val (.int (1 : Int32)), .val (.ref b37), .val (.ref b63), .val (.int (0 : Int32)), .val .null, .val (.int (1 : Int32))] [(.int (0 : Int32))]))
      refine own_go (fun t k => XS.ifNo X82.here hx rfl (hb hby at_258) rfl ((if0 _ _).trans (teq (by decide : (0 : Int32) = (0 : Int32))).2) (XS.aload X82.here hx rfl (hb hby at_261) rfl rfl  k)) ?_
      show own_Fin p e below _ (T82.setTop (mkF m 263 #[.val (.int p1), .val (.int p2), .val (.int p3), .val (.int p4), .val (.int p5), .val (.int (1 : Int32)), .val (.ref b37), .val (.ref b63), .val (.int (0 : Int32)), .val .null, .val (.int (1 : Int32))] [.null]))
      refine own_go (fun t k => XS.ifnonnullNo X82.here hx rfl (hb hby at_263) rfl (XS.iload X82.here hx rfl (hb hby at_266) rfl  k)) ?_
      show own_Fin p e below _ (T82.setTop (mkF m 268 #[.val (.int p1), .val (.int p2), .val (.int p3), .val (.int p4), .val (.int p5), .val (.int (1 : Int32)), .val (.ref b37), .val (.ref b63), .val (.int (0 : Int32)), .val .null, .val (.int (1 : Int32))] [(.int (1 : Int32))]))
      refine own_go (fun t k => XS.ifNo X82.here hx rfl (hb hby at_268) rfl ((if0 _ _).trans (feq (by decide : ¬ ((1 : Int32) = (0 : Int32)))).1) (XS.iconst X82.here hx rfl (hb hby at_271) (XS.goto X82.here hx rfl (pc0 := 272) (pc' := 276) rfl (hb hby at_272) (by decide) (by decide) k))) ?_
      show own_Fin p e below _ (T82.setTop (mkF m 276 #[.val (.int p1), .val (.int p2), .val (.int p3), .val (.int p4), .val (.int p5), .val (.int (1 : Int32)), .val (.ref b37), .val (.ref b63), .val (.int (0 : Int32)), .val .null, .val (.int (1 : Int32))] [(.int (1 : Int32))]))
      exact own_out X82 (fun h => by rw [Bd.returns] at h; cases h) Bd.notSynchronized (fun fs hr => retN X82 hx (t := .boolean) Bd.returns (by simp) (hb hby at_276) hr) ⟨rfl, N82⟩ (by decide) (by decide)
    · skip
      refine own_go (fun t k => XS.icmpNo X69.here hx rfl (hb hby at_178) rfl (feq hc77).1 (XS.iconst X69.here hx rfl (hb hby at_181) (XS.istore X69.here hx rfl (hb hby at_182) rfl (l' := #[.val (.int p1), .val (.int p2), .val (.int p3), .val (.int p4), .val (.int p5), .val (.int (1 : Int32)), .val (.ref b37), .val (.ref b63), .val (.int (1 : Int32)), .unset, .unset]) rfl (XS.goto X69.here hx rfl (pc0 := 184) (pc' := 190) rfl (hb hby at_184) (by decide) (by decide) (XS.aload X69.here hx rfl (hb hby at_190) rfl rfl  k))))) ?_
      show own_Fin p e below _ (T69.setTop (mkF m 192 #[.val (.int p1), .val (.int p2), .val (.int p3), .val (.int p4), .val (.int p5), .val (.int (1 : Int32)), .val (.ref b37), .val (.ref b63), .val (.int (1 : Int32)), .unset, .unset] [(.ref b63)]))
      obtain ⟨_, _, ⟨T83, L83, k83, n83⟩, -, X83, ⟨Lc83, hQ83, l83, y83, z83⟩, st83⟩ := Jvm.LawKit.callS X69 hx (y := (⟨"com/example/keyslice/keyslice/storage/KeyRange", "after", "([B)[B"⟩ : MethodName)) hown (mvT hZ hw_6) (mvT hZ hw_7) (mvT hZ hw_8) (mvT hZ hw_9) (by decide) (backOf (W := 0) (rm2r11 l Z a0 hw [] (b63) k63 (D0) h69 n0 Zh75 f74 f72 hc77) hZ hw_9 hw_8 (by decide) (by decide)) (g := (mkF m 192 #[.val (.int p1), .val (.int p2), .val (.int p3), .val (.int p4), .val (.int p5), .val (.int (1 : Int32)), .val (.ref b37), .val (.ref b63), .val (.int (1 : Int32)), .unset, .unset] [(.ref b63)])) rfl (by rw [hml]; rfl) (argsL := [(.ref b63)]) (rest := []) (lenOf pd_3 rfl) rfl (by show 2 * 0 + _ ≤ _; exact Nat.le_of_eq rfl) (hb hby at_192) (fun _ _ => ⟨rfl, e69, (by decide : 2 + 1 ≤ _), (by decide : 5 + 1 ≤ _)⟩)
      dsimp only [Pt.U, Pt.locs, Pt.cells, Pt.slots] at X83 l83 y83 z83 st83 hQ83
      subst l83 y83 z83
      obtain ⟨b83, k83, rfl, N83q, sz83, K83, V83⟩ := hQ83
      have N83 := Fr.app N69 N83q
      have g_b83 : n0 ≤ b83 := Nat.le_trans Zh75 sz83
      have ne84 : b37 ≠ b83 := Nat.ne_of_lt (Nat.lt_of_lt_of_le f70.lt sz83)
      have ne85 : b63 ≠ b83 := Nat.ne_of_lt (Nat.lt_of_lt_of_le f72.lt sz83)
      have E83 : Ext _ _ := ⟨K83.1, fun a c q => K83.2.1 a c q nin0⟩
      have f86 := f70.ext E83
      have f87 := f71.ext E83
      have f88 := f72.ext E83
      have f89 := f74.ext E83
      have Zh90 : n0 ≤ T83.heap.size := Nat.le_trans Zh75 K83.1
      refine own_go st83 ?_
      show own_Fin p e below _ (T83.setTop (mkF m 195 #[.val (.int p1), .val (.int p2), .val (.int p3), .val (.int p4), .val (.int p5), .val (.int (1 : Int32)), .val (.ref b37), .val (.ref b63), .val (.int (1 : Int32)), .unset, .unset] [(.ref b83)]))
      refine own_go (fun t k => XS.astore X83.here hx rfl (hb hby at_195) rfl rfl (l' := #[.val (.int p1), .val (.int p2), .val (.int p3), .val (.int p4), .val (.int p5), .val (.int (1 : Int32)), .val (.ref b37), .val (.ref b63), .val (.int (1 : Int32)), .val (.ref b83), .unset]) rfl (XS.aload X83.here hx rfl (hb hby at_197) rfl rfl  (XS.aload X83.here hx rfl (hb hby at_199) rfl rfl  (XS.iconst X83.here hx rfl (hb hby at_201) (XS.iload X83.here hx rfl (hb hby at_202) rfl  k))))) ?_
      show own_Fin p e below _ (T83.setTop (mkF m 204 #[.val (.int p1), .val (.int p2), .val (.int p3), .val (.int p4), .val (.int p5), .val (.int (1 : Int32)), .val (.ref b37), .val (.ref b63), .val (.int (1 : Int32)), .val (.ref b83), .unset] [(.int (1 : Int32)), (.int (0 : Int32)), (.ref b37), (.ref b63)]))
      obtain ⟨_, _, ⟨T91, L91, k91, n91⟩, -, X91, ⟨Lc91, hQ91, l91, y91, z91⟩, st91⟩ := Jvm.LawKit.callS X83 hx (y := (⟨"com/example/keyslice/keyslice/storage/KeyRangeAfterPinLaw", "held", "([B[BII)Z"⟩ : MethodName)) hown (mvT hZ hw_10) (mvT hZ hw_11) (mvT hZ hw_4) (mvT hZ hw_12) (by decide) (backOf (W := 0) (rm3h01 l Z a0 hw [] (b63) (b37) k63 k37 (D0) (D1) (D2) (D3) T83.heap n0 Zh90 f89 f87) hZ hw_12 hw_4 (by decide) (by decide)) (g := (mkF m 204 #[.val (.int p1), .val (.int p2), .val (.int p3), .val (.int p4), .val (.int p5), .val (.int (1 : Int32)), .val (.ref b37), .val (.ref b63), .val (.int (1 : Int32)), .val (.ref b83), .unset] [(.int (1 : Int32)), (.int (0 : Int32)), (.ref b37), (.ref b63)])) rfl (by rw [hml]; rfl) (argsL := [(.ref b63), (.ref b37), (.int (0 : Int32)), (.int (1 : Int32))]) (rest := []) (lenOf pd_4 rfl) rfl (by show 2 * 0 + _ ≤ _; exact Nat.le_of_eq rfl) (hb hby at_204) (fun _ _ => ⟨rfl, rfl, (by decide : 3 + 0 ≤ _), (by decide : 6 + 0 ≤ _)⟩)
      dsimp only [Pt.U, Pt.locs, Pt.cells, Pt.slots] at X91 l91 y91 z91 st91 hQ91
      subst l91 y91 z91
      obtain ⟨rfl, N91q, e91⟩ := hQ91
      have N91 := Fr.app N83 N91q
      refine own_go st91 ?_
      show own_Fin p e below _ (T91.setTop (mkF m 207 #[.val (.int p1), .val (.int p2), .val (.int p3), .val (.int p4), .val (.int p5), .val (.int (1 : Int32)), .val (.ref b37), .val (.ref b63), .val (.int (1 : Int32)), .val (.ref b83), .unset] [(.int (1 : Int32))]))
      refine own_go (fun t k => XS.ifNo X91.here hx rfl (hb hby at_207) rfl ((if0 _ _).trans (feq (by decide : ¬ ((1 : Int32) = (0 : Int32)))).1) (XS.aload X91.here hx rfl (hb hby at_210) rfl rfl  (XS.aload X91.here hx rfl (hb hby at_212) rfl rfl  (XS.iconst X91.here hx rfl (hb hby at_214) (XS.iload X91.here hx rfl (hb hby at_215) rfl  k))))) ?_
      show own_Fin p e below _ (T91.setTop (mkF m 217 #[.val (.int p1), .val (.int p2), .val (.int p3), .val (.int p4), .val (.int p5), .val (.int (1 : Int32)), .val (.ref b37), .val (.ref b63), .val (.int (1 : Int32)), .val (.ref b83), .unset] [(.int (1 : Int32)), (.int (1 : Int32)), (.ref b37), (.ref b63)]))
      obtain ⟨_, _, ⟨T92, L92, k92, n92⟩, -, X92, ⟨Lc92, hQ92, l92, y92, z92⟩, st92⟩ := Jvm.LawKit.callS X91 hx (y := (⟨"com/example/keyslice/keyslice/storage/KeyRangeAfterPinLaw", "held", "([B[BII)Z"⟩ : MethodName)) hown (mvT hZ hw_10) (mvT hZ hw_11) (mvT hZ hw_4) (mvT hZ hw_12) (by decide) (backOf (W := 0) (rm3h11 l Z a0 hw [] (b63) (b37) k63 k37 (D0) (D1) (D2) (D3) T83.heap n0 Zh90 f89 f87) hZ hw_12 hw_4 (by decide) (by decide)) (g := (mkF m 217 #[.val (.int p1), .val (.int p2), .val (.int p3), .val (.int p4), .val (.int p5), .val (.int (1 : Int32)), .val (.ref b37), .val (.ref b63), .val (.int (1 : Int32)), .val (.ref b83), .unset] [(.int (1 : Int32)), (.int (1 : Int32)), (.ref b37), (.ref b63)])) rfl (by rw [hml]; rfl) (argsL := [(.ref b63), (.ref b37), (.int (1 : Int32)), (.int (1 : Int32))]) (rest := []) (lenOf pd_4 rfl) rfl (by show 2 * 0 + _ ≤ _; exact Nat.le_of_eq rfl) (hb hby at_217) (fun _ _ => ⟨rfl, e91, (by decide : 3 + 0 ≤ _), (by decide : 6 + 0 ≤ _)⟩)
      dsimp only [Pt.U, Pt.locs, Pt.cells, Pt.slots] at X92 l92 y92 z92 st92 hQ92
      subst l92 y92 z92
      obtain ⟨rfl, N92q, e92⟩ := hQ92
      have N92 := Fr.app N91 N92q
      refine own_go st92 ?_
      show own_Fin p e below _ (T92.setTop (mkF m 220 #[.val (.int p1), .val (.int p2), .val (.int p3), .val (.int p4), .val (.int p5), .val (.int (1 : Int32)), .val (.ref b37), .val (.ref b63), .val (.int (1 : Int32)), .val (.ref b83), .unset] [(.int (1 : Int32))]))
      refine own_go (fun t k => XS.ifNo X92.here hx rfl (hb hby at_220) rfl ((if0 _ _).trans (feq (by decide : ¬ ((1 : Int32) = (0 : Int32)))).1) (XS.aload X92.here hx rfl (hb hby at_223) rfl rfl  (XS.aload X92.here hx rfl (hb hby at_225) rfl rfl  (XS.iconst X92.here hx rfl (hb hby at_227) (XS.iload X92.here hx rfl (hb hby at_228) rfl  k))))) ?_
      show own_Fin p e below _ (T92.setTop (mkF m 230 #[.val (.int p1), .val (.int p2), .val (.int p3), .val (.int p4), .val (.int p5), .val (.int (1 : Int32)), .val (.ref b37), .val (.ref b63), .val (.int (1 : Int32)), .val (.ref b83), .unset] [(.int (1 : Int32)), (.int (2 : Int32)), (.ref b37), (.ref b63)]))
      obtain ⟨_, _, ⟨T93, L93, k93, n93⟩, -, X93, ⟨Lc93, hQ93, l93, y93, z93⟩, st93⟩ := Jvm.LawKit.callS X92 hx (y := (⟨"com/example/keyslice/keyslice/storage/KeyRangeAfterPinLaw", "held", "([B[BII)Z"⟩ : MethodName)) hown (mvT hZ hw_10) (mvT hZ hw_11) (mvT hZ hw_4) (mvT hZ hw_12) (by decide) (backOf (W := 0) (rm3h21 l Z a0 hw [] (b63) (b37) k63 k37 (D0) (D1) (D2) (D3) T83.heap n0 Zh90 f89 f87) hZ hw_12 hw_4 (by decide) (by decide)) (g := (mkF m 230 #[.val (.int p1), .val (.int p2), .val (.int p3), .val (.int p4), .val (.int p5), .val (.int (1 : Int32)), .val (.ref b37), .val (.ref b63), .val (.int (1 : Int32)), .val (.ref b83), .unset] [(.int (1 : Int32)), (.int (2 : Int32)), (.ref b37), (.ref b63)])) rfl (by rw [hml]; rfl) (argsL := [(.ref b63), (.ref b37), (.int (2 : Int32)), (.int (1 : Int32))]) (rest := []) (lenOf pd_4 rfl) rfl (by show 2 * 0 + _ ≤ _; exact Nat.le_of_eq rfl) (hb hby at_230) (fun _ _ => ⟨rfl, e92, (by decide : 3 + 0 ≤ _), (by decide : 6 + 0 ≤ _)⟩)
      dsimp only [Pt.U, Pt.locs, Pt.cells, Pt.slots] at X93 l93 y93 z93 st93 hQ93
      subst l93 y93 z93
      obtain ⟨rfl, N93q, e93⟩ := hQ93
      have N93 := Fr.app N92 N93q
      refine own_go st93 ?_
      show own_Fin p e below _ (T93.setTop (mkF m 233 #[.val (.int p1), .val (.int p2), .val (.int p3), .val (.int p4), .val (.int p5), .val (.int (1 : Int32)), .val (.ref b37), .val (.ref b63), .val (.int (1 : Int32)), .val (.ref b83), .unset] [(.int (1 : Int32))]))
      refine own_go (fun t k => XS.ifNo X93.here hx rfl (hb hby at_233) rfl ((if0 _ _).trans (feq (by decide : ¬ ((1 : Int32) = (0 : Int32)))).1) (XS.aload X93.here hx rfl (hb hby at_236) rfl rfl  (XS.aload X93.here hx rfl (hb hby at_238) rfl rfl  (XS.iconst X93.here hx rfl (hb hby at_240) (XS.iload X93.here hx rfl (hb hby at_241) rfl  k))))) ?_
      show own_Fin p e below _ (T93.setTop (mkF m 243 #[.val (.int p1), .val (.int p2), .val (.int p3), .val (.int p4), .val (.int p5), .val (.int (1 : Int32)), .val (.ref b37), .val (.ref b63), .val (.int (1 : Int32)), .val (.ref b83), .unset] [(.int (1 : Int32)), (.int (3 : Int32)), (.ref b37), (.ref b63)]))
      obtain ⟨_, _, ⟨T94, L94, k94, n94⟩, -, X94, ⟨Lc94, hQ94, l94, y94, z94⟩, st94⟩ := Jvm.LawKit.callS X93 hx (y := (⟨"com/example/keyslice/keyslice/storage/KeyRangeAfterPinLaw", "held", "([B[BII)Z"⟩ : MethodName)) hown (mvT hZ hw_10) (mvT hZ hw_11) (mvT hZ hw_4) (mvT hZ hw_12) (by decide) (backOf (W := 0) (rm3h31 l Z a0 hw [] (b63) (b37) k63 k37 (D0) (D1) (D2) (D3) T83.heap n0 Zh90 f89 f87) hZ hw_12 hw_4 (by decide) (by decide)) (g := (mkF m 243 #[.val (.int p1), .val (.int p2), .val (.int p3), .val (.int p4), .val (.int p5), .val (.int (1 : Int32)), .val (.ref b37), .val (.ref b63), .val (.int (1 : Int32)), .val (.ref b83), .unset] [(.int (1 : Int32)), (.int (3 : Int32)), (.ref b37), (.ref b63)])) rfl (by rw [hml]; rfl) (argsL := [(.ref b63), (.ref b37), (.int (3 : Int32)), (.int (1 : Int32))]) (rest := []) (lenOf pd_4 rfl) rfl (by show 2 * 0 + _ ≤ _; exact Nat.le_of_eq rfl) (hb hby at_243) (fun _ _ => ⟨rfl, e93, (by decide : 3 + 0 ≤ _), (by decide : 6 + 0 ≤ _)⟩)
      dsimp only [Pt.U, Pt.locs, Pt.cells, Pt.slots] at X94 l94 y94 z94 st94 hQ94
      subst l94 y94 z94
      obtain ⟨rfl, N94q, e94⟩ := hQ94
      have N94 := Fr.app N93 N94q
      refine own_go st94 ?_
      show own_Fin p e below _ (T94.setTop (mkF m 246 #[.val (.int p1), .val (.int p2), .val (.int p3), .val (.int p4), .val (.int p5), .val (.int (1 : Int32)), .val (.ref b37), .val (.ref b63), .val (.int (1 : Int32)), .val (.ref b83), .unset] [(.int (1 : Int32))]))
      refine own_go (fun t k => XS.ifNo X94.here hx rfl (hb hby at_246) rfl ((if0 _ _).trans (feq (by decide : ¬ ((1 : Int32) = (0 : Int32)))).1) (XS.iconst X94.here hx rfl (hb hby at_249) (XS.goto X94.here hx rfl (pc0 := 250) (pc' := 254) rfl (hb hby at_250) (by decide) (by decide) (XS.istore X94.here hx rfl (hb hby at_254) rfl (l' := #[.val (.int p1), .val (.int p2), .val (.int p3), .val (.int p4), .val (.int p5), .val (.int (1 : Int32)), .val (.ref b37), .val (.ref b63), .val (.int (1 : Int32)), .val (.ref b83), .val (.int (1 : Int32))]) rfl (XS.iload X94.here hx rfl (hb hby at_256) rfl  k))))) ?_
      show own_Fin p e below _ (T94.setTop (mkF m 258 #[.val (.int p1), .val (.int p2), .val (.int p3), .val (.int p4), .val (.int p5), .val (.int (1 : Int32)), .val (.ref b37), .val (.ref b63), .val (.int (1 : Int32)), .val (.ref b83), .val (.int (1 : Int32))] [(.int (1 : Int32))]))
      refine own_go (fun t k => XS.ifYes X94.here hx rfl (pc0 := 258) (pc' := 277) rfl (hb hby at_258) rfl ((if0 _ _).trans (feq (by decide : ¬ ((1 : Int32) = (0 : Int32)))).2) (by decide) (by decide) (XS.aload X94.here hx rfl (hb hby at_277) rfl rfl  k)) ?_
      show own_Fin p e below _ (T94.setTop (mkF m 279 #[.val (.int p1), .val (.int p2), .val (.int p3), .val (.int p4), .val (.int p5), .val (.int (1 : Int32)), .val (.ref b37), .val (.ref b63), .val (.int (1 : Int32)), .val (.ref b83), .val (.int (1 : Int32))] [(.ref b83)]))
      refine own_go (fun t k => XS.ifnullNo X94.here hx rfl (hb hby at_279) rfl (XS.aload X94.here hx rfl (hb hby at_282) rfl rfl  (XS.aload X94.here hx rfl (hb hby at_284) rfl rfl  k))) ?_
      show own_Fin p e below _ (T94.setTop (mkF m 286 #[.val (.int p1), .val (.int p2), .val (.int p3), .val (.int p4), .val (.int p5), .val (.int (1 : Int32)), .val (.ref b37), .val (.ref b63), .val (.int (1 : Int32)), .val (.ref b83), .val (.int (1 : Int32))] [(.ref b63), (.ref b83)]))
      refine own_go (fun t k => Jvm.RoadKit.acmp (g := (mkF m 286 #[.val (.int p1), .val (.int p2), .val (.int p3), .val (.int p4), .val (.int p5), .val (.int (1 : Int32)), .val (.ref b37), .val (.ref b63), .val (.int (1 : Int32)), .val (.ref b83), .val (.int (1 : Int32))] [(.ref b63), (.ref b83)])) X94 hx rfl rfl rfl (pc0 := 286) (pc' := 289) (same := false) rfl (hb hby at_286) rfl (decide_eq_false fun q => (Ne.symm ne85) (Value.ref.inj q)) (by decide) (by decide) (XS.aload X94.here hx rfl (hb hby at_289) rfl rfl  k)) ?_
      show own_Fin p e below _ (T94.setTop (mkF m 291 #[.val (.int p1), .val (.int p2), .val (.int p3), .val (.int p4), .val (.int p5), .val (.int (1 : Int32)), .val (.ref b37), .val (.ref b63), .val (.int (1 : Int32)), .val (.ref b83), .val (.int (1 : Int32))] [(.ref b83)]))
      obtain ⟨cl95, Ar95, q95, S95, M95, H95, G95⟩ := (id V83)
      refine own_go (fun t k => X94.arraylength hx (by rw [e94]; exact Ar95.1) (State.isArrayOf_alike hZ.alike Ar95.2.1) (g := (mkF m 291 #[.val (.int p1), .val (.int p2), .val (.int p3), .val (.int p4), .val (.int p5), .val (.int (1 : Int32)), .val (.ref b37), .val (.ref b63), .val (.int (1 : Int32)), .val (.ref b83), .val (.int (1 : Int32))] [(.ref b83)])) rfl rfl (hb hby at_291) _ k) ?_
      rw [len_of S95 M95]
      show own_Fin p e below _ (T94.setTop (mkF m 292 #[.val (.int p1), .val (.int p2), .val (.int p3), .val (.int p4), .val (.int p5), .val (.int (1 : Int32)), .val (.ref b37), .val (.ref b63), .val (.int (1 : Int32)), .val (.ref b83), .val (.int (1 : Int32))] [(.int (1 : Int32))]))
      refine own_go (fun t k => XS.iload X94.here hx rfl (hb hby at_292) rfl  k) ?_
      show own_Fin p e below _ (T94.setTop (mkF m 294 #[.val (.int p1), .val (.int p2), .val (.int p3), .val (.int p4), .val (.int p5), .val (.int (1 : Int32)), .val (.ref b37), .val (.ref b63), .val (.int (1 : Int32)), .val (.ref b83), .val (.int (1 : Int32))] [(.int (1 : Int32)), (.int (1 : Int32))]))
      refine own_go (fun t k => XS.icmpYes X94.here hx rfl (pc0 := 294) (pc' := 299) rfl (hb hby at_294) rfl (teq (by decide : (1 : Int32) = (1 : Int32))).1 (by decide) (by decide) (XS.iload X94.here hx rfl (hb hby at_299) rfl  k)) ?_
      show own_Fin p e below _ (T94.setTop (mkF m 301 #[.val (.int p1), .val (.int p2), .val (.int p3), .val (.int p4), .val (.int p5), .val (.int (1 : Int32)), .val (.ref b37), .val (.ref b63), .val (.int (1 : Int32)), .val (.ref b83), .val (.int (1 : Int32))] [(.int (1 : Int32))]))
      refine own_go (fun t k => XS.ifNo X94.here hx rfl (hb hby at_301) rfl ((if0 _ _).trans (feq (by decide : ¬ ((1 : Int32) = (0 : Int32)))).1) (XS.aload X94.here hx rfl (hb hby at_304) rfl rfl  (XS.aload X94.here hx rfl (hb hby at_306) rfl rfl  (XS.iconst X94.here hx rfl (hb hby at_308) (XS.iload X94.here hx rfl (hb hby at_309) rfl  k))))) ?_
      show own_Fin p e below _ (T94.setTop (mkF m 311 #[.val (.int p1), .val (.int p2), .val (.int p3), .val (.int p4), .val (.int p5), .val (.int (1 : Int32)), .val (.ref b37), .val (.ref b63), .val (.int (1 : Int32)), .val (.ref b83), .val (.int (1 : Int32))] [(.int (1 : Int32)), (.int (0 : Int32)), (.ref b37), (.ref b83)]))
      obtain ⟨_, _, ⟨T96, L96, k96, n96⟩, -, X96, ⟨Lc96, hQ96, l96, y96, z96⟩, st96⟩ := Jvm.LawKit.callS X94 hx (y := (⟨"com/example/keyslice/keyslice/storage/KeyRangeAfterPinLaw", "slot", "([B[BII)Z"⟩ : MethodName)) hown (mvT hZ hw_26) (mvT hZ hw_27) (mvT hZ hw_4) (mvT hZ hw_28) (by decide) (backOf (W := 0) (rm5s01 l Z a0 hw [] (b83) (b37) k83 k37 (D0) (D1) (D2) (D3) T83.heap n0 Zh90 V83 f87) hZ hw_28 hw_4 (by decide) (by decide)) (g := (mkF m 311 #[.val (.int p1), .val (.int p2), .val (.int p3), .val (.int p4), .val (.int p5), .val (.int (1 : Int32)), .val (.ref b37), .val (.ref b63), .val (.int (1 : Int32)), .val (.ref b83), .val (.int (1 : Int32))] [(.int (1 : Int32)), (.int (0 : Int32)), (.ref b37), (.ref b83)])) rfl (by rw [hml]; rfl) (argsL := [(.ref b83), (.ref b37), (.int (0 : Int32)), (.int (1 : Int32))]) (rest := []) (lenOf pd_4 rfl) rfl (by show 2 * 0 + _ ≤ _; exact Nat.le_of_eq rfl) (hb hby at_311) (fun _ _ => ⟨rfl, e94, (by decide : 3 + 0 ≤ _), (by decide : 6 + 0 ≤ _)⟩)
      dsimp only [Pt.U, Pt.locs, Pt.cells, Pt.slots] at X96 l96 y96 z96 st96 hQ96
      subst l96 y96 z96
      obtain ⟨rfl, N96q, e96⟩ := hQ96
      have N96 := Fr.app N94 N96q
      refine own_go st96 ?_
      show own_Fin p e below _ (T96.setTop (mkF m 314 #[.val (.int p1), .val (.int p2), .val (.int p3), .val (.int p4), .val (.int p5), .val (.int (1 : Int32)), .val (.ref b37), .val (.ref b63), .val (.int (1 : Int32)), .val (.ref b83), .val (.int (1 : Int32))] [(.int (1 : Int32))]))
      refine own_go (fun t k => XS.ifNo X96.here hx rfl (hb hby at_314) rfl ((if0 _ _).trans (feq (by decide : ¬ ((1 : Int32) = (0 : Int32)))).1) (XS.aload X96.here hx rfl (hb hby at_317) rfl rfl  (XS.aload X96.here hx rfl (hb hby at_319) rfl rfl  (XS.iconst X96.here hx rfl (hb hby at_321) (XS.iload X96.here hx rfl (hb hby at_322) rfl  k))))) ?_
      show own_Fin p e below _ (T96.setTop (mkF m 324 #[.val (.int p1), .val (.int p2), .val (.int p3), .val (.int p4), .val (.int p5), .val (.int (1 : Int32)), .val (.ref b37), .val (.ref b63), .val (.int (1 : Int32)), .val (.ref b83), .val (.int (1 : Int32))] [(.int (1 : Int32)), (.int (1 : Int32)), (.ref b37), (.ref b83)]))
      obtain ⟨_, _, ⟨T97, L97, k97, n97⟩, -, X97, ⟨Lc97, hQ97, l97, y97, z97⟩, st97⟩ := Jvm.LawKit.callS X96 hx (y := (⟨"com/example/keyslice/keyslice/storage/KeyRangeAfterPinLaw", "slot", "([B[BII)Z"⟩ : MethodName)) hown (mvT hZ hw_26) (mvT hZ hw_27) (mvT hZ hw_4) (mvT hZ hw_28) (by decide) (backOf (W := 0) (rm5s11 l Z a0 hw [] (b83) (b37) k83 k37 (D0) (D1) (D2) (D3) T83.heap n0 Zh90 V83 f87) hZ hw_28 hw_4 (by decide) (by decide)) (g := (mkF m 324 #[.val (.int p1), .val (.int p2), .val (.int p3), .val (.int p4), .val (.int p5), .val (.int (1 : Int32)), .val (.ref b37), .val (.ref b63), .val (.int (1 : Int32)), .val (.ref b83), .val (.int (1 : Int32))] [(.int (1 : Int32)), (.int (1 : Int32)), (.ref b37), (.ref b83)])) rfl (by rw [hml]; rfl) (argsL := [(.ref b83), (.ref b37), (.int (1 : Int32)), (.int (1 : Int32))]) (rest := []) (lenOf pd_4 rfl) rfl (by show 2 * 0 + _ ≤ _; exact Nat.le_of_eq rfl) (hb hby at_324) (fun _ _ => ⟨rfl, e96, (by decide : 3 + 0 ≤ _), (by decide : 6 + 0 ≤ _)⟩)
      dsimp only [Pt.U, Pt.locs, Pt.cells, Pt.slots] at X97 l97 y97 z97 st97 hQ97
      subst l97 y97 z97
      obtain ⟨rfl, N97q, e97⟩ := hQ97
      have N97 := Fr.app N96 N97q
      refine own_go st97 ?_
      show own_Fin p e below _ (T97.setTop (mkF m 327 #[.val (.int p1), .val (.int p2), .val (.int p3), .val (.int p4), .val (.int p5), .val (.int (1 : Int32)), .val (.ref b37), .val (.ref b63), .val (.int (1 : Int32)), .val (.ref b83), .val (.int (1 : Int32))] [(.int (1 : Int32))]))
      refine own_go (fun t k => XS.ifNo X97.here hx rfl (hb hby at_327) rfl ((if0 _ _).trans (feq (by decide : ¬ ((1 : Int32) = (0 : Int32)))).1) (XS.aload X97.here hx rfl (hb hby at_330) rfl rfl  (XS.aload X97.here hx rfl (hb hby at_332) rfl rfl  (XS.iconst X97.here hx rfl (hb hby at_334) (XS.iload X97.here hx rfl (hb hby at_335) rfl  k))))) ?_
      show own_Fin p e below _ (T97.setTop (mkF m 337 #[.val (.int p1), .val (.int p2), .val (.int p3), .val (.int p4), .val (.int p5), .val (.int (1 : Int32)), .val (.ref b37), .val (.ref b63), .val (.int (1 : Int32)), .val (.ref b83), .val (.int (1 : Int32))] [(.int (1 : Int32)), (.int (2 : Int32)), (.ref b37), (.ref b83)]))
      obtain ⟨_, _, ⟨T98, L98, k98, n98⟩, -, X98, ⟨Lc98, hQ98, l98, y98, z98⟩, st98⟩ := Jvm.LawKit.callS X97 hx (y := (⟨"com/example/keyslice/keyslice/storage/KeyRangeAfterPinLaw", "slot", "([B[BII)Z"⟩ : MethodName)) hown (mvT hZ hw_26) (mvT hZ hw_27) (mvT hZ hw_4) (mvT hZ hw_28) (by decide) (backOf (W := 0) (rm5s21 l Z a0 hw [] (b83) (b37) k83 k37 (D0) (D1) (D2) (D3) T83.heap n0 Zh90 V83 f87) hZ hw_28 hw_4 (by decide) (by decide)) (g := (mkF m 337 #[.val (.int p1), .val (.int p2), .val (.int p3), .val (.int p4), .val (.int p5), .val (.int (1 : Int32)), .val (.ref b37), .val (.ref b63), .val (.int (1 : Int32)), .val (.ref b83), .val (.int (1 : Int32))] [(.int (1 : Int32)), (.int (2 : Int32)), (.ref b37), (.ref b83)])) rfl (by rw [hml]; rfl) (argsL := [(.ref b83), (.ref b37), (.int (2 : Int32)), (.int (1 : Int32))]) (rest := []) (lenOf pd_4 rfl) rfl (by show 2 * 0 + _ ≤ _; exact Nat.le_of_eq rfl) (hb hby at_337) (fun _ _ => ⟨rfl, e97, (by decide : 3 + 0 ≤ _), (by decide : 6 + 0 ≤ _)⟩)
      dsimp only [Pt.U, Pt.locs, Pt.cells, Pt.slots] at X98 l98 y98 z98 st98 hQ98
      subst l98 y98 z98
      obtain ⟨rfl, N98q, e98⟩ := hQ98
      have N98 := Fr.app N97 N98q
      refine own_go st98 ?_
      show own_Fin p e below _ (T98.setTop (mkF m 340 #[.val (.int p1), .val (.int p2), .val (.int p3), .val (.int p4), .val (.int p5), .val (.int (1 : Int32)), .val (.ref b37), .val (.ref b63), .val (.int (1 : Int32)), .val (.ref b83), .val (.int (1 : Int32))] [(.int (1 : Int32))]))
      refine own_go (fun t k => XS.ifNo X98.here hx rfl (hb hby at_340) rfl ((if0 _ _).trans (feq (by decide : ¬ ((1 : Int32) = (0 : Int32)))).1) (XS.aload X98.here hx rfl (hb hby at_343) rfl rfl  (XS.aload X98.here hx rfl (hb hby at_345) rfl rfl  (XS.iconst X98.here hx rfl (hb hby at_347) (XS.iload X98.here hx rfl (hb hby at_348) rfl  k))))) ?_
      show own_Fin p e below _ (T98.setTop (mkF m 350 #[.val (.int p1), .val (.int p2), .val (.int p3), .val (.int p4), .val (.int p5), .val (.int (1 : Int32)), .val (.ref b37), .val (.ref b63), .val (.int (1 : Int32)), .val (.ref b83), .val (.int (1 : Int32))] [(.int (1 : Int32)), (.int (3 : Int32)), (.ref b37), (.ref b83)]))
      obtain ⟨_, _, ⟨T99, L99, k99, n99⟩, -, X99, ⟨Lc99, hQ99, l99, y99, z99⟩, st99⟩ := Jvm.LawKit.callS X98 hx (y := (⟨"com/example/keyslice/keyslice/storage/KeyRangeAfterPinLaw", "slot", "([B[BII)Z"⟩ : MethodName)) hown (mvT hZ hw_26) (mvT hZ hw_27) (mvT hZ hw_4) (mvT hZ hw_28) (by decide) (backOf (W := 0) (rm5s31 l Z a0 hw [] (b83) (b37) k83 k37 (D0) (D1) (D2) (D3) T83.heap n0 Zh90 V83 f87) hZ hw_28 hw_4 (by decide) (by decide)) (g := (mkF m 350 #[.val (.int p1), .val (.int p2), .val (.int p3), .val (.int p4), .val (.int p5), .val (.int (1 : Int32)), .val (.ref b37), .val (.ref b63), .val (.int (1 : Int32)), .val (.ref b83), .val (.int (1 : Int32))] [(.int (1 : Int32)), (.int (3 : Int32)), (.ref b37), (.ref b83)])) rfl (by rw [hml]; rfl) (argsL := [(.ref b83), (.ref b37), (.int (3 : Int32)), (.int (1 : Int32))]) (rest := []) (lenOf pd_4 rfl) rfl (by show 2 * 0 + _ ≤ _; exact Nat.le_of_eq rfl) (hb hby at_350) (fun _ _ => ⟨rfl, e98, (by decide : 3 + 0 ≤ _), (by decide : 6 + 0 ≤ _)⟩)
      dsimp only [Pt.U, Pt.locs, Pt.cells, Pt.slots] at X99 l99 y99 z99 st99 hQ99
      subst l99 y99 z99
      obtain ⟨rfl, N99q, e99⟩ := hQ99
      have N99 := Fr.app N98 N99q
      refine own_go st99 ?_
      show own_Fin p e below _ (T99.setTop (mkF m 353 #[.val (.int p1), .val (.int p2), .val (.int p3), .val (.int p4), .val (.int p5), .val (.int (1 : Int32)), .val (.ref b37), .val (.ref b63), .val (.int (1 : Int32)), .val (.ref b83), .val (.int (1 : Int32))] [(.int (1 : Int32))]))
      refine own_go (fun t k => XS.ifNo X99.here hx rfl (hb hby at_353) rfl ((if0 _ _).trans (feq (by decide : ¬ ((1 : Int32) = (0 : Int32)))).1) (XS.iconst X99.here hx rfl (hb hby at_356) (XS.goto X99.here hx rfl (pc0 := 357) (pc' := 361) rfl (hb hby at_357) (by decide) (by decide) k))) ?_
      show own_Fin p e below _ (T99.setTop (mkF m 361 #[.val (.int p1), .val (.int p2), .val (.int p3), .val (.int p4), .val (.int p5), .val (.int (1 : Int32)), .val (.ref b37), .val (.ref b63), .val (.int (1 : Int32)), .val (.ref b83), .val (.int (1 : Int32))] [(.int (1 : Int32))]))
      exact own_out X99 (fun h => by rw [Bd.returns] at h; cases h) Bd.notSynchronized (fun fs hr => retN X99 hx (t := .boolean) Bd.returns (by simp) (hb hby at_361) hr) ⟨rfl, N99⟩ (by decide) (by decide)
  · skip
    rw [h]
    show own_Fin p e below _ (s₁.setTop (mkF m 6 #[.val (.int p1), .val (.int p2), .val (.int p3), .val (.int p4), .val (.int p5), .unset, .unset, .unset, .unset, .unset, .unset] [(.int (2 : Int32))]))
    refine own_go (fun t k => XS.istore X0.here hx rfl (hb hby at_6) rfl (l' := #[.val (.int p1), .val (.int p2), .val (.int p3), .val (.int p4), .val (.int p5), .val (.int (2 : Int32)), .unset, .unset, .unset, .unset, .unset]) rfl (XS.iconst X0.here hx rfl (hb hby at_8) k)) ?_
    show own_Fin p e below _ (s₁.setTop (mkF m 9 #[.val (.int p1), .val (.int p2), .val (.int p3), .val (.int p4), .val (.int p5), .val (.int (2 : Int32)), .unset, .unset, .unset, .unset, .unset] [(.int (4 : Int32))]))
    obtain ⟨T100, h100, k100, X100, e100, E100, A100, Ea100, st100⟩ := newPE (aty := .byte) X0 hx hZ hw_1 e0 (g := (mkF m 9 #[.val (.int p1), .val (.int p2), .val (.int p3), .val (.int p4), .val (.int p5), .val (.int (2 : Int32)), .unset, .unset, .unset, .unset, .unset] [(.int (4 : Int32))])) rfl (hb hby at_9) rfl (by decide) (cap := 4) (by decide) (by decide) (by decide) (by decide) (ad := "[B") (by decide)
    obtain ⟨b100, g100⟩ : ∃ z, z = h0.size := ⟨_, rfl⟩
    rw [← g100] at A100 Ea100 st100
    have g_b100 : n0 ≤ b100 := Nat.le_trans Z0 (Nat.le_of_eq g100.symm)
    have Zh101 : n0 ≤ h100.size := Nat.le_trans Z0 E100.1
    have V100 : Arv Z h100 b100 k100 .byte (4 : Int32) [(.int (0 : Int32)), (.int (0 : Int32)), (.int (0 : Int32)), (.int (0 : Int32))] (.int (0 : Int32)) := (Arv.new A100 (by decide)).pad (pad_rep [] (.int (0 : Int32)) 4)
    refine own_go st100 ?_
    show own_Fin p e below _ (T100.setTop (mkF m 11 #[.val (.int p1), .val (.int p2), .val (.int p3), .val (.int p4), .val (.int p5), .val (.int (2 : Int32)), .unset, .unset, .unset, .unset, .unset] [(.ref b100)]))
    refine own_go (fun t k => XS.astore X100.here hx rfl (hb hby at_11) rfl rfl (l' := #[.val (.int p1), .val (.int p2), .val (.int p3), .val (.int p4), .val (.int p5), .val (.int (2 : Int32)), .val (.ref b100), .unset, .unset, .unset, .unset]) rfl (XS.aload X100.here hx rfl (hb hby at_13) rfl rfl  (XS.iconst X100.here hx rfl (hb hby at_15) (XS.iloadN X100.here hx rfl (hb hby at_16) rfl  k)))) ?_
    show own_Fin p e below _ (T100.setTop (mkF m 17 #[.val (.int p1), .val (.int p2), .val (.int p3), .val (.int p4), .val (.int p5), .val (.int (2 : Int32)), .val (.ref b100), .unset, .unset, .unset, .unset] [(.int p2), (.int (0 : Int32)), (.ref b100)]))
    obtain ⟨_, _, ⟨T102, L102, k102, n102⟩, -, X102, ⟨Lc102, hQ102, l102, y102, z102⟩, st102⟩ := Jvm.LawKit.callS X100 hx (y := (⟨"com/example/keyslice/keyslice/storage/KeyRangeAfterPinLaw", "draw", "(I)B"⟩ : MethodName)) hown (mvT hZ hw_2) (mvT hZ hw_3) (mvT hZ hw_4) (mvT hZ hw_5) (by decide) (backOf (W := 2) (rm1 l Z a0 hw [] (p2)  h100 n0 Zh101 ) hZ hw_5 hw_4 (by decide) (by decide)) (g := (mkF m 17 #[.val (.int p1), .val (.int p2), .val (.int p3), .val (.int p4), .val (.int p5), .val (.int (2 : Int32)), .val (.ref b100), .unset, .unset, .unset, .unset] [(.int p2), (.int (0 : Int32)), (.ref b100)])) rfl (by rw [hml]; rfl) (argsL := [(.int p2)]) (rest := [(.int (0 : Int32)), (.ref b100)]) (lenOf pd_2 rfl) rfl (by show 2 * 0 + _ ≤ _; exact Nat.le_of_eq rfl) (hb hby at_17) (fun _ _ => ⟨rfl, e100, (by decide : 1 + 0 ≤ _), (by decide : 4 + 0 ≤ _)⟩)
    dsimp only [Pt.U, Pt.locs, Pt.cells, Pt.slots] at X102 l102 y102 z102 st102 hQ102
    subst l102 y102 z102
    obtain ⟨rfl, N102q, e102⟩ := hQ102
    have N102 := Fr.app N0 N102q
    refine own_go st102 ?_
    show own_Fin p e below _ (T102.setTop (mkF m 20 #[.val (.int p1), .val (.int p2), .val (.int p3), .val (.int p4), .val (.int p5), .val (.int (2 : Int32)), .val (.ref b100), .unset, .unset, .unset, .unset] [(.int (own_dr_3 p2)), (.int (0 : Int32)), (.ref b100)]))
    obtain ⟨D0, h_D0⟩ : ∃ z : Int32, z = (own_dr_3 p2) := ⟨_, rfl⟩
    rw [← h_D0]
    show own_Fin p e below _ (T102.setTop (mkF m 20 #[.val (.int p1), .val (.int p2), .val (.int p3), .val (.int p4), .val (.int p5), .val (.int (2 : Int32)), .val (.ref b100), .unset, .unset, .unset, .unset] [(.int D0), (.int (0 : Int32)), (.ref b100)]))
    have hN0 : nar .byte D0 = D0 := by rw [h_D0]; exact own_nn _
    obtain ⟨cl103, Ar103, q103, S103, M103, H103, G103⟩ := (id V100)
    have hin103 : ¬ ((0 : Int32) < 0 ∨ cl103.slots.size ≤ ((0 : Int32)).toNatClampNeg) := inb_of S103 ⟨by decide, by decide⟩
    obtain ⟨T103, h103, X103, e103, W103, st103⟩ := stB X102 hx hZ e102 Ar103 (j := (0 : Int32)) hin103 (g := (mkF m 20 #[.val (.int p1), .val (.int p2), .val (.int p3), .val (.int p4), .val (.int p5), .val (.int (2 : Int32)), .val (.ref b100), .unset, .unset, .unset, .unset] [(.int D0), (.int (0 : Int32)), (.ref b100)])) rfl rfl (hb hby at_20)
    have f104 := Ea100.wr W103
    have V103 := Arv.set Ar103 q103 S103 M103 H103 G103 (fits_nar_byte _) W103 0 rfl (Nat.le_of_ble_eq_true rfl)
    have f106 : Arv Z h103 b100 k100 .byte (4 : Int32) [(.int (nar .byte D0)), (.int (0 : Int32)), (.int (0 : Int32)), (.int (0 : Int32))] (.int (0 : Int32)) := V103
    rw [hN0] at f106
    have Zh107 : n0 ≤ h103.size := Nat.le_trans Zh101 (Nat.le_of_eq W103.size.symm)
    have N103 := Fr.snoc X103 N102 g_b100
    refine own_go st103 ?_
    show own_Fin p e below _ (T103.setTop (mkF m 21 #[.val (.int p1), .val (.int p2), .val (.int p3), .val (.int p4), .val (.int p5), .val (.int (2 : Int32)), .val (.ref b100), .unset, .unset, .unset, .unset] []))
    refine own_go (fun t k => XS.aload X103.here hx rfl (hb hby at_21) rfl rfl  (XS.iconst X103.here hx rfl (hb hby at_23) (XS.iloadN X103.here hx rfl (hb hby at_24) rfl  k))) ?_
    show own_Fin p e below _ (T103.setTop (mkF m 25 #[.val (.int p1), .val (.int p2), .val (.int p3), .val (.int p4), .val (.int p5), .val (.int (2 : Int32)), .val (.ref b100), .unset, .unset, .unset, .unset] [(.int p3), (.int (1 : Int32)), (.ref b100)]))
    obtain ⟨_, _, ⟨T108, L108, k108, n108⟩, -, X108, ⟨Lc108, hQ108, l108, y108, z108⟩, st108⟩ := Jvm.LawKit.callS X103 hx (y := (⟨"com/example/keyslice/keyslice/storage/KeyRangeAfterPinLaw", "draw", "(I)B"⟩ : MethodName)) hown (mvT hZ hw_2) (mvT hZ hw_3) (mvT hZ hw_4) (mvT hZ hw_5) (by decide) (backOf (W := 2) (rm1 l Z a0 hw [] (p3)  h103 n0 Zh107 ) hZ hw_5 hw_4 (by decide) (by decide)) (g := (mkF m 25 #[.val (.int p1), .val (.int p2), .val (.int p3), .val (.int p4), .val (.int p5), .val (.int (2 : Int32)), .val (.ref b100), .unset, .unset, .unset, .unset] [(.int p3), (.int (1 : Int32)), (.ref b100)])) rfl (by rw [hml]; rfl) (argsL := [(.int p3)]) (rest := [(.int (1 : Int32)), (.ref b100)]) (lenOf pd_2 rfl) rfl (by show 2 * 0 + _ ≤ _; exact Nat.le_of_eq rfl) (hb hby at_25) (fun _ _ => ⟨rfl, e103, (by decide : 1 + 0 ≤ _), (by decide : 4 + 0 ≤ _)⟩)
    dsimp only [Pt.U, Pt.locs, Pt.cells, Pt.slots] at X108 l108 y108 z108 st108 hQ108
    subst l108 y108 z108
    obtain ⟨rfl, N108q, e108⟩ := hQ108
    have N108 := Fr.app N103 N108q
    refine own_go st108 ?_
    show own_Fin p e below _ (T108.setTop (mkF m 28 #[.val (.int p1), .val (.int p2), .val (.int p3), .val (.int p4), .val (.int p5), .val (.int (2 : Int32)), .val (.ref b100), .unset, .unset, .unset, .unset] [(.int (own_dr_3 p3)), (.int (1 : Int32)), (.ref b100)]))
    obtain ⟨D1, h_D1⟩ : ∃ z : Int32, z = (own_dr_3 p3) := ⟨_, rfl⟩
    rw [← h_D1]
    show own_Fin p e below _ (T108.setTop (mkF m 28 #[.val (.int p1), .val (.int p2), .val (.int p3), .val (.int p4), .val (.int p5), .val (.int (2 : Int32)), .val (.ref b100), .unset, .unset, .unset, .unset] [(.int D1), (.int (1 : Int32)), (.ref b100)]))
    have hN1 : nar .byte D1 = D1 := by rw [h_D1]; exact own_nn _
    obtain ⟨cl109, Ar109, q109, S109, M109, H109, G109⟩ := (id f106)
    have hin109 : ¬ ((1 : Int32) < 0 ∨ cl109.slots.size ≤ ((1 : Int32)).toNatClampNeg) := inb_of S109 ⟨by decide, by decide⟩
    obtain ⟨T109, h109, X109, e109, W109, st109⟩ := stB X108 hx hZ e108 Ar109 (j := (1 : Int32)) hin109 (g := (mkF m 28 #[.val (.int p1), .val (.int p2), .val (.int p3), .val (.int p4), .val (.int p5), .val (.int (2 : Int32)), .val (.ref b100), .unset, .unset, .unset, .unset] [(.int D1), (.int (1 : Int32)), (.ref b100)])) rfl rfl (hb hby at_28)
    have f110 := f104.wr W109
    have V109 := Arv.set Ar109 q109 S109 M109 H109 G109 (fits_nar_byte _) W109 1 rfl (Nat.le_of_ble_eq_true rfl)
    have f112 : Arv Z h109 b100 k100 .byte (4 : Int32) [(.int D0), (.int (nar .byte D1)), (.int (0 : Int32)), (.int (0 : Int32))] (.int (0 : Int32)) := V109
    rw [hN1] at f112
    have Zh113 : n0 ≤ h109.size := Nat.le_trans Zh107 (Nat.le_of_eq W109.size.symm)
    have N109 := Fr.snoc X109 N108 g_b100
    refine own_go st109 ?_
    show own_Fin p e below _ (T109.setTop (mkF m 29 #[.val (.int p1), .val (.int p2), .val (.int p3), .val (.int p4), .val (.int p5), .val (.int (2 : Int32)), .val (.ref b100), .unset, .unset, .unset, .unset] []))
    refine own_go (fun t k => XS.aload X109.here hx rfl (hb hby at_29) rfl rfl  (XS.iconst X109.here hx rfl (hb hby at_31) (XS.iloadN X109.here hx rfl (hb hby at_32) rfl  k))) ?_
    show own_Fin p e below _ (T109.setTop (mkF m 33 #[.val (.int p1), .val (.int p2), .val (.int p3), .val (.int p4), .val (.int p5), .val (.int (2 : Int32)), .val (.ref b100), .unset, .unset, .unset, .unset] [(.int p4), (.int (2 : Int32)), (.ref b100)]))
    obtain ⟨_, _, ⟨T114, L114, k114, n114⟩, -, X114, ⟨Lc114, hQ114, l114, y114, z114⟩, st114⟩ := Jvm.LawKit.callS X109 hx (y := (⟨"com/example/keyslice/keyslice/storage/KeyRangeAfterPinLaw", "draw", "(I)B"⟩ : MethodName)) hown (mvT hZ hw_2) (mvT hZ hw_3) (mvT hZ hw_4) (mvT hZ hw_5) (by decide) (backOf (W := 2) (rm1 l Z a0 hw [] (p4)  h109 n0 Zh113 ) hZ hw_5 hw_4 (by decide) (by decide)) (g := (mkF m 33 #[.val (.int p1), .val (.int p2), .val (.int p3), .val (.int p4), .val (.int p5), .val (.int (2 : Int32)), .val (.ref b100), .unset, .unset, .unset, .unset] [(.int p4), (.int (2 : Int32)), (.ref b100)])) rfl (by rw [hml]; rfl) (argsL := [(.int p4)]) (rest := [(.int (2 : Int32)), (.ref b100)]) (lenOf pd_2 rfl) rfl (by show 2 * 0 + _ ≤ _; exact Nat.le_of_eq rfl) (hb hby at_33) (fun _ _ => ⟨rfl, e109, (by decide : 1 + 0 ≤ _), (by decide : 4 + 0 ≤ _)⟩)
    dsimp only [Pt.U, Pt.locs, Pt.cells, Pt.slots] at X114 l114 y114 z114 st114 hQ114
    subst l114 y114 z114
    obtain ⟨rfl, N114q, e114⟩ := hQ114
    have N114 := Fr.app N109 N114q
    refine own_go st114 ?_
    show own_Fin p e below _ (T114.setTop (mkF m 36 #[.val (.int p1), .val (.int p2), .val (.int p3), .val (.int p4), .val (.int p5), .val (.int (2 : Int32)), .val (.ref b100), .unset, .unset, .unset, .unset] [(.int (own_dr_3 p4)), (.int (2 : Int32)), (.ref b100)]))
    obtain ⟨D2, h_D2⟩ : ∃ z : Int32, z = (own_dr_3 p4) := ⟨_, rfl⟩
    rw [← h_D2]
    show own_Fin p e below _ (T114.setTop (mkF m 36 #[.val (.int p1), .val (.int p2), .val (.int p3), .val (.int p4), .val (.int p5), .val (.int (2 : Int32)), .val (.ref b100), .unset, .unset, .unset, .unset] [(.int D2), (.int (2 : Int32)), (.ref b100)]))
    have hN2 : nar .byte D2 = D2 := by rw [h_D2]; exact own_nn _
    obtain ⟨cl115, Ar115, q115, S115, M115, H115, G115⟩ := (id f112)
    have hin115 : ¬ ((2 : Int32) < 0 ∨ cl115.slots.size ≤ ((2 : Int32)).toNatClampNeg) := inb_of S115 ⟨by decide, by decide⟩
    obtain ⟨T115, h115, X115, e115, W115, st115⟩ := stB X114 hx hZ e114 Ar115 (j := (2 : Int32)) hin115 (g := (mkF m 36 #[.val (.int p1), .val (.int p2), .val (.int p3), .val (.int p4), .val (.int p5), .val (.int (2 : Int32)), .val (.ref b100), .unset, .unset, .unset, .unset] [(.int D2), (.int (2 : Int32)), (.ref b100)])) rfl rfl (hb hby at_36)
    have f116 := f110.wr W115
    have V115 := Arv.set Ar115 q115 S115 M115 H115 G115 (fits_nar_byte _) W115 2 rfl (Nat.le_of_ble_eq_true rfl)
    have f118 : Arv Z h115 b100 k100 .byte (4 : Int32) [(.int D0), (.int D1), (.int (nar .byte D2)), (.int (0 : Int32))] (.int (0 : Int32)) := V115
    rw [hN2] at f118
    have Zh119 : n0 ≤ h115.size := Nat.le_trans Zh113 (Nat.le_of_eq W115.size.symm)
    have N115 := Fr.snoc X115 N114 g_b100
    refine own_go st115 ?_
    show own_Fin p e below _ (T115.setTop (mkF m 37 #[.val (.int p1), .val (.int p2), .val (.int p3), .val (.int p4), .val (.int p5), .val (.int (2 : Int32)), .val (.ref b100), .unset, .unset, .unset, .unset] []))
    refine own_go (fun t k => XS.aload X115.here hx rfl (hb hby at_37) rfl rfl  (XS.iconst X115.here hx rfl (hb hby at_39) (XS.iload X115.here hx rfl (hb hby at_40) rfl  k))) ?_
    show own_Fin p e below _ (T115.setTop (mkF m 42 #[.val (.int p1), .val (.int p2), .val (.int p3), .val (.int p4), .val (.int p5), .val (.int (2 : Int32)), .val (.ref b100), .unset, .unset, .unset, .unset] [(.int p5), (.int (3 : Int32)), (.ref b100)]))
    obtain ⟨_, _, ⟨T120, L120, k120, n120⟩, -, X120, ⟨Lc120, hQ120, l120, y120, z120⟩, st120⟩ := Jvm.LawKit.callS X115 hx (y := (⟨"com/example/keyslice/keyslice/storage/KeyRangeAfterPinLaw", "draw", "(I)B"⟩ : MethodName)) hown (mvT hZ hw_2) (mvT hZ hw_3) (mvT hZ hw_4) (mvT hZ hw_5) (by decide) (backOf (W := 2) (rm1 l Z a0 hw [] (p5)  h115 n0 Zh119 ) hZ hw_5 hw_4 (by decide) (by decide)) (g := (mkF m 42 #[.val (.int p1), .val (.int p2), .val (.int p3), .val (.int p4), .val (.int p5), .val (.int (2 : Int32)), .val (.ref b100), .unset, .unset, .unset, .unset] [(.int p5), (.int (3 : Int32)), (.ref b100)])) rfl (by rw [hml]; rfl) (argsL := [(.int p5)]) (rest := [(.int (3 : Int32)), (.ref b100)]) (lenOf pd_2 rfl) rfl (by show 2 * 0 + _ ≤ _; exact Nat.le_of_eq rfl) (hb hby at_42) (fun _ _ => ⟨rfl, e115, (by decide : 1 + 0 ≤ _), (by decide : 4 + 0 ≤ _)⟩)
    dsimp only [Pt.U, Pt.locs, Pt.cells, Pt.slots] at X120 l120 y120 z120 st120 hQ120
    subst l120 y120 z120
    obtain ⟨rfl, N120q, e120⟩ := hQ120
    have N120 := Fr.app N115 N120q
    refine own_go st120 ?_
    show own_Fin p e below _ (T120.setTop (mkF m 45 #[.val (.int p1), .val (.int p2), .val (.int p3), .val (.int p4), .val (.int p5), .val (.int (2 : Int32)), .val (.ref b100), .unset, .unset, .unset, .unset] [(.int (own_dr_3 p5)), (.int (3 : Int32)), (.ref b100)]))
    obtain ⟨D3, h_D3⟩ : ∃ z : Int32, z = (own_dr_3 p5) := ⟨_, rfl⟩
    rw [← h_D3]
    show own_Fin p e below _ (T120.setTop (mkF m 45 #[.val (.int p1), .val (.int p2), .val (.int p3), .val (.int p4), .val (.int p5), .val (.int (2 : Int32)), .val (.ref b100), .unset, .unset, .unset, .unset] [(.int D3), (.int (3 : Int32)), (.ref b100)]))
    have hN3 : nar .byte D3 = D3 := by rw [h_D3]; exact own_nn _
    obtain ⟨cl121, Ar121, q121, S121, M121, H121, G121⟩ := (id f118)
    have hin121 : ¬ ((3 : Int32) < 0 ∨ cl121.slots.size ≤ ((3 : Int32)).toNatClampNeg) := inb_of S121 ⟨by decide, by decide⟩
    obtain ⟨T121, h121, X121, e121, W121, st121⟩ := stB X120 hx hZ e120 Ar121 (j := (3 : Int32)) hin121 (g := (mkF m 45 #[.val (.int p1), .val (.int p2), .val (.int p3), .val (.int p4), .val (.int p5), .val (.int (2 : Int32)), .val (.ref b100), .unset, .unset, .unset, .unset] [(.int D3), (.int (3 : Int32)), (.ref b100)])) rfl rfl (hb hby at_45)
    have f122 := f116.wr W121
    have V121 := Arv.set Ar121 q121 S121 M121 H121 G121 (fits_nar_byte _) W121 3 rfl (Nat.le_of_ble_eq_true rfl)
    have f124 : Arv Z h121 b100 k100 .byte (4 : Int32) [(.int D0), (.int D1), (.int D2), (.int (nar .byte D3))] (.int (0 : Int32)) := V121
    rw [hN3] at f124
    have Zh125 : n0 ≤ h121.size := Nat.le_trans Zh119 (Nat.le_of_eq W121.size.symm)
    have N121 := Fr.snoc X121 N120 g_b100
    refine own_go st121 ?_
    show own_Fin p e below _ (T121.setTop (mkF m 46 #[.val (.int p1), .val (.int p2), .val (.int p3), .val (.int p4), .val (.int p5), .val (.int (2 : Int32)), .val (.ref b100), .unset, .unset, .unset, .unset] []))
    refine own_go (fun t k => XS.iload X121.here hx rfl (hb hby at_46) rfl  k) ?_
    show own_Fin p e below _ (T121.setTop (mkF m 48 #[.val (.int p1), .val (.int p2), .val (.int p3), .val (.int p4), .val (.int p5), .val (.int (2 : Int32)), .val (.ref b100), .unset, .unset, .unset, .unset] [(.int (2 : Int32))]))
    obtain ⟨T126, h126, k126, X126, e126, E126, A126, Ea126, st126⟩ := newPE (aty := .byte) X121 hx hZ hw_1 e121 (g := (mkF m 48 #[.val (.int p1), .val (.int p2), .val (.int p3), .val (.int p4), .val (.int p5), .val (.int (2 : Int32)), .val (.ref b100), .unset, .unset, .unset, .unset] [(.int (2 : Int32))])) rfl (hb hby at_48) rfl (by decide) (cap := 2) (by decide) (by decide) (by decide) (by decide) (ad := "[B") (by decide)
    obtain ⟨b126, g126⟩ : ∃ z, z = h121.size := ⟨_, rfl⟩
    rw [← g126] at A126 Ea126 st126
    have g_b126 : n0 ≤ b126 := Nat.le_trans Zh125 (Nat.le_of_eq g126.symm)
    have ne127 : b100 ≠ b126 := Nat.ne_of_lt (Nat.lt_of_lt_of_le f122.lt (Nat.le_of_eq g126.symm))
    have f128 := f122.ext E126
    have f129 := f124.ext E126
    have Zh130 : n0 ≤ h126.size := Nat.le_trans Zh125 E126.1
    have V126 : Arv Z h126 b126 k126 .byte (2 : Int32) [(.int (0 : Int32)), (.int (0 : Int32))] (.int (0 : Int32)) := (Arv.new A126 (by decide)).pad (pad_rep [] (.int (0 : Int32)) 2)
    refine own_go st126 ?_
    show own_Fin p e below _ (T126.setTop (mkF m 50 #[.val (.int p1), .val (.int p2), .val (.int p3), .val (.int p4), .val (.int p5), .val (.int (2 : Int32)), .val (.ref b100), .unset, .unset, .unset, .unset] [(.ref b126)]))
    refine own_go (fun t k => XS.astore X126.here hx rfl (hb hby at_50) rfl rfl (l' := #[.val (.int p1), .val (.int p2), .val (.int p3), .val (.int p4), .val (.int p5), .val (.int (2 : Int32)), .val (.ref b100), .val (.ref b126), .unset, .unset, .unset]) rfl (XS.iload X126.here hx rfl (hb hby at_52) rfl  k)) ?_
    show own_Fin p e below _ (T126.setTop (mkF m 54 #[.val (.int p1), .val (.int p2), .val (.int p3), .val (.int p4), .val (.int p5), .val (.int (2 : Int32)), .val (.ref b100), .val (.ref b126), .unset, .unset, .unset] [(.int (2 : Int32))]))
    refine own_go (fun t k => XS.ifNo X126.here hx rfl (hb hby at_54) rfl ((if0 _ _).trans (tlt (by decide : (0 : Int32) < (2 : Int32))).2.2.2) (XS.aload X126.here hx rfl (hb hby at_57) rfl rfl  (XS.iconst X126.here hx rfl (hb hby at_59) (XS.aload X126.here hx rfl (hb hby at_60) rfl rfl  (XS.iconst X126.here hx rfl (hb hby at_62) k))))) ?_
    show own_Fin p e below _ (T126.setTop (mkF m 63 #[.val (.int p1), .val (.int p2), .val (.int p3), .val (.int p4), .val (.int p5), .val (.int (2 : Int32)), .val (.ref b100), .val (.ref b126), .unset, .unset, .unset] [(.int (0 : Int32)), (.ref b100), (.int (0 : Int32)), (.ref b126)]))
    obtain ⟨cl131, Ar131, q131, S131, M131, H131, G131⟩ := (id f129)
    have hin131 : ¬ ((0 : Int32) < 0 ∨ cl131.slots.size ≤ ((0 : Int32)).toNatClampNeg) := inb_of S131 ⟨by decide, by decide⟩
    have hat131 : cl131.slots[((0 : Int32)).toNatClampNeg]? = some (.int D0) := H131.at hin131 rfl
    refine own_go (fun t k => X126.baloadBytes hx (j := (0 : Int32)) (v := (.int D0)) (by rw [e126]; exact Ar131.1) (State.isArrayOf_alike hZ.alike Ar131.2.1) Ar131.2.2 hin131 hat131 (g := (mkF m 63 #[.val (.int p1), .val (.int p2), .val (.int p3), .val (.int p4), .val (.int p5), .val (.int (2 : Int32)), .val (.ref b100), .val (.ref b126), .unset, .unset, .unset] [(.int (0 : Int32)), (.ref b100), (.int (0 : Int32)), (.ref b126)])) rfl rfl (hb hby at_63) _ k) ?_
    show own_Fin p e below _ (T126.setTop (mkF m 64 #[.val (.int p1), .val (.int p2), .val (.int p3), .val (.int p4), .val (.int p5), .val (.int (2 : Int32)), .val (.ref b100), .val (.ref b126), .unset, .unset, .unset] [(.int D0), (.int (0 : Int32)), (.ref b126)]))
    obtain ⟨cl132, Ar132, q132, S132, M132, H132, G132⟩ := (id V126)
    have hin132 : ¬ ((0 : Int32) < 0 ∨ cl132.slots.size ≤ ((0 : Int32)).toNatClampNeg) := inb_of S132 ⟨by decide, by decide⟩
    obtain ⟨T132, h132, X132, e132, W132, st132⟩ := stB X126 hx hZ e126 Ar132 (j := (0 : Int32)) hin132 (g := (mkF m 64 #[.val (.int p1), .val (.int p2), .val (.int p3), .val (.int p4), .val (.int p5), .val (.int (2 : Int32)), .val (.ref b100), .val (.ref b126), .unset, .unset, .unset] [(.int D0), (.int (0 : Int32)), (.ref b126)])) rfl rfl (hb hby at_64)
    have f133 := f128.wr W132
    have f134 := f129.other W132 ne127
    have f135 := Ea126.wr W132
    have V132 := Arv.set Ar132 q132 S132 M132 H132 G132 (fits_nar_byte _) W132 0 rfl (Nat.le_of_ble_eq_true rfl)
    have f137 : Arv Z h132 b126 k126 .byte (2 : Int32) [(.int (nar .byte D0)), (.int (0 : Int32))] (.int (0 : Int32)) := V132
    rw [hN0] at f137
    have Zh138 : n0 ≤ h132.size := Nat.le_trans Zh130 (Nat.le_of_eq W132.size.symm)
    have N132 := Fr.snoc X132 N121 g_b126
    refine own_go st132 ?_
    show own_Fin p e below _ (T132.setTop (mkF m 65 #[.val (.int p1), .val (.int p2), .val (.int p3), .val (.int p4), .val (.int p5), .val (.int (2 : Int32)), .val (.ref b100), .val (.ref b126), .unset, .unset, .unset] []))
    refine own_go (fun t k => XS.iload X132.here hx rfl (hb hby at_65) rfl  (XS.iconst X132.here hx rfl (hb hby at_67) k)) ?_
    show own_Fin p e below _ (T132.setTop (mkF m 68 #[.val (.int p1), .val (.int p2), .val (.int p3), .val (.int p4), .val (.int p5), .val (.int (2 : Int32)), .val (.ref b100), .val (.ref b126), .unset, .unset, .unset] [(.int (1 : Int32)), (.int (2 : Int32))]))
    refine own_go (fun t k => XS.icmpNo X132.here hx rfl (hb hby at_68) rfl (tlt (by decide : (1 : Int32) < (2 : Int32))).2.2.2 (XS.aload X132.here hx rfl (hb hby at_71) rfl rfl  (XS.iconst X132.here hx rfl (hb hby at_73) (XS.aload X132.here hx rfl (hb hby at_74) rfl rfl  (XS.iconst X132.here hx rfl (hb hby at_76) k))))) ?_
    show own_Fin p e below _ (T132.setTop (mkF m 77 #[.val (.int p1), .val (.int p2), .val (.int p3), .val (.int p4), .val (.int p5), .val (.int (2 : Int32)), .val (.ref b100), .val (.ref b126), .unset, .unset, .unset] [(.int (1 : Int32)), (.ref b100), (.int (1 : Int32)), (.ref b126)]))
    obtain ⟨cl139, Ar139, q139, S139, M139, H139, G139⟩ := (id f134)
    have hin139 : ¬ ((1 : Int32) < 0 ∨ cl139.slots.size ≤ ((1 : Int32)).toNatClampNeg) := inb_of S139 ⟨by decide, by decide⟩
    have hat139 : cl139.slots[((1 : Int32)).toNatClampNeg]? = some (.int D1) := H139.at hin139 rfl
    refine own_go (fun t k => X132.baloadBytes hx (j := (1 : Int32)) (v := (.int D1)) (by rw [e132]; exact Ar139.1) (State.isArrayOf_alike hZ.alike Ar139.2.1) Ar139.2.2 hin139 hat139 (g := (mkF m 77 #[.val (.int p1), .val (.int p2), .val (.int p3), .val (.int p4), .val (.int p5), .val (.int (2 : Int32)), .val (.ref b100), .val (.ref b126), .unset, .unset, .unset] [(.int (1 : Int32)), (.ref b100), (.int (1 : Int32)), (.ref b126)])) rfl rfl (hb hby at_77) _ k) ?_
    show own_Fin p e below _ (T132.setTop (mkF m 78 #[.val (.int p1), .val (.int p2), .val (.int p3), .val (.int p4), .val (.int p5), .val (.int (2 : Int32)), .val (.ref b100), .val (.ref b126), .unset, .unset, .unset] [(.int D1), (.int (1 : Int32)), (.ref b126)]))
    obtain ⟨cl140, Ar140, q140, S140, M140, H140, G140⟩ := (id f137)
    have hin140 : ¬ ((1 : Int32) < 0 ∨ cl140.slots.size ≤ ((1 : Int32)).toNatClampNeg) := inb_of S140 ⟨by decide, by decide⟩
    obtain ⟨T140, h140, X140, e140, W140, st140⟩ := stB X132 hx hZ e132 Ar140 (j := (1 : Int32)) hin140 (g := (mkF m 78 #[.val (.int p1), .val (.int p2), .val (.int p3), .val (.int p4), .val (.int p5), .val (.int (2 : Int32)), .val (.ref b100), .val (.ref b126), .unset, .unset, .unset] [(.int D1), (.int (1 : Int32)), (.ref b126)])) rfl rfl (hb hby at_78)
    have f141 := f133.wr W140
    have f142 := f134.other W140 ne127
    have f143 := f135.wr W140
    have V140 := Arv.set Ar140 q140 S140 M140 H140 G140 (fits_nar_byte _) W140 1 rfl (Nat.le_of_ble_eq_true rfl)
    have f145 : Arv Z h140 b126 k126 .byte (2 : Int32) [(.int D0), (.int (nar .byte D1))] (.int (0 : Int32)) := V140
    rw [hN1] at f145
    have Zh146 : n0 ≤ h140.size := Nat.le_trans Zh138 (Nat.le_of_eq W140.size.symm)
    have N140 := Fr.snoc X140 N132 g_b126
    refine own_go st140 ?_
    show own_Fin p e below _ (T140.setTop (mkF m 79 #[.val (.int p1), .val (.int p2), .val (.int p3), .val (.int p4), .val (.int p5), .val (.int (2 : Int32)), .val (.ref b100), .val (.ref b126), .unset, .unset, .unset] []))
    refine own_go (fun t k => XS.iload X140.here hx rfl (hb hby at_79) rfl  (XS.iconst X140.here hx rfl (hb hby at_81) k)) ?_
    show own_Fin p e below _ (T140.setTop (mkF m 82 #[.val (.int p1), .val (.int p2), .val (.int p3), .val (.int p4), .val (.int p5), .val (.int (2 : Int32)), .val (.ref b100), .val (.ref b126), .unset, .unset, .unset] [(.int (2 : Int32)), (.int (2 : Int32))]))
    refine own_go (fun t k => XS.icmpYes X140.here hx rfl (pc0 := 82) (pc' := 93) rfl (hb hby at_82) rfl (flt (by decide : ¬ ((2 : Int32) < (2 : Int32)))).2.2.2 (by decide) (by decide) (XS.iload X140.here hx rfl (hb hby at_93) rfl  (XS.iconst X140.here hx rfl (hb hby at_95) k))) ?_
    show own_Fin p e below _ (T140.setTop (mkF m 96 #[.val (.int p1), .val (.int p2), .val (.int p3), .val (.int p4), .val (.int p5), .val (.int (2 : Int32)), .val (.ref b100), .val (.ref b126), .unset, .unset, .unset] [(.int (3 : Int32)), (.int (2 : Int32))]))
    refine own_go (fun t k => XS.icmpYes X140.here hx rfl (pc0 := 96) (pc' := 107) rfl (hb hby at_96) rfl (flt (by decide : ¬ ((3 : Int32) < (2 : Int32)))).2.2.2 (by decide) (by decide) (XS.iload X140.here hx rfl (hb hby at_107) rfl  (XS.iconst X140.here hx rfl (hb hby at_109) k))) ?_
    show own_Fin p e below _ (T140.setTop (mkF m 110 #[.val (.int p1), .val (.int p2), .val (.int p3), .val (.int p4), .val (.int p5), .val (.int (2 : Int32)), .val (.ref b100), .val (.ref b126), .unset, .unset, .unset] [(.int (4 : Int32)), (.int (2 : Int32))]))
    refine own_go (fun t k => XS.icmpYes X140.here hx rfl (pc0 := 110) (pc' := 127) rfl (hb hby at_110) rfl (tlt (by decide : (2 : Int32) < (4 : Int32))).1 (by decide) (by decide) (XS.iload X140.here hx rfl (hb hby at_127) rfl  (XS.iconst X140.here hx rfl (hb hby at_129) k))) ?_
    show own_Fin p e below _ (T140.setTop (mkF m 130 #[.val (.int p1), .val (.int p2), .val (.int p3), .val (.int p4), .val (.int p5), .val (.int (2 : Int32)), .val (.ref b100), .val (.ref b126), .unset, .unset, .unset] [(.int (3 : Int32)), (.int (2 : Int32))]))
    refine own_go (fun t k => XS.icmpYes X140.here hx rfl (pc0 := 130) (pc' := 147) rfl (hb hby at_130) rfl (tlt (by decide : (2 : Int32) < (3 : Int32))).1 (by decide) (by decide) (XS.iload X140.here hx rfl (hb hby at_147) rfl  (XS.iconst X140.here hx rfl (hb hby at_149) k))) ?_
    show own_Fin p e below _ (T140.setTop (mkF m 150 #[.val (.int p1), .val (.int p2), .val (.int p3), .val (.int p4), .val (.int p5), .val (.int (2 : Int32)), .val (.ref b100), .val (.ref b126), .unset, .unset, .unset] [(.int (2 : Int32)), (.int (2 : Int32))]))
    refine own_go (fun t k => XS.icmpNo X140.here hx rfl (hb hby at_150) rfl (flt (by decide : ¬ ((2 : Int32) < (2 : Int32)))).1 (XS.aload X140.here hx rfl (hb hby at_153) rfl rfl  (XS.iconst X140.here hx rfl (hb hby at_155) k))) ?_
    show own_Fin p e below _ (T140.setTop (mkF m 156 #[.val (.int p1), .val (.int p2), .val (.int p3), .val (.int p4), .val (.int p5), .val (.int (2 : Int32)), .val (.ref b100), .val (.ref b126), .unset, .unset, .unset] [(.int (1 : Int32)), (.ref b100)]))
    obtain ⟨cl147, Ar147, q147, S147, M147, H147, G147⟩ := (id f142)
    have hin147 : ¬ ((1 : Int32) < 0 ∨ cl147.slots.size ≤ ((1 : Int32)).toNatClampNeg) := inb_of S147 ⟨by decide, by decide⟩
    have hat147 : cl147.slots[((1 : Int32)).toNatClampNeg]? = some (.int D1) := H147.at hin147 rfl
    refine own_go (fun t k => X140.baloadBytes hx (j := (1 : Int32)) (v := (.int D1)) (by rw [e140]; exact Ar147.1) (State.isArrayOf_alike hZ.alike Ar147.2.1) Ar147.2.2 hin147 hat147 (g := (mkF m 156 #[.val (.int p1), .val (.int p2), .val (.int p3), .val (.int p4), .val (.int p5), .val (.int (2 : Int32)), .val (.ref b100), .val (.ref b126), .unset, .unset, .unset] [(.int (1 : Int32)), (.ref b100)])) rfl rfl (hb hby at_156) _ (XS.iconst X140.here hx rfl (hb hby at_157) k)) ?_
    show own_Fin p e below _ (T140.setTop (mkF m 158 #[.val (.int p1), .val (.int p2), .val (.int p3), .val (.int p4), .val (.int p5), .val (.int (2 : Int32)), .val (.ref b100), .val (.ref b126), .unset, .unset, .unset] [(.int (-1 : Int32)), (.int D1)]))
    by_cases hc148 : D1 = (-1 : Int32)
    · skip
      refine own_go (fun t k => XS.icmpYes X140.here hx rfl (pc0 := 158) (pc' := 167) rfl (hb hby at_158) rfl (teq hc148).1 (by decide) (by decide) (XS.iload X140.here hx rfl (hb hby at_167) rfl  (XS.iconst X140.here hx rfl (hb hby at_169) k))) ?_
      show own_Fin p e below _ (T140.setTop (mkF m 170 #[.val (.int p1), .val (.int p2), .val (.int p3), .val (.int p4), .val (.int p5), .val (.int (2 : Int32)), .val (.ref b100), .val (.ref b126), .unset, .unset, .unset] [(.int (1 : Int32)), (.int (2 : Int32))]))
      refine own_go (fun t k => XS.icmpNo X140.here hx rfl (hb hby at_170) rfl (flt (by decide : ¬ ((2 : Int32) < (1 : Int32)))).1 (XS.aload X140.here hx rfl (hb hby at_173) rfl rfl  (XS.iconst X140.here hx rfl (hb hby at_175) k))) ?_
      show own_Fin p e below _ (T140.setTop (mkF m 176 #[.val (.int p1), .val (.int p2), .val (.int p3), .val (.int p4), .val (.int p5), .val (.int (2 : Int32)), .val (.ref b100), .val (.ref b126), .unset, .unset, .unset] [(.int (0 : Int32)), (.ref b100)]))
      obtain ⟨cl149, Ar149, q149, S149, M149, H149, G149⟩ := (id f142)
      have hin149 : ¬ ((0 : Int32) < 0 ∨ cl149.slots.size ≤ ((0 : Int32)).toNatClampNeg) := inb_of S149 ⟨by decide, by decide⟩
      have hat149 : cl149.slots[((0 : Int32)).toNatClampNeg]? = some (.int D0) := H149.at hin149 rfl
      refine own_go (fun t k => X140.baloadBytes hx (j := (0 : Int32)) (v := (.int D0)) (by rw [e140]; exact Ar149.1) (State.isArrayOf_alike hZ.alike Ar149.2.1) Ar149.2.2 hin149 hat149 (g := (mkF m 176 #[.val (.int p1), .val (.int p2), .val (.int p3), .val (.int p4), .val (.int p5), .val (.int (2 : Int32)), .val (.ref b100), .val (.ref b126), .unset, .unset, .unset] [(.int (0 : Int32)), (.ref b100)])) rfl rfl (hb hby at_176) _ (XS.iconst X140.here hx rfl (hb hby at_177) k)) ?_
      show own_Fin p e below _ (T140.setTop (mkF m 178 #[.val (.int p1), .val (.int p2), .val (.int p3), .val (.int p4), .val (.int p5), .val (.int (2 : Int32)), .val (.ref b100), .val (.ref b126), .unset, .unset, .unset] [(.int (-1 : Int32)), (.int D0)]))
      by_cases hc150 : D0 = (-1 : Int32)
      · skip
        refine own_go (fun t k => XS.icmpYes X140.here hx rfl (pc0 := 178) (pc' := 187) rfl (hb hby at_178) rfl (teq hc150).1 (by decide) (by decide) (XS.iconst X140.here hx rfl (hb hby at_187) (XS.istore X140.here hx rfl (hb hby at_188) rfl (l' := #[.val (.int p1), .val (.int p2), .val (.int p3), .val (.int p4), .val (.int p5), .val (.int (2 : Int32)), .val (.ref b100), .val (.ref b126), .val (.int (0 : Int32)), .unset, .unset]) rfl (XS.aload X140.here hx rfl (hb hby at_190) rfl rfl  k)))) ?_
        show own_Fin p e below _ (T140.setTop (mkF m 192 #[.val (.int p1), .val (.int p2), .val (.int p3), .val (.int p4), .val (.int p5), .val (.int (2 : Int32)), .val (.ref b100), .val (.ref b126), .val (.int (0 : Int32)), .unset, .unset] [(.ref b126)]))
        obtain ⟨_, _, ⟨T151, L151, k151, n151⟩, -, X151, ⟨Lc151, hQ151, l151, y151, z151⟩, st151⟩ := Jvm.LawKit.callS X140 hx (y := (⟨"com/example/keyslice/keyslice/storage/KeyRange", "after", "([B)[B"⟩ : MethodName)) hown (mvT hZ hw_6) (mvT hZ hw_7) (mvT hZ hw_8) (mvT hZ hw_9) (by decide) (backOf (W := 0) (rm2r20 l Z a0 hw [] (b126) k126 (D0) (D1) h140 n0 Zh146 f145 f143 hc148 hc150) hZ hw_9 hw_8 (by decide) (by decide)) (g := (mkF m 192 #[.val (.int p1), .val (.int p2), .val (.int p3), .val (.int p4), .val (.int p5), .val (.int (2 : Int32)), .val (.ref b100), .val (.ref b126), .val (.int (0 : Int32)), .unset, .unset] [(.ref b126)])) rfl (by rw [hml]; rfl) (argsL := [(.ref b126)]) (rest := []) (lenOf pd_3 rfl) rfl (by show 2 * 0 + _ ≤ _; exact Nat.le_of_eq rfl) (hb hby at_192) (fun _ _ => ⟨rfl, e140, (by decide : 2 + 0 ≤ _), (by decide : 6 + 0 ≤ _)⟩)
        dsimp only [Pt.U, Pt.locs, Pt.cells, Pt.slots] at X151 l151 y151 z151 st151 hQ151
        subst l151 y151 z151
        obtain ⟨rfl, N151q, e151⟩ := hQ151
        have N151 := Fr.app N140 N151q
        refine own_go st151 ?_
        show own_Fin p e below _ (T151.setTop (mkF m 195 #[.val (.int p1), .val (.int p2), .val (.int p3), .val (.int p4), .val (.int p5), .val (.int (2 : Int32)), .val (.ref b100), .val (.ref b126), .val (.int (0 : Int32)), .unset, .unset] [.null]))
        refine own_go (fun t k => XS.astore X151.here hx rfl (hb hby at_195) rfl rfl (l' := #[.val (.int p1), .val (.int p2), .val (.int p3), .val (.int p4), .val (.int p5), .val (.int (2 : Int32)), .val (.ref b100), .val (.ref b126), .val (.int (0 : Int32)), .val .null, .unset]) rfl (XS.aload X151.here hx rfl (hb hby at_197) rfl rfl  (XS.aload X151.here hx rfl (hb hby at_199) rfl rfl  (XS.iconst X151.here hx rfl (hb hby at_201) (XS.iload X151.here hx rfl (hb hby at_202) rfl  k))))) ?_
        show own_Fin p e below _ (T151.setTop (mkF m 204 #[.val (.int p1), .val (.int p2), .val (.int p3), .val (.int p4), .val (.int p5), .val (.int (2 : Int32)), .val (.ref b100), .val (.ref b126), .val (.int (0 : Int32)), .val .null, .unset] [(.int (2 : Int32)), (.int (0 : Int32)), (.ref b100), (.ref b126)]))
        obtain ⟨_, _, ⟨T152, L152, k152, n152⟩, -, X152, ⟨Lc152, hQ152, l152, y152, z152⟩, st152⟩ := Jvm.LawKit.callS X151 hx (y := (⟨"com/example/keyslice/keyslice/storage/KeyRangeAfterPinLaw", "held", "([B[BII)Z"⟩ : MethodName)) hown (mvT hZ hw_10) (mvT hZ hw_11) (mvT hZ hw_4) (mvT hZ hw_12) (by decide) (backOf (W := 0) (rm3h02 l Z a0 hw [] (b126) (b100) k126 k100 (D0) (D1) (D2) (D3) h140 n0 Zh146 f145 f142) hZ hw_12 hw_4 (by decide) (by decide)) (g := (mkF m 204 #[.val (.int p1), .val (.int p2), .val (.int p3), .val (.int p4), .val (.int p5), .val (.int (2 : Int32)), .val (.ref b100), .val (.ref b126), .val (.int (0 : Int32)), .val .null, .unset] [(.int (2 : Int32)), (.int (0 : Int32)), (.ref b100), (.ref b126)])) rfl (by rw [hml]; rfl) (argsL := [(.ref b126), (.ref b100), (.int (0 : Int32)), (.int (2 : Int32))]) (rest := []) (lenOf pd_4 rfl) rfl (by show 2 * 0 + _ ≤ _; exact Nat.le_of_eq rfl) (hb hby at_204) (fun _ _ => ⟨rfl, e151, (by decide : 2 + 0 ≤ _), (by decide : 6 + 0 ≤ _)⟩)
        dsimp only [Pt.U, Pt.locs, Pt.cells, Pt.slots] at X152 l152 y152 z152 st152 hQ152
        subst l152 y152 z152
        obtain ⟨rfl, N152q, e152⟩ := hQ152
        have N152 := Fr.app N151 N152q
        refine own_go st152 ?_
        show own_Fin p e below _ (T152.setTop (mkF m 207 #[.val (.int p1), .val (.int p2), .val (.int p3), .val (.int p4), .val (.int p5), .val (.int (2 : Int32)), .val (.ref b100), .val (.ref b126), .val (.int (0 : Int32)), .val .null, .unset] [(.int (1 : Int32))]))
        refine own_go (fun t k => XS.ifNo X152.here hx rfl (hb hby at_207) rfl ((if0 _ _).trans (feq (by decide : ¬ ((1 : Int32) = (0 : Int32)))).1) (XS.aload X152.here hx rfl (hb hby at_210) rfl rfl  (XS.aload X152.here hx rfl (hb hby at_212) rfl rfl  (XS.iconst X152.here hx rfl (hb hby at_214) (XS.iload X152.here hx rfl (hb hby at_215) rfl  k))))) ?_
        show own_Fin p e below _ (T152.setTop (mkF m 217 #[.val (.int p1), .val (.int p2), .val (.int p3), .val (.int p4), .val (.int p5), .val (.int (2 : Int32)), .val (.ref b100), .val (.ref b126), .val (.int (0 : Int32)), .val .null, .unset] [(.int (2 : Int32)), (.int (1 : Int32)), (.ref b100), (.ref b126)]))
        obtain ⟨_, _, ⟨T153, L153, k153, n153⟩, -, X153, ⟨Lc153, hQ153, l153, y153, z153⟩, st153⟩ := Jvm.LawKit.callS X152 hx (y := (⟨"com/example/keyslice/keyslice/storage/KeyRangeAfterPinLaw", "held", "([B[BII)Z"⟩ : MethodName)) hown (mvT hZ hw_10) (mvT hZ hw_11) (mvT hZ hw_4) (mvT hZ hw_12) (by decide) (backOf (W := 0) (rm3h12 l Z a0 hw [] (b126) (b100) k126 k100 (D0) (D1) (D2) (D3) h140 n0 Zh146 f145 f142) hZ hw_12 hw_4 (by decide) (by decide)) (g := (mkF m 217 #[.val (.int p1), .val (.int p2), .val (.int p3), .val (.int p4), .val (.int p5), .val (.int (2 : Int32)), .val (.ref b100), .val (.ref b126), .val (.int (0 : Int32)), .val .null, .unset] [(.int (2 : Int32)), (.int (1 : Int32)), (.ref b100), (.ref b126)])) rfl (by rw [hml]; rfl) (argsL := [(.ref b126), (.ref b100), (.int (1 : Int32)), (.int (2 : Int32))]) (rest := []) (lenOf pd_4 rfl) rfl (by show 2 * 0 + _ ≤ _; exact Nat.le_of_eq rfl) (hb hby at_217) (fun _ _ => ⟨rfl, e152, (by decide : 2 + 0 ≤ _), (by decide : 6 + 0 ≤ _)⟩)
        dsimp only [Pt.U, Pt.locs, Pt.cells, Pt.slots] at X153 l153 y153 z153 st153 hQ153
        subst l153 y153 z153
        obtain ⟨rfl, N153q, e153⟩ := hQ153
        have N153 := Fr.app N152 N153q
        refine own_go st153 ?_
        show own_Fin p e below _ (T153.setTop (mkF m 220 #[.val (.int p1), .val (.int p2), .val (.int p3), .val (.int p4), .val (.int p5), .val (.int (2 : Int32)), .val (.ref b100), .val (.ref b126), .val (.int (0 : Int32)), .val .null, .unset] [(.int (1 : Int32))]))
        refine own_go (fun t k => XS.ifNo X153.here hx rfl (hb hby at_220) rfl ((if0 _ _).trans (feq (by decide : ¬ ((1 : Int32) = (0 : Int32)))).1) (XS.aload X153.here hx rfl (hb hby at_223) rfl rfl  (XS.aload X153.here hx rfl (hb hby at_225) rfl rfl  (XS.iconst X153.here hx rfl (hb hby at_227) (XS.iload X153.here hx rfl (hb hby at_228) rfl  k))))) ?_
        show own_Fin p e below _ (T153.setTop (mkF m 230 #[.val (.int p1), .val (.int p2), .val (.int p3), .val (.int p4), .val (.int p5), .val (.int (2 : Int32)), .val (.ref b100), .val (.ref b126), .val (.int (0 : Int32)), .val .null, .unset] [(.int (2 : Int32)), (.int (2 : Int32)), (.ref b100), (.ref b126)]))
        obtain ⟨_, _, ⟨T154, L154, k154, n154⟩, -, X154, ⟨Lc154, hQ154, l154, y154, z154⟩, st154⟩ := Jvm.LawKit.callS X153 hx (y := (⟨"com/example/keyslice/keyslice/storage/KeyRangeAfterPinLaw", "held", "([B[BII)Z"⟩ : MethodName)) hown (mvT hZ hw_10) (mvT hZ hw_11) (mvT hZ hw_4) (mvT hZ hw_12) (by decide) (backOf (W := 0) (rm3h22 l Z a0 hw [] (b126) (b100) k126 k100 (D0) (D1) (D2) (D3) h140 n0 Zh146 f145 f142) hZ hw_12 hw_4 (by decide) (by decide)) (g := (mkF m 230 #[.val (.int p1), .val (.int p2), .val (.int p3), .val (.int p4), .val (.int p5), .val (.int (2 : Int32)), .val (.ref b100), .val (.ref b126), .val (.int (0 : Int32)), .val .null, .unset] [(.int (2 : Int32)), (.int (2 : Int32)), (.ref b100), (.ref b126)])) rfl (by rw [hml]; rfl) (argsL := [(.ref b126), (.ref b100), (.int (2 : Int32)), (.int (2 : Int32))]) (rest := []) (lenOf pd_4 rfl) rfl (by show 2 * 0 + _ ≤ _; exact Nat.le_of_eq rfl) (hb hby at_230) (fun _ _ => ⟨rfl, e153, (by decide : 2 + 0 ≤ _), (by decide : 6 + 0 ≤ _)⟩)
        dsimp only [Pt.U, Pt.locs, Pt.cells, Pt.slots] at X154 l154 y154 z154 st154 hQ154
        subst l154 y154 z154
        obtain ⟨rfl, N154q, e154⟩ := hQ154
        have N154 := Fr.app N153 N154q
        refine own_go st154 ?_
        show own_Fin p e below _ (T154.setTop (mkF m 233 #[.val (.int p1), .val (.int p2), .val (.int p3), .val (.int p4), .val (.int p5), .val (.int (2 : Int32)), .val (.ref b100), .val (.ref b126), .val (.int (0 : Int32)), .val .null, .unset] [(.int (1 : Int32))]))
        refine own_go (fun t k => XS.ifNo X154.here hx rfl (hb hby at_233) rfl ((if0 _ _).trans (feq (by decide : ¬ ((1 : Int32) = (0 : Int32)))).1) (XS.aload X154.here hx rfl (hb hby at_236) rfl rfl  (XS.aload X154.here hx rfl (hb hby at_238) rfl rfl  (XS.iconst X154.here hx rfl (hb hby at_240) (XS.iload X154.here hx rfl (hb hby at_241) rfl  k))))) ?_
        show own_Fin p e below _ (T154.setTop (mkF m 243 #[.val (.int p1), .val (.int p2), .val (.int p3), .val (.int p4), .val (.int p5), .val (.int (2 : Int32)), .val (.ref b100), .val (.ref b126), .val (.int (0 : Int32)), .val .null, .unset] [(.int (2 : Int32)), (.int (3 : Int32)), (.ref b100), (.ref b126)]))
        obtain ⟨_, _, ⟨T155, L155, k155, n155⟩, -, X155, ⟨Lc155, hQ155, l155, y155, z155⟩, st155⟩ := Jvm.LawKit.callS X154 hx (y := (⟨"com/example/keyslice/keyslice/storage/KeyRangeAfterPinLaw", "held", "([B[BII)Z"⟩ : MethodName)) hown (mvT hZ hw_10) (mvT hZ hw_11) (mvT hZ hw_4) (mvT hZ hw_12) (by decide) (backOf (W := 0) (rm3h32 l Z a0 hw [] (b126) (b100) k126 k100 (D0) (D1) (D2) (D3) h140 n0 Zh146 f145 f142) hZ hw_12 hw_4 (by decide) (by decide)) (g := (mkF m 243 #[.val (.int p1), .val (.int p2), .val (.int p3), .val (.int p4), .val (.int p5), .val (.int (2 : Int32)), .val (.ref b100), .val (.ref b126), .val (.int (0 : Int32)), .val .null, .unset] [(.int (2 : Int32)), (.int (3 : Int32)), (.ref b100), (.ref b126)])) rfl (by rw [hml]; rfl) (argsL := [(.ref b126), (.ref b100), (.int (3 : Int32)), (.int (2 : Int32))]) (rest := []) (lenOf pd_4 rfl) rfl (by show 2 * 0 + _ ≤ _; exact Nat.le_of_eq rfl) (hb hby at_243) (fun _ _ => ⟨rfl, e154, (by decide : 2 + 0 ≤ _), (by decide : 6 + 0 ≤ _)⟩)
        dsimp only [Pt.U, Pt.locs, Pt.cells, Pt.slots] at X155 l155 y155 z155 st155 hQ155
        subst l155 y155 z155
        obtain ⟨rfl, N155q, e155⟩ := hQ155
        have N155 := Fr.app N154 N155q
        refine own_go st155 ?_
        show own_Fin p e below _ (T155.setTop (mkF m 246 #[.val (.int p1), .val (.int p2), .val (.int p3), .val (.int p4), .val (.int p5), .val (.int (2 : Int32)), .val (.ref b100), .val (.ref b126), .val (.int (0 : Int32)), .val .null, .unset] [(.int (1 : Int32))]))
        refine own_go (fun t k => XS.ifNo X155.here hx rfl (hb hby at_246) rfl ((if0 _ _).trans (feq (by decide : ¬ ((1 : Int32) = (0 : Int32)))).1) (XS.iconst X155.here hx rfl (hb hby at_249) (XS.goto X155.here hx rfl (pc0 := 250) (pc' := 254) rfl (hb hby at_250) (by decide) (by decide) (XS.istore X155.here hx rfl (hb hby at_254) rfl (l' := #[.val (.int p1), .val (.int p2), .val (.int p3), .val (.int p4), .val (.int p5), .val (.int (2 : Int32)), .val (.ref b100), .val (.ref b126), .val (.int (0 : Int32)), .val .null, .val (.int (1 : Int32))]) rfl (XS.iload X155.here hx rfl (hb hby at_256) rfl  k))))) ?_
        show own_Fin p e below _ (T155.setTop (mkF m 258 #[.val (.int p1), .val (.int p2), .val (.int p3), .val (.int p4), .val (.int p5), .val (.int (2 : Int32)), .val (.ref b100), .val (.ref b126), .val (.int (0 : Int32)), .val .null, .val (.int (1 : Int32))] [(.int (0 : Int32))]))
        refine own_go (fun t k => XS.ifNo X155.here hx rfl (hb hby at_258) rfl ((if0 _ _).trans (teq (by decide : (0 : Int32) = (0 : Int32))).2) (XS.aload X155.here hx rfl (hb hby at_261) rfl rfl  k)) ?_
        show own_Fin p e below _ (T155.setTop (mkF m 263 #[.val (.int p1), .val (.int p2), .val (.int p3), .val (.int p4), .val (.int p5), .val (.int (2 : Int32)), .val (.ref b100), .val (.ref b126), .val (.int (0 : Int32)), .val .null, .val (.int (1 : Int32))] [.null]))
        refine own_go (fun t k => XS.ifnonnullNo X155.here hx rfl (hb hby at_263) rfl (XS.iload X155.here hx rfl (hb hby at_266) rfl  k)) ?_
        show own_Fin p e below _ (T155.setTop (mkF m 268 #[.val (.int p1), .val (.int p2), .val (.int p3), .val (.int p4), .val (.int p5), .val (.int (2 : Int32)), .val (.ref b100), .val (.ref b126), .val (.int (0 : Int32)), .val .null, .val (.int (1 : Int32))] [(.int (1 : Int32))]))
        refine own_go (fun t k => XS.ifNo X155.here hx rfl (hb hby at_268) rfl ((if0 _ _).trans (feq (by decide : ¬ ((1 : Int32) = (0 : Int32)))).1) (XS.iconst X155.here hx rfl (hb hby at_271) (XS.goto X155.here hx rfl (pc0 := 272) (pc' := 276) rfl (hb hby at_272) (by decide) (by decide) k))) ?_
        show own_Fin p e below _ (T155.setTop (mkF m 276 #[.val (.int p1), .val (.int p2), .val (.int p3), .val (.int p4), .val (.int p5), .val (.int (2 : Int32)), .val (.ref b100), .val (.ref b126), .val (.int (0 : Int32)), .val .null, .val (.int (1 : Int32))] [(.int (1 : Int32))]))
        exact own_out X155 (fun h => by rw [Bd.returns] at h; cases h) Bd.notSynchronized (fun fs hr => retN X155 hx (t := .boolean) Bd.returns (by simp) (hb hby at_276) hr) ⟨rfl, N155⟩ (by decide) (by decide)
      · skip
        refine own_go (fun t k => XS.icmpNo X140.here hx rfl (hb hby at_178) rfl (feq hc150).1 (XS.iconst X140.here hx rfl (hb hby at_181) (XS.istore X140.here hx rfl (hb hby at_182) rfl (l' := #[.val (.int p1), .val (.int p2), .val (.int p3), .val (.int p4), .val (.int p5), .val (.int (2 : Int32)), .val (.ref b100), .val (.ref b126), .val (.int (1 : Int32)), .unset, .unset]) rfl (XS.goto X140.here hx rfl (pc0 := 184) (pc' := 190) rfl (hb hby at_184) (by decide) (by decide) (XS.aload X140.here hx rfl (hb hby at_190) rfl rfl  k))))) ?_
        show own_Fin p e below _ (T140.setTop (mkF m 192 #[.val (.int p1), .val (.int p2), .val (.int p3), .val (.int p4), .val (.int p5), .val (.int (2 : Int32)), .val (.ref b100), .val (.ref b126), .val (.int (1 : Int32)), .unset, .unset] [(.ref b126)]))
        obtain ⟨_, _, ⟨T156, L156, k156, n156⟩, -, X156, ⟨Lc156, hQ156, l156, y156, z156⟩, st156⟩ := Jvm.LawKit.callS X140 hx (y := (⟨"com/example/keyslice/keyslice/storage/KeyRange", "after", "([B)[B"⟩ : MethodName)) hown (mvT hZ hw_6) (mvT hZ hw_7) (mvT hZ hw_8) (mvT hZ hw_9) (by decide) (backOf (W := 0) (rm2r21 l Z a0 hw [] (b126) k126 (D0) (D1) h140 n0 Zh146 f145 f143 hc148 hc150) hZ hw_9 hw_8 (by decide) (by decide)) (g := (mkF m 192 #[.val (.int p1), .val (.int p2), .val (.int p3), .val (.int p4), .val (.int p5), .val (.int (2 : Int32)), .val (.ref b100), .val (.ref b126), .val (.int (1 : Int32)), .unset, .unset] [(.ref b126)])) rfl (by rw [hml]; rfl) (argsL := [(.ref b126)]) (rest := []) (lenOf pd_3 rfl) rfl (by show 2 * 0 + _ ≤ _; exact Nat.le_of_eq rfl) (hb hby at_192) (fun _ _ => ⟨rfl, e140, (by decide : 2 + 1 ≤ _), (by decide : 6 + 1 ≤ _)⟩)
        dsimp only [Pt.U, Pt.locs, Pt.cells, Pt.slots] at X156 l156 y156 z156 st156 hQ156
        subst l156 y156 z156
        obtain ⟨b156, k156, rfl, N156q, sz156, K156, V156⟩ := hQ156
        have N156 := Fr.app N140 N156q
        have g_b156 : n0 ≤ b156 := Nat.le_trans Zh146 sz156
        have ne157 : b100 ≠ b156 := Nat.ne_of_lt (Nat.lt_of_lt_of_le f141.lt sz156)
        have ne158 : b126 ≠ b156 := Nat.ne_of_lt (Nat.lt_of_lt_of_le f143.lt sz156)
        have E156 : Ext _ _ := ⟨K156.1, fun a c q => K156.2.1 a c q nin0⟩
        have f159 := f141.ext E156
        have f160 := f142.ext E156
        have f161 := f143.ext E156
        have f162 := f145.ext E156
        have Zh163 : n0 ≤ T156.heap.size := Nat.le_trans Zh146 K156.1
        refine own_go st156 ?_
        show own_Fin p e below _ (T156.setTop (mkF m 195 #[.val (.int p1), .val (.int p2), .val (.int p3), .val (.int p4), .val (.int p5), .val (.int (2 : Int32)), .val (.ref b100), .val (.ref b126), .val (.int (1 : Int32)), .unset, .unset] [(.ref b156)]))
        refine own_go (fun t k => XS.astore X156.here hx rfl (hb hby at_195) rfl rfl (l' := #[.val (.int p1), .val (.int p2), .val (.int p3), .val (.int p4), .val (.int p5), .val (.int (2 : Int32)), .val (.ref b100), .val (.ref b126), .val (.int (1 : Int32)), .val (.ref b156), .unset]) rfl (XS.aload X156.here hx rfl (hb hby at_197) rfl rfl  (XS.aload X156.here hx rfl (hb hby at_199) rfl rfl  (XS.iconst X156.here hx rfl (hb hby at_201) (XS.iload X156.here hx rfl (hb hby at_202) rfl  k))))) ?_
        show own_Fin p e below _ (T156.setTop (mkF m 204 #[.val (.int p1), .val (.int p2), .val (.int p3), .val (.int p4), .val (.int p5), .val (.int (2 : Int32)), .val (.ref b100), .val (.ref b126), .val (.int (1 : Int32)), .val (.ref b156), .unset] [(.int (2 : Int32)), (.int (0 : Int32)), (.ref b100), (.ref b126)]))
        obtain ⟨_, _, ⟨T164, L164, k164, n164⟩, -, X164, ⟨Lc164, hQ164, l164, y164, z164⟩, st164⟩ := Jvm.LawKit.callS X156 hx (y := (⟨"com/example/keyslice/keyslice/storage/KeyRangeAfterPinLaw", "held", "([B[BII)Z"⟩ : MethodName)) hown (mvT hZ hw_10) (mvT hZ hw_11) (mvT hZ hw_4) (mvT hZ hw_12) (by decide) (backOf (W := 0) (rm3h02 l Z a0 hw [] (b126) (b100) k126 k100 (D0) (D1) (D2) (D3) T156.heap n0 Zh163 f162 f160) hZ hw_12 hw_4 (by decide) (by decide)) (g := (mkF m 204 #[.val (.int p1), .val (.int p2), .val (.int p3), .val (.int p4), .val (.int p5), .val (.int (2 : Int32)), .val (.ref b100), .val (.ref b126), .val (.int (1 : Int32)), .val (.ref b156), .unset] [(.int (2 : Int32)), (.int (0 : Int32)), (.ref b100), (.ref b126)])) rfl (by rw [hml]; rfl) (argsL := [(.ref b126), (.ref b100), (.int (0 : Int32)), (.int (2 : Int32))]) (rest := []) (lenOf pd_4 rfl) rfl (by show 2 * 0 + _ ≤ _; exact Nat.le_of_eq rfl) (hb hby at_204) (fun _ _ => ⟨rfl, rfl, (by decide : 3 + 0 ≤ _), (by decide : 7 + 0 ≤ _)⟩)
        dsimp only [Pt.U, Pt.locs, Pt.cells, Pt.slots] at X164 l164 y164 z164 st164 hQ164
        subst l164 y164 z164
        obtain ⟨rfl, N164q, e164⟩ := hQ164
        have N164 := Fr.app N156 N164q
        refine own_go st164 ?_
        show own_Fin p e below _ (T164.setTop (mkF m 207 #[.val (.int p1), .val (.int p2), .val (.int p3), .val (.int p4), .val (.int p5), .val (.int (2 : Int32)), .val (.ref b100), .val (.ref b126), .val (.int (1 : Int32)), .val (.ref b156), .unset] [(.int (1 : Int32))]))
        refine own_go (fun t k => XS.ifNo X164.here hx rfl (hb hby at_207) rfl ((if0 _ _).trans (feq (by decide : ¬ ((1 : Int32) = (0 : Int32)))).1) (XS.aload X164.here hx rfl (hb hby at_210) rfl rfl  (XS.aload X164.here hx rfl (hb hby at_212) rfl rfl  (XS.iconst X164.here hx rfl (hb hby at_214) (XS.iload X164.here hx rfl (hb hby at_215) rfl  k))))) ?_
        show own_Fin p e below _ (T164.setTop (mkF m 217 #[.val (.int p1), .val (.int p2), .val (.int p3), .val (.int p4), .val (.int p5), .val (.int (2 : Int32)), .val (.ref b100), .val (.ref b126), .val (.int (1 : Int32)), .val (.ref b156), .unset] [(.int (2 : Int32)), (.int (1 : Int32)), (.ref b100), (.ref b126)]))
        obtain ⟨_, _, ⟨T165, L165, k165, n165⟩, -, X165, ⟨Lc165, hQ165, l165, y165, z165⟩, st165⟩ := Jvm.LawKit.callS X164 hx (y := (⟨"com/example/keyslice/keyslice/storage/KeyRangeAfterPinLaw", "held", "([B[BII)Z"⟩ : MethodName)) hown (mvT hZ hw_10) (mvT hZ hw_11) (mvT hZ hw_4) (mvT hZ hw_12) (by decide) (backOf (W := 0) (rm3h12 l Z a0 hw [] (b126) (b100) k126 k100 (D0) (D1) (D2) (D3) T156.heap n0 Zh163 f162 f160) hZ hw_12 hw_4 (by decide) (by decide)) (g := (mkF m 217 #[.val (.int p1), .val (.int p2), .val (.int p3), .val (.int p4), .val (.int p5), .val (.int (2 : Int32)), .val (.ref b100), .val (.ref b126), .val (.int (1 : Int32)), .val (.ref b156), .unset] [(.int (2 : Int32)), (.int (1 : Int32)), (.ref b100), (.ref b126)])) rfl (by rw [hml]; rfl) (argsL := [(.ref b126), (.ref b100), (.int (1 : Int32)), (.int (2 : Int32))]) (rest := []) (lenOf pd_4 rfl) rfl (by show 2 * 0 + _ ≤ _; exact Nat.le_of_eq rfl) (hb hby at_217) (fun _ _ => ⟨rfl, e164, (by decide : 3 + 0 ≤ _), (by decide : 7 + 0 ≤ _)⟩)
        dsimp only [Pt.U, Pt.locs, Pt.cells, Pt.slots] at X165 l165 y165 z165 st165 hQ165
        subst l165 y165 z165
        obtain ⟨rfl, N165q, e165⟩ := hQ165
        have N165 := Fr.app N164 N165q
        refine own_go st165 ?_
        show own_Fin p e below _ (T165.setTop (mkF m 220 #[.val (.int p1), .val (.int p2), .val (.int p3), .val (.int p4), .val (.int p5), .val (.int (2 : Int32)), .val (.ref b100), .val (.ref b126), .val (.int (1 : Int32)), .val (.ref b156), .unset] [(.int (1 : Int32))]))
        refine own_go (fun t k => XS.ifNo X165.here hx rfl (hb hby at_220) rfl ((if0 _ _).trans (feq (by decide : ¬ ((1 : Int32) = (0 : Int32)))).1) (XS.aload X165.here hx rfl (hb hby at_223) rfl rfl  (XS.aload X165.here hx rfl (hb hby at_225) rfl rfl  (XS.iconst X165.here hx rfl (hb hby at_227) (XS.iload X165.here hx rfl (hb hby at_228) rfl  k))))) ?_
        show own_Fin p e below _ (T165.setTop (mkF m 230 #[.val (.int p1), .val (.int p2), .val (.int p3), .val (.int p4), .val (.int p5), .val (.int (2 : Int32)), .val (.ref b100), .val (.ref b126), .val (.int (1 : Int32)), .val (.ref b156), .unset] [(.int (2 : Int32)), (.int (2 : Int32)), (.ref b100), (.ref b126)]))
        obtain ⟨_, _, ⟨T166, L166, k166, n166⟩, -, X166, ⟨Lc166, hQ166, l166, y166, z166⟩, st166⟩ := Jvm.LawKit.callS X165 hx (y := (⟨"com/example/keyslice/keyslice/storage/KeyRangeAfterPinLaw", "held", "([B[BII)Z"⟩ : MethodName)) hown (mvT hZ hw_10) (mvT hZ hw_11) (mvT hZ hw_4) (mvT hZ hw_12) (by decide) (backOf (W := 0) (rm3h22 l Z a0 hw [] (b126) (b100) k126 k100 (D0) (D1) (D2) (D3) T156.heap n0 Zh163 f162 f160) hZ hw_12 hw_4 (by decide) (by decide)) (g := (mkF m 230 #[.val (.int p1), .val (.int p2), .val (.int p3), .val (.int p4), .val (.int p5), .val (.int (2 : Int32)), .val (.ref b100), .val (.ref b126), .val (.int (1 : Int32)), .val (.ref b156), .unset] [(.int (2 : Int32)), (.int (2 : Int32)), (.ref b100), (.ref b126)])) rfl (by rw [hml]; rfl) (argsL := [(.ref b126), (.ref b100), (.int (2 : Int32)), (.int (2 : Int32))]) (rest := []) (lenOf pd_4 rfl) rfl (by show 2 * 0 + _ ≤ _; exact Nat.le_of_eq rfl) (hb hby at_230) (fun _ _ => ⟨rfl, e165, (by decide : 3 + 0 ≤ _), (by decide : 7 + 0 ≤ _)⟩)
        dsimp only [Pt.U, Pt.locs, Pt.cells, Pt.slots] at X166 l166 y166 z166 st166 hQ166
        subst l166 y166 z166
        obtain ⟨rfl, N166q, e166⟩ := hQ166
        have N166 := Fr.app N165 N166q
        refine own_go st166 ?_
        show own_Fin p e below _ (T166.setTop (mkF m 233 #[.val (.int p1), .val (.int p2), .val (.int p3), .val (.int p4), .val (.int p5), .val (.int (2 : Int32)), .val (.ref b100), .val (.ref b126), .val (.int (1 : Int32)), .val (.ref b156), .unset] [(.int (1 : Int32))]))
        refine own_go (fun t k => XS.ifNo X166.here hx rfl (hb hby at_233) rfl ((if0 _ _).trans (feq (by decide : ¬ ((1 : Int32) = (0 : Int32)))).1) (XS.aload X166.here hx rfl (hb hby at_236) rfl rfl  (XS.aload X166.here hx rfl (hb hby at_238) rfl rfl  (XS.iconst X166.here hx rfl (hb hby at_240) (XS.iload X166.here hx rfl (hb hby at_241) rfl  k))))) ?_
        show own_Fin p e below _ (T166.setTop (mkF m 243 #[.val (.int p1), .val (.int p2), .val (.int p3), .val (.int p4), .val (.int p5), .val (.int (2 : Int32)), .val (.ref b100), .val (.ref b126), .val (.int (1 : Int32)), .val (.ref b156), .unset] [(.int (2 : Int32)), (.int (3 : Int32)), (.ref b100), (.ref b126)]))
        obtain ⟨_, _, ⟨T167, L167, k167, n167⟩, -, X167, ⟨Lc167, hQ167, l167, y167, z167⟩, st167⟩ := Jvm.LawKit.callS X166 hx (y := (⟨"com/example/keyslice/keyslice/storage/KeyRangeAfterPinLaw", "held", "([B[BII)Z"⟩ : MethodName)) hown (mvT hZ hw_10) (mvT hZ hw_11) (mvT hZ hw_4) (mvT hZ hw_12) (by decide) (backOf (W := 0) (rm3h32 l Z a0 hw [] (b126) (b100) k126 k100 (D0) (D1) (D2) (D3) T156.heap n0 Zh163 f162 f160) hZ hw_12 hw_4 (by decide) (by decide)) (g := (mkF m 243 #[.val (.int p1), .val (.int p2), .val (.int p3), .val (.int p4), .val (.int p5), .val (.int (2 : Int32)), .val (.ref b100), .val (.ref b126), .val (.int (1 : Int32)), .val (.ref b156), .unset] [(.int (2 : Int32)), (.int (3 : Int32)), (.ref b100), (.ref b126)])) rfl (by rw [hml]; rfl) (argsL := [(.ref b126), (.ref b100), (.int (3 : Int32)), (.int (2 : Int32))]) (rest := []) (lenOf pd_4 rfl) rfl (by show 2 * 0 + _ ≤ _; exact Nat.le_of_eq rfl) (hb hby at_243) (fun _ _ => ⟨rfl, e166, (by decide : 3 + 0 ≤ _), (by decide : 7 + 0 ≤ _)⟩)
        dsimp only [Pt.U, Pt.locs, Pt.cells, Pt.slots] at X167 l167 y167 z167 st167 hQ167
        subst l167 y167 z167
        obtain ⟨rfl, N167q, e167⟩ := hQ167
        have N167 := Fr.app N166 N167q
        refine own_go st167 ?_
        show own_Fin p e below _ (T167.setTop (mkF m 246 #[.val (.int p1), .val (.int p2), .val (.int p3), .val (.int p4), .val (.int p5), .val (.int (2 : Int32)), .val (.ref b100), .val (.ref b126), .val (.int (1 : Int32)), .val (.ref b156), .unset] [(.int (1 : Int32))]))
        refine own_go (fun t k => XS.ifNo X167.here hx rfl (hb hby at_246) rfl ((if0 _ _).trans (feq (by decide : ¬ ((1 : Int32) = (0 : Int32)))).1) (XS.iconst X167.here hx rfl (hb hby at_249) (XS.goto X167.here hx rfl (pc0 := 250) (pc' := 254) rfl (hb hby at_250) (by decide) (by decide) (XS.istore X167.here hx rfl (hb hby at_254) rfl (l' := #[.val (.int p1), .val (.int p2), .val (.int p3), .val (.int p4), .val (.int p5), .val (.int (2 : Int32)), .val (.ref b100), .val (.ref b126), .val (.int (1 : Int32)), .val (.ref b156), .val (.int (1 : Int32))]) rfl (XS.iload X167.here hx rfl (hb hby at_256) rfl  k))))) ?_
        show own_Fin p e below _ (T167.setTop (mkF m 258 #[.val (.int p1), .val (.int p2), .val (.int p3), .val (.int p4), .val (.int p5), .val (.int (2 : Int32)), .val (.ref b100), .val (.ref b126), .val (.int (1 : Int32)), .val (.ref b156), .val (.int (1 : Int32))] [(.int (1 : Int32))]))
        refine own_go (fun t k => XS.ifYes X167.here hx rfl (pc0 := 258) (pc' := 277) rfl (hb hby at_258) rfl ((if0 _ _).trans (feq (by decide : ¬ ((1 : Int32) = (0 : Int32)))).2) (by decide) (by decide) (XS.aload X167.here hx rfl (hb hby at_277) rfl rfl  k)) ?_
        show own_Fin p e below _ (T167.setTop (mkF m 279 #[.val (.int p1), .val (.int p2), .val (.int p3), .val (.int p4), .val (.int p5), .val (.int (2 : Int32)), .val (.ref b100), .val (.ref b126), .val (.int (1 : Int32)), .val (.ref b156), .val (.int (1 : Int32))] [(.ref b156)]))
        refine own_go (fun t k => XS.ifnullNo X167.here hx rfl (hb hby at_279) rfl (XS.aload X167.here hx rfl (hb hby at_282) rfl rfl  (XS.aload X167.here hx rfl (hb hby at_284) rfl rfl  k))) ?_
        show own_Fin p e below _ (T167.setTop (mkF m 286 #[.val (.int p1), .val (.int p2), .val (.int p3), .val (.int p4), .val (.int p5), .val (.int (2 : Int32)), .val (.ref b100), .val (.ref b126), .val (.int (1 : Int32)), .val (.ref b156), .val (.int (1 : Int32))] [(.ref b126), (.ref b156)]))
        refine own_go (fun t k => Jvm.RoadKit.acmp (g := (mkF m 286 #[.val (.int p1), .val (.int p2), .val (.int p3), .val (.int p4), .val (.int p5), .val (.int (2 : Int32)), .val (.ref b100), .val (.ref b126), .val (.int (1 : Int32)), .val (.ref b156), .val (.int (1 : Int32))] [(.ref b126), (.ref b156)])) X167 hx rfl rfl rfl (pc0 := 286) (pc' := 289) (same := false) rfl (hb hby at_286) rfl (decide_eq_false fun q => (Ne.symm ne158) (Value.ref.inj q)) (by decide) (by decide) (XS.aload X167.here hx rfl (hb hby at_289) rfl rfl  k)) ?_
        show own_Fin p e below _ (T167.setTop (mkF m 291 #[.val (.int p1), .val (.int p2), .val (.int p3), .val (.int p4), .val (.int p5), .val (.int (2 : Int32)), .val (.ref b100), .val (.ref b126), .val (.int (1 : Int32)), .val (.ref b156), .val (.int (1 : Int32))] [(.ref b156)]))
        obtain ⟨cl168, Ar168, q168, S168, M168, H168, G168⟩ := (id V156)
        refine own_go (fun t k => X167.arraylength hx (by rw [e167]; exact Ar168.1) (State.isArrayOf_alike hZ.alike Ar168.2.1) (g := (mkF m 291 #[.val (.int p1), .val (.int p2), .val (.int p3), .val (.int p4), .val (.int p5), .val (.int (2 : Int32)), .val (.ref b100), .val (.ref b126), .val (.int (1 : Int32)), .val (.ref b156), .val (.int (1 : Int32))] [(.ref b156)])) rfl rfl (hb hby at_291) _ k) ?_
        rw [len_of S168 M168]
        show own_Fin p e below _ (T167.setTop (mkF m 292 #[.val (.int p1), .val (.int p2), .val (.int p3), .val (.int p4), .val (.int p5), .val (.int (2 : Int32)), .val (.ref b100), .val (.ref b126), .val (.int (1 : Int32)), .val (.ref b156), .val (.int (1 : Int32))] [(.int (1 : Int32))]))
        refine own_go (fun t k => XS.iload X167.here hx rfl (hb hby at_292) rfl  k) ?_
        show own_Fin p e below _ (T167.setTop (mkF m 294 #[.val (.int p1), .val (.int p2), .val (.int p3), .val (.int p4), .val (.int p5), .val (.int (2 : Int32)), .val (.ref b100), .val (.ref b126), .val (.int (1 : Int32)), .val (.ref b156), .val (.int (1 : Int32))] [(.int (1 : Int32)), (.int (1 : Int32))]))
        refine own_go (fun t k => XS.icmpYes X167.here hx rfl (pc0 := 294) (pc' := 299) rfl (hb hby at_294) rfl (teq (by decide : (1 : Int32) = (1 : Int32))).1 (by decide) (by decide) (XS.iload X167.here hx rfl (hb hby at_299) rfl  k)) ?_
        show own_Fin p e below _ (T167.setTop (mkF m 301 #[.val (.int p1), .val (.int p2), .val (.int p3), .val (.int p4), .val (.int p5), .val (.int (2 : Int32)), .val (.ref b100), .val (.ref b126), .val (.int (1 : Int32)), .val (.ref b156), .val (.int (1 : Int32))] [(.int (1 : Int32))]))
        refine own_go (fun t k => XS.ifNo X167.here hx rfl (hb hby at_301) rfl ((if0 _ _).trans (feq (by decide : ¬ ((1 : Int32) = (0 : Int32)))).1) (XS.aload X167.here hx rfl (hb hby at_304) rfl rfl  (XS.aload X167.here hx rfl (hb hby at_306) rfl rfl  (XS.iconst X167.here hx rfl (hb hby at_308) (XS.iload X167.here hx rfl (hb hby at_309) rfl  k))))) ?_
        show own_Fin p e below _ (T167.setTop (mkF m 311 #[.val (.int p1), .val (.int p2), .val (.int p3), .val (.int p4), .val (.int p5), .val (.int (2 : Int32)), .val (.ref b100), .val (.ref b126), .val (.int (1 : Int32)), .val (.ref b156), .val (.int (1 : Int32))] [(.int (1 : Int32)), (.int (0 : Int32)), (.ref b100), (.ref b156)]))
        obtain ⟨_, _, ⟨T169, L169, k169, n169⟩, -, X169, ⟨Lc169, hQ169, l169, y169, z169⟩, st169⟩ := Jvm.LawKit.callS X167 hx (y := (⟨"com/example/keyslice/keyslice/storage/KeyRangeAfterPinLaw", "slot", "([B[BII)Z"⟩ : MethodName)) hown (mvT hZ hw_26) (mvT hZ hw_27) (mvT hZ hw_4) (mvT hZ hw_28) (by decide) (backOf (W := 0) (rm5s01 l Z a0 hw [] (b156) (b100) k156 k100 (D0) (D1) (D2) (D3) T156.heap n0 Zh163 V156 f160) hZ hw_28 hw_4 (by decide) (by decide)) (g := (mkF m 311 #[.val (.int p1), .val (.int p2), .val (.int p3), .val (.int p4), .val (.int p5), .val (.int (2 : Int32)), .val (.ref b100), .val (.ref b126), .val (.int (1 : Int32)), .val (.ref b156), .val (.int (1 : Int32))] [(.int (1 : Int32)), (.int (0 : Int32)), (.ref b100), (.ref b156)])) rfl (by rw [hml]; rfl) (argsL := [(.ref b156), (.ref b100), (.int (0 : Int32)), (.int (1 : Int32))]) (rest := []) (lenOf pd_4 rfl) rfl (by show 2 * 0 + _ ≤ _; exact Nat.le_of_eq rfl) (hb hby at_311) (fun _ _ => ⟨rfl, e167, (by decide : 3 + 0 ≤ _), (by decide : 7 + 0 ≤ _)⟩)
        dsimp only [Pt.U, Pt.locs, Pt.cells, Pt.slots] at X169 l169 y169 z169 st169 hQ169
        subst l169 y169 z169
        obtain ⟨rfl, N169q, e169⟩ := hQ169
        have N169 := Fr.app N167 N169q
        refine own_go st169 ?_
        show own_Fin p e below _ (T169.setTop (mkF m 314 #[.val (.int p1), .val (.int p2), .val (.int p3), .val (.int p4), .val (.int p5), .val (.int (2 : Int32)), .val (.ref b100), .val (.ref b126), .val (.int (1 : Int32)), .val (.ref b156), .val (.int (1 : Int32))] [(.int (1 : Int32))]))
        refine own_go (fun t k => XS.ifNo X169.here hx rfl (hb hby at_314) rfl ((if0 _ _).trans (feq (by decide : ¬ ((1 : Int32) = (0 : Int32)))).1) (XS.aload X169.here hx rfl (hb hby at_317) rfl rfl  (XS.aload X169.here hx rfl (hb hby at_319) rfl rfl  (XS.iconst X169.here hx rfl (hb hby at_321) (XS.iload X169.here hx rfl (hb hby at_322) rfl  k))))) ?_
        show own_Fin p e below _ (T169.setTop (mkF m 324 #[.val (.int p1), .val (.int p2), .val (.int p3), .val (.int p4), .val (.int p5), .val (.int (2 : Int32)), .val (.ref b100), .val (.ref b126), .val (.int (1 : Int32)), .val (.ref b156), .val (.int (1 : Int32))] [(.int (1 : Int32)), (.int (1 : Int32)), (.ref b100), (.ref b156)]))
        obtain ⟨_, _, ⟨T170, L170, k170, n170⟩, -, X170, ⟨Lc170, hQ170, l170, y170, z170⟩, st170⟩ := Jvm.LawKit.callS X169 hx (y := (⟨"com/example/keyslice/keyslice/storage/KeyRangeAfterPinLaw", "slot", "([B[BII)Z"⟩ : MethodName)) hown (mvT hZ hw_26) (mvT hZ hw_27) (mvT hZ hw_4) (mvT hZ hw_28) (by decide) (backOf (W := 0) (rm5s11 l Z a0 hw [] (b156) (b100) k156 k100 (D0) (D1) (D2) (D3) T156.heap n0 Zh163 V156 f160) hZ hw_28 hw_4 (by decide) (by decide)) (g := (mkF m 324 #[.val (.int p1), .val (.int p2), .val (.int p3), .val (.int p4), .val (.int p5), .val (.int (2 : Int32)), .val (.ref b100), .val (.ref b126), .val (.int (1 : Int32)), .val (.ref b156), .val (.int (1 : Int32))] [(.int (1 : Int32)), (.int (1 : Int32)), (.ref b100), (.ref b156)])) rfl (by rw [hml]; rfl) (argsL := [(.ref b156), (.ref b100), (.int (1 : Int32)), (.int (1 : Int32))]) (rest := []) (lenOf pd_4 rfl) rfl (by show 2 * 0 + _ ≤ _; exact Nat.le_of_eq rfl) (hb hby at_324) (fun _ _ => ⟨rfl, e169, (by decide : 3 + 0 ≤ _), (by decide : 7 + 0 ≤ _)⟩)
        dsimp only [Pt.U, Pt.locs, Pt.cells, Pt.slots] at X170 l170 y170 z170 st170 hQ170
        subst l170 y170 z170
        obtain ⟨rfl, N170q, e170⟩ := hQ170
        have N170 := Fr.app N169 N170q
        refine own_go st170 ?_
        show own_Fin p e below _ (T170.setTop (mkF m 327 #[.val (.int p1), .val (.int p2), .val (.int p3), .val (.int p4), .val (.int p5), .val (.int (2 : Int32)), .val (.ref b100), .val (.ref b126), .val (.int (1 : Int32)), .val (.ref b156), .val (.int (1 : Int32))] [(.int (1 : Int32))]))
        refine own_go (fun t k => XS.ifNo X170.here hx rfl (hb hby at_327) rfl ((if0 _ _).trans (feq (by decide : ¬ ((1 : Int32) = (0 : Int32)))).1) (XS.aload X170.here hx rfl (hb hby at_330) rfl rfl  (XS.aload X170.here hx rfl (hb hby at_332) rfl rfl  (XS.iconst X170.here hx rfl (hb hby at_334) (XS.iload X170.here hx rfl (hb hby at_335) rfl  k))))) ?_
        show own_Fin p e below _ (T170.setTop (mkF m 337 #[.val (.int p1), .val (.int p2), .val (.int p3), .val (.int p4), .val (.int p5), .val (.int (2 : Int32)), .val (.ref b100), .val (.ref b126), .val (.int (1 : Int32)), .val (.ref b156), .val (.int (1 : Int32))] [(.int (1 : Int32)), (.int (2 : Int32)), (.ref b100), (.ref b156)]))
        obtain ⟨_, _, ⟨T171, L171, k171, n171⟩, -, X171, ⟨Lc171, hQ171, l171, y171, z171⟩, st171⟩ := Jvm.LawKit.callS X170 hx (y := (⟨"com/example/keyslice/keyslice/storage/KeyRangeAfterPinLaw", "slot", "([B[BII)Z"⟩ : MethodName)) hown (mvT hZ hw_26) (mvT hZ hw_27) (mvT hZ hw_4) (mvT hZ hw_28) (by decide) (backOf (W := 0) (rm5s21 l Z a0 hw [] (b156) (b100) k156 k100 (D0) (D1) (D2) (D3) T156.heap n0 Zh163 V156 f160) hZ hw_28 hw_4 (by decide) (by decide)) (g := (mkF m 337 #[.val (.int p1), .val (.int p2), .val (.int p3), .val (.int p4), .val (.int p5), .val (.int (2 : Int32)), .val (.ref b100), .val (.ref b126), .val (.int (1 : Int32)), .val (.ref b156), .val (.int (1 : Int32))] [(.int (1 : Int32)), (.int (2 : Int32)), (.ref b100), (.ref b156)])) rfl (by rw [hml]; rfl) (argsL := [(.ref b156), (.ref b100), (.int (2 : Int32)), (.int (1 : Int32))]) (rest := []) (lenOf pd_4 rfl) rfl (by show 2 * 0 + _ ≤ _; exact Nat.le_of_eq rfl) (hb hby at_337) (fun _ _ => ⟨rfl, e170, (by decide : 3 + 0 ≤ _), (by decide : 7 + 0 ≤ _)⟩)
        dsimp only [Pt.U, Pt.locs, Pt.cells, Pt.slots] at X171 l171 y171 z171 st171 hQ171
        subst l171 y171 z171
        obtain ⟨rfl, N171q, e171⟩ := hQ171
        have N171 := Fr.app N170 N171q
        refine own_go st171 ?_
        show own_Fin p e below _ (T171.setTop (mkF m 340 #[.val (.int p1), .val (.int p2), .val (.int p3), .val (.int p4), .val (.int p5), .val (.int (2 : Int32)), .val (.ref b100), .val (.ref b126), .val (.int (1 : Int32)), .val (.ref b156), .val (.int (1 : Int32))] [(.int (1 : Int32))]))
        refine own_go (fun t k => XS.ifNo X171.here hx rfl (hb hby at_340) rfl ((if0 _ _).trans (feq (by decide : ¬ ((1 : Int32) = (0 : Int32)))).1) (XS.aload X171.here hx rfl (hb hby at_343) rfl rfl  (XS.aload X171.here hx rfl (hb hby at_345) rfl rfl  (XS.iconst X171.here hx rfl (hb hby at_347) (XS.iload X171.here hx rfl (hb hby at_348) rfl  k))))) ?_
        show own_Fin p e below _ (T171.setTop (mkF m 350 #[.val (.int p1), .val (.int p2), .val (.int p3), .val (.int p4), .val (.int p5), .val (.int (2 : Int32)), .val (.ref b100), .val (.ref b126), .val (.int (1 : Int32)), .val (.ref b156), .val (.int (1 : Int32))] [(.int (1 : Int32)), (.int (3 : Int32)), (.ref b100), (.ref b156)]))
        obtain ⟨_, _, ⟨T172, L172, k172, n172⟩, -, X172, ⟨Lc172, hQ172, l172, y172, z172⟩, st172⟩ := Jvm.LawKit.callS X171 hx (y := (⟨"com/example/keyslice/keyslice/storage/KeyRangeAfterPinLaw", "slot", "([B[BII)Z"⟩ : MethodName)) hown (mvT hZ hw_26) (mvT hZ hw_27) (mvT hZ hw_4) (mvT hZ hw_28) (by decide) (backOf (W := 0) (rm5s31 l Z a0 hw [] (b156) (b100) k156 k100 (D0) (D1) (D2) (D3) T156.heap n0 Zh163 V156 f160) hZ hw_28 hw_4 (by decide) (by decide)) (g := (mkF m 350 #[.val (.int p1), .val (.int p2), .val (.int p3), .val (.int p4), .val (.int p5), .val (.int (2 : Int32)), .val (.ref b100), .val (.ref b126), .val (.int (1 : Int32)), .val (.ref b156), .val (.int (1 : Int32))] [(.int (1 : Int32)), (.int (3 : Int32)), (.ref b100), (.ref b156)])) rfl (by rw [hml]; rfl) (argsL := [(.ref b156), (.ref b100), (.int (3 : Int32)), (.int (1 : Int32))]) (rest := []) (lenOf pd_4 rfl) rfl (by show 2 * 0 + _ ≤ _; exact Nat.le_of_eq rfl) (hb hby at_350) (fun _ _ => ⟨rfl, e171, (by decide : 3 + 0 ≤ _), (by decide : 7 + 0 ≤ _)⟩)
        dsimp only [Pt.U, Pt.locs, Pt.cells, Pt.slots] at X172 l172 y172 z172 st172 hQ172
        subst l172 y172 z172
        obtain ⟨rfl, N172q, e172⟩ := hQ172
        have N172 := Fr.app N171 N172q
        refine own_go st172 ?_
        show own_Fin p e below _ (T172.setTop (mkF m 353 #[.val (.int p1), .val (.int p2), .val (.int p3), .val (.int p4), .val (.int p5), .val (.int (2 : Int32)), .val (.ref b100), .val (.ref b126), .val (.int (1 : Int32)), .val (.ref b156), .val (.int (1 : Int32))] [(.int (1 : Int32))]))
        refine own_go (fun t k => XS.ifNo X172.here hx rfl (hb hby at_353) rfl ((if0 _ _).trans (feq (by decide : ¬ ((1 : Int32) = (0 : Int32)))).1) (XS.iconst X172.here hx rfl (hb hby at_356) (XS.goto X172.here hx rfl (pc0 := 357) (pc' := 361) rfl (hb hby at_357) (by decide) (by decide) k))) ?_
        show own_Fin p e below _ (T172.setTop (mkF m 361 #[.val (.int p1), .val (.int p2), .val (.int p3), .val (.int p4), .val (.int p5), .val (.int (2 : Int32)), .val (.ref b100), .val (.ref b126), .val (.int (1 : Int32)), .val (.ref b156), .val (.int (1 : Int32))] [(.int (1 : Int32))]))
        exact own_out X172 (fun h => by rw [Bd.returns] at h; cases h) Bd.notSynchronized (fun fs hr => retN X172 hx (t := .boolean) Bd.returns (by simp) (hb hby at_361) hr) ⟨rfl, N172⟩ (by decide) (by decide)
    · skip
      refine own_go (fun t k => XS.icmpNo X140.here hx rfl (hb hby at_158) rfl (feq hc148).1 (XS.iconst X140.here hx rfl (hb hby at_161) (XS.istore X140.here hx rfl (hb hby at_162) rfl (l' := #[.val (.int p1), .val (.int p2), .val (.int p3), .val (.int p4), .val (.int p5), .val (.int (2 : Int32)), .val (.ref b100), .val (.ref b126), .val (.int (2 : Int32)), .unset, .unset]) rfl (XS.goto X140.here hx rfl (pc0 := 164) (pc' := 190) rfl (hb hby at_164) (by decide) (by decide) (XS.aload X140.here hx rfl (hb hby at_190) rfl rfl  k))))) ?_
      show own_Fin p e below _ (T140.setTop (mkF m 192 #[.val (.int p1), .val (.int p2), .val (.int p3), .val (.int p4), .val (.int p5), .val (.int (2 : Int32)), .val (.ref b100), .val (.ref b126), .val (.int (2 : Int32)), .unset, .unset] [(.ref b126)]))
      obtain ⟨_, _, ⟨T173, L173, k173, n173⟩, -, X173, ⟨Lc173, hQ173, l173, y173, z173⟩, st173⟩ := Jvm.LawKit.callS X140 hx (y := (⟨"com/example/keyslice/keyslice/storage/KeyRange", "after", "([B)[B"⟩ : MethodName)) hown (mvT hZ hw_6) (mvT hZ hw_7) (mvT hZ hw_8) (mvT hZ hw_9) (by decide) (backOf (W := 0) (rm2r22 l Z a0 hw [] (b126) k126 (D0) (D1) h140 n0 Zh146 f145 f143 hc148) hZ hw_9 hw_8 (by decide) (by decide)) (g := (mkF m 192 #[.val (.int p1), .val (.int p2), .val (.int p3), .val (.int p4), .val (.int p5), .val (.int (2 : Int32)), .val (.ref b100), .val (.ref b126), .val (.int (2 : Int32)), .unset, .unset] [(.ref b126)])) rfl (by rw [hml]; rfl) (argsL := [(.ref b126)]) (rest := []) (lenOf pd_3 rfl) rfl (by show 2 * 0 + _ ≤ _; exact Nat.le_of_eq rfl) (hb hby at_192) (fun _ _ => ⟨rfl, e140, (by decide : 2 + 1 ≤ _), (by decide : 6 + 2 ≤ _)⟩)
      dsimp only [Pt.U, Pt.locs, Pt.cells, Pt.slots] at X173 l173 y173 z173 st173 hQ173
      subst l173 y173 z173
      obtain ⟨b173, k173, rfl, N173q, sz173, K173, V173⟩ := hQ173
      have N173 := Fr.app N140 N173q
      have g_b173 : n0 ≤ b173 := Nat.le_trans Zh146 sz173
      have ne174 : b100 ≠ b173 := Nat.ne_of_lt (Nat.lt_of_lt_of_le f141.lt sz173)
      have ne175 : b126 ≠ b173 := Nat.ne_of_lt (Nat.lt_of_lt_of_le f143.lt sz173)
      have E173 : Ext _ _ := ⟨K173.1, fun a c q => K173.2.1 a c q nin0⟩
      have f176 := f141.ext E173
      have f177 := f142.ext E173
      have f178 := f143.ext E173
      have f179 := f145.ext E173
      have Zh180 : n0 ≤ T173.heap.size := Nat.le_trans Zh146 K173.1
      refine own_go st173 ?_
      show own_Fin p e below _ (T173.setTop (mkF m 195 #[.val (.int p1), .val (.int p2), .val (.int p3), .val (.int p4), .val (.int p5), .val (.int (2 : Int32)), .val (.ref b100), .val (.ref b126), .val (.int (2 : Int32)), .unset, .unset] [(.ref b173)]))
      refine own_go (fun t k => XS.astore X173.here hx rfl (hb hby at_195) rfl rfl (l' := #[.val (.int p1), .val (.int p2), .val (.int p3), .val (.int p4), .val (.int p5), .val (.int (2 : Int32)), .val (.ref b100), .val (.ref b126), .val (.int (2 : Int32)), .val (.ref b173), .unset]) rfl (XS.aload X173.here hx rfl (hb hby at_197) rfl rfl  (XS.aload X173.here hx rfl (hb hby at_199) rfl rfl  (XS.iconst X173.here hx rfl (hb hby at_201) (XS.iload X173.here hx rfl (hb hby at_202) rfl  k))))) ?_
      show own_Fin p e below _ (T173.setTop (mkF m 204 #[.val (.int p1), .val (.int p2), .val (.int p3), .val (.int p4), .val (.int p5), .val (.int (2 : Int32)), .val (.ref b100), .val (.ref b126), .val (.int (2 : Int32)), .val (.ref b173), .unset] [(.int (2 : Int32)), (.int (0 : Int32)), (.ref b100), (.ref b126)]))
      obtain ⟨_, _, ⟨T181, L181, k181, n181⟩, -, X181, ⟨Lc181, hQ181, l181, y181, z181⟩, st181⟩ := Jvm.LawKit.callS X173 hx (y := (⟨"com/example/keyslice/keyslice/storage/KeyRangeAfterPinLaw", "held", "([B[BII)Z"⟩ : MethodName)) hown (mvT hZ hw_10) (mvT hZ hw_11) (mvT hZ hw_4) (mvT hZ hw_12) (by decide) (backOf (W := 0) (rm3h02 l Z a0 hw [] (b126) (b100) k126 k100 (D0) (D1) (D2) (D3) T173.heap n0 Zh180 f179 f177) hZ hw_12 hw_4 (by decide) (by decide)) (g := (mkF m 204 #[.val (.int p1), .val (.int p2), .val (.int p3), .val (.int p4), .val (.int p5), .val (.int (2 : Int32)), .val (.ref b100), .val (.ref b126), .val (.int (2 : Int32)), .val (.ref b173), .unset] [(.int (2 : Int32)), (.int (0 : Int32)), (.ref b100), (.ref b126)])) rfl (by rw [hml]; rfl) (argsL := [(.ref b126), (.ref b100), (.int (0 : Int32)), (.int (2 : Int32))]) (rest := []) (lenOf pd_4 rfl) rfl (by show 2 * 0 + _ ≤ _; exact Nat.le_of_eq rfl) (hb hby at_204) (fun _ _ => ⟨rfl, rfl, (by decide : 3 + 0 ≤ _), (by decide : 8 + 0 ≤ _)⟩)
      dsimp only [Pt.U, Pt.locs, Pt.cells, Pt.slots] at X181 l181 y181 z181 st181 hQ181
      subst l181 y181 z181
      obtain ⟨rfl, N181q, e181⟩ := hQ181
      have N181 := Fr.app N173 N181q
      refine own_go st181 ?_
      show own_Fin p e below _ (T181.setTop (mkF m 207 #[.val (.int p1), .val (.int p2), .val (.int p3), .val (.int p4), .val (.int p5), .val (.int (2 : Int32)), .val (.ref b100), .val (.ref b126), .val (.int (2 : Int32)), .val (.ref b173), .unset] [(.int (1 : Int32))]))
      refine own_go (fun t k => XS.ifNo X181.here hx rfl (hb hby at_207) rfl ((if0 _ _).trans (feq (by decide : ¬ ((1 : Int32) = (0 : Int32)))).1) (XS.aload X181.here hx rfl (hb hby at_210) rfl rfl  (XS.aload X181.here hx rfl (hb hby at_212) rfl rfl  (XS.iconst X181.here hx rfl (hb hby at_214) (XS.iload X181.here hx rfl (hb hby at_215) rfl  k))))) ?_
      show own_Fin p e below _ (T181.setTop (mkF m 217 #[.val (.int p1), .val (.int p2), .val (.int p3), .val (.int p4), .val (.int p5), .val (.int (2 : Int32)), .val (.ref b100), .val (.ref b126), .val (.int (2 : Int32)), .val (.ref b173), .unset] [(.int (2 : Int32)), (.int (1 : Int32)), (.ref b100), (.ref b126)]))
      obtain ⟨_, _, ⟨T182, L182, k182, n182⟩, -, X182, ⟨Lc182, hQ182, l182, y182, z182⟩, st182⟩ := Jvm.LawKit.callS X181 hx (y := (⟨"com/example/keyslice/keyslice/storage/KeyRangeAfterPinLaw", "held", "([B[BII)Z"⟩ : MethodName)) hown (mvT hZ hw_10) (mvT hZ hw_11) (mvT hZ hw_4) (mvT hZ hw_12) (by decide) (backOf (W := 0) (rm3h12 l Z a0 hw [] (b126) (b100) k126 k100 (D0) (D1) (D2) (D3) T173.heap n0 Zh180 f179 f177) hZ hw_12 hw_4 (by decide) (by decide)) (g := (mkF m 217 #[.val (.int p1), .val (.int p2), .val (.int p3), .val (.int p4), .val (.int p5), .val (.int (2 : Int32)), .val (.ref b100), .val (.ref b126), .val (.int (2 : Int32)), .val (.ref b173), .unset] [(.int (2 : Int32)), (.int (1 : Int32)), (.ref b100), (.ref b126)])) rfl (by rw [hml]; rfl) (argsL := [(.ref b126), (.ref b100), (.int (1 : Int32)), (.int (2 : Int32))]) (rest := []) (lenOf pd_4 rfl) rfl (by show 2 * 0 + _ ≤ _; exact Nat.le_of_eq rfl) (hb hby at_217) (fun _ _ => ⟨rfl, e181, (by decide : 3 + 0 ≤ _), (by decide : 8 + 0 ≤ _)⟩)
      dsimp only [Pt.U, Pt.locs, Pt.cells, Pt.slots] at X182 l182 y182 z182 st182 hQ182
      subst l182 y182 z182
      obtain ⟨rfl, N182q, e182⟩ := hQ182
      have N182 := Fr.app N181 N182q
      refine own_go st182 ?_
      show own_Fin p e below _ (T182.setTop (mkF m 220 #[.val (.int p1), .val (.int p2), .val (.int p3), .val (.int p4), .val (.int p5), .val (.int (2 : Int32)), .val (.ref b100), .val (.ref b126), .val (.int (2 : Int32)), .val (.ref b173), .unset] [(.int (1 : Int32))]))
      refine own_go (fun t k => XS.ifNo X182.here hx rfl (hb hby at_220) rfl ((if0 _ _).trans (feq (by decide : ¬ ((1 : Int32) = (0 : Int32)))).1) (XS.aload X182.here hx rfl (hb hby at_223) rfl rfl  (XS.aload X182.here hx rfl (hb hby at_225) rfl rfl  (XS.iconst X182.here hx rfl (hb hby at_227) (XS.iload X182.here hx rfl (hb hby at_228) rfl  k))))) ?_
      show own_Fin p e below _ (T182.setTop (mkF m 230 #[.val (.int p1), .val (.int p2), .val (.int p3), .val (.int p4), .val (.int p5), .val (.int (2 : Int32)), .val (.ref b100), .val (.ref b126), .val (.int (2 : Int32)), .val (.ref b173), .unset] [(.int (2 : Int32)), (.int (2 : Int32)), (.ref b100), (.ref b126)]))
      obtain ⟨_, _, ⟨T183, L183, k183, n183⟩, -, X183, ⟨Lc183, hQ183, l183, y183, z183⟩, st183⟩ := Jvm.LawKit.callS X182 hx (y := (⟨"com/example/keyslice/keyslice/storage/KeyRangeAfterPinLaw", "held", "([B[BII)Z"⟩ : MethodName)) hown (mvT hZ hw_10) (mvT hZ hw_11) (mvT hZ hw_4) (mvT hZ hw_12) (by decide) (backOf (W := 0) (rm3h22 l Z a0 hw [] (b126) (b100) k126 k100 (D0) (D1) (D2) (D3) T173.heap n0 Zh180 f179 f177) hZ hw_12 hw_4 (by decide) (by decide)) (g := (mkF m 230 #[.val (.int p1), .val (.int p2), .val (.int p3), .val (.int p4), .val (.int p5), .val (.int (2 : Int32)), .val (.ref b100), .val (.ref b126), .val (.int (2 : Int32)), .val (.ref b173), .unset] [(.int (2 : Int32)), (.int (2 : Int32)), (.ref b100), (.ref b126)])) rfl (by rw [hml]; rfl) (argsL := [(.ref b126), (.ref b100), (.int (2 : Int32)), (.int (2 : Int32))]) (rest := []) (lenOf pd_4 rfl) rfl (by show 2 * 0 + _ ≤ _; exact Nat.le_of_eq rfl) (hb hby at_230) (fun _ _ => ⟨rfl, e182, (by decide : 3 + 0 ≤ _), (by decide : 8 + 0 ≤ _)⟩)
      dsimp only [Pt.U, Pt.locs, Pt.cells, Pt.slots] at X183 l183 y183 z183 st183 hQ183
      subst l183 y183 z183
      obtain ⟨rfl, N183q, e183⟩ := hQ183
      have N183 := Fr.app N182 N183q
      refine own_go st183 ?_
      show own_Fin p e below _ (T183.setTop (mkF m 233 #[.val (.int p1), .val (.int p2), .val (.int p3), .val (.int p4), .val (.int p5), .val (.int (2 : Int32)), .val (.ref b100), .val (.ref b126), .val (.int (2 : Int32)), .val (.ref b173), .unset] [(.int (1 : Int32))]))
      refine own_go (fun t k => XS.ifNo X183.here hx rfl (hb hby at_233) rfl ((if0 _ _).trans (feq (by decide : ¬ ((1 : Int32) = (0 : Int32)))).1) (XS.aload X183.here hx rfl (hb hby at_236) rfl rfl  (XS.aload X183.here hx rfl (hb hby at_238) rfl rfl  (XS.iconst X183.here hx rfl (hb hby at_240) (XS.iload X183.here hx rfl (hb hby at_241) rfl  k))))) ?_
      show own_Fin p e below _ (T183.setTop (mkF m 243 #[.val (.int p1), .val (.int p2), .val (.int p3), .val (.int p4), .val (.int p5), .val (.int (2 : Int32)), .val (.ref b100), .val (.ref b126), .val (.int (2 : Int32)), .val (.ref b173), .unset] [(.int (2 : Int32)), (.int (3 : Int32)), (.ref b100), (.ref b126)]))
      obtain ⟨_, _, ⟨T184, L184, k184, n184⟩, -, X184, ⟨Lc184, hQ184, l184, y184, z184⟩, st184⟩ := Jvm.LawKit.callS X183 hx (y := (⟨"com/example/keyslice/keyslice/storage/KeyRangeAfterPinLaw", "held", "([B[BII)Z"⟩ : MethodName)) hown (mvT hZ hw_10) (mvT hZ hw_11) (mvT hZ hw_4) (mvT hZ hw_12) (by decide) (backOf (W := 0) (rm3h32 l Z a0 hw [] (b126) (b100) k126 k100 (D0) (D1) (D2) (D3) T173.heap n0 Zh180 f179 f177) hZ hw_12 hw_4 (by decide) (by decide)) (g := (mkF m 243 #[.val (.int p1), .val (.int p2), .val (.int p3), .val (.int p4), .val (.int p5), .val (.int (2 : Int32)), .val (.ref b100), .val (.ref b126), .val (.int (2 : Int32)), .val (.ref b173), .unset] [(.int (2 : Int32)), (.int (3 : Int32)), (.ref b100), (.ref b126)])) rfl (by rw [hml]; rfl) (argsL := [(.ref b126), (.ref b100), (.int (3 : Int32)), (.int (2 : Int32))]) (rest := []) (lenOf pd_4 rfl) rfl (by show 2 * 0 + _ ≤ _; exact Nat.le_of_eq rfl) (hb hby at_243) (fun _ _ => ⟨rfl, e183, (by decide : 3 + 0 ≤ _), (by decide : 8 + 0 ≤ _)⟩)
      dsimp only [Pt.U, Pt.locs, Pt.cells, Pt.slots] at X184 l184 y184 z184 st184 hQ184
      subst l184 y184 z184
      obtain ⟨rfl, N184q, e184⟩ := hQ184
      have N184 := Fr.app N183 N184q
      refine own_go st184 ?_
      show own_Fin p e below _ (T184.setTop (mkF m 246 #[.val (.int p1), .val (.int p2), .val (.int p3), .val (.int p4), .val (.int p5), .val (.int (2 : Int32)), .val (.ref b100), .val (.ref b126), .val (.int (2 : Int32)), .val (.ref b173), .unset] [(.int (1 : Int32))]))
      refine own_go (fun t k => XS.ifNo X184.here hx rfl (hb hby at_246) rfl ((if0 _ _).trans (feq (by decide : ¬ ((1 : Int32) = (0 : Int32)))).1) (XS.iconst X184.here hx rfl (hb hby at_249) (XS.goto X184.here hx rfl (pc0 := 250) (pc' := 254) rfl (hb hby at_250) (by decide) (by decide) (XS.istore X184.here hx rfl (hb hby at_254) rfl (l' := #[.val (.int p1), .val (.int p2), .val (.int p3), .val (.int p4), .val (.int p5), .val (.int (2 : Int32)), .val (.ref b100), .val (.ref b126), .val (.int (2 : Int32)), .val (.ref b173), .val (.int (1 : Int32))]) rfl (XS.iload X184.here hx rfl (hb hby at_256) rfl  k))))) ?_
      show own_Fin p e below _ (T184.setTop (mkF m 258 #[.val (.int p1), .val (.int p2), .val (.int p3), .val (.int p4), .val (.int p5), .val (.int (2 : Int32)), .val (.ref b100), .val (.ref b126), .val (.int (2 : Int32)), .val (.ref b173), .val (.int (1 : Int32))] [(.int (2 : Int32))]))
      refine own_go (fun t k => XS.ifYes X184.here hx rfl (pc0 := 258) (pc' := 277) rfl (hb hby at_258) rfl ((if0 _ _).trans (feq (by decide : ¬ ((2 : Int32) = (0 : Int32)))).2) (by decide) (by decide) (XS.aload X184.here hx rfl (hb hby at_277) rfl rfl  k)) ?_
      show own_Fin p e below _ (T184.setTop (mkF m 279 #[.val (.int p1), .val (.int p2), .val (.int p3), .val (.int p4), .val (.int p5), .val (.int (2 : Int32)), .val (.ref b100), .val (.ref b126), .val (.int (2 : Int32)), .val (.ref b173), .val (.int (1 : Int32))] [(.ref b173)]))
      refine own_go (fun t k => XS.ifnullNo X184.here hx rfl (hb hby at_279) rfl (XS.aload X184.here hx rfl (hb hby at_282) rfl rfl  (XS.aload X184.here hx rfl (hb hby at_284) rfl rfl  k))) ?_
      show own_Fin p e below _ (T184.setTop (mkF m 286 #[.val (.int p1), .val (.int p2), .val (.int p3), .val (.int p4), .val (.int p5), .val (.int (2 : Int32)), .val (.ref b100), .val (.ref b126), .val (.int (2 : Int32)), .val (.ref b173), .val (.int (1 : Int32))] [(.ref b126), (.ref b173)]))
      refine own_go (fun t k => Jvm.RoadKit.acmp (g := (mkF m 286 #[.val (.int p1), .val (.int p2), .val (.int p3), .val (.int p4), .val (.int p5), .val (.int (2 : Int32)), .val (.ref b100), .val (.ref b126), .val (.int (2 : Int32)), .val (.ref b173), .val (.int (1 : Int32))] [(.ref b126), (.ref b173)])) X184 hx rfl rfl rfl (pc0 := 286) (pc' := 289) (same := false) rfl (hb hby at_286) rfl (decide_eq_false fun q => (Ne.symm ne175) (Value.ref.inj q)) (by decide) (by decide) (XS.aload X184.here hx rfl (hb hby at_289) rfl rfl  k)) ?_
      show own_Fin p e below _ (T184.setTop (mkF m 291 #[.val (.int p1), .val (.int p2), .val (.int p3), .val (.int p4), .val (.int p5), .val (.int (2 : Int32)), .val (.ref b100), .val (.ref b126), .val (.int (2 : Int32)), .val (.ref b173), .val (.int (1 : Int32))] [(.ref b173)]))
      obtain ⟨cl185, Ar185, q185, S185, M185, H185, G185⟩ := (id V173)
      refine own_go (fun t k => X184.arraylength hx (by rw [e184]; exact Ar185.1) (State.isArrayOf_alike hZ.alike Ar185.2.1) (g := (mkF m 291 #[.val (.int p1), .val (.int p2), .val (.int p3), .val (.int p4), .val (.int p5), .val (.int (2 : Int32)), .val (.ref b100), .val (.ref b126), .val (.int (2 : Int32)), .val (.ref b173), .val (.int (1 : Int32))] [(.ref b173)])) rfl rfl (hb hby at_291) _ k) ?_
      rw [len_of S185 M185]
      show own_Fin p e below _ (T184.setTop (mkF m 292 #[.val (.int p1), .val (.int p2), .val (.int p3), .val (.int p4), .val (.int p5), .val (.int (2 : Int32)), .val (.ref b100), .val (.ref b126), .val (.int (2 : Int32)), .val (.ref b173), .val (.int (1 : Int32))] [(.int (2 : Int32))]))
      refine own_go (fun t k => XS.iload X184.here hx rfl (hb hby at_292) rfl  k) ?_
      show own_Fin p e below _ (T184.setTop (mkF m 294 #[.val (.int p1), .val (.int p2), .val (.int p3), .val (.int p4), .val (.int p5), .val (.int (2 : Int32)), .val (.ref b100), .val (.ref b126), .val (.int (2 : Int32)), .val (.ref b173), .val (.int (1 : Int32))] [(.int (2 : Int32)), (.int (2 : Int32))]))
      refine own_go (fun t k => XS.icmpYes X184.here hx rfl (pc0 := 294) (pc' := 299) rfl (hb hby at_294) rfl (teq (by decide : (2 : Int32) = (2 : Int32))).1 (by decide) (by decide) (XS.iload X184.here hx rfl (hb hby at_299) rfl  k)) ?_
      show own_Fin p e below _ (T184.setTop (mkF m 301 #[.val (.int p1), .val (.int p2), .val (.int p3), .val (.int p4), .val (.int p5), .val (.int (2 : Int32)), .val (.ref b100), .val (.ref b126), .val (.int (2 : Int32)), .val (.ref b173), .val (.int (1 : Int32))] [(.int (1 : Int32))]))
      refine own_go (fun t k => XS.ifNo X184.here hx rfl (hb hby at_301) rfl ((if0 _ _).trans (feq (by decide : ¬ ((1 : Int32) = (0 : Int32)))).1) (XS.aload X184.here hx rfl (hb hby at_304) rfl rfl  (XS.aload X184.here hx rfl (hb hby at_306) rfl rfl  (XS.iconst X184.here hx rfl (hb hby at_308) (XS.iload X184.here hx rfl (hb hby at_309) rfl  k))))) ?_
      show own_Fin p e below _ (T184.setTop (mkF m 311 #[.val (.int p1), .val (.int p2), .val (.int p3), .val (.int p4), .val (.int p5), .val (.int (2 : Int32)), .val (.ref b100), .val (.ref b126), .val (.int (2 : Int32)), .val (.ref b173), .val (.int (1 : Int32))] [(.int (2 : Int32)), (.int (0 : Int32)), (.ref b100), (.ref b173)]))
      obtain ⟨_, _, ⟨T186, L186, k186, n186⟩, -, X186, ⟨Lc186, hQ186, l186, y186, z186⟩, st186⟩ := Jvm.LawKit.callS X184 hx (y := (⟨"com/example/keyslice/keyslice/storage/KeyRangeAfterPinLaw", "slot", "([B[BII)Z"⟩ : MethodName)) hown (mvT hZ hw_26) (mvT hZ hw_27) (mvT hZ hw_4) (mvT hZ hw_28) (by decide) (backOf (W := 0) (rm5s02 l Z a0 hw [] (b173) (b100) k173 k100 (D0) (D1) (D2) (D3) T173.heap n0 Zh180 V173 f177) hZ hw_28 hw_4 (by decide) (by decide)) (g := (mkF m 311 #[.val (.int p1), .val (.int p2), .val (.int p3), .val (.int p4), .val (.int p5), .val (.int (2 : Int32)), .val (.ref b100), .val (.ref b126), .val (.int (2 : Int32)), .val (.ref b173), .val (.int (1 : Int32))] [(.int (2 : Int32)), (.int (0 : Int32)), (.ref b100), (.ref b173)])) rfl (by rw [hml]; rfl) (argsL := [(.ref b173), (.ref b100), (.int (0 : Int32)), (.int (2 : Int32))]) (rest := []) (lenOf pd_4 rfl) rfl (by show 2 * 0 + _ ≤ _; exact Nat.le_of_eq rfl) (hb hby at_311) (fun _ _ => ⟨rfl, e184, (by decide : 3 + 0 ≤ _), (by decide : 8 + 0 ≤ _)⟩)
      dsimp only [Pt.U, Pt.locs, Pt.cells, Pt.slots] at X186 l186 y186 z186 st186 hQ186
      subst l186 y186 z186
      obtain ⟨rfl, N186q, e186⟩ := hQ186
      have N186 := Fr.app N184 N186q
      refine own_go st186 ?_
      show own_Fin p e below _ (T186.setTop (mkF m 314 #[.val (.int p1), .val (.int p2), .val (.int p3), .val (.int p4), .val (.int p5), .val (.int (2 : Int32)), .val (.ref b100), .val (.ref b126), .val (.int (2 : Int32)), .val (.ref b173), .val (.int (1 : Int32))] [(.int (1 : Int32))]))
      refine own_go (fun t k => XS.ifNo X186.here hx rfl (hb hby at_314) rfl ((if0 _ _).trans (feq (by decide : ¬ ((1 : Int32) = (0 : Int32)))).1) (XS.aload X186.here hx rfl (hb hby at_317) rfl rfl  (XS.aload X186.here hx rfl (hb hby at_319) rfl rfl  (XS.iconst X186.here hx rfl (hb hby at_321) (XS.iload X186.here hx rfl (hb hby at_322) rfl  k))))) ?_
      show own_Fin p e below _ (T186.setTop (mkF m 324 #[.val (.int p1), .val (.int p2), .val (.int p3), .val (.int p4), .val (.int p5), .val (.int (2 : Int32)), .val (.ref b100), .val (.ref b126), .val (.int (2 : Int32)), .val (.ref b173), .val (.int (1 : Int32))] [(.int (2 : Int32)), (.int (1 : Int32)), (.ref b100), (.ref b173)]))
      obtain ⟨_, _, ⟨T187, L187, k187, n187⟩, -, X187, ⟨Lc187, hQ187, l187, y187, z187⟩, st187⟩ := Jvm.LawKit.callS X186 hx (y := (⟨"com/example/keyslice/keyslice/storage/KeyRangeAfterPinLaw", "slot", "([B[BII)Z"⟩ : MethodName)) hown (mvT hZ hw_26) (mvT hZ hw_27) (mvT hZ hw_4) (mvT hZ hw_28) (by decide) (backOf (W := 0) (rm5s12 l Z a0 hw [] (b173) (b100) k173 k100 (D0) (D1) (D2) (D3) T173.heap n0 Zh180 V173 f177) hZ hw_28 hw_4 (by decide) (by decide)) (g := (mkF m 324 #[.val (.int p1), .val (.int p2), .val (.int p3), .val (.int p4), .val (.int p5), .val (.int (2 : Int32)), .val (.ref b100), .val (.ref b126), .val (.int (2 : Int32)), .val (.ref b173), .val (.int (1 : Int32))] [(.int (2 : Int32)), (.int (1 : Int32)), (.ref b100), (.ref b173)])) rfl (by rw [hml]; rfl) (argsL := [(.ref b173), (.ref b100), (.int (1 : Int32)), (.int (2 : Int32))]) (rest := []) (lenOf pd_4 rfl) rfl (by show 2 * 0 + _ ≤ _; exact Nat.le_of_eq rfl) (hb hby at_324) (fun _ _ => ⟨rfl, e186, (by decide : 3 + 0 ≤ _), (by decide : 8 + 0 ≤ _)⟩)
      dsimp only [Pt.U, Pt.locs, Pt.cells, Pt.slots] at X187 l187 y187 z187 st187 hQ187
      subst l187 y187 z187
      obtain ⟨rfl, N187q, e187⟩ := hQ187
      have N187 := Fr.app N186 N187q
      refine own_go st187 ?_
      show own_Fin p e below _ (T187.setTop (mkF m 327 #[.val (.int p1), .val (.int p2), .val (.int p3), .val (.int p4), .val (.int p5), .val (.int (2 : Int32)), .val (.ref b100), .val (.ref b126), .val (.int (2 : Int32)), .val (.ref b173), .val (.int (1 : Int32))] [(.int (1 : Int32))]))
      refine own_go (fun t k => XS.ifNo X187.here hx rfl (hb hby at_327) rfl ((if0 _ _).trans (feq (by decide : ¬ ((1 : Int32) = (0 : Int32)))).1) (XS.aload X187.here hx rfl (hb hby at_330) rfl rfl  (XS.aload X187.here hx rfl (hb hby at_332) rfl rfl  (XS.iconst X187.here hx rfl (hb hby at_334) (XS.iload X187.here hx rfl (hb hby at_335) rfl  k))))) ?_
      show own_Fin p e below _ (T187.setTop (mkF m 337 #[.val (.int p1), .val (.int p2), .val (.int p3), .val (.int p4), .val (.int p5), .val (.int (2 : Int32)), .val (.ref b100), .val (.ref b126), .val (.int (2 : Int32)), .val (.ref b173), .val (.int (1 : Int32))] [(.int (2 : Int32)), (.int (2 : Int32)), (.ref b100), (.ref b173)]))
      obtain ⟨_, _, ⟨T188, L188, k188, n188⟩, -, X188, ⟨Lc188, hQ188, l188, y188, z188⟩, st188⟩ := Jvm.LawKit.callS X187 hx (y := (⟨"com/example/keyslice/keyslice/storage/KeyRangeAfterPinLaw", "slot", "([B[BII)Z"⟩ : MethodName)) hown (mvT hZ hw_26) (mvT hZ hw_27) (mvT hZ hw_4) (mvT hZ hw_28) (by decide) (backOf (W := 0) (rm5s22 l Z a0 hw [] (b173) (b100) k173 k100 (D0) (D1) (D2) (D3) T173.heap n0 Zh180 V173 f177) hZ hw_28 hw_4 (by decide) (by decide)) (g := (mkF m 337 #[.val (.int p1), .val (.int p2), .val (.int p3), .val (.int p4), .val (.int p5), .val (.int (2 : Int32)), .val (.ref b100), .val (.ref b126), .val (.int (2 : Int32)), .val (.ref b173), .val (.int (1 : Int32))] [(.int (2 : Int32)), (.int (2 : Int32)), (.ref b100), (.ref b173)])) rfl (by rw [hml]; rfl) (argsL := [(.ref b173), (.ref b100), (.int (2 : Int32)), (.int (2 : Int32))]) (rest := []) (lenOf pd_4 rfl) rfl (by show 2 * 0 + _ ≤ _; exact Nat.le_of_eq rfl) (hb hby at_337) (fun _ _ => ⟨rfl, e187, (by decide : 3 + 0 ≤ _), (by decide : 8 + 0 ≤ _)⟩)
      dsimp only [Pt.U, Pt.locs, Pt.cells, Pt.slots] at X188 l188 y188 z188 st188 hQ188
      subst l188 y188 z188
      obtain ⟨rfl, N188q, e188⟩ := hQ188
      have N188 := Fr.app N187 N188q
      refine own_go st188 ?_
      show own_Fin p e below _ (T188.setTop (mkF m 340 #[.val (.int p1), .val (.int p2), .val (.int p3), .val (.int p4), .val (.int p5), .val (.int (2 : Int32)), .val (.ref b100), .val (.ref b126), .val (.int (2 : Int32)), .val (.ref b173), .val (.int (1 : Int32))] [(.int (1 : Int32))]))
      refine own_go (fun t k => XS.ifNo X188.here hx rfl (hb hby at_340) rfl ((if0 _ _).trans (feq (by decide : ¬ ((1 : Int32) = (0 : Int32)))).1) (XS.aload X188.here hx rfl (hb hby at_343) rfl rfl  (XS.aload X188.here hx rfl (hb hby at_345) rfl rfl  (XS.iconst X188.here hx rfl (hb hby at_347) (XS.iload X188.here hx rfl (hb hby at_348) rfl  k))))) ?_
      show own_Fin p e below _ (T188.setTop (mkF m 350 #[.val (.int p1), .val (.int p2), .val (.int p3), .val (.int p4), .val (.int p5), .val (.int (2 : Int32)), .val (.ref b100), .val (.ref b126), .val (.int (2 : Int32)), .val (.ref b173), .val (.int (1 : Int32))] [(.int (2 : Int32)), (.int (3 : Int32)), (.ref b100), (.ref b173)]))
      obtain ⟨_, _, ⟨T189, L189, k189, n189⟩, -, X189, ⟨Lc189, hQ189, l189, y189, z189⟩, st189⟩ := Jvm.LawKit.callS X188 hx (y := (⟨"com/example/keyslice/keyslice/storage/KeyRangeAfterPinLaw", "slot", "([B[BII)Z"⟩ : MethodName)) hown (mvT hZ hw_26) (mvT hZ hw_27) (mvT hZ hw_4) (mvT hZ hw_28) (by decide) (backOf (W := 0) (rm5s32 l Z a0 hw [] (b173) (b100) k173 k100 (D0) (D1) (D2) (D3) T173.heap n0 Zh180 V173 f177) hZ hw_28 hw_4 (by decide) (by decide)) (g := (mkF m 350 #[.val (.int p1), .val (.int p2), .val (.int p3), .val (.int p4), .val (.int p5), .val (.int (2 : Int32)), .val (.ref b100), .val (.ref b126), .val (.int (2 : Int32)), .val (.ref b173), .val (.int (1 : Int32))] [(.int (2 : Int32)), (.int (3 : Int32)), (.ref b100), (.ref b173)])) rfl (by rw [hml]; rfl) (argsL := [(.ref b173), (.ref b100), (.int (3 : Int32)), (.int (2 : Int32))]) (rest := []) (lenOf pd_4 rfl) rfl (by show 2 * 0 + _ ≤ _; exact Nat.le_of_eq rfl) (hb hby at_350) (fun _ _ => ⟨rfl, e188, (by decide : 3 + 0 ≤ _), (by decide : 8 + 0 ≤ _)⟩)
      dsimp only [Pt.U, Pt.locs, Pt.cells, Pt.slots] at X189 l189 y189 z189 st189 hQ189
      subst l189 y189 z189
      obtain ⟨rfl, N189q, e189⟩ := hQ189
      have N189 := Fr.app N188 N189q
      refine own_go st189 ?_
      show own_Fin p e below _ (T189.setTop (mkF m 353 #[.val (.int p1), .val (.int p2), .val (.int p3), .val (.int p4), .val (.int p5), .val (.int (2 : Int32)), .val (.ref b100), .val (.ref b126), .val (.int (2 : Int32)), .val (.ref b173), .val (.int (1 : Int32))] [(.int (1 : Int32))]))
      refine own_go (fun t k => XS.ifNo X189.here hx rfl (hb hby at_353) rfl ((if0 _ _).trans (feq (by decide : ¬ ((1 : Int32) = (0 : Int32)))).1) (XS.iconst X189.here hx rfl (hb hby at_356) (XS.goto X189.here hx rfl (pc0 := 357) (pc' := 361) rfl (hb hby at_357) (by decide) (by decide) k))) ?_
      show own_Fin p e below _ (T189.setTop (mkF m 361 #[.val (.int p1), .val (.int p2), .val (.int p3), .val (.int p4), .val (.int p5), .val (.int (2 : Int32)), .val (.ref b100), .val (.ref b126), .val (.int (2 : Int32)), .val (.ref b173), .val (.int (1 : Int32))] [(.int (1 : Int32))]))
      exact own_out X189 (fun h => by rw [Bd.returns] at h; cases h) Bd.notSynchronized (fun fs hr => retN X189 hx (t := .boolean) Bd.returns (by simp) (hb hby at_361) hr) ⟨rfl, N189⟩ (by decide) (by decide)
  · skip
    rw [h]
    show own_Fin p e below _ (s₁.setTop (mkF m 6 #[.val (.int p1), .val (.int p2), .val (.int p3), .val (.int p4), .val (.int p5), .unset, .unset, .unset, .unset, .unset, .unset] [(.int (3 : Int32))]))
    refine own_go (fun t k => XS.istore X0.here hx rfl (hb hby at_6) rfl (l' := #[.val (.int p1), .val (.int p2), .val (.int p3), .val (.int p4), .val (.int p5), .val (.int (3 : Int32)), .unset, .unset, .unset, .unset, .unset]) rfl (XS.iconst X0.here hx rfl (hb hby at_8) k)) ?_
    show own_Fin p e below _ (s₁.setTop (mkF m 9 #[.val (.int p1), .val (.int p2), .val (.int p3), .val (.int p4), .val (.int p5), .val (.int (3 : Int32)), .unset, .unset, .unset, .unset, .unset] [(.int (4 : Int32))]))
    obtain ⟨T190, h190, k190, X190, e190, E190, A190, Ea190, st190⟩ := newPE (aty := .byte) X0 hx hZ hw_1 e0 (g := (mkF m 9 #[.val (.int p1), .val (.int p2), .val (.int p3), .val (.int p4), .val (.int p5), .val (.int (3 : Int32)), .unset, .unset, .unset, .unset, .unset] [(.int (4 : Int32))])) rfl (hb hby at_9) rfl (by decide) (cap := 4) (by decide) (by decide) (by decide) (by decide) (ad := "[B") (by decide)
    obtain ⟨b190, g190⟩ : ∃ z, z = h0.size := ⟨_, rfl⟩
    rw [← g190] at A190 Ea190 st190
    have g_b190 : n0 ≤ b190 := Nat.le_trans Z0 (Nat.le_of_eq g190.symm)
    have Zh191 : n0 ≤ h190.size := Nat.le_trans Z0 E190.1
    have V190 : Arv Z h190 b190 k190 .byte (4 : Int32) [(.int (0 : Int32)), (.int (0 : Int32)), (.int (0 : Int32)), (.int (0 : Int32))] (.int (0 : Int32)) := (Arv.new A190 (by decide)).pad (pad_rep [] (.int (0 : Int32)) 4)
    refine own_go st190 ?_
    show own_Fin p e below _ (T190.setTop (mkF m 11 #[.val (.int p1), .val (.int p2), .val (.int p3), .val (.int p4), .val (.int p5), .val (.int (3 : Int32)), .unset, .unset, .unset, .unset, .unset] [(.ref b190)]))
    refine own_go (fun t k => XS.astore X190.here hx rfl (hb hby at_11) rfl rfl (l' := #[.val (.int p1), .val (.int p2), .val (.int p3), .val (.int p4), .val (.int p5), .val (.int (3 : Int32)), .val (.ref b190), .unset, .unset, .unset, .unset]) rfl (XS.aload X190.here hx rfl (hb hby at_13) rfl rfl  (XS.iconst X190.here hx rfl (hb hby at_15) (XS.iloadN X190.here hx rfl (hb hby at_16) rfl  k)))) ?_
    show own_Fin p e below _ (T190.setTop (mkF m 17 #[.val (.int p1), .val (.int p2), .val (.int p3), .val (.int p4), .val (.int p5), .val (.int (3 : Int32)), .val (.ref b190), .unset, .unset, .unset, .unset] [(.int p2), (.int (0 : Int32)), (.ref b190)]))
    obtain ⟨_, _, ⟨T192, L192, k192, n192⟩, -, X192, ⟨Lc192, hQ192, l192, y192, z192⟩, st192⟩ := Jvm.LawKit.callS X190 hx (y := (⟨"com/example/keyslice/keyslice/storage/KeyRangeAfterPinLaw", "draw", "(I)B"⟩ : MethodName)) hown (mvT hZ hw_2) (mvT hZ hw_3) (mvT hZ hw_4) (mvT hZ hw_5) (by decide) (backOf (W := 2) (rm1 l Z a0 hw [] (p2)  h190 n0 Zh191 ) hZ hw_5 hw_4 (by decide) (by decide)) (g := (mkF m 17 #[.val (.int p1), .val (.int p2), .val (.int p3), .val (.int p4), .val (.int p5), .val (.int (3 : Int32)), .val (.ref b190), .unset, .unset, .unset, .unset] [(.int p2), (.int (0 : Int32)), (.ref b190)])) rfl (by rw [hml]; rfl) (argsL := [(.int p2)]) (rest := [(.int (0 : Int32)), (.ref b190)]) (lenOf pd_2 rfl) rfl (by show 2 * 0 + _ ≤ _; exact Nat.le_of_eq rfl) (hb hby at_17) (fun _ _ => ⟨rfl, e190, (by decide : 1 + 0 ≤ _), (by decide : 4 + 0 ≤ _)⟩)
    dsimp only [Pt.U, Pt.locs, Pt.cells, Pt.slots] at X192 l192 y192 z192 st192 hQ192
    subst l192 y192 z192
    obtain ⟨rfl, N192q, e192⟩ := hQ192
    have N192 := Fr.app N0 N192q
    refine own_go st192 ?_
    show own_Fin p e below _ (T192.setTop (mkF m 20 #[.val (.int p1), .val (.int p2), .val (.int p3), .val (.int p4), .val (.int p5), .val (.int (3 : Int32)), .val (.ref b190), .unset, .unset, .unset, .unset] [(.int (own_dr_3 p2)), (.int (0 : Int32)), (.ref b190)]))
    obtain ⟨D0, h_D0⟩ : ∃ z : Int32, z = (own_dr_3 p2) := ⟨_, rfl⟩
    rw [← h_D0]
    show own_Fin p e below _ (T192.setTop (mkF m 20 #[.val (.int p1), .val (.int p2), .val (.int p3), .val (.int p4), .val (.int p5), .val (.int (3 : Int32)), .val (.ref b190), .unset, .unset, .unset, .unset] [(.int D0), (.int (0 : Int32)), (.ref b190)]))
    have hN0 : nar .byte D0 = D0 := by rw [h_D0]; exact own_nn _
    obtain ⟨cl193, Ar193, q193, S193, M193, H193, G193⟩ := (id V190)
    have hin193 : ¬ ((0 : Int32) < 0 ∨ cl193.slots.size ≤ ((0 : Int32)).toNatClampNeg) := inb_of S193 ⟨by decide, by decide⟩
    obtain ⟨T193, h193, X193, e193, W193, st193⟩ := stB X192 hx hZ e192 Ar193 (j := (0 : Int32)) hin193 (g := (mkF m 20 #[.val (.int p1), .val (.int p2), .val (.int p3), .val (.int p4), .val (.int p5), .val (.int (3 : Int32)), .val (.ref b190), .unset, .unset, .unset, .unset] [(.int D0), (.int (0 : Int32)), (.ref b190)])) rfl rfl (hb hby at_20)
    have f194 := Ea190.wr W193
    have V193 := Arv.set Ar193 q193 S193 M193 H193 G193 (fits_nar_byte _) W193 0 rfl (Nat.le_of_ble_eq_true rfl)
    have f196 : Arv Z h193 b190 k190 .byte (4 : Int32) [(.int (nar .byte D0)), (.int (0 : Int32)), (.int (0 : Int32)), (.int (0 : Int32))] (.int (0 : Int32)) := V193
    rw [hN0] at f196
    have Zh197 : n0 ≤ h193.size := Nat.le_trans Zh191 (Nat.le_of_eq W193.size.symm)
    have N193 := Fr.snoc X193 N192 g_b190
    refine own_go st193 ?_
    show own_Fin p e below _ (T193.setTop (mkF m 21 #[.val (.int p1), .val (.int p2), .val (.int p3), .val (.int p4), .val (.int p5), .val (.int (3 : Int32)), .val (.ref b190), .unset, .unset, .unset, .unset] []))
    refine own_go (fun t k => XS.aload X193.here hx rfl (hb hby at_21) rfl rfl  (XS.iconst X193.here hx rfl (hb hby at_23) (XS.iloadN X193.here hx rfl (hb hby at_24) rfl  k))) ?_
    show own_Fin p e below _ (T193.setTop (mkF m 25 #[.val (.int p1), .val (.int p2), .val (.int p3), .val (.int p4), .val (.int p5), .val (.int (3 : Int32)), .val (.ref b190), .unset, .unset, .unset, .unset] [(.int p3), (.int (1 : Int32)), (.ref b190)]))
    obtain ⟨_, _, ⟨T198, L198, k198, n198⟩, -, X198, ⟨Lc198, hQ198, l198, y198, z198⟩, st198⟩ := Jvm.LawKit.callS X193 hx (y := (⟨"com/example/keyslice/keyslice/storage/KeyRangeAfterPinLaw", "draw", "(I)B"⟩ : MethodName)) hown (mvT hZ hw_2) (mvT hZ hw_3) (mvT hZ hw_4) (mvT hZ hw_5) (by decide) (backOf (W := 2) (rm1 l Z a0 hw [] (p3)  h193 n0 Zh197 ) hZ hw_5 hw_4 (by decide) (by decide)) (g := (mkF m 25 #[.val (.int p1), .val (.int p2), .val (.int p3), .val (.int p4), .val (.int p5), .val (.int (3 : Int32)), .val (.ref b190), .unset, .unset, .unset, .unset] [(.int p3), (.int (1 : Int32)), (.ref b190)])) rfl (by rw [hml]; rfl) (argsL := [(.int p3)]) (rest := [(.int (1 : Int32)), (.ref b190)]) (lenOf pd_2 rfl) rfl (by show 2 * 0 + _ ≤ _; exact Nat.le_of_eq rfl) (hb hby at_25) (fun _ _ => ⟨rfl, e193, (by decide : 1 + 0 ≤ _), (by decide : 4 + 0 ≤ _)⟩)
    dsimp only [Pt.U, Pt.locs, Pt.cells, Pt.slots] at X198 l198 y198 z198 st198 hQ198
    subst l198 y198 z198
    obtain ⟨rfl, N198q, e198⟩ := hQ198
    have N198 := Fr.app N193 N198q
    refine own_go st198 ?_
    show own_Fin p e below _ (T198.setTop (mkF m 28 #[.val (.int p1), .val (.int p2), .val (.int p3), .val (.int p4), .val (.int p5), .val (.int (3 : Int32)), .val (.ref b190), .unset, .unset, .unset, .unset] [(.int (own_dr_3 p3)), (.int (1 : Int32)), (.ref b190)]))
    obtain ⟨D1, h_D1⟩ : ∃ z : Int32, z = (own_dr_3 p3) := ⟨_, rfl⟩
    rw [← h_D1]
    show own_Fin p e below _ (T198.setTop (mkF m 28 #[.val (.int p1), .val (.int p2), .val (.int p3), .val (.int p4), .val (.int p5), .val (.int (3 : Int32)), .val (.ref b190), .unset, .unset, .unset, .unset] [(.int D1), (.int (1 : Int32)), (.ref b190)]))
    have hN1 : nar .byte D1 = D1 := by rw [h_D1]; exact own_nn _
    obtain ⟨cl199, Ar199, q199, S199, M199, H199, G199⟩ := (id f196)
    have hin199 : ¬ ((1 : Int32) < 0 ∨ cl199.slots.size ≤ ((1 : Int32)).toNatClampNeg) := inb_of S199 ⟨by decide, by decide⟩
    obtain ⟨T199, h199, X199, e199, W199, st199⟩ := stB X198 hx hZ e198 Ar199 (j := (1 : Int32)) hin199 (g := (mkF m 28 #[.val (.int p1), .val (.int p2), .val (.int p3), .val (.int p4), .val (.int p5), .val (.int (3 : Int32)), .val (.ref b190), .unset, .unset, .unset, .unset] [(.int D1), (.int (1 : Int32)), (.ref b190)])) rfl rfl (hb hby at_28)
    have f200 := f194.wr W199
    have V199 := Arv.set Ar199 q199 S199 M199 H199 G199 (fits_nar_byte _) W199 1 rfl (Nat.le_of_ble_eq_true rfl)
    have f202 : Arv Z h199 b190 k190 .byte (4 : Int32) [(.int D0), (.int (nar .byte D1)), (.int (0 : Int32)), (.int (0 : Int32))] (.int (0 : Int32)) := V199
    rw [hN1] at f202
    have Zh203 : n0 ≤ h199.size := Nat.le_trans Zh197 (Nat.le_of_eq W199.size.symm)
    have N199 := Fr.snoc X199 N198 g_b190
    refine own_go st199 ?_
    show own_Fin p e below _ (T199.setTop (mkF m 29 #[.val (.int p1), .val (.int p2), .val (.int p3), .val (.int p4), .val (.int p5), .val (.int (3 : Int32)), .val (.ref b190), .unset, .unset, .unset, .unset] []))
    refine own_go (fun t k => XS.aload X199.here hx rfl (hb hby at_29) rfl rfl  (XS.iconst X199.here hx rfl (hb hby at_31) (XS.iloadN X199.here hx rfl (hb hby at_32) rfl  k))) ?_
    show own_Fin p e below _ (T199.setTop (mkF m 33 #[.val (.int p1), .val (.int p2), .val (.int p3), .val (.int p4), .val (.int p5), .val (.int (3 : Int32)), .val (.ref b190), .unset, .unset, .unset, .unset] [(.int p4), (.int (2 : Int32)), (.ref b190)]))
    obtain ⟨_, _, ⟨T204, L204, k204, n204⟩, -, X204, ⟨Lc204, hQ204, l204, y204, z204⟩, st204⟩ := Jvm.LawKit.callS X199 hx (y := (⟨"com/example/keyslice/keyslice/storage/KeyRangeAfterPinLaw", "draw", "(I)B"⟩ : MethodName)) hown (mvT hZ hw_2) (mvT hZ hw_3) (mvT hZ hw_4) (mvT hZ hw_5) (by decide) (backOf (W := 2) (rm1 l Z a0 hw [] (p4)  h199 n0 Zh203 ) hZ hw_5 hw_4 (by decide) (by decide)) (g := (mkF m 33 #[.val (.int p1), .val (.int p2), .val (.int p3), .val (.int p4), .val (.int p5), .val (.int (3 : Int32)), .val (.ref b190), .unset, .unset, .unset, .unset] [(.int p4), (.int (2 : Int32)), (.ref b190)])) rfl (by rw [hml]; rfl) (argsL := [(.int p4)]) (rest := [(.int (2 : Int32)), (.ref b190)]) (lenOf pd_2 rfl) rfl (by show 2 * 0 + _ ≤ _; exact Nat.le_of_eq rfl) (hb hby at_33) (fun _ _ => ⟨rfl, e199, (by decide : 1 + 0 ≤ _), (by decide : 4 + 0 ≤ _)⟩)
    dsimp only [Pt.U, Pt.locs, Pt.cells, Pt.slots] at X204 l204 y204 z204 st204 hQ204
    subst l204 y204 z204
    obtain ⟨rfl, N204q, e204⟩ := hQ204
    have N204 := Fr.app N199 N204q
    refine own_go st204 ?_
    show own_Fin p e below _ (T204.setTop (mkF m 36 #[.val (.int p1), .val (.int p2), .val (.int p3), .val (.int p4), .val (.int p5), .val (.int (3 : Int32)), .val (.ref b190), .unset, .unset, .unset, .unset] [(.int (own_dr_3 p4)), (.int (2 : Int32)), (.ref b190)]))
    obtain ⟨D2, h_D2⟩ : ∃ z : Int32, z = (own_dr_3 p4) := ⟨_, rfl⟩
    rw [← h_D2]
    show own_Fin p e below _ (T204.setTop (mkF m 36 #[.val (.int p1), .val (.int p2), .val (.int p3), .val (.int p4), .val (.int p5), .val (.int (3 : Int32)), .val (.ref b190), .unset, .unset, .unset, .unset] [(.int D2), (.int (2 : Int32)), (.ref b190)]))
    have hN2 : nar .byte D2 = D2 := by rw [h_D2]; exact own_nn _
    obtain ⟨cl205, Ar205, q205, S205, M205, H205, G205⟩ := (id f202)
    have hin205 : ¬ ((2 : Int32) < 0 ∨ cl205.slots.size ≤ ((2 : Int32)).toNatClampNeg) := inb_of S205 ⟨by decide, by decide⟩
    obtain ⟨T205, h205, X205, e205, W205, st205⟩ := stB X204 hx hZ e204 Ar205 (j := (2 : Int32)) hin205 (g := (mkF m 36 #[.val (.int p1), .val (.int p2), .val (.int p3), .val (.int p4), .val (.int p5), .val (.int (3 : Int32)), .val (.ref b190), .unset, .unset, .unset, .unset] [(.int D2), (.int (2 : Int32)), (.ref b190)])) rfl rfl (hb hby at_36)
    have f206 := f200.wr W205
    have V205 := Arv.set Ar205 q205 S205 M205 H205 G205 (fits_nar_byte _) W205 2 rfl (Nat.le_of_ble_eq_true rfl)
    have f208 : Arv Z h205 b190 k190 .byte (4 : Int32) [(.int D0), (.int D1), (.int (nar .byte D2)), (.int (0 : Int32))] (.int (0 : Int32)) := V205
    rw [hN2] at f208
    have Zh209 : n0 ≤ h205.size := Nat.le_trans Zh203 (Nat.le_of_eq W205.size.symm)
    have N205 := Fr.snoc X205 N204 g_b190
    refine own_go st205 ?_
    show own_Fin p e below _ (T205.setTop (mkF m 37 #[.val (.int p1), .val (.int p2), .val (.int p3), .val (.int p4), .val (.int p5), .val (.int (3 : Int32)), .val (.ref b190), .unset, .unset, .unset, .unset] []))
    refine own_go (fun t k => XS.aload X205.here hx rfl (hb hby at_37) rfl rfl  (XS.iconst X205.here hx rfl (hb hby at_39) (XS.iload X205.here hx rfl (hb hby at_40) rfl  k))) ?_
    show own_Fin p e below _ (T205.setTop (mkF m 42 #[.val (.int p1), .val (.int p2), .val (.int p3), .val (.int p4), .val (.int p5), .val (.int (3 : Int32)), .val (.ref b190), .unset, .unset, .unset, .unset] [(.int p5), (.int (3 : Int32)), (.ref b190)]))
    obtain ⟨_, _, ⟨T210, L210, k210, n210⟩, -, X210, ⟨Lc210, hQ210, l210, y210, z210⟩, st210⟩ := Jvm.LawKit.callS X205 hx (y := (⟨"com/example/keyslice/keyslice/storage/KeyRangeAfterPinLaw", "draw", "(I)B"⟩ : MethodName)) hown (mvT hZ hw_2) (mvT hZ hw_3) (mvT hZ hw_4) (mvT hZ hw_5) (by decide) (backOf (W := 2) (rm1 l Z a0 hw [] (p5)  h205 n0 Zh209 ) hZ hw_5 hw_4 (by decide) (by decide)) (g := (mkF m 42 #[.val (.int p1), .val (.int p2), .val (.int p3), .val (.int p4), .val (.int p5), .val (.int (3 : Int32)), .val (.ref b190), .unset, .unset, .unset, .unset] [(.int p5), (.int (3 : Int32)), (.ref b190)])) rfl (by rw [hml]; rfl) (argsL := [(.int p5)]) (rest := [(.int (3 : Int32)), (.ref b190)]) (lenOf pd_2 rfl) rfl (by show 2 * 0 + _ ≤ _; exact Nat.le_of_eq rfl) (hb hby at_42) (fun _ _ => ⟨rfl, e205, (by decide : 1 + 0 ≤ _), (by decide : 4 + 0 ≤ _)⟩)
    dsimp only [Pt.U, Pt.locs, Pt.cells, Pt.slots] at X210 l210 y210 z210 st210 hQ210
    subst l210 y210 z210
    obtain ⟨rfl, N210q, e210⟩ := hQ210
    have N210 := Fr.app N205 N210q
    refine own_go st210 ?_
    show own_Fin p e below _ (T210.setTop (mkF m 45 #[.val (.int p1), .val (.int p2), .val (.int p3), .val (.int p4), .val (.int p5), .val (.int (3 : Int32)), .val (.ref b190), .unset, .unset, .unset, .unset] [(.int (own_dr_3 p5)), (.int (3 : Int32)), (.ref b190)]))
    obtain ⟨D3, h_D3⟩ : ∃ z : Int32, z = (own_dr_3 p5) := ⟨_, rfl⟩
    rw [← h_D3]
    show own_Fin p e below _ (T210.setTop (mkF m 45 #[.val (.int p1), .val (.int p2), .val (.int p3), .val (.int p4), .val (.int p5), .val (.int (3 : Int32)), .val (.ref b190), .unset, .unset, .unset, .unset] [(.int D3), (.int (3 : Int32)), (.ref b190)]))
    have hN3 : nar .byte D3 = D3 := by rw [h_D3]; exact own_nn _
    obtain ⟨cl211, Ar211, q211, S211, M211, H211, G211⟩ := (id f208)
    have hin211 : ¬ ((3 : Int32) < 0 ∨ cl211.slots.size ≤ ((3 : Int32)).toNatClampNeg) := inb_of S211 ⟨by decide, by decide⟩
    obtain ⟨T211, h211, X211, e211, W211, st211⟩ := stB X210 hx hZ e210 Ar211 (j := (3 : Int32)) hin211 (g := (mkF m 45 #[.val (.int p1), .val (.int p2), .val (.int p3), .val (.int p4), .val (.int p5), .val (.int (3 : Int32)), .val (.ref b190), .unset, .unset, .unset, .unset] [(.int D3), (.int (3 : Int32)), (.ref b190)])) rfl rfl (hb hby at_45)
    have f212 := f206.wr W211
    have V211 := Arv.set Ar211 q211 S211 M211 H211 G211 (fits_nar_byte _) W211 3 rfl (Nat.le_of_ble_eq_true rfl)
    have f214 : Arv Z h211 b190 k190 .byte (4 : Int32) [(.int D0), (.int D1), (.int D2), (.int (nar .byte D3))] (.int (0 : Int32)) := V211
    rw [hN3] at f214
    have Zh215 : n0 ≤ h211.size := Nat.le_trans Zh209 (Nat.le_of_eq W211.size.symm)
    have N211 := Fr.snoc X211 N210 g_b190
    refine own_go st211 ?_
    show own_Fin p e below _ (T211.setTop (mkF m 46 #[.val (.int p1), .val (.int p2), .val (.int p3), .val (.int p4), .val (.int p5), .val (.int (3 : Int32)), .val (.ref b190), .unset, .unset, .unset, .unset] []))
    refine own_go (fun t k => XS.iload X211.here hx rfl (hb hby at_46) rfl  k) ?_
    show own_Fin p e below _ (T211.setTop (mkF m 48 #[.val (.int p1), .val (.int p2), .val (.int p3), .val (.int p4), .val (.int p5), .val (.int (3 : Int32)), .val (.ref b190), .unset, .unset, .unset, .unset] [(.int (3 : Int32))]))
    obtain ⟨T216, h216, k216, X216, e216, E216, A216, Ea216, st216⟩ := newPE (aty := .byte) X211 hx hZ hw_1 e211 (g := (mkF m 48 #[.val (.int p1), .val (.int p2), .val (.int p3), .val (.int p4), .val (.int p5), .val (.int (3 : Int32)), .val (.ref b190), .unset, .unset, .unset, .unset] [(.int (3 : Int32))])) rfl (hb hby at_48) rfl (by decide) (cap := 3) (by decide) (by decide) (by decide) (by decide) (ad := "[B") (by decide)
    obtain ⟨b216, g216⟩ : ∃ z, z = h211.size := ⟨_, rfl⟩
    rw [← g216] at A216 Ea216 st216
    have g_b216 : n0 ≤ b216 := Nat.le_trans Zh215 (Nat.le_of_eq g216.symm)
    have ne217 : b190 ≠ b216 := Nat.ne_of_lt (Nat.lt_of_lt_of_le f212.lt (Nat.le_of_eq g216.symm))
    have f218 := f212.ext E216
    have f219 := f214.ext E216
    have Zh220 : n0 ≤ h216.size := Nat.le_trans Zh215 E216.1
    have V216 : Arv Z h216 b216 k216 .byte (3 : Int32) [(.int (0 : Int32)), (.int (0 : Int32)), (.int (0 : Int32))] (.int (0 : Int32)) := (Arv.new A216 (by decide)).pad (pad_rep [] (.int (0 : Int32)) 3)
    refine own_go st216 ?_
    show own_Fin p e below _ (T216.setTop (mkF m 50 #[.val (.int p1), .val (.int p2), .val (.int p3), .val (.int p4), .val (.int p5), .val (.int (3 : Int32)), .val (.ref b190), .unset, .unset, .unset, .unset] [(.ref b216)]))
    refine own_go (fun t k => XS.astore X216.here hx rfl (hb hby at_50) rfl rfl (l' := #[.val (.int p1), .val (.int p2), .val (.int p3), .val (.int p4), .val (.int p5), .val (.int (3 : Int32)), .val (.ref b190), .val (.ref b216), .unset, .unset, .unset]) rfl (XS.iload X216.here hx rfl (hb hby at_52) rfl  k)) ?_
    show own_Fin p e below _ (T216.setTop (mkF m 54 #[.val (.int p1), .val (.int p2), .val (.int p3), .val (.int p4), .val (.int p5), .val (.int (3 : Int32)), .val (.ref b190), .val (.ref b216), .unset, .unset, .unset] [(.int (3 : Int32))]))
    refine own_go (fun t k => XS.ifNo X216.here hx rfl (hb hby at_54) rfl ((if0 _ _).trans (tlt (by decide : (0 : Int32) < (3 : Int32))).2.2.2) (XS.aload X216.here hx rfl (hb hby at_57) rfl rfl  (XS.iconst X216.here hx rfl (hb hby at_59) (XS.aload X216.here hx rfl (hb hby at_60) rfl rfl  (XS.iconst X216.here hx rfl (hb hby at_62) k))))) ?_
    show own_Fin p e below _ (T216.setTop (mkF m 63 #[.val (.int p1), .val (.int p2), .val (.int p3), .val (.int p4), .val (.int p5), .val (.int (3 : Int32)), .val (.ref b190), .val (.ref b216), .unset, .unset, .unset] [(.int (0 : Int32)), (.ref b190), (.int (0 : Int32)), (.ref b216)]))
    obtain ⟨cl221, Ar221, q221, S221, M221, H221, G221⟩ := (id f219)
    have hin221 : ¬ ((0 : Int32) < 0 ∨ cl221.slots.size ≤ ((0 : Int32)).toNatClampNeg) := inb_of S221 ⟨by decide, by decide⟩
    have hat221 : cl221.slots[((0 : Int32)).toNatClampNeg]? = some (.int D0) := H221.at hin221 rfl
    refine own_go (fun t k => X216.baloadBytes hx (j := (0 : Int32)) (v := (.int D0)) (by rw [e216]; exact Ar221.1) (State.isArrayOf_alike hZ.alike Ar221.2.1) Ar221.2.2 hin221 hat221 (g := (mkF m 63 #[.val (.int p1), .val (.int p2), .val (.int p3), .val (.int p4), .val (.int p5), .val (.int (3 : Int32)), .val (.ref b190), .val (.ref b216), .unset, .unset, .unset] [(.int (0 : Int32)), (.ref b190), (.int (0 : Int32)), (.ref b216)])) rfl rfl (hb hby at_63) _ k) ?_
    show own_Fin p e below _ (T216.setTop (mkF m 64 #[.val (.int p1), .val (.int p2), .val (.int p3), .val (.int p4), .val (.int p5), .val (.int (3 : Int32)), .val (.ref b190), .val (.ref b216), .unset, .unset, .unset] [(.int D0), (.int (0 : Int32)), (.ref b216)]))
    obtain ⟨cl222, Ar222, q222, S222, M222, H222, G222⟩ := (id V216)
    have hin222 : ¬ ((0 : Int32) < 0 ∨ cl222.slots.size ≤ ((0 : Int32)).toNatClampNeg) := inb_of S222 ⟨by decide, by decide⟩
    obtain ⟨T222, h222, X222, e222, W222, st222⟩ := stB X216 hx hZ e216 Ar222 (j := (0 : Int32)) hin222 (g := (mkF m 64 #[.val (.int p1), .val (.int p2), .val (.int p3), .val (.int p4), .val (.int p5), .val (.int (3 : Int32)), .val (.ref b190), .val (.ref b216), .unset, .unset, .unset] [(.int D0), (.int (0 : Int32)), (.ref b216)])) rfl rfl (hb hby at_64)
    have f223 := f218.wr W222
    have f224 := f219.other W222 ne217
    have f225 := Ea216.wr W222
    have V222 := Arv.set Ar222 q222 S222 M222 H222 G222 (fits_nar_byte _) W222 0 rfl (Nat.le_of_ble_eq_true rfl)
    have f227 : Arv Z h222 b216 k216 .byte (3 : Int32) [(.int (nar .byte D0)), (.int (0 : Int32)), (.int (0 : Int32))] (.int (0 : Int32)) := V222
    rw [hN0] at f227
    have Zh228 : n0 ≤ h222.size := Nat.le_trans Zh220 (Nat.le_of_eq W222.size.symm)
    have N222 := Fr.snoc X222 N211 g_b216
    refine own_go st222 ?_
    show own_Fin p e below _ (T222.setTop (mkF m 65 #[.val (.int p1), .val (.int p2), .val (.int p3), .val (.int p4), .val (.int p5), .val (.int (3 : Int32)), .val (.ref b190), .val (.ref b216), .unset, .unset, .unset] []))
    refine own_go (fun t k => XS.iload X222.here hx rfl (hb hby at_65) rfl  (XS.iconst X222.here hx rfl (hb hby at_67) k)) ?_
    show own_Fin p e below _ (T222.setTop (mkF m 68 #[.val (.int p1), .val (.int p2), .val (.int p3), .val (.int p4), .val (.int p5), .val (.int (3 : Int32)), .val (.ref b190), .val (.ref b216), .unset, .unset, .unset] [(.int (1 : Int32)), (.int (3 : Int32))]))
    refine own_go (fun t k => XS.icmpNo X222.here hx rfl (hb hby at_68) rfl (tlt (by decide : (1 : Int32) < (3 : Int32))).2.2.2 (XS.aload X222.here hx rfl (hb hby at_71) rfl rfl  (XS.iconst X222.here hx rfl (hb hby at_73) (XS.aload X222.here hx rfl (hb hby at_74) rfl rfl  (XS.iconst X222.here hx rfl (hb hby at_76) k))))) ?_
    show own_Fin p e below _ (T222.setTop (mkF m 77 #[.val (.int p1), .val (.int p2), .val (.int p3), .val (.int p4), .val (.int p5), .val (.int (3 : Int32)), .val (.ref b190), .val (.ref b216), .unset, .unset, .unset] [(.int (1 : Int32)), (.ref b190), (.int (1 : Int32)), (.ref b216)]))
    obtain ⟨cl229, Ar229, q229, S229, M229, H229, G229⟩ := (id f224)
    have hin229 : ¬ ((1 : Int32) < 0 ∨ cl229.slots.size ≤ ((1 : Int32)).toNatClampNeg) := inb_of S229 ⟨by decide, by decide⟩
    have hat229 : cl229.slots[((1 : Int32)).toNatClampNeg]? = some (.int D1) := H229.at hin229 rfl
    refine own_go (fun t k => X222.baloadBytes hx (j := (1 : Int32)) (v := (.int D1)) (by rw [e222]; exact Ar229.1) (State.isArrayOf_alike hZ.alike Ar229.2.1) Ar229.2.2 hin229 hat229 (g := (mkF m 77 #[.val (.int p1), .val (.int p2), .val (.int p3), .val (.int p4), .val (.int p5), .val (.int (3 : Int32)), .val (.ref b190), .val (.ref b216), .unset, .unset, .unset] [(.int (1 : Int32)), (.ref b190), (.int (1 : Int32)), (.ref b216)])) rfl rfl (hb hby at_77) _ k) ?_
    show own_Fin p e below _ (T222.setTop (mkF m 78 #[.val (.int p1), .val (.int p2), .val (.int p3), .val (.int p4), .val (.int p5), .val (.int (3 : Int32)), .val (.ref b190), .val (.ref b216), .unset, .unset, .unset] [(.int D1), (.int (1 : Int32)), (.ref b216)]))
    obtain ⟨cl230, Ar230, q230, S230, M230, H230, G230⟩ := (id f227)
    have hin230 : ¬ ((1 : Int32) < 0 ∨ cl230.slots.size ≤ ((1 : Int32)).toNatClampNeg) := inb_of S230 ⟨by decide, by decide⟩
    obtain ⟨T230, h230, X230, e230, W230, st230⟩ := stB X222 hx hZ e222 Ar230 (j := (1 : Int32)) hin230 (g := (mkF m 78 #[.val (.int p1), .val (.int p2), .val (.int p3), .val (.int p4), .val (.int p5), .val (.int (3 : Int32)), .val (.ref b190), .val (.ref b216), .unset, .unset, .unset] [(.int D1), (.int (1 : Int32)), (.ref b216)])) rfl rfl (hb hby at_78)
    have f231 := f223.wr W230
    have f232 := f224.other W230 ne217
    have f233 := f225.wr W230
    have V230 := Arv.set Ar230 q230 S230 M230 H230 G230 (fits_nar_byte _) W230 1 rfl (Nat.le_of_ble_eq_true rfl)
    have f235 : Arv Z h230 b216 k216 .byte (3 : Int32) [(.int D0), (.int (nar .byte D1)), (.int (0 : Int32))] (.int (0 : Int32)) := V230
    rw [hN1] at f235
    have Zh236 : n0 ≤ h230.size := Nat.le_trans Zh228 (Nat.le_of_eq W230.size.symm)
    have N230 := Fr.snoc X230 N222 g_b216
    refine own_go st230 ?_
    show own_Fin p e below _ (T230.setTop (mkF m 79 #[.val (.int p1), .val (.int p2), .val (.int p3), .val (.int p4), .val (.int p5), .val (.int (3 : Int32)), .val (.ref b190), .val (.ref b216), .unset, .unset, .unset] []))
    refine own_go (fun t k => XS.iload X230.here hx rfl (hb hby at_79) rfl  (XS.iconst X230.here hx rfl (hb hby at_81) k)) ?_
    show own_Fin p e below _ (T230.setTop (mkF m 82 #[.val (.int p1), .val (.int p2), .val (.int p3), .val (.int p4), .val (.int p5), .val (.int (3 : Int32)), .val (.ref b190), .val (.ref b216), .unset, .unset, .unset] [(.int (2 : Int32)), (.int (3 : Int32))]))
    refine own_go (fun t k => XS.icmpNo X230.here hx rfl (hb hby at_82) rfl (tlt (by decide : (2 : Int32) < (3 : Int32))).2.2.2 (XS.aload X230.here hx rfl (hb hby at_85) rfl rfl  (XS.iconst X230.here hx rfl (hb hby at_87) (XS.aload X230.here hx rfl (hb hby at_88) rfl rfl  (XS.iconst X230.here hx rfl (hb hby at_90) k))))) ?_
    show own_Fin p e below _ (T230.setTop (mkF m 91 #[.val (.int p1), .val (.int p2), .val (.int p3), .val (.int p4), .val (.int p5), .val (.int (3 : Int32)), .val (.ref b190), .val (.ref b216), .unset, .unset, .unset] [(.int (2 : Int32)), (.ref b190), (.int (2 : Int32)), (.ref b216)]))
    obtain ⟨cl237, Ar237, q237, S237, M237, H237, G237⟩ := (id f232)
    have hin237 : ¬ ((2 : Int32) < 0 ∨ cl237.slots.size ≤ ((2 : Int32)).toNatClampNeg) := inb_of S237 ⟨by decide, by decide⟩
    have hat237 : cl237.slots[((2 : Int32)).toNatClampNeg]? = some (.int D2) := H237.at hin237 rfl
    refine own_go (fun t k => X230.baloadBytes hx (j := (2 : Int32)) (v := (.int D2)) (by rw [e230]; exact Ar237.1) (State.isArrayOf_alike hZ.alike Ar237.2.1) Ar237.2.2 hin237 hat237 (g := (mkF m 91 #[.val (.int p1), .val (.int p2), .val (.int p3), .val (.int p4), .val (.int p5), .val (.int (3 : Int32)), .val (.ref b190), .val (.ref b216), .unset, .unset, .unset] [(.int (2 : Int32)), (.ref b190), (.int (2 : Int32)), (.ref b216)])) rfl rfl (hb hby at_91) _ k) ?_
    show own_Fin p e below _ (T230.setTop (mkF m 92 #[.val (.int p1), .val (.int p2), .val (.int p3), .val (.int p4), .val (.int p5), .val (.int (3 : Int32)), .val (.ref b190), .val (.ref b216), .unset, .unset, .unset] [(.int D2), (.int (2 : Int32)), (.ref b216)]))
    obtain ⟨cl238, Ar238, q238, S238, M238, H238, G238⟩ := (id f235)
    have hin238 : ¬ ((2 : Int32) < 0 ∨ cl238.slots.size ≤ ((2 : Int32)).toNatClampNeg) := inb_of S238 ⟨by decide, by decide⟩
    obtain ⟨T238, h238, X238, e238, W238, st238⟩ := stB X230 hx hZ e230 Ar238 (j := (2 : Int32)) hin238 (g := (mkF m 92 #[.val (.int p1), .val (.int p2), .val (.int p3), .val (.int p4), .val (.int p5), .val (.int (3 : Int32)), .val (.ref b190), .val (.ref b216), .unset, .unset, .unset] [(.int D2), (.int (2 : Int32)), (.ref b216)])) rfl rfl (hb hby at_92)
    have f239 := f231.wr W238
    have f240 := f232.other W238 ne217
    have f241 := f233.wr W238
    have V238 := Arv.set Ar238 q238 S238 M238 H238 G238 (fits_nar_byte _) W238 2 rfl (Nat.le_of_ble_eq_true rfl)
    have f243 : Arv Z h238 b216 k216 .byte (3 : Int32) [(.int D0), (.int D1), (.int (nar .byte D2))] (.int (0 : Int32)) := V238
    rw [hN2] at f243
    have Zh244 : n0 ≤ h238.size := Nat.le_trans Zh236 (Nat.le_of_eq W238.size.symm)
    have N238 := Fr.snoc X238 N230 g_b216
    refine own_go st238 ?_
    show own_Fin p e below _ (T238.setTop (mkF m 93 #[.val (.int p1), .val (.int p2), .val (.int p3), .val (.int p4), .val (.int p5), .val (.int (3 : Int32)), .val (.ref b190), .val (.ref b216), .unset, .unset, .unset] []))
    refine own_go (fun t k => XS.iload X238.here hx rfl (hb hby at_93) rfl  (XS.iconst X238.here hx rfl (hb hby at_95) k)) ?_
    show own_Fin p e below _ (T238.setTop (mkF m 96 #[.val (.int p1), .val (.int p2), .val (.int p3), .val (.int p4), .val (.int p5), .val (.int (3 : Int32)), .val (.ref b190), .val (.ref b216), .unset, .unset, .unset] [(.int (3 : Int32)), (.int (3 : Int32))]))
    refine own_go (fun t k => XS.icmpYes X238.here hx rfl (pc0 := 96) (pc' := 107) rfl (hb hby at_96) rfl (flt (by decide : ¬ ((3 : Int32) < (3 : Int32)))).2.2.2 (by decide) (by decide) (XS.iload X238.here hx rfl (hb hby at_107) rfl  (XS.iconst X238.here hx rfl (hb hby at_109) k))) ?_
    show own_Fin p e below _ (T238.setTop (mkF m 110 #[.val (.int p1), .val (.int p2), .val (.int p3), .val (.int p4), .val (.int p5), .val (.int (3 : Int32)), .val (.ref b190), .val (.ref b216), .unset, .unset, .unset] [(.int (4 : Int32)), (.int (3 : Int32))]))
    refine own_go (fun t k => XS.icmpYes X238.here hx rfl (pc0 := 110) (pc' := 127) rfl (hb hby at_110) rfl (tlt (by decide : (3 : Int32) < (4 : Int32))).1 (by decide) (by decide) (XS.iload X238.here hx rfl (hb hby at_127) rfl  (XS.iconst X238.here hx rfl (hb hby at_129) k))) ?_
    show own_Fin p e below _ (T238.setTop (mkF m 130 #[.val (.int p1), .val (.int p2), .val (.int p3), .val (.int p4), .val (.int p5), .val (.int (3 : Int32)), .val (.ref b190), .val (.ref b216), .unset, .unset, .unset] [(.int (3 : Int32)), (.int (3 : Int32))]))
    refine own_go (fun t k => XS.icmpNo X238.here hx rfl (hb hby at_130) rfl (flt (by decide : ¬ ((3 : Int32) < (3 : Int32)))).1 (XS.aload X238.here hx rfl (hb hby at_133) rfl rfl  (XS.iconst X238.here hx rfl (hb hby at_135) k))) ?_
    show own_Fin p e below _ (T238.setTop (mkF m 136 #[.val (.int p1), .val (.int p2), .val (.int p3), .val (.int p4), .val (.int p5), .val (.int (3 : Int32)), .val (.ref b190), .val (.ref b216), .unset, .unset, .unset] [(.int (2 : Int32)), (.ref b190)]))
    obtain ⟨cl245, Ar245, q245, S245, M245, H245, G245⟩ := (id f240)
    have hin245 : ¬ ((2 : Int32) < 0 ∨ cl245.slots.size ≤ ((2 : Int32)).toNatClampNeg) := inb_of S245 ⟨by decide, by decide⟩
    have hat245 : cl245.slots[((2 : Int32)).toNatClampNeg]? = some (.int D2) := H245.at hin245 rfl
    refine own_go (fun t k => X238.baloadBytes hx (j := (2 : Int32)) (v := (.int D2)) (by rw [e238]; exact Ar245.1) (State.isArrayOf_alike hZ.alike Ar245.2.1) Ar245.2.2 hin245 hat245 (g := (mkF m 136 #[.val (.int p1), .val (.int p2), .val (.int p3), .val (.int p4), .val (.int p5), .val (.int (3 : Int32)), .val (.ref b190), .val (.ref b216), .unset, .unset, .unset] [(.int (2 : Int32)), (.ref b190)])) rfl rfl (hb hby at_136) _ (XS.iconst X238.here hx rfl (hb hby at_137) k)) ?_
    show own_Fin p e below _ (T238.setTop (mkF m 138 #[.val (.int p1), .val (.int p2), .val (.int p3), .val (.int p4), .val (.int p5), .val (.int (3 : Int32)), .val (.ref b190), .val (.ref b216), .unset, .unset, .unset] [(.int (-1 : Int32)), (.int D2)]))
    by_cases hc246 : D2 = (-1 : Int32)
    · skip
      refine own_go (fun t k => XS.icmpYes X238.here hx rfl (pc0 := 138) (pc' := 147) rfl (hb hby at_138) rfl (teq hc246).1 (by decide) (by decide) (XS.iload X238.here hx rfl (hb hby at_147) rfl  (XS.iconst X238.here hx rfl (hb hby at_149) k))) ?_
      show own_Fin p e below _ (T238.setTop (mkF m 150 #[.val (.int p1), .val (.int p2), .val (.int p3), .val (.int p4), .val (.int p5), .val (.int (3 : Int32)), .val (.ref b190), .val (.ref b216), .unset, .unset, .unset] [(.int (2 : Int32)), (.int (3 : Int32))]))
      refine own_go (fun t k => XS.icmpNo X238.here hx rfl (hb hby at_150) rfl (flt (by decide : ¬ ((3 : Int32) < (2 : Int32)))).1 (XS.aload X238.here hx rfl (hb hby at_153) rfl rfl  (XS.iconst X238.here hx rfl (hb hby at_155) k))) ?_
      show own_Fin p e below _ (T238.setTop (mkF m 156 #[.val (.int p1), .val (.int p2), .val (.int p3), .val (.int p4), .val (.int p5), .val (.int (3 : Int32)), .val (.ref b190), .val (.ref b216), .unset, .unset, .unset] [(.int (1 : Int32)), (.ref b190)]))
      obtain ⟨cl247, Ar247, q247, S247, M247, H247, G247⟩ := (id f240)
      have hin247 : ¬ ((1 : Int32) < 0 ∨ cl247.slots.size ≤ ((1 : Int32)).toNatClampNeg) := inb_of S247 ⟨by decide, by decide⟩
      have hat247 : cl247.slots[((1 : Int32)).toNatClampNeg]? = some (.int D1) := H247.at hin247 rfl
      refine own_go (fun t k => X238.baloadBytes hx (j := (1 : Int32)) (v := (.int D1)) (by rw [e238]; exact Ar247.1) (State.isArrayOf_alike hZ.alike Ar247.2.1) Ar247.2.2 hin247 hat247 (g := (mkF m 156 #[.val (.int p1), .val (.int p2), .val (.int p3), .val (.int p4), .val (.int p5), .val (.int (3 : Int32)), .val (.ref b190), .val (.ref b216), .unset, .unset, .unset] [(.int (1 : Int32)), (.ref b190)])) rfl rfl (hb hby at_156) _ (XS.iconst X238.here hx rfl (hb hby at_157) k)) ?_
      show own_Fin p e below _ (T238.setTop (mkF m 158 #[.val (.int p1), .val (.int p2), .val (.int p3), .val (.int p4), .val (.int p5), .val (.int (3 : Int32)), .val (.ref b190), .val (.ref b216), .unset, .unset, .unset] [(.int (-1 : Int32)), (.int D1)]))
      by_cases hc248 : D1 = (-1 : Int32)
      · skip
        refine own_go (fun t k => XS.icmpYes X238.here hx rfl (pc0 := 158) (pc' := 167) rfl (hb hby at_158) rfl (teq hc248).1 (by decide) (by decide) (XS.iload X238.here hx rfl (hb hby at_167) rfl  (XS.iconst X238.here hx rfl (hb hby at_169) k))) ?_
        show own_Fin p e below _ (T238.setTop (mkF m 170 #[.val (.int p1), .val (.int p2), .val (.int p3), .val (.int p4), .val (.int p5), .val (.int (3 : Int32)), .val (.ref b190), .val (.ref b216), .unset, .unset, .unset] [(.int (1 : Int32)), (.int (3 : Int32))]))
        refine own_go (fun t k => XS.icmpNo X238.here hx rfl (hb hby at_170) rfl (flt (by decide : ¬ ((3 : Int32) < (1 : Int32)))).1 (XS.aload X238.here hx rfl (hb hby at_173) rfl rfl  (XS.iconst X238.here hx rfl (hb hby at_175) k))) ?_
        show own_Fin p e below _ (T238.setTop (mkF m 176 #[.val (.int p1), .val (.int p2), .val (.int p3), .val (.int p4), .val (.int p5), .val (.int (3 : Int32)), .val (.ref b190), .val (.ref b216), .unset, .unset, .unset] [(.int (0 : Int32)), (.ref b190)]))
        obtain ⟨cl249, Ar249, q249, S249, M249, H249, G249⟩ := (id f240)
        have hin249 : ¬ ((0 : Int32) < 0 ∨ cl249.slots.size ≤ ((0 : Int32)).toNatClampNeg) := inb_of S249 ⟨by decide, by decide⟩
        have hat249 : cl249.slots[((0 : Int32)).toNatClampNeg]? = some (.int D0) := H249.at hin249 rfl
        refine own_go (fun t k => X238.baloadBytes hx (j := (0 : Int32)) (v := (.int D0)) (by rw [e238]; exact Ar249.1) (State.isArrayOf_alike hZ.alike Ar249.2.1) Ar249.2.2 hin249 hat249 (g := (mkF m 176 #[.val (.int p1), .val (.int p2), .val (.int p3), .val (.int p4), .val (.int p5), .val (.int (3 : Int32)), .val (.ref b190), .val (.ref b216), .unset, .unset, .unset] [(.int (0 : Int32)), (.ref b190)])) rfl rfl (hb hby at_176) _ (XS.iconst X238.here hx rfl (hb hby at_177) k)) ?_
        show own_Fin p e below _ (T238.setTop (mkF m 178 #[.val (.int p1), .val (.int p2), .val (.int p3), .val (.int p4), .val (.int p5), .val (.int (3 : Int32)), .val (.ref b190), .val (.ref b216), .unset, .unset, .unset] [(.int (-1 : Int32)), (.int D0)]))
        by_cases hc250 : D0 = (-1 : Int32)
        · skip
          refine own_go (fun t k => XS.icmpYes X238.here hx rfl (pc0 := 178) (pc' := 187) rfl (hb hby at_178) rfl (teq hc250).1 (by decide) (by decide) (XS.iconst X238.here hx rfl (hb hby at_187) (XS.istore X238.here hx rfl (hb hby at_188) rfl (l' := #[.val (.int p1), .val (.int p2), .val (.int p3), .val (.int p4), .val (.int p5), .val (.int (3 : Int32)), .val (.ref b190), .val (.ref b216), .val (.int (0 : Int32)), .unset, .unset]) rfl (XS.aload X238.here hx rfl (hb hby at_190) rfl rfl  k)))) ?_
          show own_Fin p e below _ (T238.setTop (mkF m 192 #[.val (.int p1), .val (.int p2), .val (.int p3), .val (.int p4), .val (.int p5), .val (.int (3 : Int32)), .val (.ref b190), .val (.ref b216), .val (.int (0 : Int32)), .unset, .unset] [(.ref b216)]))
          obtain ⟨_, _, ⟨T251, L251, k251, n251⟩, -, X251, ⟨Lc251, hQ251, l251, y251, z251⟩, st251⟩ := Jvm.LawKit.callS X238 hx (y := (⟨"com/example/keyslice/keyslice/storage/KeyRange", "after", "([B)[B"⟩ : MethodName)) hown (mvT hZ hw_6) (mvT hZ hw_7) (mvT hZ hw_8) (mvT hZ hw_9) (by decide) (backOf (W := 0) (rm2r30 l Z a0 hw [] (b216) k216 (D0) (D1) (D2) h238 n0 Zh244 f243 f241 hc246 hc248 hc250) hZ hw_9 hw_8 (by decide) (by decide)) (g := (mkF m 192 #[.val (.int p1), .val (.int p2), .val (.int p3), .val (.int p4), .val (.int p5), .val (.int (3 : Int32)), .val (.ref b190), .val (.ref b216), .val (.int (0 : Int32)), .unset, .unset] [(.ref b216)])) rfl (by rw [hml]; rfl) (argsL := [(.ref b216)]) (rest := []) (lenOf pd_3 rfl) rfl (by show 2 * 0 + _ ≤ _; exact Nat.le_of_eq rfl) (hb hby at_192) (fun _ _ => ⟨rfl, e238, (by decide : 2 + 0 ≤ _), (by decide : 7 + 0 ≤ _)⟩)
          dsimp only [Pt.U, Pt.locs, Pt.cells, Pt.slots] at X251 l251 y251 z251 st251 hQ251
          subst l251 y251 z251
          obtain ⟨rfl, N251q, e251⟩ := hQ251
          have N251 := Fr.app N238 N251q
          refine own_go st251 ?_
          show own_Fin p e below _ (T251.setTop (mkF m 195 #[.val (.int p1), .val (.int p2), .val (.int p3), .val (.int p4), .val (.int p5), .val (.int (3 : Int32)), .val (.ref b190), .val (.ref b216), .val (.int (0 : Int32)), .unset, .unset] [.null]))
          refine own_go (fun t k => XS.astore X251.here hx rfl (hb hby at_195) rfl rfl (l' := #[.val (.int p1), .val (.int p2), .val (.int p3), .val (.int p4), .val (.int p5), .val (.int (3 : Int32)), .val (.ref b190), .val (.ref b216), .val (.int (0 : Int32)), .val .null, .unset]) rfl (XS.aload X251.here hx rfl (hb hby at_197) rfl rfl  (XS.aload X251.here hx rfl (hb hby at_199) rfl rfl  (XS.iconst X251.here hx rfl (hb hby at_201) (XS.iload X251.here hx rfl (hb hby at_202) rfl  k))))) ?_
          show own_Fin p e below _ (T251.setTop (mkF m 204 #[.val (.int p1), .val (.int p2), .val (.int p3), .val (.int p4), .val (.int p5), .val (.int (3 : Int32)), .val (.ref b190), .val (.ref b216), .val (.int (0 : Int32)), .val .null, .unset] [(.int (3 : Int32)), (.int (0 : Int32)), (.ref b190), (.ref b216)]))
          obtain ⟨_, _, ⟨T252, L252, k252, n252⟩, -, X252, ⟨Lc252, hQ252, l252, y252, z252⟩, st252⟩ := Jvm.LawKit.callS X251 hx (y := (⟨"com/example/keyslice/keyslice/storage/KeyRangeAfterPinLaw", "held", "([B[BII)Z"⟩ : MethodName)) hown (mvT hZ hw_10) (mvT hZ hw_11) (mvT hZ hw_4) (mvT hZ hw_12) (by decide) (backOf (W := 0) (rm3h03 l Z a0 hw [] (b216) (b190) k216 k190 (D0) (D1) (D2) (D3) h238 n0 Zh244 f243 f240) hZ hw_12 hw_4 (by decide) (by decide)) (g := (mkF m 204 #[.val (.int p1), .val (.int p2), .val (.int p3), .val (.int p4), .val (.int p5), .val (.int (3 : Int32)), .val (.ref b190), .val (.ref b216), .val (.int (0 : Int32)), .val .null, .unset] [(.int (3 : Int32)), (.int (0 : Int32)), (.ref b190), (.ref b216)])) rfl (by rw [hml]; rfl) (argsL := [(.ref b216), (.ref b190), (.int (0 : Int32)), (.int (3 : Int32))]) (rest := []) (lenOf pd_4 rfl) rfl (by show 2 * 0 + _ ≤ _; exact Nat.le_of_eq rfl) (hb hby at_204) (fun _ _ => ⟨rfl, e251, (by decide : 2 + 0 ≤ _), (by decide : 7 + 0 ≤ _)⟩)
          dsimp only [Pt.U, Pt.locs, Pt.cells, Pt.slots] at X252 l252 y252 z252 st252 hQ252
          subst l252 y252 z252
          obtain ⟨rfl, N252q, e252⟩ := hQ252
          have N252 := Fr.app N251 N252q
          refine own_go st252 ?_
          show own_Fin p e below _ (T252.setTop (mkF m 207 #[.val (.int p1), .val (.int p2), .val (.int p3), .val (.int p4), .val (.int p5), .val (.int (3 : Int32)), .val (.ref b190), .val (.ref b216), .val (.int (0 : Int32)), .val .null, .unset] [(.int (1 : Int32))]))
          refine own_go (fun t k => XS.ifNo X252.here hx rfl (hb hby at_207) rfl ((if0 _ _).trans (feq (by decide : ¬ ((1 : Int32) = (0 : Int32)))).1) (XS.aload X252.here hx rfl (hb hby at_210) rfl rfl  (XS.aload X252.here hx rfl (hb hby at_212) rfl rfl  (XS.iconst X252.here hx rfl (hb hby at_214) (XS.iload X252.here hx rfl (hb hby at_215) rfl  k))))) ?_
          show own_Fin p e below _ (T252.setTop (mkF m 217 #[.val (.int p1), .val (.int p2), .val (.int p3), .val (.int p4), .val (.int p5), .val (.int (3 : Int32)), .val (.ref b190), .val (.ref b216), .val (.int (0 : Int32)), .val .null, .unset] [(.int (3 : Int32)), (.int (1 : Int32)), (.ref b190), (.ref b216)]))
          obtain ⟨_, _, ⟨T253, L253, k253, n253⟩, -, X253, ⟨Lc253, hQ253, l253, y253, z253⟩, st253⟩ := Jvm.LawKit.callS X252 hx (y := (⟨"com/example/keyslice/keyslice/storage/KeyRangeAfterPinLaw", "held", "([B[BII)Z"⟩ : MethodName)) hown (mvT hZ hw_10) (mvT hZ hw_11) (mvT hZ hw_4) (mvT hZ hw_12) (by decide) (backOf (W := 0) (rm3h13 l Z a0 hw [] (b216) (b190) k216 k190 (D0) (D1) (D2) (D3) h238 n0 Zh244 f243 f240) hZ hw_12 hw_4 (by decide) (by decide)) (g := (mkF m 217 #[.val (.int p1), .val (.int p2), .val (.int p3), .val (.int p4), .val (.int p5), .val (.int (3 : Int32)), .val (.ref b190), .val (.ref b216), .val (.int (0 : Int32)), .val .null, .unset] [(.int (3 : Int32)), (.int (1 : Int32)), (.ref b190), (.ref b216)])) rfl (by rw [hml]; rfl) (argsL := [(.ref b216), (.ref b190), (.int (1 : Int32)), (.int (3 : Int32))]) (rest := []) (lenOf pd_4 rfl) rfl (by show 2 * 0 + _ ≤ _; exact Nat.le_of_eq rfl) (hb hby at_217) (fun _ _ => ⟨rfl, e252, (by decide : 2 + 0 ≤ _), (by decide : 7 + 0 ≤ _)⟩)
          dsimp only [Pt.U, Pt.locs, Pt.cells, Pt.slots] at X253 l253 y253 z253 st253 hQ253
          subst l253 y253 z253
          obtain ⟨rfl, N253q, e253⟩ := hQ253
          have N253 := Fr.app N252 N253q
          refine own_go st253 ?_
          show own_Fin p e below _ (T253.setTop (mkF m 220 #[.val (.int p1), .val (.int p2), .val (.int p3), .val (.int p4), .val (.int p5), .val (.int (3 : Int32)), .val (.ref b190), .val (.ref b216), .val (.int (0 : Int32)), .val .null, .unset] [(.int (1 : Int32))]))
          refine own_go (fun t k => XS.ifNo X253.here hx rfl (hb hby at_220) rfl ((if0 _ _).trans (feq (by decide : ¬ ((1 : Int32) = (0 : Int32)))).1) (XS.aload X253.here hx rfl (hb hby at_223) rfl rfl  (XS.aload X253.here hx rfl (hb hby at_225) rfl rfl  (XS.iconst X253.here hx rfl (hb hby at_227) (XS.iload X253.here hx rfl (hb hby at_228) rfl  k))))) ?_
          show own_Fin p e below _ (T253.setTop (mkF m 230 #[.val (.int p1), .val (.int p2), .val (.int p3), .val (.int p4), .val (.int p5), .val (.int (3 : Int32)), .val (.ref b190), .val (.ref b216), .val (.int (0 : Int32)), .val .null, .unset] [(.int (3 : Int32)), (.int (2 : Int32)), (.ref b190), (.ref b216)]))
          obtain ⟨_, _, ⟨T254, L254, k254, n254⟩, -, X254, ⟨Lc254, hQ254, l254, y254, z254⟩, st254⟩ := Jvm.LawKit.callS X253 hx (y := (⟨"com/example/keyslice/keyslice/storage/KeyRangeAfterPinLaw", "held", "([B[BII)Z"⟩ : MethodName)) hown (mvT hZ hw_10) (mvT hZ hw_11) (mvT hZ hw_4) (mvT hZ hw_12) (by decide) (backOf (W := 0) (rm3h23 l Z a0 hw [] (b216) (b190) k216 k190 (D0) (D1) (D2) (D3) h238 n0 Zh244 f243 f240) hZ hw_12 hw_4 (by decide) (by decide)) (g := (mkF m 230 #[.val (.int p1), .val (.int p2), .val (.int p3), .val (.int p4), .val (.int p5), .val (.int (3 : Int32)), .val (.ref b190), .val (.ref b216), .val (.int (0 : Int32)), .val .null, .unset] [(.int (3 : Int32)), (.int (2 : Int32)), (.ref b190), (.ref b216)])) rfl (by rw [hml]; rfl) (argsL := [(.ref b216), (.ref b190), (.int (2 : Int32)), (.int (3 : Int32))]) (rest := []) (lenOf pd_4 rfl) rfl (by show 2 * 0 + _ ≤ _; exact Nat.le_of_eq rfl) (hb hby at_230) (fun _ _ => ⟨rfl, e253, (by decide : 2 + 0 ≤ _), (by decide : 7 + 0 ≤ _)⟩)
          dsimp only [Pt.U, Pt.locs, Pt.cells, Pt.slots] at X254 l254 y254 z254 st254 hQ254
          subst l254 y254 z254
          obtain ⟨rfl, N254q, e254⟩ := hQ254
          have N254 := Fr.app N253 N254q
          refine own_go st254 ?_
          show own_Fin p e below _ (T254.setTop (mkF m 233 #[.val (.int p1), .val (.int p2), .val (.int p3), .val (.int p4), .val (.int p5), .val (.int (3 : Int32)), .val (.ref b190), .val (.ref b216), .val (.int (0 : Int32)), .val .null, .unset] [(.int (1 : Int32))]))
          refine own_go (fun t k => XS.ifNo X254.here hx rfl (hb hby at_233) rfl ((if0 _ _).trans (feq (by decide : ¬ ((1 : Int32) = (0 : Int32)))).1) (XS.aload X254.here hx rfl (hb hby at_236) rfl rfl  (XS.aload X254.here hx rfl (hb hby at_238) rfl rfl  (XS.iconst X254.here hx rfl (hb hby at_240) (XS.iload X254.here hx rfl (hb hby at_241) rfl  k))))) ?_
          show own_Fin p e below _ (T254.setTop (mkF m 243 #[.val (.int p1), .val (.int p2), .val (.int p3), .val (.int p4), .val (.int p5), .val (.int (3 : Int32)), .val (.ref b190), .val (.ref b216), .val (.int (0 : Int32)), .val .null, .unset] [(.int (3 : Int32)), (.int (3 : Int32)), (.ref b190), (.ref b216)]))
          obtain ⟨_, _, ⟨T255, L255, k255, n255⟩, -, X255, ⟨Lc255, hQ255, l255, y255, z255⟩, st255⟩ := Jvm.LawKit.callS X254 hx (y := (⟨"com/example/keyslice/keyslice/storage/KeyRangeAfterPinLaw", "held", "([B[BII)Z"⟩ : MethodName)) hown (mvT hZ hw_10) (mvT hZ hw_11) (mvT hZ hw_4) (mvT hZ hw_12) (by decide) (backOf (W := 0) (rm3h33 l Z a0 hw [] (b216) (b190) k216 k190 (D0) (D1) (D2) (D3) h238 n0 Zh244 f243 f240) hZ hw_12 hw_4 (by decide) (by decide)) (g := (mkF m 243 #[.val (.int p1), .val (.int p2), .val (.int p3), .val (.int p4), .val (.int p5), .val (.int (3 : Int32)), .val (.ref b190), .val (.ref b216), .val (.int (0 : Int32)), .val .null, .unset] [(.int (3 : Int32)), (.int (3 : Int32)), (.ref b190), (.ref b216)])) rfl (by rw [hml]; rfl) (argsL := [(.ref b216), (.ref b190), (.int (3 : Int32)), (.int (3 : Int32))]) (rest := []) (lenOf pd_4 rfl) rfl (by show 2 * 0 + _ ≤ _; exact Nat.le_of_eq rfl) (hb hby at_243) (fun _ _ => ⟨rfl, e254, (by decide : 2 + 0 ≤ _), (by decide : 7 + 0 ≤ _)⟩)
          dsimp only [Pt.U, Pt.locs, Pt.cells, Pt.slots] at X255 l255 y255 z255 st255 hQ255
          subst l255 y255 z255
          obtain ⟨rfl, N255q, e255⟩ := hQ255
          have N255 := Fr.app N254 N255q
          refine own_go st255 ?_
          show own_Fin p e below _ (T255.setTop (mkF m 246 #[.val (.int p1), .val (.int p2), .val (.int p3), .val (.int p4), .val (.int p5), .val (.int (3 : Int32)), .val (.ref b190), .val (.ref b216), .val (.int (0 : Int32)), .val .null, .unset] [(.int (1 : Int32))]))
          refine own_go (fun t k => XS.ifNo X255.here hx rfl (hb hby at_246) rfl ((if0 _ _).trans (feq (by decide : ¬ ((1 : Int32) = (0 : Int32)))).1) (XS.iconst X255.here hx rfl (hb hby at_249) (XS.goto X255.here hx rfl (pc0 := 250) (pc' := 254) rfl (hb hby at_250) (by decide) (by decide) (XS.istore X255.here hx rfl (hb hby at_254) rfl (l' := #[.val (.int p1), .val (.int p2), .val (.int p3), .val (.int p4), .val (.int p5), .val (.int (3 : Int32)), .val (.ref b190), .val (.ref b216), .val (.int (0 : Int32)), .val .null, .val (.int (1 : Int32))]) rfl (XS.iload X255.here hx rfl (hb hby at_256) rfl  k))))) ?_
          show own_Fin p e below _ (T255.setTop (mkF m 258 #[.val (.int p1), .val (.int p2), .val (.int p3), .val (.int p4), .val (.int p5), .val (.int (3 : Int32)), .val (.ref b190), .val (.ref b216), .val (.int (0 : Int32)), .val .null, .val (.int (1 : Int32))] [(.int (0 : Int32))]))
          refine own_go (fun t k => XS.ifNo X255.here hx rfl (hb hby at_258) rfl ((if0 _ _).trans (teq (by decide : (0 : Int32) = (0 : Int32))).2) (XS.aload X255.here hx rfl (hb hby at_261) rfl rfl  k)) ?_
          show own_Fin p e below _ (T255.setTop (mkF m 263 #[.val (.int p1), .val (.int p2), .val (.int p3), .val (.int p4), .val (.int p5), .val (.int (3 : Int32)), .val (.ref b190), .val (.ref b216), .val (.int (0 : Int32)), .val .null, .val (.int (1 : Int32))] [.null]))
          refine own_go (fun t k => XS.ifnonnullNo X255.here hx rfl (hb hby at_263) rfl (XS.iload X255.here hx rfl (hb hby at_266) rfl  k)) ?_
          show own_Fin p e below _ (T255.setTop (mkF m 268 #[.val (.int p1), .val (.int p2), .val (.int p3), .val (.int p4), .val (.int p5), .val (.int (3 : Int32)), .val (.ref b190), .val (.ref b216), .val (.int (0 : Int32)), .val .null, .val (.int (1 : Int32))] [(.int (1 : Int32))]))
          refine own_go (fun t k => XS.ifNo X255.here hx rfl (hb hby at_268) rfl ((if0 _ _).trans (feq (by decide : ¬ ((1 : Int32) = (0 : Int32)))).1) (XS.iconst X255.here hx rfl (hb hby at_271) (XS.goto X255.here hx rfl (pc0 := 272) (pc' := 276) rfl (hb hby at_272) (by decide) (by decide) k))) ?_
          show own_Fin p e below _ (T255.setTop (mkF m 276 #[.val (.int p1), .val (.int p2), .val (.int p3), .val (.int p4), .val (.int p5), .val (.int (3 : Int32)), .val (.ref b190), .val (.ref b216), .val (.int (0 : Int32)), .val .null, .val (.int (1 : Int32))] [(.int (1 : Int32))]))
          exact own_out X255 (fun h => by rw [Bd.returns] at h; cases h) Bd.notSynchronized (fun fs hr => retN X255 hx (t := .boolean) Bd.returns (by simp) (hb hby at_276) hr) ⟨rfl, N255⟩ (by decide) (by decide)
        · skip
          refine own_go (fun t k => XS.icmpNo X238.here hx rfl (hb hby at_178) rfl (feq hc250).1 (XS.iconst X238.here hx rfl (hb hby at_181) (XS.istore X238.here hx rfl (hb hby at_182) rfl (l' := #[.val (.int p1), .val (.int p2), .val (.int p3), .val (.int p4), .val (.int p5), .val (.int (3 : Int32)), .val (.ref b190), .val (.ref b216), .val (.int (1 : Int32)), .unset, .unset]) rfl (XS.goto X238.here hx rfl (pc0 := 184) (pc' := 190) rfl (hb hby at_184) (by decide) (by decide) (XS.aload X238.here hx rfl (hb hby at_190) rfl rfl  k))))) ?_
          show own_Fin p e below _ (T238.setTop (mkF m 192 #[.val (.int p1), .val (.int p2), .val (.int p3), .val (.int p4), .val (.int p5), .val (.int (3 : Int32)), .val (.ref b190), .val (.ref b216), .val (.int (1 : Int32)), .unset, .unset] [(.ref b216)]))
          obtain ⟨_, _, ⟨T256, L256, k256, n256⟩, -, X256, ⟨Lc256, hQ256, l256, y256, z256⟩, st256⟩ := Jvm.LawKit.callS X238 hx (y := (⟨"com/example/keyslice/keyslice/storage/KeyRange", "after", "([B)[B"⟩ : MethodName)) hown (mvT hZ hw_6) (mvT hZ hw_7) (mvT hZ hw_8) (mvT hZ hw_9) (by decide) (backOf (W := 0) (rm2r31 l Z a0 hw [] (b216) k216 (D0) (D1) (D2) h238 n0 Zh244 f243 f241 hc246 hc248 hc250) hZ hw_9 hw_8 (by decide) (by decide)) (g := (mkF m 192 #[.val (.int p1), .val (.int p2), .val (.int p3), .val (.int p4), .val (.int p5), .val (.int (3 : Int32)), .val (.ref b190), .val (.ref b216), .val (.int (1 : Int32)), .unset, .unset] [(.ref b216)])) rfl (by rw [hml]; rfl) (argsL := [(.ref b216)]) (rest := []) (lenOf pd_3 rfl) rfl (by show 2 * 0 + _ ≤ _; exact Nat.le_of_eq rfl) (hb hby at_192) (fun _ _ => ⟨rfl, e238, (by decide : 2 + 1 ≤ _), (by decide : 7 + 1 ≤ _)⟩)
          dsimp only [Pt.U, Pt.locs, Pt.cells, Pt.slots] at X256 l256 y256 z256 st256 hQ256
          subst l256 y256 z256
          obtain ⟨b256, k256, rfl, N256q, sz256, K256, V256⟩ := hQ256
          have N256 := Fr.app N238 N256q
          have g_b256 : n0 ≤ b256 := Nat.le_trans Zh244 sz256
          have ne257 : b190 ≠ b256 := Nat.ne_of_lt (Nat.lt_of_lt_of_le f239.lt sz256)
          have ne258 : b216 ≠ b256 := Nat.ne_of_lt (Nat.lt_of_lt_of_le f241.lt sz256)
          have E256 : Ext _ _ := ⟨K256.1, fun a c q => K256.2.1 a c q nin0⟩
          have f259 := f239.ext E256
          have f260 := f240.ext E256
          have f261 := f241.ext E256
          have f262 := f243.ext E256
          have Zh263 : n0 ≤ T256.heap.size := Nat.le_trans Zh244 K256.1
          refine own_go st256 ?_
          show own_Fin p e below _ (T256.setTop (mkF m 195 #[.val (.int p1), .val (.int p2), .val (.int p3), .val (.int p4), .val (.int p5), .val (.int (3 : Int32)), .val (.ref b190), .val (.ref b216), .val (.int (1 : Int32)), .unset, .unset] [(.ref b256)]))
          refine own_go (fun t k => XS.astore X256.here hx rfl (hb hby at_195) rfl rfl (l' := #[.val (.int p1), .val (.int p2), .val (.int p3), .val (.int p4), .val (.int p5), .val (.int (3 : Int32)), .val (.ref b190), .val (.ref b216), .val (.int (1 : Int32)), .val (.ref b256), .unset]) rfl (XS.aload X256.here hx rfl (hb hby at_197) rfl rfl  (XS.aload X256.here hx rfl (hb hby at_199) rfl rfl  (XS.iconst X256.here hx rfl (hb hby at_201) (XS.iload X256.here hx rfl (hb hby at_202) rfl  k))))) ?_
          show own_Fin p e below _ (T256.setTop (mkF m 204 #[.val (.int p1), .val (.int p2), .val (.int p3), .val (.int p4), .val (.int p5), .val (.int (3 : Int32)), .val (.ref b190), .val (.ref b216), .val (.int (1 : Int32)), .val (.ref b256), .unset] [(.int (3 : Int32)), (.int (0 : Int32)), (.ref b190), (.ref b216)]))
          obtain ⟨_, _, ⟨T264, L264, k264, n264⟩, -, X264, ⟨Lc264, hQ264, l264, y264, z264⟩, st264⟩ := Jvm.LawKit.callS X256 hx (y := (⟨"com/example/keyslice/keyslice/storage/KeyRangeAfterPinLaw", "held", "([B[BII)Z"⟩ : MethodName)) hown (mvT hZ hw_10) (mvT hZ hw_11) (mvT hZ hw_4) (mvT hZ hw_12) (by decide) (backOf (W := 0) (rm3h03 l Z a0 hw [] (b216) (b190) k216 k190 (D0) (D1) (D2) (D3) T256.heap n0 Zh263 f262 f260) hZ hw_12 hw_4 (by decide) (by decide)) (g := (mkF m 204 #[.val (.int p1), .val (.int p2), .val (.int p3), .val (.int p4), .val (.int p5), .val (.int (3 : Int32)), .val (.ref b190), .val (.ref b216), .val (.int (1 : Int32)), .val (.ref b256), .unset] [(.int (3 : Int32)), (.int (0 : Int32)), (.ref b190), (.ref b216)])) rfl (by rw [hml]; rfl) (argsL := [(.ref b216), (.ref b190), (.int (0 : Int32)), (.int (3 : Int32))]) (rest := []) (lenOf pd_4 rfl) rfl (by show 2 * 0 + _ ≤ _; exact Nat.le_of_eq rfl) (hb hby at_204) (fun _ _ => ⟨rfl, rfl, (by decide : 3 + 0 ≤ _), (by decide : 8 + 0 ≤ _)⟩)
          dsimp only [Pt.U, Pt.locs, Pt.cells, Pt.slots] at X264 l264 y264 z264 st264 hQ264
          subst l264 y264 z264
          obtain ⟨rfl, N264q, e264⟩ := hQ264
          have N264 := Fr.app N256 N264q
          refine own_go st264 ?_
          show own_Fin p e below _ (T264.setTop (mkF m 207 #[.val (.int p1), .val (.int p2), .val (.int p3), .val (.int p4), .val (.int p5), .val (.int (3 : Int32)), .val (.ref b190), .val (.ref b216), .val (.int (1 : Int32)), .val (.ref b256), .unset] [(.int (1 : Int32))]))
          refine own_go (fun t k => XS.ifNo X264.here hx rfl (hb hby at_207) rfl ((if0 _ _).trans (feq (by decide : ¬ ((1 : Int32) = (0 : Int32)))).1) (XS.aload X264.here hx rfl (hb hby at_210) rfl rfl  (XS.aload X264.here hx rfl (hb hby at_212) rfl rfl  (XS.iconst X264.here hx rfl (hb hby at_214) (XS.iload X264.here hx rfl (hb hby at_215) rfl  k))))) ?_
          show own_Fin p e below _ (T264.setTop (mkF m 217 #[.val (.int p1), .val (.int p2), .val (.int p3), .val (.int p4), .val (.int p5), .val (.int (3 : Int32)), .val (.ref b190), .val (.ref b216), .val (.int (1 : Int32)), .val (.ref b256), .unset] [(.int (3 : Int32)), (.int (1 : Int32)), (.ref b190), (.ref b216)]))
          obtain ⟨_, _, ⟨T265, L265, k265, n265⟩, -, X265, ⟨Lc265, hQ265, l265, y265, z265⟩, st265⟩ := Jvm.LawKit.callS X264 hx (y := (⟨"com/example/keyslice/keyslice/storage/KeyRangeAfterPinLaw", "held", "([B[BII)Z"⟩ : MethodName)) hown (mvT hZ hw_10) (mvT hZ hw_11) (mvT hZ hw_4) (mvT hZ hw_12) (by decide) (backOf (W := 0) (rm3h13 l Z a0 hw [] (b216) (b190) k216 k190 (D0) (D1) (D2) (D3) T256.heap n0 Zh263 f262 f260) hZ hw_12 hw_4 (by decide) (by decide)) (g := (mkF m 217 #[.val (.int p1), .val (.int p2), .val (.int p3), .val (.int p4), .val (.int p5), .val (.int (3 : Int32)), .val (.ref b190), .val (.ref b216), .val (.int (1 : Int32)), .val (.ref b256), .unset] [(.int (3 : Int32)), (.int (1 : Int32)), (.ref b190), (.ref b216)])) rfl (by rw [hml]; rfl) (argsL := [(.ref b216), (.ref b190), (.int (1 : Int32)), (.int (3 : Int32))]) (rest := []) (lenOf pd_4 rfl) rfl (by show 2 * 0 + _ ≤ _; exact Nat.le_of_eq rfl) (hb hby at_217) (fun _ _ => ⟨rfl, e264, (by decide : 3 + 0 ≤ _), (by decide : 8 + 0 ≤ _)⟩)
          dsimp only [Pt.U, Pt.locs, Pt.cells, Pt.slots] at X265 l265 y265 z265 st265 hQ265
          subst l265 y265 z265
          obtain ⟨rfl, N265q, e265⟩ := hQ265
          have N265 := Fr.app N264 N265q
          refine own_go st265 ?_
          show own_Fin p e below _ (T265.setTop (mkF m 220 #[.val (.int p1), .val (.int p2), .val (.int p3), .val (.int p4), .val (.int p5), .val (.int (3 : Int32)), .val (.ref b190), .val (.ref b216), .val (.int (1 : Int32)), .val (.ref b256), .unset] [(.int (1 : Int32))]))
          refine own_go (fun t k => XS.ifNo X265.here hx rfl (hb hby at_220) rfl ((if0 _ _).trans (feq (by decide : ¬ ((1 : Int32) = (0 : Int32)))).1) (XS.aload X265.here hx rfl (hb hby at_223) rfl rfl  (XS.aload X265.here hx rfl (hb hby at_225) rfl rfl  (XS.iconst X265.here hx rfl (hb hby at_227) (XS.iload X265.here hx rfl (hb hby at_228) rfl  k))))) ?_
          show own_Fin p e below _ (T265.setTop (mkF m 230 #[.val (.int p1), .val (.int p2), .val (.int p3), .val (.int p4), .val (.int p5), .val (.int (3 : Int32)), .val (.ref b190), .val (.ref b216), .val (.int (1 : Int32)), .val (.ref b256), .unset] [(.int (3 : Int32)), (.int (2 : Int32)), (.ref b190), (.ref b216)]))
          obtain ⟨_, _, ⟨T266, L266, k266, n266⟩, -, X266, ⟨Lc266, hQ266, l266, y266, z266⟩, st266⟩ := Jvm.LawKit.callS X265 hx (y := (⟨"com/example/keyslice/keyslice/storage/KeyRangeAfterPinLaw", "held", "([B[BII)Z"⟩ : MethodName)) hown (mvT hZ hw_10) (mvT hZ hw_11) (mvT hZ hw_4) (mvT hZ hw_12) (by decide) (backOf (W := 0) (rm3h23 l Z a0 hw [] (b216) (b190) k216 k190 (D0) (D1) (D2) (D3) T256.heap n0 Zh263 f262 f260) hZ hw_12 hw_4 (by decide) (by decide)) (g := (mkF m 230 #[.val (.int p1), .val (.int p2), .val (.int p3), .val (.int p4), .val (.int p5), .val (.int (3 : Int32)), .val (.ref b190), .val (.ref b216), .val (.int (1 : Int32)), .val (.ref b256), .unset] [(.int (3 : Int32)), (.int (2 : Int32)), (.ref b190), (.ref b216)])) rfl (by rw [hml]; rfl) (argsL := [(.ref b216), (.ref b190), (.int (2 : Int32)), (.int (3 : Int32))]) (rest := []) (lenOf pd_4 rfl) rfl (by show 2 * 0 + _ ≤ _; exact Nat.le_of_eq rfl) (hb hby at_230) (fun _ _ => ⟨rfl, e265, (by decide : 3 + 0 ≤ _), (by decide : 8 + 0 ≤ _)⟩)
          dsimp only [Pt.U, Pt.locs, Pt.cells, Pt.slots] at X266 l266 y266 z266 st266 hQ266
          subst l266 y266 z266
          obtain ⟨rfl, N266q, e266⟩ := hQ266
          have N266 := Fr.app N265 N266q
          refine own_go st266 ?_
          show own_Fin p e below _ (T266.setTop (mkF m 233 #[.val (.int p1), .val (.int p2), .val (.int p3), .val (.int p4), .val (.int p5), .val (.int (3 : Int32)), .val (.ref b190), .val (.ref b216), .val (.int (1 : Int32)), .val (.ref b256), .unset] [(.int (1 : Int32))]))
          refine own_go (fun t k => XS.ifNo X266.here hx rfl (hb hby at_233) rfl ((if0 _ _).trans (feq (by decide : ¬ ((1 : Int32) = (0 : Int32)))).1) (XS.aload X266.here hx rfl (hb hby at_236) rfl rfl  (XS.aload X266.here hx rfl (hb hby at_238) rfl rfl  (XS.iconst X266.here hx rfl (hb hby at_240) (XS.iload X266.here hx rfl (hb hby at_241) rfl  k))))) ?_
          show own_Fin p e below _ (T266.setTop (mkF m 243 #[.val (.int p1), .val (.int p2), .val (.int p3), .val (.int p4), .val (.int p5), .val (.int (3 : Int32)), .val (.ref b190), .val (.ref b216), .val (.int (1 : Int32)), .val (.ref b256), .unset] [(.int (3 : Int32)), (.int (3 : Int32)), (.ref b190), (.ref b216)]))
          obtain ⟨_, _, ⟨T267, L267, k267, n267⟩, -, X267, ⟨Lc267, hQ267, l267, y267, z267⟩, st267⟩ := Jvm.LawKit.callS X266 hx (y := (⟨"com/example/keyslice/keyslice/storage/KeyRangeAfterPinLaw", "held", "([B[BII)Z"⟩ : MethodName)) hown (mvT hZ hw_10) (mvT hZ hw_11) (mvT hZ hw_4) (mvT hZ hw_12) (by decide) (backOf (W := 0) (rm3h33 l Z a0 hw [] (b216) (b190) k216 k190 (D0) (D1) (D2) (D3) T256.heap n0 Zh263 f262 f260) hZ hw_12 hw_4 (by decide) (by decide)) (g := (mkF m 243 #[.val (.int p1), .val (.int p2), .val (.int p3), .val (.int p4), .val (.int p5), .val (.int (3 : Int32)), .val (.ref b190), .val (.ref b216), .val (.int (1 : Int32)), .val (.ref b256), .unset] [(.int (3 : Int32)), (.int (3 : Int32)), (.ref b190), (.ref b216)])) rfl (by rw [hml]; rfl) (argsL := [(.ref b216), (.ref b190), (.int (3 : Int32)), (.int (3 : Int32))]) (rest := []) (lenOf pd_4 rfl) rfl (by show 2 * 0 + _ ≤ _; exact Nat.le_of_eq rfl) (hb hby at_243) (fun _ _ => ⟨rfl, e266, (by decide : 3 + 0 ≤ _), (by decide : 8 + 0 ≤ _)⟩)
          dsimp only [Pt.U, Pt.locs, Pt.cells, Pt.slots] at X267 l267 y267 z267 st267 hQ267
          subst l267 y267 z267
          obtain ⟨rfl, N267q, e267⟩ := hQ267
          have N267 := Fr.app N266 N267q
          refine own_go st267 ?_
          show own_Fin p e below _ (T267.setTop (mkF m 246 #[.val (.int p1), .val (.int p2), .val (.int p3), .val (.int p4), .val (.int p5), .val (.int (3 : Int32)), .val (.ref b190), .val (.ref b216), .val (.int (1 : Int32)), .val (.ref b256), .unset] [(.int (1 : Int32))]))
          refine own_go (fun t k => XS.ifNo X267.here hx rfl (hb hby at_246) rfl ((if0 _ _).trans (feq (by decide : ¬ ((1 : Int32) = (0 : Int32)))).1) (XS.iconst X267.here hx rfl (hb hby at_249) (XS.goto X267.here hx rfl (pc0 := 250) (pc' := 254) rfl (hb hby at_250) (by decide) (by decide) (XS.istore X267.here hx rfl (hb hby at_254) rfl (l' := #[.val (.int p1), .val (.int p2), .val (.int p3), .val (.int p4), .val (.int p5), .val (.int (3 : Int32)), .val (.ref b190), .val (.ref b216), .val (.int (1 : Int32)), .val (.ref b256), .val (.int (1 : Int32))]) rfl (XS.iload X267.here hx rfl (hb hby at_256) rfl  k))))) ?_
          show own_Fin p e below _ (T267.setTop (mkF m 258 #[.val (.int p1), .val (.int p2), .val (.int p3), .val (.int p4), .val (.int p5), .val (.int (3 : Int32)), .val (.ref b190), .val (.ref b216), .val (.int (1 : Int32)), .val (.ref b256), .val (.int (1 : Int32))] [(.int (1 : Int32))]))
          refine own_go (fun t k => XS.ifYes X267.here hx rfl (pc0 := 258) (pc' := 277) rfl (hb hby at_258) rfl ((if0 _ _).trans (feq (by decide : ¬ ((1 : Int32) = (0 : Int32)))).2) (by decide) (by decide) (XS.aload X267.here hx rfl (hb hby at_277) rfl rfl  k)) ?_
          show own_Fin p e below _ (T267.setTop (mkF m 279 #[.val (.int p1), .val (.int p2), .val (.int p3), .val (.int p4), .val (.int p5), .val (.int (3 : Int32)), .val (.ref b190), .val (.ref b216), .val (.int (1 : Int32)), .val (.ref b256), .val (.int (1 : Int32))] [(.ref b256)]))
          refine own_go (fun t k => XS.ifnullNo X267.here hx rfl (hb hby at_279) rfl (XS.aload X267.here hx rfl (hb hby at_282) rfl rfl  (XS.aload X267.here hx rfl (hb hby at_284) rfl rfl  k))) ?_
          show own_Fin p e below _ (T267.setTop (mkF m 286 #[.val (.int p1), .val (.int p2), .val (.int p3), .val (.int p4), .val (.int p5), .val (.int (3 : Int32)), .val (.ref b190), .val (.ref b216), .val (.int (1 : Int32)), .val (.ref b256), .val (.int (1 : Int32))] [(.ref b216), (.ref b256)]))
          refine own_go (fun t k => Jvm.RoadKit.acmp (g := (mkF m 286 #[.val (.int p1), .val (.int p2), .val (.int p3), .val (.int p4), .val (.int p5), .val (.int (3 : Int32)), .val (.ref b190), .val (.ref b216), .val (.int (1 : Int32)), .val (.ref b256), .val (.int (1 : Int32))] [(.ref b216), (.ref b256)])) X267 hx rfl rfl rfl (pc0 := 286) (pc' := 289) (same := false) rfl (hb hby at_286) rfl (decide_eq_false fun q => (Ne.symm ne258) (Value.ref.inj q)) (by decide) (by decide) (XS.aload X267.here hx rfl (hb hby at_289) rfl rfl  k)) ?_
          show own_Fin p e below _ (T267.setTop (mkF m 291 #[.val (.int p1), .val (.int p2), .val (.int p3), .val (.int p4), .val (.int p5), .val (.int (3 : Int32)), .val (.ref b190), .val (.ref b216), .val (.int (1 : Int32)), .val (.ref b256), .val (.int (1 : Int32))] [(.ref b256)]))
          obtain ⟨cl268, Ar268, q268, S268, M268, H268, G268⟩ := (id V256)
          refine own_go (fun t k => X267.arraylength hx (by rw [e267]; exact Ar268.1) (State.isArrayOf_alike hZ.alike Ar268.2.1) (g := (mkF m 291 #[.val (.int p1), .val (.int p2), .val (.int p3), .val (.int p4), .val (.int p5), .val (.int (3 : Int32)), .val (.ref b190), .val (.ref b216), .val (.int (1 : Int32)), .val (.ref b256), .val (.int (1 : Int32))] [(.ref b256)])) rfl rfl (hb hby at_291) _ k) ?_
          rw [len_of S268 M268]
          show own_Fin p e below _ (T267.setTop (mkF m 292 #[.val (.int p1), .val (.int p2), .val (.int p3), .val (.int p4), .val (.int p5), .val (.int (3 : Int32)), .val (.ref b190), .val (.ref b216), .val (.int (1 : Int32)), .val (.ref b256), .val (.int (1 : Int32))] [(.int (1 : Int32))]))
          refine own_go (fun t k => XS.iload X267.here hx rfl (hb hby at_292) rfl  k) ?_
          show own_Fin p e below _ (T267.setTop (mkF m 294 #[.val (.int p1), .val (.int p2), .val (.int p3), .val (.int p4), .val (.int p5), .val (.int (3 : Int32)), .val (.ref b190), .val (.ref b216), .val (.int (1 : Int32)), .val (.ref b256), .val (.int (1 : Int32))] [(.int (1 : Int32)), (.int (1 : Int32))]))
          refine own_go (fun t k => XS.icmpYes X267.here hx rfl (pc0 := 294) (pc' := 299) rfl (hb hby at_294) rfl (teq (by decide : (1 : Int32) = (1 : Int32))).1 (by decide) (by decide) (XS.iload X267.here hx rfl (hb hby at_299) rfl  k)) ?_
          show own_Fin p e below _ (T267.setTop (mkF m 301 #[.val (.int p1), .val (.int p2), .val (.int p3), .val (.int p4), .val (.int p5), .val (.int (3 : Int32)), .val (.ref b190), .val (.ref b216), .val (.int (1 : Int32)), .val (.ref b256), .val (.int (1 : Int32))] [(.int (1 : Int32))]))
          refine own_go (fun t k => XS.ifNo X267.here hx rfl (hb hby at_301) rfl ((if0 _ _).trans (feq (by decide : ¬ ((1 : Int32) = (0 : Int32)))).1) (XS.aload X267.here hx rfl (hb hby at_304) rfl rfl  (XS.aload X267.here hx rfl (hb hby at_306) rfl rfl  (XS.iconst X267.here hx rfl (hb hby at_308) (XS.iload X267.here hx rfl (hb hby at_309) rfl  k))))) ?_
          show own_Fin p e below _ (T267.setTop (mkF m 311 #[.val (.int p1), .val (.int p2), .val (.int p3), .val (.int p4), .val (.int p5), .val (.int (3 : Int32)), .val (.ref b190), .val (.ref b216), .val (.int (1 : Int32)), .val (.ref b256), .val (.int (1 : Int32))] [(.int (1 : Int32)), (.int (0 : Int32)), (.ref b190), (.ref b256)]))
          obtain ⟨_, _, ⟨T269, L269, k269, n269⟩, -, X269, ⟨Lc269, hQ269, l269, y269, z269⟩, st269⟩ := Jvm.LawKit.callS X267 hx (y := (⟨"com/example/keyslice/keyslice/storage/KeyRangeAfterPinLaw", "slot", "([B[BII)Z"⟩ : MethodName)) hown (mvT hZ hw_26) (mvT hZ hw_27) (mvT hZ hw_4) (mvT hZ hw_28) (by decide) (backOf (W := 0) (rm5s01 l Z a0 hw [] (b256) (b190) k256 k190 (D0) (D1) (D2) (D3) T256.heap n0 Zh263 V256 f260) hZ hw_28 hw_4 (by decide) (by decide)) (g := (mkF m 311 #[.val (.int p1), .val (.int p2), .val (.int p3), .val (.int p4), .val (.int p5), .val (.int (3 : Int32)), .val (.ref b190), .val (.ref b216), .val (.int (1 : Int32)), .val (.ref b256), .val (.int (1 : Int32))] [(.int (1 : Int32)), (.int (0 : Int32)), (.ref b190), (.ref b256)])) rfl (by rw [hml]; rfl) (argsL := [(.ref b256), (.ref b190), (.int (0 : Int32)), (.int (1 : Int32))]) (rest := []) (lenOf pd_4 rfl) rfl (by show 2 * 0 + _ ≤ _; exact Nat.le_of_eq rfl) (hb hby at_311) (fun _ _ => ⟨rfl, e267, (by decide : 3 + 0 ≤ _), (by decide : 8 + 0 ≤ _)⟩)
          dsimp only [Pt.U, Pt.locs, Pt.cells, Pt.slots] at X269 l269 y269 z269 st269 hQ269
          subst l269 y269 z269
          obtain ⟨rfl, N269q, e269⟩ := hQ269
          have N269 := Fr.app N267 N269q
          refine own_go st269 ?_
          show own_Fin p e below _ (T269.setTop (mkF m 314 #[.val (.int p1), .val (.int p2), .val (.int p3), .val (.int p4), .val (.int p5), .val (.int (3 : Int32)), .val (.ref b190), .val (.ref b216), .val (.int (1 : Int32)), .val (.ref b256), .val (.int (1 : Int32))] [(.int (1 : Int32))]))
          refine own_go (fun t k => XS.ifNo X269.here hx rfl (hb hby at_314) rfl ((if0 _ _).trans (feq (by decide : ¬ ((1 : Int32) = (0 : Int32)))).1) (XS.aload X269.here hx rfl (hb hby at_317) rfl rfl  (XS.aload X269.here hx rfl (hb hby at_319) rfl rfl  (XS.iconst X269.here hx rfl (hb hby at_321) (XS.iload X269.here hx rfl (hb hby at_322) rfl  k))))) ?_
          show own_Fin p e below _ (T269.setTop (mkF m 324 #[.val (.int p1), .val (.int p2), .val (.int p3), .val (.int p4), .val (.int p5), .val (.int (3 : Int32)), .val (.ref b190), .val (.ref b216), .val (.int (1 : Int32)), .val (.ref b256), .val (.int (1 : Int32))] [(.int (1 : Int32)), (.int (1 : Int32)), (.ref b190), (.ref b256)]))
          obtain ⟨_, _, ⟨T270, L270, k270, n270⟩, -, X270, ⟨Lc270, hQ270, l270, y270, z270⟩, st270⟩ := Jvm.LawKit.callS X269 hx (y := (⟨"com/example/keyslice/keyslice/storage/KeyRangeAfterPinLaw", "slot", "([B[BII)Z"⟩ : MethodName)) hown (mvT hZ hw_26) (mvT hZ hw_27) (mvT hZ hw_4) (mvT hZ hw_28) (by decide) (backOf (W := 0) (rm5s11 l Z a0 hw [] (b256) (b190) k256 k190 (D0) (D1) (D2) (D3) T256.heap n0 Zh263 V256 f260) hZ hw_28 hw_4 (by decide) (by decide)) (g := (mkF m 324 #[.val (.int p1), .val (.int p2), .val (.int p3), .val (.int p4), .val (.int p5), .val (.int (3 : Int32)), .val (.ref b190), .val (.ref b216), .val (.int (1 : Int32)), .val (.ref b256), .val (.int (1 : Int32))] [(.int (1 : Int32)), (.int (1 : Int32)), (.ref b190), (.ref b256)])) rfl (by rw [hml]; rfl) (argsL := [(.ref b256), (.ref b190), (.int (1 : Int32)), (.int (1 : Int32))]) (rest := []) (lenOf pd_4 rfl) rfl (by show 2 * 0 + _ ≤ _; exact Nat.le_of_eq rfl) (hb hby at_324) (fun _ _ => ⟨rfl, e269, (by decide : 3 + 0 ≤ _), (by decide : 8 + 0 ≤ _)⟩)
          dsimp only [Pt.U, Pt.locs, Pt.cells, Pt.slots] at X270 l270 y270 z270 st270 hQ270
          subst l270 y270 z270
          obtain ⟨rfl, N270q, e270⟩ := hQ270
          have N270 := Fr.app N269 N270q
          refine own_go st270 ?_
          show own_Fin p e below _ (T270.setTop (mkF m 327 #[.val (.int p1), .val (.int p2), .val (.int p3), .val (.int p4), .val (.int p5), .val (.int (3 : Int32)), .val (.ref b190), .val (.ref b216), .val (.int (1 : Int32)), .val (.ref b256), .val (.int (1 : Int32))] [(.int (1 : Int32))]))
          refine own_go (fun t k => XS.ifNo X270.here hx rfl (hb hby at_327) rfl ((if0 _ _).trans (feq (by decide : ¬ ((1 : Int32) = (0 : Int32)))).1) (XS.aload X270.here hx rfl (hb hby at_330) rfl rfl  (XS.aload X270.here hx rfl (hb hby at_332) rfl rfl  (XS.iconst X270.here hx rfl (hb hby at_334) (XS.iload X270.here hx rfl (hb hby at_335) rfl  k))))) ?_
          show own_Fin p e below _ (T270.setTop (mkF m 337 #[.val (.int p1), .val (.int p2), .val (.int p3), .val (.int p4), .val (.int p5), .val (.int (3 : Int32)), .val (.ref b190), .val (.ref b216), .val (.int (1 : Int32)), .val (.ref b256), .val (.int (1 : Int32))] [(.int (1 : Int32)), (.int (2 : Int32)), (.ref b190), (.ref b256)]))
          obtain ⟨_, _, ⟨T271, L271, k271, n271⟩, -, X271, ⟨Lc271, hQ271, l271, y271, z271⟩, st271⟩ := Jvm.LawKit.callS X270 hx (y := (⟨"com/example/keyslice/keyslice/storage/KeyRangeAfterPinLaw", "slot", "([B[BII)Z"⟩ : MethodName)) hown (mvT hZ hw_26) (mvT hZ hw_27) (mvT hZ hw_4) (mvT hZ hw_28) (by decide) (backOf (W := 0) (rm5s21 l Z a0 hw [] (b256) (b190) k256 k190 (D0) (D1) (D2) (D3) T256.heap n0 Zh263 V256 f260) hZ hw_28 hw_4 (by decide) (by decide)) (g := (mkF m 337 #[.val (.int p1), .val (.int p2), .val (.int p3), .val (.int p4), .val (.int p5), .val (.int (3 : Int32)), .val (.ref b190), .val (.ref b216), .val (.int (1 : Int32)), .val (.ref b256), .val (.int (1 : Int32))] [(.int (1 : Int32)), (.int (2 : Int32)), (.ref b190), (.ref b256)])) rfl (by rw [hml]; rfl) (argsL := [(.ref b256), (.ref b190), (.int (2 : Int32)), (.int (1 : Int32))]) (rest := []) (lenOf pd_4 rfl) rfl (by show 2 * 0 + _ ≤ _; exact Nat.le_of_eq rfl) (hb hby at_337) (fun _ _ => ⟨rfl, e270, (by decide : 3 + 0 ≤ _), (by decide : 8 + 0 ≤ _)⟩)
          dsimp only [Pt.U, Pt.locs, Pt.cells, Pt.slots] at X271 l271 y271 z271 st271 hQ271
          subst l271 y271 z271
          obtain ⟨rfl, N271q, e271⟩ := hQ271
          have N271 := Fr.app N270 N271q
          refine own_go st271 ?_
          show own_Fin p e below _ (T271.setTop (mkF m 340 #[.val (.int p1), .val (.int p2), .val (.int p3), .val (.int p4), .val (.int p5), .val (.int (3 : Int32)), .val (.ref b190), .val (.ref b216), .val (.int (1 : Int32)), .val (.ref b256), .val (.int (1 : Int32))] [(.int (1 : Int32))]))
          refine own_go (fun t k => XS.ifNo X271.here hx rfl (hb hby at_340) rfl ((if0 _ _).trans (feq (by decide : ¬ ((1 : Int32) = (0 : Int32)))).1) (XS.aload X271.here hx rfl (hb hby at_343) rfl rfl  (XS.aload X271.here hx rfl (hb hby at_345) rfl rfl  (XS.iconst X271.here hx rfl (hb hby at_347) (XS.iload X271.here hx rfl (hb hby at_348) rfl  k))))) ?_
          show own_Fin p e below _ (T271.setTop (mkF m 350 #[.val (.int p1), .val (.int p2), .val (.int p3), .val (.int p4), .val (.int p5), .val (.int (3 : Int32)), .val (.ref b190), .val (.ref b216), .val (.int (1 : Int32)), .val (.ref b256), .val (.int (1 : Int32))] [(.int (1 : Int32)), (.int (3 : Int32)), (.ref b190), (.ref b256)]))
          obtain ⟨_, _, ⟨T272, L272, k272, n272⟩, -, X272, ⟨Lc272, hQ272, l272, y272, z272⟩, st272⟩ := Jvm.LawKit.callS X271 hx (y := (⟨"com/example/keyslice/keyslice/storage/KeyRangeAfterPinLaw", "slot", "([B[BII)Z"⟩ : MethodName)) hown (mvT hZ hw_26) (mvT hZ hw_27) (mvT hZ hw_4) (mvT hZ hw_28) (by decide) (backOf (W := 0) (rm5s31 l Z a0 hw [] (b256) (b190) k256 k190 (D0) (D1) (D2) (D3) T256.heap n0 Zh263 V256 f260) hZ hw_28 hw_4 (by decide) (by decide)) (g := (mkF m 350 #[.val (.int p1), .val (.int p2), .val (.int p3), .val (.int p4), .val (.int p5), .val (.int (3 : Int32)), .val (.ref b190), .val (.ref b216), .val (.int (1 : Int32)), .val (.ref b256), .val (.int (1 : Int32))] [(.int (1 : Int32)), (.int (3 : Int32)), (.ref b190), (.ref b256)])) rfl (by rw [hml]; rfl) (argsL := [(.ref b256), (.ref b190), (.int (3 : Int32)), (.int (1 : Int32))]) (rest := []) (lenOf pd_4 rfl) rfl (by show 2 * 0 + _ ≤ _; exact Nat.le_of_eq rfl) (hb hby at_350) (fun _ _ => ⟨rfl, e271, (by decide : 3 + 0 ≤ _), (by decide : 8 + 0 ≤ _)⟩)
          dsimp only [Pt.U, Pt.locs, Pt.cells, Pt.slots] at X272 l272 y272 z272 st272 hQ272
          subst l272 y272 z272
          obtain ⟨rfl, N272q, e272⟩ := hQ272
          have N272 := Fr.app N271 N272q
          refine own_go st272 ?_
          show own_Fin p e below _ (T272.setTop (mkF m 353 #[.val (.int p1), .val (.int p2), .val (.int p3), .val (.int p4), .val (.int p5), .val (.int (3 : Int32)), .val (.ref b190), .val (.ref b216), .val (.int (1 : Int32)), .val (.ref b256), .val (.int (1 : Int32))] [(.int (1 : Int32))]))
          refine own_go (fun t k => XS.ifNo X272.here hx rfl (hb hby at_353) rfl ((if0 _ _).trans (feq (by decide : ¬ ((1 : Int32) = (0 : Int32)))).1) (XS.iconst X272.here hx rfl (hb hby at_356) (XS.goto X272.here hx rfl (pc0 := 357) (pc' := 361) rfl (hb hby at_357) (by decide) (by decide) k))) ?_
          show own_Fin p e below _ (T272.setTop (mkF m 361 #[.val (.int p1), .val (.int p2), .val (.int p3), .val (.int p4), .val (.int p5), .val (.int (3 : Int32)), .val (.ref b190), .val (.ref b216), .val (.int (1 : Int32)), .val (.ref b256), .val (.int (1 : Int32))] [(.int (1 : Int32))]))
          exact own_out X272 (fun h => by rw [Bd.returns] at h; cases h) Bd.notSynchronized (fun fs hr => retN X272 hx (t := .boolean) Bd.returns (by simp) (hb hby at_361) hr) ⟨rfl, N272⟩ (by decide) (by decide)
      · skip
        refine own_go (fun t k => XS.icmpNo X238.here hx rfl (hb hby at_158) rfl (feq hc248).1 (XS.iconst X238.here hx rfl (hb hby at_161) (XS.istore X238.here hx rfl (hb hby at_162) rfl (l' := #[.val (.int p1), .val (.int p2), .val (.int p3), .val (.int p4), .val (.int p5), .val (.int (3 : Int32)), .val (.ref b190), .val (.ref b216), .val (.int (2 : Int32)), .unset, .unset]) rfl (XS.goto X238.here hx rfl (pc0 := 164) (pc' := 190) rfl (hb hby at_164) (by decide) (by decide) (XS.aload X238.here hx rfl (hb hby at_190) rfl rfl  k))))) ?_
        show own_Fin p e below _ (T238.setTop (mkF m 192 #[.val (.int p1), .val (.int p2), .val (.int p3), .val (.int p4), .val (.int p5), .val (.int (3 : Int32)), .val (.ref b190), .val (.ref b216), .val (.int (2 : Int32)), .unset, .unset] [(.ref b216)]))
        obtain ⟨_, _, ⟨T273, L273, k273, n273⟩, -, X273, ⟨Lc273, hQ273, l273, y273, z273⟩, st273⟩ := Jvm.LawKit.callS X238 hx (y := (⟨"com/example/keyslice/keyslice/storage/KeyRange", "after", "([B)[B"⟩ : MethodName)) hown (mvT hZ hw_6) (mvT hZ hw_7) (mvT hZ hw_8) (mvT hZ hw_9) (by decide) (backOf (W := 0) (rm2r32 l Z a0 hw [] (b216) k216 (D0) (D1) (D2) h238 n0 Zh244 f243 f241 hc246 hc248) hZ hw_9 hw_8 (by decide) (by decide)) (g := (mkF m 192 #[.val (.int p1), .val (.int p2), .val (.int p3), .val (.int p4), .val (.int p5), .val (.int (3 : Int32)), .val (.ref b190), .val (.ref b216), .val (.int (2 : Int32)), .unset, .unset] [(.ref b216)])) rfl (by rw [hml]; rfl) (argsL := [(.ref b216)]) (rest := []) (lenOf pd_3 rfl) rfl (by show 2 * 0 + _ ≤ _; exact Nat.le_of_eq rfl) (hb hby at_192) (fun _ _ => ⟨rfl, e238, (by decide : 2 + 1 ≤ _), (by decide : 7 + 2 ≤ _)⟩)
        dsimp only [Pt.U, Pt.locs, Pt.cells, Pt.slots] at X273 l273 y273 z273 st273 hQ273
        subst l273 y273 z273
        obtain ⟨b273, k273, rfl, N273q, sz273, K273, V273⟩ := hQ273
        have N273 := Fr.app N238 N273q
        have g_b273 : n0 ≤ b273 := Nat.le_trans Zh244 sz273
        have ne274 : b190 ≠ b273 := Nat.ne_of_lt (Nat.lt_of_lt_of_le f239.lt sz273)
        have ne275 : b216 ≠ b273 := Nat.ne_of_lt (Nat.lt_of_lt_of_le f241.lt sz273)
        have E273 : Ext _ _ := ⟨K273.1, fun a c q => K273.2.1 a c q nin0⟩
        have f276 := f239.ext E273
        have f277 := f240.ext E273
        have f278 := f241.ext E273
        have f279 := f243.ext E273
        have Zh280 : n0 ≤ T273.heap.size := Nat.le_trans Zh244 K273.1
        refine own_go st273 ?_
        show own_Fin p e below _ (T273.setTop (mkF m 195 #[.val (.int p1), .val (.int p2), .val (.int p3), .val (.int p4), .val (.int p5), .val (.int (3 : Int32)), .val (.ref b190), .val (.ref b216), .val (.int (2 : Int32)), .unset, .unset] [(.ref b273)]))
        refine own_go (fun t k => XS.astore X273.here hx rfl (hb hby at_195) rfl rfl (l' := #[.val (.int p1), .val (.int p2), .val (.int p3), .val (.int p4), .val (.int p5), .val (.int (3 : Int32)), .val (.ref b190), .val (.ref b216), .val (.int (2 : Int32)), .val (.ref b273), .unset]) rfl (XS.aload X273.here hx rfl (hb hby at_197) rfl rfl  (XS.aload X273.here hx rfl (hb hby at_199) rfl rfl  (XS.iconst X273.here hx rfl (hb hby at_201) (XS.iload X273.here hx rfl (hb hby at_202) rfl  k))))) ?_
        show own_Fin p e below _ (T273.setTop (mkF m 204 #[.val (.int p1), .val (.int p2), .val (.int p3), .val (.int p4), .val (.int p5), .val (.int (3 : Int32)), .val (.ref b190), .val (.ref b216), .val (.int (2 : Int32)), .val (.ref b273), .unset] [(.int (3 : Int32)), (.int (0 : Int32)), (.ref b190), (.ref b216)]))
        obtain ⟨_, _, ⟨T281, L281, k281, n281⟩, -, X281, ⟨Lc281, hQ281, l281, y281, z281⟩, st281⟩ := Jvm.LawKit.callS X273 hx (y := (⟨"com/example/keyslice/keyslice/storage/KeyRangeAfterPinLaw", "held", "([B[BII)Z"⟩ : MethodName)) hown (mvT hZ hw_10) (mvT hZ hw_11) (mvT hZ hw_4) (mvT hZ hw_12) (by decide) (backOf (W := 0) (rm3h03 l Z a0 hw [] (b216) (b190) k216 k190 (D0) (D1) (D2) (D3) T273.heap n0 Zh280 f279 f277) hZ hw_12 hw_4 (by decide) (by decide)) (g := (mkF m 204 #[.val (.int p1), .val (.int p2), .val (.int p3), .val (.int p4), .val (.int p5), .val (.int (3 : Int32)), .val (.ref b190), .val (.ref b216), .val (.int (2 : Int32)), .val (.ref b273), .unset] [(.int (3 : Int32)), (.int (0 : Int32)), (.ref b190), (.ref b216)])) rfl (by rw [hml]; rfl) (argsL := [(.ref b216), (.ref b190), (.int (0 : Int32)), (.int (3 : Int32))]) (rest := []) (lenOf pd_4 rfl) rfl (by show 2 * 0 + _ ≤ _; exact Nat.le_of_eq rfl) (hb hby at_204) (fun _ _ => ⟨rfl, rfl, (by decide : 3 + 0 ≤ _), (by decide : 9 + 0 ≤ _)⟩)
        dsimp only [Pt.U, Pt.locs, Pt.cells, Pt.slots] at X281 l281 y281 z281 st281 hQ281
        subst l281 y281 z281
        obtain ⟨rfl, N281q, e281⟩ := hQ281
        have N281 := Fr.app N273 N281q
        refine own_go st281 ?_
        show own_Fin p e below _ (T281.setTop (mkF m 207 #[.val (.int p1), .val (.int p2), .val (.int p3), .val (.int p4), .val (.int p5), .val (.int (3 : Int32)), .val (.ref b190), .val (.ref b216), .val (.int (2 : Int32)), .val (.ref b273), .unset] [(.int (1 : Int32))]))
        refine own_go (fun t k => XS.ifNo X281.here hx rfl (hb hby at_207) rfl ((if0 _ _).trans (feq (by decide : ¬ ((1 : Int32) = (0 : Int32)))).1) (XS.aload X281.here hx rfl (hb hby at_210) rfl rfl  (XS.aload X281.here hx rfl (hb hby at_212) rfl rfl  (XS.iconst X281.here hx rfl (hb hby at_214) (XS.iload X281.here hx rfl (hb hby at_215) rfl  k))))) ?_
        show own_Fin p e below _ (T281.setTop (mkF m 217 #[.val (.int p1), .val (.int p2), .val (.int p3), .val (.int p4), .val (.int p5), .val (.int (3 : Int32)), .val (.ref b190), .val (.ref b216), .val (.int (2 : Int32)), .val (.ref b273), .unset] [(.int (3 : Int32)), (.int (1 : Int32)), (.ref b190), (.ref b216)]))
        obtain ⟨_, _, ⟨T282, L282, k282, n282⟩, -, X282, ⟨Lc282, hQ282, l282, y282, z282⟩, st282⟩ := Jvm.LawKit.callS X281 hx (y := (⟨"com/example/keyslice/keyslice/storage/KeyRangeAfterPinLaw", "held", "([B[BII)Z"⟩ : MethodName)) hown (mvT hZ hw_10) (mvT hZ hw_11) (mvT hZ hw_4) (mvT hZ hw_12) (by decide) (backOf (W := 0) (rm3h13 l Z a0 hw [] (b216) (b190) k216 k190 (D0) (D1) (D2) (D3) T273.heap n0 Zh280 f279 f277) hZ hw_12 hw_4 (by decide) (by decide)) (g := (mkF m 217 #[.val (.int p1), .val (.int p2), .val (.int p3), .val (.int p4), .val (.int p5), .val (.int (3 : Int32)), .val (.ref b190), .val (.ref b216), .val (.int (2 : Int32)), .val (.ref b273), .unset] [(.int (3 : Int32)), (.int (1 : Int32)), (.ref b190), (.ref b216)])) rfl (by rw [hml]; rfl) (argsL := [(.ref b216), (.ref b190), (.int (1 : Int32)), (.int (3 : Int32))]) (rest := []) (lenOf pd_4 rfl) rfl (by show 2 * 0 + _ ≤ _; exact Nat.le_of_eq rfl) (hb hby at_217) (fun _ _ => ⟨rfl, e281, (by decide : 3 + 0 ≤ _), (by decide : 9 + 0 ≤ _)⟩)
        dsimp only [Pt.U, Pt.locs, Pt.cells, Pt.slots] at X282 l282 y282 z282 st282 hQ282
        subst l282 y282 z282
        obtain ⟨rfl, N282q, e282⟩ := hQ282
        have N282 := Fr.app N281 N282q
        refine own_go st282 ?_
        show own_Fin p e below _ (T282.setTop (mkF m 220 #[.val (.int p1), .val (.int p2), .val (.int p3), .val (.int p4), .val (.int p5), .val (.int (3 : Int32)), .val (.ref b190), .val (.ref b216), .val (.int (2 : Int32)), .val (.ref b273), .unset] [(.int (1 : Int32))]))
        refine own_go (fun t k => XS.ifNo X282.here hx rfl (hb hby at_220) rfl ((if0 _ _).trans (feq (by decide : ¬ ((1 : Int32) = (0 : Int32)))).1) (XS.aload X282.here hx rfl (hb hby at_223) rfl rfl  (XS.aload X282.here hx rfl (hb hby at_225) rfl rfl  (XS.iconst X282.here hx rfl (hb hby at_227) (XS.iload X282.here hx rfl (hb hby at_228) rfl  k))))) ?_
        show own_Fin p e below _ (T282.setTop (mkF m 230 #[.val (.int p1), .val (.int p2), .val (.int p3), .val (.int p4), .val (.int p5), .val (.int (3 : Int32)), .val (.ref b190), .val (.ref b216), .val (.int (2 : Int32)), .val (.ref b273), .unset] [(.int (3 : Int32)), (.int (2 : Int32)), (.ref b190), (.ref b216)]))
        obtain ⟨_, _, ⟨T283, L283, k283, n283⟩, -, X283, ⟨Lc283, hQ283, l283, y283, z283⟩, st283⟩ := Jvm.LawKit.callS X282 hx (y := (⟨"com/example/keyslice/keyslice/storage/KeyRangeAfterPinLaw", "held", "([B[BII)Z"⟩ : MethodName)) hown (mvT hZ hw_10) (mvT hZ hw_11) (mvT hZ hw_4) (mvT hZ hw_12) (by decide) (backOf (W := 0) (rm3h23 l Z a0 hw [] (b216) (b190) k216 k190 (D0) (D1) (D2) (D3) T273.heap n0 Zh280 f279 f277) hZ hw_12 hw_4 (by decide) (by decide)) (g := (mkF m 230 #[.val (.int p1), .val (.int p2), .val (.int p3), .val (.int p4), .val (.int p5), .val (.int (3 : Int32)), .val (.ref b190), .val (.ref b216), .val (.int (2 : Int32)), .val (.ref b273), .unset] [(.int (3 : Int32)), (.int (2 : Int32)), (.ref b190), (.ref b216)])) rfl (by rw [hml]; rfl) (argsL := [(.ref b216), (.ref b190), (.int (2 : Int32)), (.int (3 : Int32))]) (rest := []) (lenOf pd_4 rfl) rfl (by show 2 * 0 + _ ≤ _; exact Nat.le_of_eq rfl) (hb hby at_230) (fun _ _ => ⟨rfl, e282, (by decide : 3 + 0 ≤ _), (by decide : 9 + 0 ≤ _)⟩)
        dsimp only [Pt.U, Pt.locs, Pt.cells, Pt.slots] at X283 l283 y283 z283 st283 hQ283
        subst l283 y283 z283
        obtain ⟨rfl, N283q, e283⟩ := hQ283
        have N283 := Fr.app N282 N283q
        refine own_go st283 ?_
        show own_Fin p e below _ (T283.setTop (mkF m 233 #[.val (.int p1), .val (.int p2), .val (.int p3), .val (.int p4), .val (.int p5), .val (.int (3 : Int32)), .val (.ref b190), .val (.ref b216), .val (.int (2 : Int32)), .val (.ref b273), .unset] [(.int (1 : Int32))]))
        refine own_go (fun t k => XS.ifNo X283.here hx rfl (hb hby at_233) rfl ((if0 _ _).trans (feq (by decide : ¬ ((1 : Int32) = (0 : Int32)))).1) (XS.aload X283.here hx rfl (hb hby at_236) rfl rfl  (XS.aload X283.here hx rfl (hb hby at_238) rfl rfl  (XS.iconst X283.here hx rfl (hb hby at_240) (XS.iload X283.here hx rfl (hb hby at_241) rfl  k))))) ?_
        show own_Fin p e below _ (T283.setTop (mkF m 243 #[.val (.int p1), .val (.int p2), .val (.int p3), .val (.int p4), .val (.int p5), .val (.int (3 : Int32)), .val (.ref b190), .val (.ref b216), .val (.int (2 : Int32)), .val (.ref b273), .unset] [(.int (3 : Int32)), (.int (3 : Int32)), (.ref b190), (.ref b216)]))
        obtain ⟨_, _, ⟨T284, L284, k284, n284⟩, -, X284, ⟨Lc284, hQ284, l284, y284, z284⟩, st284⟩ := Jvm.LawKit.callS X283 hx (y := (⟨"com/example/keyslice/keyslice/storage/KeyRangeAfterPinLaw", "held", "([B[BII)Z"⟩ : MethodName)) hown (mvT hZ hw_10) (mvT hZ hw_11) (mvT hZ hw_4) (mvT hZ hw_12) (by decide) (backOf (W := 0) (rm3h33 l Z a0 hw [] (b216) (b190) k216 k190 (D0) (D1) (D2) (D3) T273.heap n0 Zh280 f279 f277) hZ hw_12 hw_4 (by decide) (by decide)) (g := (mkF m 243 #[.val (.int p1), .val (.int p2), .val (.int p3), .val (.int p4), .val (.int p5), .val (.int (3 : Int32)), .val (.ref b190), .val (.ref b216), .val (.int (2 : Int32)), .val (.ref b273), .unset] [(.int (3 : Int32)), (.int (3 : Int32)), (.ref b190), (.ref b216)])) rfl (by rw [hml]; rfl) (argsL := [(.ref b216), (.ref b190), (.int (3 : Int32)), (.int (3 : Int32))]) (rest := []) (lenOf pd_4 rfl) rfl (by show 2 * 0 + _ ≤ _; exact Nat.le_of_eq rfl) (hb hby at_243) (fun _ _ => ⟨rfl, e283, (by decide : 3 + 0 ≤ _), (by decide : 9 + 0 ≤ _)⟩)
        dsimp only [Pt.U, Pt.locs, Pt.cells, Pt.slots] at X284 l284 y284 z284 st284 hQ284
        subst l284 y284 z284
        obtain ⟨rfl, N284q, e284⟩ := hQ284
        have N284 := Fr.app N283 N284q
        refine own_go st284 ?_
        show own_Fin p e below _ (T284.setTop (mkF m 246 #[.val (.int p1), .val (.int p2), .val (.int p3), .val (.int p4), .val (.int p5), .val (.int (3 : Int32)), .val (.ref b190), .val (.ref b216), .val (.int (2 : Int32)), .val (.ref b273), .unset] [(.int (1 : Int32))]))
        refine own_go (fun t k => XS.ifNo X284.here hx rfl (hb hby at_246) rfl ((if0 _ _).trans (feq (by decide : ¬ ((1 : Int32) = (0 : Int32)))).1) (XS.iconst X284.here hx rfl (hb hby at_249) (XS.goto X284.here hx rfl (pc0 := 250) (pc' := 254) rfl (hb hby at_250) (by decide) (by decide) (XS.istore X284.here hx rfl (hb hby at_254) rfl (l' := #[.val (.int p1), .val (.int p2), .val (.int p3), .val (.int p4), .val (.int p5), .val (.int (3 : Int32)), .val (.ref b190), .val (.ref b216), .val (.int (2 : Int32)), .val (.ref b273), .val (.int (1 : Int32))]) rfl (XS.iload X284.here hx rfl (hb hby at_256) rfl  k))))) ?_
        show own_Fin p e below _ (T284.setTop (mkF m 258 #[.val (.int p1), .val (.int p2), .val (.int p3), .val (.int p4), .val (.int p5), .val (.int (3 : Int32)), .val (.ref b190), .val (.ref b216), .val (.int (2 : Int32)), .val (.ref b273), .val (.int (1 : Int32))] [(.int (2 : Int32))]))
        refine own_go (fun t k => XS.ifYes X284.here hx rfl (pc0 := 258) (pc' := 277) rfl (hb hby at_258) rfl ((if0 _ _).trans (feq (by decide : ¬ ((2 : Int32) = (0 : Int32)))).2) (by decide) (by decide) (XS.aload X284.here hx rfl (hb hby at_277) rfl rfl  k)) ?_
        show own_Fin p e below _ (T284.setTop (mkF m 279 #[.val (.int p1), .val (.int p2), .val (.int p3), .val (.int p4), .val (.int p5), .val (.int (3 : Int32)), .val (.ref b190), .val (.ref b216), .val (.int (2 : Int32)), .val (.ref b273), .val (.int (1 : Int32))] [(.ref b273)]))
        refine own_go (fun t k => XS.ifnullNo X284.here hx rfl (hb hby at_279) rfl (XS.aload X284.here hx rfl (hb hby at_282) rfl rfl  (XS.aload X284.here hx rfl (hb hby at_284) rfl rfl  k))) ?_
        show own_Fin p e below _ (T284.setTop (mkF m 286 #[.val (.int p1), .val (.int p2), .val (.int p3), .val (.int p4), .val (.int p5), .val (.int (3 : Int32)), .val (.ref b190), .val (.ref b216), .val (.int (2 : Int32)), .val (.ref b273), .val (.int (1 : Int32))] [(.ref b216), (.ref b273)]))
        refine own_go (fun t k => Jvm.RoadKit.acmp (g := (mkF m 286 #[.val (.int p1), .val (.int p2), .val (.int p3), .val (.int p4), .val (.int p5), .val (.int (3 : Int32)), .val (.ref b190), .val (.ref b216), .val (.int (2 : Int32)), .val (.ref b273), .val (.int (1 : Int32))] [(.ref b216), (.ref b273)])) X284 hx rfl rfl rfl (pc0 := 286) (pc' := 289) (same := false) rfl (hb hby at_286) rfl (decide_eq_false fun q => (Ne.symm ne275) (Value.ref.inj q)) (by decide) (by decide) (XS.aload X284.here hx rfl (hb hby at_289) rfl rfl  k)) ?_
        show own_Fin p e below _ (T284.setTop (mkF m 291 #[.val (.int p1), .val (.int p2), .val (.int p3), .val (.int p4), .val (.int p5), .val (.int (3 : Int32)), .val (.ref b190), .val (.ref b216), .val (.int (2 : Int32)), .val (.ref b273), .val (.int (1 : Int32))] [(.ref b273)]))
        obtain ⟨cl285, Ar285, q285, S285, M285, H285, G285⟩ := (id V273)
        refine own_go (fun t k => X284.arraylength hx (by rw [e284]; exact Ar285.1) (State.isArrayOf_alike hZ.alike Ar285.2.1) (g := (mkF m 291 #[.val (.int p1), .val (.int p2), .val (.int p3), .val (.int p4), .val (.int p5), .val (.int (3 : Int32)), .val (.ref b190), .val (.ref b216), .val (.int (2 : Int32)), .val (.ref b273), .val (.int (1 : Int32))] [(.ref b273)])) rfl rfl (hb hby at_291) _ k) ?_
        rw [len_of S285 M285]
        show own_Fin p e below _ (T284.setTop (mkF m 292 #[.val (.int p1), .val (.int p2), .val (.int p3), .val (.int p4), .val (.int p5), .val (.int (3 : Int32)), .val (.ref b190), .val (.ref b216), .val (.int (2 : Int32)), .val (.ref b273), .val (.int (1 : Int32))] [(.int (2 : Int32))]))
        refine own_go (fun t k => XS.iload X284.here hx rfl (hb hby at_292) rfl  k) ?_
        show own_Fin p e below _ (T284.setTop (mkF m 294 #[.val (.int p1), .val (.int p2), .val (.int p3), .val (.int p4), .val (.int p5), .val (.int (3 : Int32)), .val (.ref b190), .val (.ref b216), .val (.int (2 : Int32)), .val (.ref b273), .val (.int (1 : Int32))] [(.int (2 : Int32)), (.int (2 : Int32))]))
        refine own_go (fun t k => XS.icmpYes X284.here hx rfl (pc0 := 294) (pc' := 299) rfl (hb hby at_294) rfl (teq (by decide : (2 : Int32) = (2 : Int32))).1 (by decide) (by decide) (XS.iload X284.here hx rfl (hb hby at_299) rfl  k)) ?_
        show own_Fin p e below _ (T284.setTop (mkF m 301 #[.val (.int p1), .val (.int p2), .val (.int p3), .val (.int p4), .val (.int p5), .val (.int (3 : Int32)), .val (.ref b190), .val (.ref b216), .val (.int (2 : Int32)), .val (.ref b273), .val (.int (1 : Int32))] [(.int (1 : Int32))]))
        refine own_go (fun t k => XS.ifNo X284.here hx rfl (hb hby at_301) rfl ((if0 _ _).trans (feq (by decide : ¬ ((1 : Int32) = (0 : Int32)))).1) (XS.aload X284.here hx rfl (hb hby at_304) rfl rfl  (XS.aload X284.here hx rfl (hb hby at_306) rfl rfl  (XS.iconst X284.here hx rfl (hb hby at_308) (XS.iload X284.here hx rfl (hb hby at_309) rfl  k))))) ?_
        show own_Fin p e below _ (T284.setTop (mkF m 311 #[.val (.int p1), .val (.int p2), .val (.int p3), .val (.int p4), .val (.int p5), .val (.int (3 : Int32)), .val (.ref b190), .val (.ref b216), .val (.int (2 : Int32)), .val (.ref b273), .val (.int (1 : Int32))] [(.int (2 : Int32)), (.int (0 : Int32)), (.ref b190), (.ref b273)]))
        obtain ⟨_, _, ⟨T286, L286, k286, n286⟩, -, X286, ⟨Lc286, hQ286, l286, y286, z286⟩, st286⟩ := Jvm.LawKit.callS X284 hx (y := (⟨"com/example/keyslice/keyslice/storage/KeyRangeAfterPinLaw", "slot", "([B[BII)Z"⟩ : MethodName)) hown (mvT hZ hw_26) (mvT hZ hw_27) (mvT hZ hw_4) (mvT hZ hw_28) (by decide) (backOf (W := 0) (rm5s02 l Z a0 hw [] (b273) (b190) k273 k190 (D0) (D1) (D2) (D3) T273.heap n0 Zh280 V273 f277) hZ hw_28 hw_4 (by decide) (by decide)) (g := (mkF m 311 #[.val (.int p1), .val (.int p2), .val (.int p3), .val (.int p4), .val (.int p5), .val (.int (3 : Int32)), .val (.ref b190), .val (.ref b216), .val (.int (2 : Int32)), .val (.ref b273), .val (.int (1 : Int32))] [(.int (2 : Int32)), (.int (0 : Int32)), (.ref b190), (.ref b273)])) rfl (by rw [hml]; rfl) (argsL := [(.ref b273), (.ref b190), (.int (0 : Int32)), (.int (2 : Int32))]) (rest := []) (lenOf pd_4 rfl) rfl (by show 2 * 0 + _ ≤ _; exact Nat.le_of_eq rfl) (hb hby at_311) (fun _ _ => ⟨rfl, e284, (by decide : 3 + 0 ≤ _), (by decide : 9 + 0 ≤ _)⟩)
        dsimp only [Pt.U, Pt.locs, Pt.cells, Pt.slots] at X286 l286 y286 z286 st286 hQ286
        subst l286 y286 z286
        obtain ⟨rfl, N286q, e286⟩ := hQ286
        have N286 := Fr.app N284 N286q
        refine own_go st286 ?_
        show own_Fin p e below _ (T286.setTop (mkF m 314 #[.val (.int p1), .val (.int p2), .val (.int p3), .val (.int p4), .val (.int p5), .val (.int (3 : Int32)), .val (.ref b190), .val (.ref b216), .val (.int (2 : Int32)), .val (.ref b273), .val (.int (1 : Int32))] [(.int (1 : Int32))]))
        refine own_go (fun t k => XS.ifNo X286.here hx rfl (hb hby at_314) rfl ((if0 _ _).trans (feq (by decide : ¬ ((1 : Int32) = (0 : Int32)))).1) (XS.aload X286.here hx rfl (hb hby at_317) rfl rfl  (XS.aload X286.here hx rfl (hb hby at_319) rfl rfl  (XS.iconst X286.here hx rfl (hb hby at_321) (XS.iload X286.here hx rfl (hb hby at_322) rfl  k))))) ?_
        show own_Fin p e below _ (T286.setTop (mkF m 324 #[.val (.int p1), .val (.int p2), .val (.int p3), .val (.int p4), .val (.int p5), .val (.int (3 : Int32)), .val (.ref b190), .val (.ref b216), .val (.int (2 : Int32)), .val (.ref b273), .val (.int (1 : Int32))] [(.int (2 : Int32)), (.int (1 : Int32)), (.ref b190), (.ref b273)]))
        obtain ⟨_, _, ⟨T287, L287, k287, n287⟩, -, X287, ⟨Lc287, hQ287, l287, y287, z287⟩, st287⟩ := Jvm.LawKit.callS X286 hx (y := (⟨"com/example/keyslice/keyslice/storage/KeyRangeAfterPinLaw", "slot", "([B[BII)Z"⟩ : MethodName)) hown (mvT hZ hw_26) (mvT hZ hw_27) (mvT hZ hw_4) (mvT hZ hw_28) (by decide) (backOf (W := 0) (rm5s12 l Z a0 hw [] (b273) (b190) k273 k190 (D0) (D1) (D2) (D3) T273.heap n0 Zh280 V273 f277) hZ hw_28 hw_4 (by decide) (by decide)) (g := (mkF m 324 #[.val (.int p1), .val (.int p2), .val (.int p3), .val (.int p4), .val (.int p5), .val (.int (3 : Int32)), .val (.ref b190), .val (.ref b216), .val (.int (2 : Int32)), .val (.ref b273), .val (.int (1 : Int32))] [(.int (2 : Int32)), (.int (1 : Int32)), (.ref b190), (.ref b273)])) rfl (by rw [hml]; rfl) (argsL := [(.ref b273), (.ref b190), (.int (1 : Int32)), (.int (2 : Int32))]) (rest := []) (lenOf pd_4 rfl) rfl (by show 2 * 0 + _ ≤ _; exact Nat.le_of_eq rfl) (hb hby at_324) (fun _ _ => ⟨rfl, e286, (by decide : 3 + 0 ≤ _), (by decide : 9 + 0 ≤ _)⟩)
        dsimp only [Pt.U, Pt.locs, Pt.cells, Pt.slots] at X287 l287 y287 z287 st287 hQ287
        subst l287 y287 z287
        obtain ⟨rfl, N287q, e287⟩ := hQ287
        have N287 := Fr.app N286 N287q
        refine own_go st287 ?_
        show own_Fin p e below _ (T287.setTop (mkF m 327 #[.val (.int p1), .val (.int p2), .val (.int p3), .val (.int p4), .val (.int p5), .val (.int (3 : Int32)), .val (.ref b190), .val (.ref b216), .val (.int (2 : Int32)), .val (.ref b273), .val (.int (1 : Int32))] [(.int (1 : Int32))]))
        refine own_go (fun t k => XS.ifNo X287.here hx rfl (hb hby at_327) rfl ((if0 _ _).trans (feq (by decide : ¬ ((1 : Int32) = (0 : Int32)))).1) (XS.aload X287.here hx rfl (hb hby at_330) rfl rfl  (XS.aload X287.here hx rfl (hb hby at_332) rfl rfl  (XS.iconst X287.here hx rfl (hb hby at_334) (XS.iload X287.here hx rfl (hb hby at_335) rfl  k))))) ?_
        show own_Fin p e below _ (T287.setTop (mkF m 337 #[.val (.int p1), .val (.int p2), .val (.int p3), .val (.int p4), .val (.int p5), .val (.int (3 : Int32)), .val (.ref b190), .val (.ref b216), .val (.int (2 : Int32)), .val (.ref b273), .val (.int (1 : Int32))] [(.int (2 : Int32)), (.int (2 : Int32)), (.ref b190), (.ref b273)]))
        obtain ⟨_, _, ⟨T288, L288, k288, n288⟩, -, X288, ⟨Lc288, hQ288, l288, y288, z288⟩, st288⟩ := Jvm.LawKit.callS X287 hx (y := (⟨"com/example/keyslice/keyslice/storage/KeyRangeAfterPinLaw", "slot", "([B[BII)Z"⟩ : MethodName)) hown (mvT hZ hw_26) (mvT hZ hw_27) (mvT hZ hw_4) (mvT hZ hw_28) (by decide) (backOf (W := 0) (rm5s22 l Z a0 hw [] (b273) (b190) k273 k190 (D0) (D1) (D2) (D3) T273.heap n0 Zh280 V273 f277) hZ hw_28 hw_4 (by decide) (by decide)) (g := (mkF m 337 #[.val (.int p1), .val (.int p2), .val (.int p3), .val (.int p4), .val (.int p5), .val (.int (3 : Int32)), .val (.ref b190), .val (.ref b216), .val (.int (2 : Int32)), .val (.ref b273), .val (.int (1 : Int32))] [(.int (2 : Int32)), (.int (2 : Int32)), (.ref b190), (.ref b273)])) rfl (by rw [hml]; rfl) (argsL := [(.ref b273), (.ref b190), (.int (2 : Int32)), (.int (2 : Int32))]) (rest := []) (lenOf pd_4 rfl) rfl (by show 2 * 0 + _ ≤ _; exact Nat.le_of_eq rfl) (hb hby at_337) (fun _ _ => ⟨rfl, e287, (by decide : 3 + 0 ≤ _), (by decide : 9 + 0 ≤ _)⟩)
        dsimp only [Pt.U, Pt.locs, Pt.cells, Pt.slots] at X288 l288 y288 z288 st288 hQ288
        subst l288 y288 z288
        obtain ⟨rfl, N288q, e288⟩ := hQ288
        have N288 := Fr.app N287 N288q
        refine own_go st288 ?_
        show own_Fin p e below _ (T288.setTop (mkF m 340 #[.val (.int p1), .val (.int p2), .val (.int p3), .val (.int p4), .val (.int p5), .val (.int (3 : Int32)), .val (.ref b190), .val (.ref b216), .val (.int (2 : Int32)), .val (.ref b273), .val (.int (1 : Int32))] [(.int (1 : Int32))]))
        refine own_go (fun t k => XS.ifNo X288.here hx rfl (hb hby at_340) rfl ((if0 _ _).trans (feq (by decide : ¬ ((1 : Int32) = (0 : Int32)))).1) (XS.aload X288.here hx rfl (hb hby at_343) rfl rfl  (XS.aload X288.here hx rfl (hb hby at_345) rfl rfl  (XS.iconst X288.here hx rfl (hb hby at_347) (XS.iload X288.here hx rfl (hb hby at_348) rfl  k))))) ?_
        show own_Fin p e below _ (T288.setTop (mkF m 350 #[.val (.int p1), .val (.int p2), .val (.int p3), .val (.int p4), .val (.int p5), .val (.int (3 : Int32)), .val (.ref b190), .val (.ref b216), .val (.int (2 : Int32)), .val (.ref b273), .val (.int (1 : Int32))] [(.int (2 : Int32)), (.int (3 : Int32)), (.ref b190), (.ref b273)]))
        obtain ⟨_, _, ⟨T289, L289, k289, n289⟩, -, X289, ⟨Lc289, hQ289, l289, y289, z289⟩, st289⟩ := Jvm.LawKit.callS X288 hx (y := (⟨"com/example/keyslice/keyslice/storage/KeyRangeAfterPinLaw", "slot", "([B[BII)Z"⟩ : MethodName)) hown (mvT hZ hw_26) (mvT hZ hw_27) (mvT hZ hw_4) (mvT hZ hw_28) (by decide) (backOf (W := 0) (rm5s32 l Z a0 hw [] (b273) (b190) k273 k190 (D0) (D1) (D2) (D3) T273.heap n0 Zh280 V273 f277) hZ hw_28 hw_4 (by decide) (by decide)) (g := (mkF m 350 #[.val (.int p1), .val (.int p2), .val (.int p3), .val (.int p4), .val (.int p5), .val (.int (3 : Int32)), .val (.ref b190), .val (.ref b216), .val (.int (2 : Int32)), .val (.ref b273), .val (.int (1 : Int32))] [(.int (2 : Int32)), (.int (3 : Int32)), (.ref b190), (.ref b273)])) rfl (by rw [hml]; rfl) (argsL := [(.ref b273), (.ref b190), (.int (3 : Int32)), (.int (2 : Int32))]) (rest := []) (lenOf pd_4 rfl) rfl (by show 2 * 0 + _ ≤ _; exact Nat.le_of_eq rfl) (hb hby at_350) (fun _ _ => ⟨rfl, e288, (by decide : 3 + 0 ≤ _), (by decide : 9 + 0 ≤ _)⟩)
        dsimp only [Pt.U, Pt.locs, Pt.cells, Pt.slots] at X289 l289 y289 z289 st289 hQ289
        subst l289 y289 z289
        obtain ⟨rfl, N289q, e289⟩ := hQ289
        have N289 := Fr.app N288 N289q
        refine own_go st289 ?_
        show own_Fin p e below _ (T289.setTop (mkF m 353 #[.val (.int p1), .val (.int p2), .val (.int p3), .val (.int p4), .val (.int p5), .val (.int (3 : Int32)), .val (.ref b190), .val (.ref b216), .val (.int (2 : Int32)), .val (.ref b273), .val (.int (1 : Int32))] [(.int (1 : Int32))]))
        refine own_go (fun t k => XS.ifNo X289.here hx rfl (hb hby at_353) rfl ((if0 _ _).trans (feq (by decide : ¬ ((1 : Int32) = (0 : Int32)))).1) (XS.iconst X289.here hx rfl (hb hby at_356) (XS.goto X289.here hx rfl (pc0 := 357) (pc' := 361) rfl (hb hby at_357) (by decide) (by decide) k))) ?_
        show own_Fin p e below _ (T289.setTop (mkF m 361 #[.val (.int p1), .val (.int p2), .val (.int p3), .val (.int p4), .val (.int p5), .val (.int (3 : Int32)), .val (.ref b190), .val (.ref b216), .val (.int (2 : Int32)), .val (.ref b273), .val (.int (1 : Int32))] [(.int (1 : Int32))]))
        exact own_out X289 (fun h => by rw [Bd.returns] at h; cases h) Bd.notSynchronized (fun fs hr => retN X289 hx (t := .boolean) Bd.returns (by simp) (hb hby at_361) hr) ⟨rfl, N289⟩ (by decide) (by decide)
    · skip
      refine own_go (fun t k => XS.icmpNo X238.here hx rfl (hb hby at_138) rfl (feq hc246).1 (XS.iconst X238.here hx rfl (hb hby at_141) (XS.istore X238.here hx rfl (hb hby at_142) rfl (l' := #[.val (.int p1), .val (.int p2), .val (.int p3), .val (.int p4), .val (.int p5), .val (.int (3 : Int32)), .val (.ref b190), .val (.ref b216), .val (.int (3 : Int32)), .unset, .unset]) rfl (XS.goto X238.here hx rfl (pc0 := 144) (pc' := 190) rfl (hb hby at_144) (by decide) (by decide) (XS.aload X238.here hx rfl (hb hby at_190) rfl rfl  k))))) ?_
      show own_Fin p e below _ (T238.setTop (mkF m 192 #[.val (.int p1), .val (.int p2), .val (.int p3), .val (.int p4), .val (.int p5), .val (.int (3 : Int32)), .val (.ref b190), .val (.ref b216), .val (.int (3 : Int32)), .unset, .unset] [(.ref b216)]))
      obtain ⟨_, _, ⟨T290, L290, k290, n290⟩, -, X290, ⟨Lc290, hQ290, l290, y290, z290⟩, st290⟩ := Jvm.LawKit.callS X238 hx (y := (⟨"com/example/keyslice/keyslice/storage/KeyRange", "after", "([B)[B"⟩ : MethodName)) hown (mvT hZ hw_6) (mvT hZ hw_7) (mvT hZ hw_8) (mvT hZ hw_9) (by decide) (backOf (W := 0) (rm2r33 l Z a0 hw [] (b216) k216 (D0) (D1) (D2) h238 n0 Zh244 f243 f241 hc246) hZ hw_9 hw_8 (by decide) (by decide)) (g := (mkF m 192 #[.val (.int p1), .val (.int p2), .val (.int p3), .val (.int p4), .val (.int p5), .val (.int (3 : Int32)), .val (.ref b190), .val (.ref b216), .val (.int (3 : Int32)), .unset, .unset] [(.ref b216)])) rfl (by rw [hml]; rfl) (argsL := [(.ref b216)]) (rest := []) (lenOf pd_3 rfl) rfl (by show 2 * 0 + _ ≤ _; exact Nat.le_of_eq rfl) (hb hby at_192) (fun _ _ => ⟨rfl, e238, (by decide : 2 + 1 ≤ _), (by decide : 7 + 3 ≤ _)⟩)
      dsimp only [Pt.U, Pt.locs, Pt.cells, Pt.slots] at X290 l290 y290 z290 st290 hQ290
      subst l290 y290 z290
      obtain ⟨b290, k290, rfl, N290q, sz290, K290, V290⟩ := hQ290
      have N290 := Fr.app N238 N290q
      have g_b290 : n0 ≤ b290 := Nat.le_trans Zh244 sz290
      have ne291 : b190 ≠ b290 := Nat.ne_of_lt (Nat.lt_of_lt_of_le f239.lt sz290)
      have ne292 : b216 ≠ b290 := Nat.ne_of_lt (Nat.lt_of_lt_of_le f241.lt sz290)
      have E290 : Ext _ _ := ⟨K290.1, fun a c q => K290.2.1 a c q nin0⟩
      have f293 := f239.ext E290
      have f294 := f240.ext E290
      have f295 := f241.ext E290
      have f296 := f243.ext E290
      have Zh297 : n0 ≤ T290.heap.size := Nat.le_trans Zh244 K290.1
      refine own_go st290 ?_
      show own_Fin p e below _ (T290.setTop (mkF m 195 #[.val (.int p1), .val (.int p2), .val (.int p3), .val (.int p4), .val (.int p5), .val (.int (3 : Int32)), .val (.ref b190), .val (.ref b216), .val (.int (3 : Int32)), .unset, .unset] [(.ref b290)]))
      refine own_go (fun t k => XS.astore X290.here hx rfl (hb hby at_195) rfl rfl (l' := #[.val (.int p1), .val (.int p2), .val (.int p3), .val (.int p4), .val (.int p5), .val (.int (3 : Int32)), .val (.ref b190), .val (.ref b216), .val (.int (3 : Int32)), .val (.ref b290), .unset]) rfl (XS.aload X290.here hx rfl (hb hby at_197) rfl rfl  (XS.aload X290.here hx rfl (hb hby at_199) rfl rfl  (XS.iconst X290.here hx rfl (hb hby at_201) (XS.iload X290.here hx rfl (hb hby at_202) rfl  k))))) ?_
      show own_Fin p e below _ (T290.setTop (mkF m 204 #[.val (.int p1), .val (.int p2), .val (.int p3), .val (.int p4), .val (.int p5), .val (.int (3 : Int32)), .val (.ref b190), .val (.ref b216), .val (.int (3 : Int32)), .val (.ref b290), .unset] [(.int (3 : Int32)), (.int (0 : Int32)), (.ref b190), (.ref b216)]))
      obtain ⟨_, _, ⟨T298, L298, k298, n298⟩, -, X298, ⟨Lc298, hQ298, l298, y298, z298⟩, st298⟩ := Jvm.LawKit.callS X290 hx (y := (⟨"com/example/keyslice/keyslice/storage/KeyRangeAfterPinLaw", "held", "([B[BII)Z"⟩ : MethodName)) hown (mvT hZ hw_10) (mvT hZ hw_11) (mvT hZ hw_4) (mvT hZ hw_12) (by decide) (backOf (W := 0) (rm3h03 l Z a0 hw [] (b216) (b190) k216 k190 (D0) (D1) (D2) (D3) T290.heap n0 Zh297 f296 f294) hZ hw_12 hw_4 (by decide) (by decide)) (g := (mkF m 204 #[.val (.int p1), .val (.int p2), .val (.int p3), .val (.int p4), .val (.int p5), .val (.int (3 : Int32)), .val (.ref b190), .val (.ref b216), .val (.int (3 : Int32)), .val (.ref b290), .unset] [(.int (3 : Int32)), (.int (0 : Int32)), (.ref b190), (.ref b216)])) rfl (by rw [hml]; rfl) (argsL := [(.ref b216), (.ref b190), (.int (0 : Int32)), (.int (3 : Int32))]) (rest := []) (lenOf pd_4 rfl) rfl (by show 2 * 0 + _ ≤ _; exact Nat.le_of_eq rfl) (hb hby at_204) (fun _ _ => ⟨rfl, rfl, (by decide : 3 + 0 ≤ _), (by decide : 10 + 0 ≤ _)⟩)
      dsimp only [Pt.U, Pt.locs, Pt.cells, Pt.slots] at X298 l298 y298 z298 st298 hQ298
      subst l298 y298 z298
      obtain ⟨rfl, N298q, e298⟩ := hQ298
      have N298 := Fr.app N290 N298q
      refine own_go st298 ?_
      show own_Fin p e below _ (T298.setTop (mkF m 207 #[.val (.int p1), .val (.int p2), .val (.int p3), .val (.int p4), .val (.int p5), .val (.int (3 : Int32)), .val (.ref b190), .val (.ref b216), .val (.int (3 : Int32)), .val (.ref b290), .unset] [(.int (1 : Int32))]))
      refine own_go (fun t k => XS.ifNo X298.here hx rfl (hb hby at_207) rfl ((if0 _ _).trans (feq (by decide : ¬ ((1 : Int32) = (0 : Int32)))).1) (XS.aload X298.here hx rfl (hb hby at_210) rfl rfl  (XS.aload X298.here hx rfl (hb hby at_212) rfl rfl  (XS.iconst X298.here hx rfl (hb hby at_214) (XS.iload X298.here hx rfl (hb hby at_215) rfl  k))))) ?_
      show own_Fin p e below _ (T298.setTop (mkF m 217 #[.val (.int p1), .val (.int p2), .val (.int p3), .val (.int p4), .val (.int p5), .val (.int (3 : Int32)), .val (.ref b190), .val (.ref b216), .val (.int (3 : Int32)), .val (.ref b290), .unset] [(.int (3 : Int32)), (.int (1 : Int32)), (.ref b190), (.ref b216)]))
      obtain ⟨_, _, ⟨T299, L299, k299, n299⟩, -, X299, ⟨Lc299, hQ299, l299, y299, z299⟩, st299⟩ := Jvm.LawKit.callS X298 hx (y := (⟨"com/example/keyslice/keyslice/storage/KeyRangeAfterPinLaw", "held", "([B[BII)Z"⟩ : MethodName)) hown (mvT hZ hw_10) (mvT hZ hw_11) (mvT hZ hw_4) (mvT hZ hw_12) (by decide) (backOf (W := 0) (rm3h13 l Z a0 hw [] (b216) (b190) k216 k190 (D0) (D1) (D2) (D3) T290.heap n0 Zh297 f296 f294) hZ hw_12 hw_4 (by decide) (by decide)) (g := (mkF m 217 #[.val (.int p1), .val (.int p2), .val (.int p3), .val (.int p4), .val (.int p5), .val (.int (3 : Int32)), .val (.ref b190), .val (.ref b216), .val (.int (3 : Int32)), .val (.ref b290), .unset] [(.int (3 : Int32)), (.int (1 : Int32)), (.ref b190), (.ref b216)])) rfl (by rw [hml]; rfl) (argsL := [(.ref b216), (.ref b190), (.int (1 : Int32)), (.int (3 : Int32))]) (rest := []) (lenOf pd_4 rfl) rfl (by show 2 * 0 + _ ≤ _; exact Nat.le_of_eq rfl) (hb hby at_217) (fun _ _ => ⟨rfl, e298, (by decide : 3 + 0 ≤ _), (by decide : 10 + 0 ≤ _)⟩)
      dsimp only [Pt.U, Pt.locs, Pt.cells, Pt.slots] at X299 l299 y299 z299 st299 hQ299
      subst l299 y299 z299
      obtain ⟨rfl, N299q, e299⟩ := hQ299
      have N299 := Fr.app N298 N299q
      refine own_go st299 ?_
      show own_Fin p e below _ (T299.setTop (mkF m 220 #[.val (.int p1), .val (.int p2), .val (.int p3), .val (.int p4), .val (.int p5), .val (.int (3 : Int32)), .val (.ref b190), .val (.ref b216), .val (.int (3 : Int32)), .val (.ref b290), .unset] [(.int (1 : Int32))]))
      refine own_go (fun t k => XS.ifNo X299.here hx rfl (hb hby at_220) rfl ((if0 _ _).trans (feq (by decide : ¬ ((1 : Int32) = (0 : Int32)))).1) (XS.aload X299.here hx rfl (hb hby at_223) rfl rfl  (XS.aload X299.here hx rfl (hb hby at_225) rfl rfl  (XS.iconst X299.here hx rfl (hb hby at_227) (XS.iload X299.here hx rfl (hb hby at_228) rfl  k))))) ?_
      show own_Fin p e below _ (T299.setTop (mkF m 230 #[.val (.int p1), .val (.int p2), .val (.int p3), .val (.int p4), .val (.int p5), .val (.int (3 : Int32)), .val (.ref b190), .val (.ref b216), .val (.int (3 : Int32)), .val (.ref b290), .unset] [(.int (3 : Int32)), (.int (2 : Int32)), (.ref b190), (.ref b216)]))
      obtain ⟨_, _, ⟨T300, L300, k300, n300⟩, -, X300, ⟨Lc300, hQ300, l300, y300, z300⟩, st300⟩ := Jvm.LawKit.callS X299 hx (y := (⟨"com/example/keyslice/keyslice/storage/KeyRangeAfterPinLaw", "held", "([B[BII)Z"⟩ : MethodName)) hown (mvT hZ hw_10) (mvT hZ hw_11) (mvT hZ hw_4) (mvT hZ hw_12) (by decide) (backOf (W := 0) (rm3h23 l Z a0 hw [] (b216) (b190) k216 k190 (D0) (D1) (D2) (D3) T290.heap n0 Zh297 f296 f294) hZ hw_12 hw_4 (by decide) (by decide)) (g := (mkF m 230 #[.val (.int p1), .val (.int p2), .val (.int p3), .val (.int p4), .val (.int p5), .val (.int (3 : Int32)), .val (.ref b190), .val (.ref b216), .val (.int (3 : Int32)), .val (.ref b290), .unset] [(.int (3 : Int32)), (.int (2 : Int32)), (.ref b190), (.ref b216)])) rfl (by rw [hml]; rfl) (argsL := [(.ref b216), (.ref b190), (.int (2 : Int32)), (.int (3 : Int32))]) (rest := []) (lenOf pd_4 rfl) rfl (by show 2 * 0 + _ ≤ _; exact Nat.le_of_eq rfl) (hb hby at_230) (fun _ _ => ⟨rfl, e299, (by decide : 3 + 0 ≤ _), (by decide : 10 + 0 ≤ _)⟩)
      dsimp only [Pt.U, Pt.locs, Pt.cells, Pt.slots] at X300 l300 y300 z300 st300 hQ300
      subst l300 y300 z300
      obtain ⟨rfl, N300q, e300⟩ := hQ300
      have N300 := Fr.app N299 N300q
      refine own_go st300 ?_
      show own_Fin p e below _ (T300.setTop (mkF m 233 #[.val (.int p1), .val (.int p2), .val (.int p3), .val (.int p4), .val (.int p5), .val (.int (3 : Int32)), .val (.ref b190), .val (.ref b216), .val (.int (3 : Int32)), .val (.ref b290), .unset] [(.int (1 : Int32))]))
      refine own_go (fun t k => XS.ifNo X300.here hx rfl (hb hby at_233) rfl ((if0 _ _).trans (feq (by decide : ¬ ((1 : Int32) = (0 : Int32)))).1) (XS.aload X300.here hx rfl (hb hby at_236) rfl rfl  (XS.aload X300.here hx rfl (hb hby at_238) rfl rfl  (XS.iconst X300.here hx rfl (hb hby at_240) (XS.iload X300.here hx rfl (hb hby at_241) rfl  k))))) ?_
      show own_Fin p e below _ (T300.setTop (mkF m 243 #[.val (.int p1), .val (.int p2), .val (.int p3), .val (.int p4), .val (.int p5), .val (.int (3 : Int32)), .val (.ref b190), .val (.ref b216), .val (.int (3 : Int32)), .val (.ref b290), .unset] [(.int (3 : Int32)), (.int (3 : Int32)), (.ref b190), (.ref b216)]))
      obtain ⟨_, _, ⟨T301, L301, k301, n301⟩, -, X301, ⟨Lc301, hQ301, l301, y301, z301⟩, st301⟩ := Jvm.LawKit.callS X300 hx (y := (⟨"com/example/keyslice/keyslice/storage/KeyRangeAfterPinLaw", "held", "([B[BII)Z"⟩ : MethodName)) hown (mvT hZ hw_10) (mvT hZ hw_11) (mvT hZ hw_4) (mvT hZ hw_12) (by decide) (backOf (W := 0) (rm3h33 l Z a0 hw [] (b216) (b190) k216 k190 (D0) (D1) (D2) (D3) T290.heap n0 Zh297 f296 f294) hZ hw_12 hw_4 (by decide) (by decide)) (g := (mkF m 243 #[.val (.int p1), .val (.int p2), .val (.int p3), .val (.int p4), .val (.int p5), .val (.int (3 : Int32)), .val (.ref b190), .val (.ref b216), .val (.int (3 : Int32)), .val (.ref b290), .unset] [(.int (3 : Int32)), (.int (3 : Int32)), (.ref b190), (.ref b216)])) rfl (by rw [hml]; rfl) (argsL := [(.ref b216), (.ref b190), (.int (3 : Int32)), (.int (3 : Int32))]) (rest := []) (lenOf pd_4 rfl) rfl (by show 2 * 0 + _ ≤ _; exact Nat.le_of_eq rfl) (hb hby at_243) (fun _ _ => ⟨rfl, e300, (by decide : 3 + 0 ≤ _), (by decide : 10 + 0 ≤ _)⟩)
      dsimp only [Pt.U, Pt.locs, Pt.cells, Pt.slots] at X301 l301 y301 z301 st301 hQ301
      subst l301 y301 z301
      obtain ⟨rfl, N301q, e301⟩ := hQ301
      have N301 := Fr.app N300 N301q
      refine own_go st301 ?_
      show own_Fin p e below _ (T301.setTop (mkF m 246 #[.val (.int p1), .val (.int p2), .val (.int p3), .val (.int p4), .val (.int p5), .val (.int (3 : Int32)), .val (.ref b190), .val (.ref b216), .val (.int (3 : Int32)), .val (.ref b290), .unset] [(.int (1 : Int32))]))
      refine own_go (fun t k => XS.ifNo X301.here hx rfl (hb hby at_246) rfl ((if0 _ _).trans (feq (by decide : ¬ ((1 : Int32) = (0 : Int32)))).1) (XS.iconst X301.here hx rfl (hb hby at_249) (XS.goto X301.here hx rfl (pc0 := 250) (pc' := 254) rfl (hb hby at_250) (by decide) (by decide) (XS.istore X301.here hx rfl (hb hby at_254) rfl (l' := #[.val (.int p1), .val (.int p2), .val (.int p3), .val (.int p4), .val (.int p5), .val (.int (3 : Int32)), .val (.ref b190), .val (.ref b216), .val (.int (3 : Int32)), .val (.ref b290), .val (.int (1 : Int32))]) rfl (XS.iload X301.here hx rfl (hb hby at_256) rfl  k))))) ?_
      show own_Fin p e below _ (T301.setTop (mkF m 258 #[.val (.int p1), .val (.int p2), .val (.int p3), .val (.int p4), .val (.int p5), .val (.int (3 : Int32)), .val (.ref b190), .val (.ref b216), .val (.int (3 : Int32)), .val (.ref b290), .val (.int (1 : Int32))] [(.int (3 : Int32))]))
      refine own_go (fun t k => XS.ifYes X301.here hx rfl (pc0 := 258) (pc' := 277) rfl (hb hby at_258) rfl ((if0 _ _).trans (feq (by decide : ¬ ((3 : Int32) = (0 : Int32)))).2) (by decide) (by decide) (XS.aload X301.here hx rfl (hb hby at_277) rfl rfl  k)) ?_
      show own_Fin p e below _ (T301.setTop (mkF m 279 #[.val (.int p1), .val (.int p2), .val (.int p3), .val (.int p4), .val (.int p5), .val (.int (3 : Int32)), .val (.ref b190), .val (.ref b216), .val (.int (3 : Int32)), .val (.ref b290), .val (.int (1 : Int32))] [(.ref b290)]))
      refine own_go (fun t k => XS.ifnullNo X301.here hx rfl (hb hby at_279) rfl (XS.aload X301.here hx rfl (hb hby at_282) rfl rfl  (XS.aload X301.here hx rfl (hb hby at_284) rfl rfl  k))) ?_
      show own_Fin p e below _ (T301.setTop (mkF m 286 #[.val (.int p1), .val (.int p2), .val (.int p3), .val (.int p4), .val (.int p5), .val (.int (3 : Int32)), .val (.ref b190), .val (.ref b216), .val (.int (3 : Int32)), .val (.ref b290), .val (.int (1 : Int32))] [(.ref b216), (.ref b290)]))
      refine own_go (fun t k => Jvm.RoadKit.acmp (g := (mkF m 286 #[.val (.int p1), .val (.int p2), .val (.int p3), .val (.int p4), .val (.int p5), .val (.int (3 : Int32)), .val (.ref b190), .val (.ref b216), .val (.int (3 : Int32)), .val (.ref b290), .val (.int (1 : Int32))] [(.ref b216), (.ref b290)])) X301 hx rfl rfl rfl (pc0 := 286) (pc' := 289) (same := false) rfl (hb hby at_286) rfl (decide_eq_false fun q => (Ne.symm ne292) (Value.ref.inj q)) (by decide) (by decide) (XS.aload X301.here hx rfl (hb hby at_289) rfl rfl  k)) ?_
      show own_Fin p e below _ (T301.setTop (mkF m 291 #[.val (.int p1), .val (.int p2), .val (.int p3), .val (.int p4), .val (.int p5), .val (.int (3 : Int32)), .val (.ref b190), .val (.ref b216), .val (.int (3 : Int32)), .val (.ref b290), .val (.int (1 : Int32))] [(.ref b290)]))
      obtain ⟨cl302, Ar302, q302, S302, M302, H302, G302⟩ := (id V290)
      refine own_go (fun t k => X301.arraylength hx (by rw [e301]; exact Ar302.1) (State.isArrayOf_alike hZ.alike Ar302.2.1) (g := (mkF m 291 #[.val (.int p1), .val (.int p2), .val (.int p3), .val (.int p4), .val (.int p5), .val (.int (3 : Int32)), .val (.ref b190), .val (.ref b216), .val (.int (3 : Int32)), .val (.ref b290), .val (.int (1 : Int32))] [(.ref b290)])) rfl rfl (hb hby at_291) _ k) ?_
      rw [len_of S302 M302]
      show own_Fin p e below _ (T301.setTop (mkF m 292 #[.val (.int p1), .val (.int p2), .val (.int p3), .val (.int p4), .val (.int p5), .val (.int (3 : Int32)), .val (.ref b190), .val (.ref b216), .val (.int (3 : Int32)), .val (.ref b290), .val (.int (1 : Int32))] [(.int (3 : Int32))]))
      refine own_go (fun t k => XS.iload X301.here hx rfl (hb hby at_292) rfl  k) ?_
      show own_Fin p e below _ (T301.setTop (mkF m 294 #[.val (.int p1), .val (.int p2), .val (.int p3), .val (.int p4), .val (.int p5), .val (.int (3 : Int32)), .val (.ref b190), .val (.ref b216), .val (.int (3 : Int32)), .val (.ref b290), .val (.int (1 : Int32))] [(.int (3 : Int32)), (.int (3 : Int32))]))
      refine own_go (fun t k => XS.icmpYes X301.here hx rfl (pc0 := 294) (pc' := 299) rfl (hb hby at_294) rfl (teq (by decide : (3 : Int32) = (3 : Int32))).1 (by decide) (by decide) (XS.iload X301.here hx rfl (hb hby at_299) rfl  k)) ?_
      show own_Fin p e below _ (T301.setTop (mkF m 301 #[.val (.int p1), .val (.int p2), .val (.int p3), .val (.int p4), .val (.int p5), .val (.int (3 : Int32)), .val (.ref b190), .val (.ref b216), .val (.int (3 : Int32)), .val (.ref b290), .val (.int (1 : Int32))] [(.int (1 : Int32))]))
      refine own_go (fun t k => XS.ifNo X301.here hx rfl (hb hby at_301) rfl ((if0 _ _).trans (feq (by decide : ¬ ((1 : Int32) = (0 : Int32)))).1) (XS.aload X301.here hx rfl (hb hby at_304) rfl rfl  (XS.aload X301.here hx rfl (hb hby at_306) rfl rfl  (XS.iconst X301.here hx rfl (hb hby at_308) (XS.iload X301.here hx rfl (hb hby at_309) rfl  k))))) ?_
      show own_Fin p e below _ (T301.setTop (mkF m 311 #[.val (.int p1), .val (.int p2), .val (.int p3), .val (.int p4), .val (.int p5), .val (.int (3 : Int32)), .val (.ref b190), .val (.ref b216), .val (.int (3 : Int32)), .val (.ref b290), .val (.int (1 : Int32))] [(.int (3 : Int32)), (.int (0 : Int32)), (.ref b190), (.ref b290)]))
      obtain ⟨_, _, ⟨T303, L303, k303, n303⟩, -, X303, ⟨Lc303, hQ303, l303, y303, z303⟩, st303⟩ := Jvm.LawKit.callS X301 hx (y := (⟨"com/example/keyslice/keyslice/storage/KeyRangeAfterPinLaw", "slot", "([B[BII)Z"⟩ : MethodName)) hown (mvT hZ hw_26) (mvT hZ hw_27) (mvT hZ hw_4) (mvT hZ hw_28) (by decide) (backOf (W := 0) (rm5s03 l Z a0 hw [] (b290) (b190) k290 k190 (D0) (D1) (D2) (D3) T290.heap n0 Zh297 V290 f294) hZ hw_28 hw_4 (by decide) (by decide)) (g := (mkF m 311 #[.val (.int p1), .val (.int p2), .val (.int p3), .val (.int p4), .val (.int p5), .val (.int (3 : Int32)), .val (.ref b190), .val (.ref b216), .val (.int (3 : Int32)), .val (.ref b290), .val (.int (1 : Int32))] [(.int (3 : Int32)), (.int (0 : Int32)), (.ref b190), (.ref b290)])) rfl (by rw [hml]; rfl) (argsL := [(.ref b290), (.ref b190), (.int (0 : Int32)), (.int (3 : Int32))]) (rest := []) (lenOf pd_4 rfl) rfl (by show 2 * 0 + _ ≤ _; exact Nat.le_of_eq rfl) (hb hby at_311) (fun _ _ => ⟨rfl, e301, (by decide : 3 + 0 ≤ _), (by decide : 10 + 0 ≤ _)⟩)
      dsimp only [Pt.U, Pt.locs, Pt.cells, Pt.slots] at X303 l303 y303 z303 st303 hQ303
      subst l303 y303 z303
      obtain ⟨rfl, N303q, e303⟩ := hQ303
      have N303 := Fr.app N301 N303q
      refine own_go st303 ?_
      show own_Fin p e below _ (T303.setTop (mkF m 314 #[.val (.int p1), .val (.int p2), .val (.int p3), .val (.int p4), .val (.int p5), .val (.int (3 : Int32)), .val (.ref b190), .val (.ref b216), .val (.int (3 : Int32)), .val (.ref b290), .val (.int (1 : Int32))] [(.int (1 : Int32))]))
      refine own_go (fun t k => XS.ifNo X303.here hx rfl (hb hby at_314) rfl ((if0 _ _).trans (feq (by decide : ¬ ((1 : Int32) = (0 : Int32)))).1) (XS.aload X303.here hx rfl (hb hby at_317) rfl rfl  (XS.aload X303.here hx rfl (hb hby at_319) rfl rfl  (XS.iconst X303.here hx rfl (hb hby at_321) (XS.iload X303.here hx rfl (hb hby at_322) rfl  k))))) ?_
      show own_Fin p e below _ (T303.setTop (mkF m 324 #[.val (.int p1), .val (.int p2), .val (.int p3), .val (.int p4), .val (.int p5), .val (.int (3 : Int32)), .val (.ref b190), .val (.ref b216), .val (.int (3 : Int32)), .val (.ref b290), .val (.int (1 : Int32))] [(.int (3 : Int32)), (.int (1 : Int32)), (.ref b190), (.ref b290)]))
      obtain ⟨_, _, ⟨T304, L304, k304, n304⟩, -, X304, ⟨Lc304, hQ304, l304, y304, z304⟩, st304⟩ := Jvm.LawKit.callS X303 hx (y := (⟨"com/example/keyslice/keyslice/storage/KeyRangeAfterPinLaw", "slot", "([B[BII)Z"⟩ : MethodName)) hown (mvT hZ hw_26) (mvT hZ hw_27) (mvT hZ hw_4) (mvT hZ hw_28) (by decide) (backOf (W := 0) (rm5s13 l Z a0 hw [] (b290) (b190) k290 k190 (D0) (D1) (D2) (D3) T290.heap n0 Zh297 V290 f294) hZ hw_28 hw_4 (by decide) (by decide)) (g := (mkF m 324 #[.val (.int p1), .val (.int p2), .val (.int p3), .val (.int p4), .val (.int p5), .val (.int (3 : Int32)), .val (.ref b190), .val (.ref b216), .val (.int (3 : Int32)), .val (.ref b290), .val (.int (1 : Int32))] [(.int (3 : Int32)), (.int (1 : Int32)), (.ref b190), (.ref b290)])) rfl (by rw [hml]; rfl) (argsL := [(.ref b290), (.ref b190), (.int (1 : Int32)), (.int (3 : Int32))]) (rest := []) (lenOf pd_4 rfl) rfl (by show 2 * 0 + _ ≤ _; exact Nat.le_of_eq rfl) (hb hby at_324) (fun _ _ => ⟨rfl, e303, (by decide : 3 + 0 ≤ _), (by decide : 10 + 0 ≤ _)⟩)
      dsimp only [Pt.U, Pt.locs, Pt.cells, Pt.slots] at X304 l304 y304 z304 st304 hQ304
      subst l304 y304 z304
      obtain ⟨rfl, N304q, e304⟩ := hQ304
      have N304 := Fr.app N303 N304q
      refine own_go st304 ?_
      show own_Fin p e below _ (T304.setTop (mkF m 327 #[.val (.int p1), .val (.int p2), .val (.int p3), .val (.int p4), .val (.int p5), .val (.int (3 : Int32)), .val (.ref b190), .val (.ref b216), .val (.int (3 : Int32)), .val (.ref b290), .val (.int (1 : Int32))] [(.int (1 : Int32))]))
      refine own_go (fun t k => XS.ifNo X304.here hx rfl (hb hby at_327) rfl ((if0 _ _).trans (feq (by decide : ¬ ((1 : Int32) = (0 : Int32)))).1) (XS.aload X304.here hx rfl (hb hby at_330) rfl rfl  (XS.aload X304.here hx rfl (hb hby at_332) rfl rfl  (XS.iconst X304.here hx rfl (hb hby at_334) (XS.iload X304.here hx rfl (hb hby at_335) rfl  k))))) ?_
      show own_Fin p e below _ (T304.setTop (mkF m 337 #[.val (.int p1), .val (.int p2), .val (.int p3), .val (.int p4), .val (.int p5), .val (.int (3 : Int32)), .val (.ref b190), .val (.ref b216), .val (.int (3 : Int32)), .val (.ref b290), .val (.int (1 : Int32))] [(.int (3 : Int32)), (.int (2 : Int32)), (.ref b190), (.ref b290)]))
      obtain ⟨_, _, ⟨T305, L305, k305, n305⟩, -, X305, ⟨Lc305, hQ305, l305, y305, z305⟩, st305⟩ := Jvm.LawKit.callS X304 hx (y := (⟨"com/example/keyslice/keyslice/storage/KeyRangeAfterPinLaw", "slot", "([B[BII)Z"⟩ : MethodName)) hown (mvT hZ hw_26) (mvT hZ hw_27) (mvT hZ hw_4) (mvT hZ hw_28) (by decide) (backOf (W := 0) (rm5s23 l Z a0 hw [] (b290) (b190) k290 k190 (D0) (D1) (D2) (D3) T290.heap n0 Zh297 V290 f294) hZ hw_28 hw_4 (by decide) (by decide)) (g := (mkF m 337 #[.val (.int p1), .val (.int p2), .val (.int p3), .val (.int p4), .val (.int p5), .val (.int (3 : Int32)), .val (.ref b190), .val (.ref b216), .val (.int (3 : Int32)), .val (.ref b290), .val (.int (1 : Int32))] [(.int (3 : Int32)), (.int (2 : Int32)), (.ref b190), (.ref b290)])) rfl (by rw [hml]; rfl) (argsL := [(.ref b290), (.ref b190), (.int (2 : Int32)), (.int (3 : Int32))]) (rest := []) (lenOf pd_4 rfl) rfl (by show 2 * 0 + _ ≤ _; exact Nat.le_of_eq rfl) (hb hby at_337) (fun _ _ => ⟨rfl, e304, (by decide : 3 + 0 ≤ _), (by decide : 10 + 0 ≤ _)⟩)
      dsimp only [Pt.U, Pt.locs, Pt.cells, Pt.slots] at X305 l305 y305 z305 st305 hQ305
      subst l305 y305 z305
      obtain ⟨rfl, N305q, e305⟩ := hQ305
      have N305 := Fr.app N304 N305q
      refine own_go st305 ?_
      show own_Fin p e below _ (T305.setTop (mkF m 340 #[.val (.int p1), .val (.int p2), .val (.int p3), .val (.int p4), .val (.int p5), .val (.int (3 : Int32)), .val (.ref b190), .val (.ref b216), .val (.int (3 : Int32)), .val (.ref b290), .val (.int (1 : Int32))] [(.int (1 : Int32))]))
      refine own_go (fun t k => XS.ifNo X305.here hx rfl (hb hby at_340) rfl ((if0 _ _).trans (feq (by decide : ¬ ((1 : Int32) = (0 : Int32)))).1) (XS.aload X305.here hx rfl (hb hby at_343) rfl rfl  (XS.aload X305.here hx rfl (hb hby at_345) rfl rfl  (XS.iconst X305.here hx rfl (hb hby at_347) (XS.iload X305.here hx rfl (hb hby at_348) rfl  k))))) ?_
      show own_Fin p e below _ (T305.setTop (mkF m 350 #[.val (.int p1), .val (.int p2), .val (.int p3), .val (.int p4), .val (.int p5), .val (.int (3 : Int32)), .val (.ref b190), .val (.ref b216), .val (.int (3 : Int32)), .val (.ref b290), .val (.int (1 : Int32))] [(.int (3 : Int32)), (.int (3 : Int32)), (.ref b190), (.ref b290)]))
      obtain ⟨_, _, ⟨T306, L306, k306, n306⟩, -, X306, ⟨Lc306, hQ306, l306, y306, z306⟩, st306⟩ := Jvm.LawKit.callS X305 hx (y := (⟨"com/example/keyslice/keyslice/storage/KeyRangeAfterPinLaw", "slot", "([B[BII)Z"⟩ : MethodName)) hown (mvT hZ hw_26) (mvT hZ hw_27) (mvT hZ hw_4) (mvT hZ hw_28) (by decide) (backOf (W := 0) (rm5s33 l Z a0 hw [] (b290) (b190) k290 k190 (D0) (D1) (D2) (D3) T290.heap n0 Zh297 V290 f294) hZ hw_28 hw_4 (by decide) (by decide)) (g := (mkF m 350 #[.val (.int p1), .val (.int p2), .val (.int p3), .val (.int p4), .val (.int p5), .val (.int (3 : Int32)), .val (.ref b190), .val (.ref b216), .val (.int (3 : Int32)), .val (.ref b290), .val (.int (1 : Int32))] [(.int (3 : Int32)), (.int (3 : Int32)), (.ref b190), (.ref b290)])) rfl (by rw [hml]; rfl) (argsL := [(.ref b290), (.ref b190), (.int (3 : Int32)), (.int (3 : Int32))]) (rest := []) (lenOf pd_4 rfl) rfl (by show 2 * 0 + _ ≤ _; exact Nat.le_of_eq rfl) (hb hby at_350) (fun _ _ => ⟨rfl, e305, (by decide : 3 + 0 ≤ _), (by decide : 10 + 0 ≤ _)⟩)
      dsimp only [Pt.U, Pt.locs, Pt.cells, Pt.slots] at X306 l306 y306 z306 st306 hQ306
      subst l306 y306 z306
      obtain ⟨rfl, N306q, e306⟩ := hQ306
      have N306 := Fr.app N305 N306q
      refine own_go st306 ?_
      show own_Fin p e below _ (T306.setTop (mkF m 353 #[.val (.int p1), .val (.int p2), .val (.int p3), .val (.int p4), .val (.int p5), .val (.int (3 : Int32)), .val (.ref b190), .val (.ref b216), .val (.int (3 : Int32)), .val (.ref b290), .val (.int (1 : Int32))] [(.int (1 : Int32))]))
      refine own_go (fun t k => XS.ifNo X306.here hx rfl (hb hby at_353) rfl ((if0 _ _).trans (feq (by decide : ¬ ((1 : Int32) = (0 : Int32)))).1) (XS.iconst X306.here hx rfl (hb hby at_356) (XS.goto X306.here hx rfl (pc0 := 357) (pc' := 361) rfl (hb hby at_357) (by decide) (by decide) k))) ?_
      show own_Fin p e below _ (T306.setTop (mkF m 361 #[.val (.int p1), .val (.int p2), .val (.int p3), .val (.int p4), .val (.int p5), .val (.int (3 : Int32)), .val (.ref b190), .val (.ref b216), .val (.int (3 : Int32)), .val (.ref b290), .val (.int (1 : Int32))] [(.int (1 : Int32))]))
      exact own_out X306 (fun h => by rw [Bd.returns] at h; cases h) Bd.notSynchronized (fun fs hr => retN X306 hx (t := .boolean) Bd.returns (by simp) (hb hby at_361) hr) ⟨rfl, N306⟩ (by decide) (by decide)
  · skip
    rw [h]
    show own_Fin p e below _ (s₁.setTop (mkF m 6 #[.val (.int p1), .val (.int p2), .val (.int p3), .val (.int p4), .val (.int p5), .unset, .unset, .unset, .unset, .unset, .unset] [(.int (4 : Int32))]))
    refine own_go (fun t k => XS.istore X0.here hx rfl (hb hby at_6) rfl (l' := #[.val (.int p1), .val (.int p2), .val (.int p3), .val (.int p4), .val (.int p5), .val (.int (4 : Int32)), .unset, .unset, .unset, .unset, .unset]) rfl (XS.iconst X0.here hx rfl (hb hby at_8) k)) ?_
    show own_Fin p e below _ (s₁.setTop (mkF m 9 #[.val (.int p1), .val (.int p2), .val (.int p3), .val (.int p4), .val (.int p5), .val (.int (4 : Int32)), .unset, .unset, .unset, .unset, .unset] [(.int (4 : Int32))]))
    obtain ⟨T307, h307, k307, X307, e307, E307, A307, Ea307, st307⟩ := newPE (aty := .byte) X0 hx hZ hw_1 e0 (g := (mkF m 9 #[.val (.int p1), .val (.int p2), .val (.int p3), .val (.int p4), .val (.int p5), .val (.int (4 : Int32)), .unset, .unset, .unset, .unset, .unset] [(.int (4 : Int32))])) rfl (hb hby at_9) rfl (by decide) (cap := 4) (by decide) (by decide) (by decide) (by decide) (ad := "[B") (by decide)
    obtain ⟨b307, g307⟩ : ∃ z, z = h0.size := ⟨_, rfl⟩
    rw [← g307] at A307 Ea307 st307
    have g_b307 : n0 ≤ b307 := Nat.le_trans Z0 (Nat.le_of_eq g307.symm)
    have Zh308 : n0 ≤ h307.size := Nat.le_trans Z0 E307.1
    have V307 : Arv Z h307 b307 k307 .byte (4 : Int32) [(.int (0 : Int32)), (.int (0 : Int32)), (.int (0 : Int32)), (.int (0 : Int32))] (.int (0 : Int32)) := (Arv.new A307 (by decide)).pad (pad_rep [] (.int (0 : Int32)) 4)
    refine own_go st307 ?_
    show own_Fin p e below _ (T307.setTop (mkF m 11 #[.val (.int p1), .val (.int p2), .val (.int p3), .val (.int p4), .val (.int p5), .val (.int (4 : Int32)), .unset, .unset, .unset, .unset, .unset] [(.ref b307)]))
    refine own_go (fun t k => XS.astore X307.here hx rfl (hb hby at_11) rfl rfl (l' := #[.val (.int p1), .val (.int p2), .val (.int p3), .val (.int p4), .val (.int p5), .val (.int (4 : Int32)), .val (.ref b307), .unset, .unset, .unset, .unset]) rfl (XS.aload X307.here hx rfl (hb hby at_13) rfl rfl  (XS.iconst X307.here hx rfl (hb hby at_15) (XS.iloadN X307.here hx rfl (hb hby at_16) rfl  k)))) ?_
    show own_Fin p e below _ (T307.setTop (mkF m 17 #[.val (.int p1), .val (.int p2), .val (.int p3), .val (.int p4), .val (.int p5), .val (.int (4 : Int32)), .val (.ref b307), .unset, .unset, .unset, .unset] [(.int p2), (.int (0 : Int32)), (.ref b307)]))
    obtain ⟨_, _, ⟨T309, L309, k309, n309⟩, -, X309, ⟨Lc309, hQ309, l309, y309, z309⟩, st309⟩ := Jvm.LawKit.callS X307 hx (y := (⟨"com/example/keyslice/keyslice/storage/KeyRangeAfterPinLaw", "draw", "(I)B"⟩ : MethodName)) hown (mvT hZ hw_2) (mvT hZ hw_3) (mvT hZ hw_4) (mvT hZ hw_5) (by decide) (backOf (W := 2) (rm1 l Z a0 hw [] (p2)  h307 n0 Zh308 ) hZ hw_5 hw_4 (by decide) (by decide)) (g := (mkF m 17 #[.val (.int p1), .val (.int p2), .val (.int p3), .val (.int p4), .val (.int p5), .val (.int (4 : Int32)), .val (.ref b307), .unset, .unset, .unset, .unset] [(.int p2), (.int (0 : Int32)), (.ref b307)])) rfl (by rw [hml]; rfl) (argsL := [(.int p2)]) (rest := [(.int (0 : Int32)), (.ref b307)]) (lenOf pd_2 rfl) rfl (by show 2 * 0 + _ ≤ _; exact Nat.le_of_eq rfl) (hb hby at_17) (fun _ _ => ⟨rfl, e307, (by decide : 1 + 0 ≤ _), (by decide : 4 + 0 ≤ _)⟩)
    dsimp only [Pt.U, Pt.locs, Pt.cells, Pt.slots] at X309 l309 y309 z309 st309 hQ309
    subst l309 y309 z309
    obtain ⟨rfl, N309q, e309⟩ := hQ309
    have N309 := Fr.app N0 N309q
    refine own_go st309 ?_
    show own_Fin p e below _ (T309.setTop (mkF m 20 #[.val (.int p1), .val (.int p2), .val (.int p3), .val (.int p4), .val (.int p5), .val (.int (4 : Int32)), .val (.ref b307), .unset, .unset, .unset, .unset] [(.int (own_dr_3 p2)), (.int (0 : Int32)), (.ref b307)]))
    obtain ⟨D0, h_D0⟩ : ∃ z : Int32, z = (own_dr_3 p2) := ⟨_, rfl⟩
    rw [← h_D0]
    show own_Fin p e below _ (T309.setTop (mkF m 20 #[.val (.int p1), .val (.int p2), .val (.int p3), .val (.int p4), .val (.int p5), .val (.int (4 : Int32)), .val (.ref b307), .unset, .unset, .unset, .unset] [(.int D0), (.int (0 : Int32)), (.ref b307)]))
    have hN0 : nar .byte D0 = D0 := by rw [h_D0]; exact own_nn _
    obtain ⟨cl310, Ar310, q310, S310, M310, H310, G310⟩ := (id V307)
    have hin310 : ¬ ((0 : Int32) < 0 ∨ cl310.slots.size ≤ ((0 : Int32)).toNatClampNeg) := inb_of S310 ⟨by decide, by decide⟩
    obtain ⟨T310, h310, X310, e310, W310, st310⟩ := stB X309 hx hZ e309 Ar310 (j := (0 : Int32)) hin310 (g := (mkF m 20 #[.val (.int p1), .val (.int p2), .val (.int p3), .val (.int p4), .val (.int p5), .val (.int (4 : Int32)), .val (.ref b307), .unset, .unset, .unset, .unset] [(.int D0), (.int (0 : Int32)), (.ref b307)])) rfl rfl (hb hby at_20)
    have f311 := Ea307.wr W310
    have V310 := Arv.set Ar310 q310 S310 M310 H310 G310 (fits_nar_byte _) W310 0 rfl (Nat.le_of_ble_eq_true rfl)
    have f313 : Arv Z h310 b307 k307 .byte (4 : Int32) [(.int (nar .byte D0)), (.int (0 : Int32)), (.int (0 : Int32)), (.int (0 : Int32))] (.int (0 : Int32)) := V310
    rw [hN0] at f313
    have Zh314 : n0 ≤ h310.size := Nat.le_trans Zh308 (Nat.le_of_eq W310.size.symm)
    have N310 := Fr.snoc X310 N309 g_b307
    refine own_go st310 ?_
    show own_Fin p e below _ (T310.setTop (mkF m 21 #[.val (.int p1), .val (.int p2), .val (.int p3), .val (.int p4), .val (.int p5), .val (.int (4 : Int32)), .val (.ref b307), .unset, .unset, .unset, .unset] []))
    refine own_go (fun t k => XS.aload X310.here hx rfl (hb hby at_21) rfl rfl  (XS.iconst X310.here hx rfl (hb hby at_23) (XS.iloadN X310.here hx rfl (hb hby at_24) rfl  k))) ?_
    show own_Fin p e below _ (T310.setTop (mkF m 25 #[.val (.int p1), .val (.int p2), .val (.int p3), .val (.int p4), .val (.int p5), .val (.int (4 : Int32)), .val (.ref b307), .unset, .unset, .unset, .unset] [(.int p3), (.int (1 : Int32)), (.ref b307)]))
    obtain ⟨_, _, ⟨T315, L315, k315, n315⟩, -, X315, ⟨Lc315, hQ315, l315, y315, z315⟩, st315⟩ := Jvm.LawKit.callS X310 hx (y := (⟨"com/example/keyslice/keyslice/storage/KeyRangeAfterPinLaw", "draw", "(I)B"⟩ : MethodName)) hown (mvT hZ hw_2) (mvT hZ hw_3) (mvT hZ hw_4) (mvT hZ hw_5) (by decide) (backOf (W := 2) (rm1 l Z a0 hw [] (p3)  h310 n0 Zh314 ) hZ hw_5 hw_4 (by decide) (by decide)) (g := (mkF m 25 #[.val (.int p1), .val (.int p2), .val (.int p3), .val (.int p4), .val (.int p5), .val (.int (4 : Int32)), .val (.ref b307), .unset, .unset, .unset, .unset] [(.int p3), (.int (1 : Int32)), (.ref b307)])) rfl (by rw [hml]; rfl) (argsL := [(.int p3)]) (rest := [(.int (1 : Int32)), (.ref b307)]) (lenOf pd_2 rfl) rfl (by show 2 * 0 + _ ≤ _; exact Nat.le_of_eq rfl) (hb hby at_25) (fun _ _ => ⟨rfl, e310, (by decide : 1 + 0 ≤ _), (by decide : 4 + 0 ≤ _)⟩)
    dsimp only [Pt.U, Pt.locs, Pt.cells, Pt.slots] at X315 l315 y315 z315 st315 hQ315
    subst l315 y315 z315
    obtain ⟨rfl, N315q, e315⟩ := hQ315
    have N315 := Fr.app N310 N315q
    refine own_go st315 ?_
    show own_Fin p e below _ (T315.setTop (mkF m 28 #[.val (.int p1), .val (.int p2), .val (.int p3), .val (.int p4), .val (.int p5), .val (.int (4 : Int32)), .val (.ref b307), .unset, .unset, .unset, .unset] [(.int (own_dr_3 p3)), (.int (1 : Int32)), (.ref b307)]))
    obtain ⟨D1, h_D1⟩ : ∃ z : Int32, z = (own_dr_3 p3) := ⟨_, rfl⟩
    rw [← h_D1]
    show own_Fin p e below _ (T315.setTop (mkF m 28 #[.val (.int p1), .val (.int p2), .val (.int p3), .val (.int p4), .val (.int p5), .val (.int (4 : Int32)), .val (.ref b307), .unset, .unset, .unset, .unset] [(.int D1), (.int (1 : Int32)), (.ref b307)]))
    have hN1 : nar .byte D1 = D1 := by rw [h_D1]; exact own_nn _
    obtain ⟨cl316, Ar316, q316, S316, M316, H316, G316⟩ := (id f313)
    have hin316 : ¬ ((1 : Int32) < 0 ∨ cl316.slots.size ≤ ((1 : Int32)).toNatClampNeg) := inb_of S316 ⟨by decide, by decide⟩
    obtain ⟨T316, h316, X316, e316, W316, st316⟩ := stB X315 hx hZ e315 Ar316 (j := (1 : Int32)) hin316 (g := (mkF m 28 #[.val (.int p1), .val (.int p2), .val (.int p3), .val (.int p4), .val (.int p5), .val (.int (4 : Int32)), .val (.ref b307), .unset, .unset, .unset, .unset] [(.int D1), (.int (1 : Int32)), (.ref b307)])) rfl rfl (hb hby at_28)
    have f317 := f311.wr W316
    have V316 := Arv.set Ar316 q316 S316 M316 H316 G316 (fits_nar_byte _) W316 1 rfl (Nat.le_of_ble_eq_true rfl)
    have f319 : Arv Z h316 b307 k307 .byte (4 : Int32) [(.int D0), (.int (nar .byte D1)), (.int (0 : Int32)), (.int (0 : Int32))] (.int (0 : Int32)) := V316
    rw [hN1] at f319
    have Zh320 : n0 ≤ h316.size := Nat.le_trans Zh314 (Nat.le_of_eq W316.size.symm)
    have N316 := Fr.snoc X316 N315 g_b307
    refine own_go st316 ?_
    show own_Fin p e below _ (T316.setTop (mkF m 29 #[.val (.int p1), .val (.int p2), .val (.int p3), .val (.int p4), .val (.int p5), .val (.int (4 : Int32)), .val (.ref b307), .unset, .unset, .unset, .unset] []))
    refine own_go (fun t k => XS.aload X316.here hx rfl (hb hby at_29) rfl rfl  (XS.iconst X316.here hx rfl (hb hby at_31) (XS.iloadN X316.here hx rfl (hb hby at_32) rfl  k))) ?_
    show own_Fin p e below _ (T316.setTop (mkF m 33 #[.val (.int p1), .val (.int p2), .val (.int p3), .val (.int p4), .val (.int p5), .val (.int (4 : Int32)), .val (.ref b307), .unset, .unset, .unset, .unset] [(.int p4), (.int (2 : Int32)), (.ref b307)]))
    obtain ⟨_, _, ⟨T321, L321, k321, n321⟩, -, X321, ⟨Lc321, hQ321, l321, y321, z321⟩, st321⟩ := Jvm.LawKit.callS X316 hx (y := (⟨"com/example/keyslice/keyslice/storage/KeyRangeAfterPinLaw", "draw", "(I)B"⟩ : MethodName)) hown (mvT hZ hw_2) (mvT hZ hw_3) (mvT hZ hw_4) (mvT hZ hw_5) (by decide) (backOf (W := 2) (rm1 l Z a0 hw [] (p4)  h316 n0 Zh320 ) hZ hw_5 hw_4 (by decide) (by decide)) (g := (mkF m 33 #[.val (.int p1), .val (.int p2), .val (.int p3), .val (.int p4), .val (.int p5), .val (.int (4 : Int32)), .val (.ref b307), .unset, .unset, .unset, .unset] [(.int p4), (.int (2 : Int32)), (.ref b307)])) rfl (by rw [hml]; rfl) (argsL := [(.int p4)]) (rest := [(.int (2 : Int32)), (.ref b307)]) (lenOf pd_2 rfl) rfl (by show 2 * 0 + _ ≤ _; exact Nat.le_of_eq rfl) (hb hby at_33) (fun _ _ => ⟨rfl, e316, (by decide : 1 + 0 ≤ _), (by decide : 4 + 0 ≤ _)⟩)
    dsimp only [Pt.U, Pt.locs, Pt.cells, Pt.slots] at X321 l321 y321 z321 st321 hQ321
    subst l321 y321 z321
    obtain ⟨rfl, N321q, e321⟩ := hQ321
    have N321 := Fr.app N316 N321q
    refine own_go st321 ?_
    show own_Fin p e below _ (T321.setTop (mkF m 36 #[.val (.int p1), .val (.int p2), .val (.int p3), .val (.int p4), .val (.int p5), .val (.int (4 : Int32)), .val (.ref b307), .unset, .unset, .unset, .unset] [(.int (own_dr_3 p4)), (.int (2 : Int32)), (.ref b307)]))
    obtain ⟨D2, h_D2⟩ : ∃ z : Int32, z = (own_dr_3 p4) := ⟨_, rfl⟩
    rw [← h_D2]
    show own_Fin p e below _ (T321.setTop (mkF m 36 #[.val (.int p1), .val (.int p2), .val (.int p3), .val (.int p4), .val (.int p5), .val (.int (4 : Int32)), .val (.ref b307), .unset, .unset, .unset, .unset] [(.int D2), (.int (2 : Int32)), (.ref b307)]))
    have hN2 : nar .byte D2 = D2 := by rw [h_D2]; exact own_nn _
    obtain ⟨cl322, Ar322, q322, S322, M322, H322, G322⟩ := (id f319)
    have hin322 : ¬ ((2 : Int32) < 0 ∨ cl322.slots.size ≤ ((2 : Int32)).toNatClampNeg) := inb_of S322 ⟨by decide, by decide⟩
    obtain ⟨T322, h322, X322, e322, W322, st322⟩ := stB X321 hx hZ e321 Ar322 (j := (2 : Int32)) hin322 (g := (mkF m 36 #[.val (.int p1), .val (.int p2), .val (.int p3), .val (.int p4), .val (.int p5), .val (.int (4 : Int32)), .val (.ref b307), .unset, .unset, .unset, .unset] [(.int D2), (.int (2 : Int32)), (.ref b307)])) rfl rfl (hb hby at_36)
    have f323 := f317.wr W322
    have V322 := Arv.set Ar322 q322 S322 M322 H322 G322 (fits_nar_byte _) W322 2 rfl (Nat.le_of_ble_eq_true rfl)
    have f325 : Arv Z h322 b307 k307 .byte (4 : Int32) [(.int D0), (.int D1), (.int (nar .byte D2)), (.int (0 : Int32))] (.int (0 : Int32)) := V322
    rw [hN2] at f325
    have Zh326 : n0 ≤ h322.size := Nat.le_trans Zh320 (Nat.le_of_eq W322.size.symm)
    have N322 := Fr.snoc X322 N321 g_b307
    refine own_go st322 ?_
    show own_Fin p e below _ (T322.setTop (mkF m 37 #[.val (.int p1), .val (.int p2), .val (.int p3), .val (.int p4), .val (.int p5), .val (.int (4 : Int32)), .val (.ref b307), .unset, .unset, .unset, .unset] []))
    refine own_go (fun t k => XS.aload X322.here hx rfl (hb hby at_37) rfl rfl  (XS.iconst X322.here hx rfl (hb hby at_39) (XS.iload X322.here hx rfl (hb hby at_40) rfl  k))) ?_
    show own_Fin p e below _ (T322.setTop (mkF m 42 #[.val (.int p1), .val (.int p2), .val (.int p3), .val (.int p4), .val (.int p5), .val (.int (4 : Int32)), .val (.ref b307), .unset, .unset, .unset, .unset] [(.int p5), (.int (3 : Int32)), (.ref b307)]))
    obtain ⟨_, _, ⟨T327, L327, k327, n327⟩, -, X327, ⟨Lc327, hQ327, l327, y327, z327⟩, st327⟩ := Jvm.LawKit.callS X322 hx (y := (⟨"com/example/keyslice/keyslice/storage/KeyRangeAfterPinLaw", "draw", "(I)B"⟩ : MethodName)) hown (mvT hZ hw_2) (mvT hZ hw_3) (mvT hZ hw_4) (mvT hZ hw_5) (by decide) (backOf (W := 2) (rm1 l Z a0 hw [] (p5)  h322 n0 Zh326 ) hZ hw_5 hw_4 (by decide) (by decide)) (g := (mkF m 42 #[.val (.int p1), .val (.int p2), .val (.int p3), .val (.int p4), .val (.int p5), .val (.int (4 : Int32)), .val (.ref b307), .unset, .unset, .unset, .unset] [(.int p5), (.int (3 : Int32)), (.ref b307)])) rfl (by rw [hml]; rfl) (argsL := [(.int p5)]) (rest := [(.int (3 : Int32)), (.ref b307)]) (lenOf pd_2 rfl) rfl (by show 2 * 0 + _ ≤ _; exact Nat.le_of_eq rfl) (hb hby at_42) (fun _ _ => ⟨rfl, e322, (by decide : 1 + 0 ≤ _), (by decide : 4 + 0 ≤ _)⟩)
    dsimp only [Pt.U, Pt.locs, Pt.cells, Pt.slots] at X327 l327 y327 z327 st327 hQ327
    subst l327 y327 z327
    obtain ⟨rfl, N327q, e327⟩ := hQ327
    have N327 := Fr.app N322 N327q
    refine own_go st327 ?_
    show own_Fin p e below _ (T327.setTop (mkF m 45 #[.val (.int p1), .val (.int p2), .val (.int p3), .val (.int p4), .val (.int p5), .val (.int (4 : Int32)), .val (.ref b307), .unset, .unset, .unset, .unset] [(.int (own_dr_3 p5)), (.int (3 : Int32)), (.ref b307)]))
    obtain ⟨D3, h_D3⟩ : ∃ z : Int32, z = (own_dr_3 p5) := ⟨_, rfl⟩
    rw [← h_D3]
    show own_Fin p e below _ (T327.setTop (mkF m 45 #[.val (.int p1), .val (.int p2), .val (.int p3), .val (.int p4), .val (.int p5), .val (.int (4 : Int32)), .val (.ref b307), .unset, .unset, .unset, .unset] [(.int D3), (.int (3 : Int32)), (.ref b307)]))
    have hN3 : nar .byte D3 = D3 := by rw [h_D3]; exact own_nn _
    obtain ⟨cl328, Ar328, q328, S328, M328, H328, G328⟩ := (id f325)
    have hin328 : ¬ ((3 : Int32) < 0 ∨ cl328.slots.size ≤ ((3 : Int32)).toNatClampNeg) := inb_of S328 ⟨by decide, by decide⟩
    obtain ⟨T328, h328, X328, e328, W328, st328⟩ := stB X327 hx hZ e327 Ar328 (j := (3 : Int32)) hin328 (g := (mkF m 45 #[.val (.int p1), .val (.int p2), .val (.int p3), .val (.int p4), .val (.int p5), .val (.int (4 : Int32)), .val (.ref b307), .unset, .unset, .unset, .unset] [(.int D3), (.int (3 : Int32)), (.ref b307)])) rfl rfl (hb hby at_45)
    have f329 := f323.wr W328
    have V328 := Arv.set Ar328 q328 S328 M328 H328 G328 (fits_nar_byte _) W328 3 rfl (Nat.le_of_ble_eq_true rfl)
    have f331 : Arv Z h328 b307 k307 .byte (4 : Int32) [(.int D0), (.int D1), (.int D2), (.int (nar .byte D3))] (.int (0 : Int32)) := V328
    rw [hN3] at f331
    have Zh332 : n0 ≤ h328.size := Nat.le_trans Zh326 (Nat.le_of_eq W328.size.symm)
    have N328 := Fr.snoc X328 N327 g_b307
    refine own_go st328 ?_
    show own_Fin p e below _ (T328.setTop (mkF m 46 #[.val (.int p1), .val (.int p2), .val (.int p3), .val (.int p4), .val (.int p5), .val (.int (4 : Int32)), .val (.ref b307), .unset, .unset, .unset, .unset] []))
    refine own_go (fun t k => XS.iload X328.here hx rfl (hb hby at_46) rfl  k) ?_
    show own_Fin p e below _ (T328.setTop (mkF m 48 #[.val (.int p1), .val (.int p2), .val (.int p3), .val (.int p4), .val (.int p5), .val (.int (4 : Int32)), .val (.ref b307), .unset, .unset, .unset, .unset] [(.int (4 : Int32))]))
    obtain ⟨T333, h333, k333, X333, e333, E333, A333, Ea333, st333⟩ := newPE (aty := .byte) X328 hx hZ hw_1 e328 (g := (mkF m 48 #[.val (.int p1), .val (.int p2), .val (.int p3), .val (.int p4), .val (.int p5), .val (.int (4 : Int32)), .val (.ref b307), .unset, .unset, .unset, .unset] [(.int (4 : Int32))])) rfl (hb hby at_48) rfl (by decide) (cap := 4) (by decide) (by decide) (by decide) (by decide) (ad := "[B") (by decide)
    obtain ⟨b333, g333⟩ : ∃ z, z = h328.size := ⟨_, rfl⟩
    rw [← g333] at A333 Ea333 st333
    have g_b333 : n0 ≤ b333 := Nat.le_trans Zh332 (Nat.le_of_eq g333.symm)
    have ne334 : b307 ≠ b333 := Nat.ne_of_lt (Nat.lt_of_lt_of_le f329.lt (Nat.le_of_eq g333.symm))
    have f335 := f329.ext E333
    have f336 := f331.ext E333
    have Zh337 : n0 ≤ h333.size := Nat.le_trans Zh332 E333.1
    have V333 : Arv Z h333 b333 k333 .byte (4 : Int32) [(.int (0 : Int32)), (.int (0 : Int32)), (.int (0 : Int32)), (.int (0 : Int32))] (.int (0 : Int32)) := (Arv.new A333 (by decide)).pad (pad_rep [] (.int (0 : Int32)) 4)
    refine own_go st333 ?_
    show own_Fin p e below _ (T333.setTop (mkF m 50 #[.val (.int p1), .val (.int p2), .val (.int p3), .val (.int p4), .val (.int p5), .val (.int (4 : Int32)), .val (.ref b307), .unset, .unset, .unset, .unset] [(.ref b333)]))
    refine own_go (fun t k => XS.astore X333.here hx rfl (hb hby at_50) rfl rfl (l' := #[.val (.int p1), .val (.int p2), .val (.int p3), .val (.int p4), .val (.int p5), .val (.int (4 : Int32)), .val (.ref b307), .val (.ref b333), .unset, .unset, .unset]) rfl (XS.iload X333.here hx rfl (hb hby at_52) rfl  k)) ?_
    show own_Fin p e below _ (T333.setTop (mkF m 54 #[.val (.int p1), .val (.int p2), .val (.int p3), .val (.int p4), .val (.int p5), .val (.int (4 : Int32)), .val (.ref b307), .val (.ref b333), .unset, .unset, .unset] [(.int (4 : Int32))]))
    refine own_go (fun t k => XS.ifNo X333.here hx rfl (hb hby at_54) rfl ((if0 _ _).trans (tlt (by decide : (0 : Int32) < (4 : Int32))).2.2.2) (XS.aload X333.here hx rfl (hb hby at_57) rfl rfl  (XS.iconst X333.here hx rfl (hb hby at_59) (XS.aload X333.here hx rfl (hb hby at_60) rfl rfl  (XS.iconst X333.here hx rfl (hb hby at_62) k))))) ?_
    show own_Fin p e below _ (T333.setTop (mkF m 63 #[.val (.int p1), .val (.int p2), .val (.int p3), .val (.int p4), .val (.int p5), .val (.int (4 : Int32)), .val (.ref b307), .val (.ref b333), .unset, .unset, .unset] [(.int (0 : Int32)), (.ref b307), (.int (0 : Int32)), (.ref b333)]))
    obtain ⟨cl338, Ar338, q338, S338, M338, H338, G338⟩ := (id f336)
    have hin338 : ¬ ((0 : Int32) < 0 ∨ cl338.slots.size ≤ ((0 : Int32)).toNatClampNeg) := inb_of S338 ⟨by decide, by decide⟩
    have hat338 : cl338.slots[((0 : Int32)).toNatClampNeg]? = some (.int D0) := H338.at hin338 rfl
    refine own_go (fun t k => X333.baloadBytes hx (j := (0 : Int32)) (v := (.int D0)) (by rw [e333]; exact Ar338.1) (State.isArrayOf_alike hZ.alike Ar338.2.1) Ar338.2.2 hin338 hat338 (g := (mkF m 63 #[.val (.int p1), .val (.int p2), .val (.int p3), .val (.int p4), .val (.int p5), .val (.int (4 : Int32)), .val (.ref b307), .val (.ref b333), .unset, .unset, .unset] [(.int (0 : Int32)), (.ref b307), (.int (0 : Int32)), (.ref b333)])) rfl rfl (hb hby at_63) _ k) ?_
    show own_Fin p e below _ (T333.setTop (mkF m 64 #[.val (.int p1), .val (.int p2), .val (.int p3), .val (.int p4), .val (.int p5), .val (.int (4 : Int32)), .val (.ref b307), .val (.ref b333), .unset, .unset, .unset] [(.int D0), (.int (0 : Int32)), (.ref b333)]))
    obtain ⟨cl339, Ar339, q339, S339, M339, H339, G339⟩ := (id V333)
    have hin339 : ¬ ((0 : Int32) < 0 ∨ cl339.slots.size ≤ ((0 : Int32)).toNatClampNeg) := inb_of S339 ⟨by decide, by decide⟩
    obtain ⟨T339, h339, X339, e339, W339, st339⟩ := stB X333 hx hZ e333 Ar339 (j := (0 : Int32)) hin339 (g := (mkF m 64 #[.val (.int p1), .val (.int p2), .val (.int p3), .val (.int p4), .val (.int p5), .val (.int (4 : Int32)), .val (.ref b307), .val (.ref b333), .unset, .unset, .unset] [(.int D0), (.int (0 : Int32)), (.ref b333)])) rfl rfl (hb hby at_64)
    have f340 := f335.wr W339
    have f341 := f336.other W339 ne334
    have f342 := Ea333.wr W339
    have V339 := Arv.set Ar339 q339 S339 M339 H339 G339 (fits_nar_byte _) W339 0 rfl (Nat.le_of_ble_eq_true rfl)
    have f344 : Arv Z h339 b333 k333 .byte (4 : Int32) [(.int (nar .byte D0)), (.int (0 : Int32)), (.int (0 : Int32)), (.int (0 : Int32))] (.int (0 : Int32)) := V339
    rw [hN0] at f344
    have Zh345 : n0 ≤ h339.size := Nat.le_trans Zh337 (Nat.le_of_eq W339.size.symm)
    have N339 := Fr.snoc X339 N328 g_b333
    refine own_go st339 ?_
    show own_Fin p e below _ (T339.setTop (mkF m 65 #[.val (.int p1), .val (.int p2), .val (.int p3), .val (.int p4), .val (.int p5), .val (.int (4 : Int32)), .val (.ref b307), .val (.ref b333), .unset, .unset, .unset] []))
    refine own_go (fun t k => XS.iload X339.here hx rfl (hb hby at_65) rfl  (XS.iconst X339.here hx rfl (hb hby at_67) k)) ?_
    show own_Fin p e below _ (T339.setTop (mkF m 68 #[.val (.int p1), .val (.int p2), .val (.int p3), .val (.int p4), .val (.int p5), .val (.int (4 : Int32)), .val (.ref b307), .val (.ref b333), .unset, .unset, .unset] [(.int (1 : Int32)), (.int (4 : Int32))]))
    refine own_go (fun t k => XS.icmpNo X339.here hx rfl (hb hby at_68) rfl (tlt (by decide : (1 : Int32) < (4 : Int32))).2.2.2 (XS.aload X339.here hx rfl (hb hby at_71) rfl rfl  (XS.iconst X339.here hx rfl (hb hby at_73) (XS.aload X339.here hx rfl (hb hby at_74) rfl rfl  (XS.iconst X339.here hx rfl (hb hby at_76) k))))) ?_
    show own_Fin p e below _ (T339.setTop (mkF m 77 #[.val (.int p1), .val (.int p2), .val (.int p3), .val (.int p4), .val (.int p5), .val (.int (4 : Int32)), .val (.ref b307), .val (.ref b333), .unset, .unset, .unset] [(.int (1 : Int32)), (.ref b307), (.int (1 : Int32)), (.ref b333)]))
    obtain ⟨cl346, Ar346, q346, S346, M346, H346, G346⟩ := (id f341)
    have hin346 : ¬ ((1 : Int32) < 0 ∨ cl346.slots.size ≤ ((1 : Int32)).toNatClampNeg) := inb_of S346 ⟨by decide, by decide⟩
    have hat346 : cl346.slots[((1 : Int32)).toNatClampNeg]? = some (.int D1) := H346.at hin346 rfl
    refine own_go (fun t k => X339.baloadBytes hx (j := (1 : Int32)) (v := (.int D1)) (by rw [e339]; exact Ar346.1) (State.isArrayOf_alike hZ.alike Ar346.2.1) Ar346.2.2 hin346 hat346 (g := (mkF m 77 #[.val (.int p1), .val (.int p2), .val (.int p3), .val (.int p4), .val (.int p5), .val (.int (4 : Int32)), .val (.ref b307), .val (.ref b333), .unset, .unset, .unset] [(.int (1 : Int32)), (.ref b307), (.int (1 : Int32)), (.ref b333)])) rfl rfl (hb hby at_77) _ k) ?_
    show own_Fin p e below _ (T339.setTop (mkF m 78 #[.val (.int p1), .val (.int p2), .val (.int p3), .val (.int p4), .val (.int p5), .val (.int (4 : Int32)), .val (.ref b307), .val (.ref b333), .unset, .unset, .unset] [(.int D1), (.int (1 : Int32)), (.ref b333)]))
    obtain ⟨cl347, Ar347, q347, S347, M347, H347, G347⟩ := (id f344)
    have hin347 : ¬ ((1 : Int32) < 0 ∨ cl347.slots.size ≤ ((1 : Int32)).toNatClampNeg) := inb_of S347 ⟨by decide, by decide⟩
    obtain ⟨T347, h347, X347, e347, W347, st347⟩ := stB X339 hx hZ e339 Ar347 (j := (1 : Int32)) hin347 (g := (mkF m 78 #[.val (.int p1), .val (.int p2), .val (.int p3), .val (.int p4), .val (.int p5), .val (.int (4 : Int32)), .val (.ref b307), .val (.ref b333), .unset, .unset, .unset] [(.int D1), (.int (1 : Int32)), (.ref b333)])) rfl rfl (hb hby at_78)
    have f348 := f340.wr W347
    have f349 := f341.other W347 ne334
    have f350 := f342.wr W347
    have V347 := Arv.set Ar347 q347 S347 M347 H347 G347 (fits_nar_byte _) W347 1 rfl (Nat.le_of_ble_eq_true rfl)
    have f352 : Arv Z h347 b333 k333 .byte (4 : Int32) [(.int D0), (.int (nar .byte D1)), (.int (0 : Int32)), (.int (0 : Int32))] (.int (0 : Int32)) := V347
    rw [hN1] at f352
    have Zh353 : n0 ≤ h347.size := Nat.le_trans Zh345 (Nat.le_of_eq W347.size.symm)
    have N347 := Fr.snoc X347 N339 g_b333
    refine own_go st347 ?_
    show own_Fin p e below _ (T347.setTop (mkF m 79 #[.val (.int p1), .val (.int p2), .val (.int p3), .val (.int p4), .val (.int p5), .val (.int (4 : Int32)), .val (.ref b307), .val (.ref b333), .unset, .unset, .unset] []))
    refine own_go (fun t k => XS.iload X347.here hx rfl (hb hby at_79) rfl  (XS.iconst X347.here hx rfl (hb hby at_81) k)) ?_
    show own_Fin p e below _ (T347.setTop (mkF m 82 #[.val (.int p1), .val (.int p2), .val (.int p3), .val (.int p4), .val (.int p5), .val (.int (4 : Int32)), .val (.ref b307), .val (.ref b333), .unset, .unset, .unset] [(.int (2 : Int32)), (.int (4 : Int32))]))
    refine own_go (fun t k => XS.icmpNo X347.here hx rfl (hb hby at_82) rfl (tlt (by decide : (2 : Int32) < (4 : Int32))).2.2.2 (XS.aload X347.here hx rfl (hb hby at_85) rfl rfl  (XS.iconst X347.here hx rfl (hb hby at_87) (XS.aload X347.here hx rfl (hb hby at_88) rfl rfl  (XS.iconst X347.here hx rfl (hb hby at_90) k))))) ?_
    show own_Fin p e below _ (T347.setTop (mkF m 91 #[.val (.int p1), .val (.int p2), .val (.int p3), .val (.int p4), .val (.int p5), .val (.int (4 : Int32)), .val (.ref b307), .val (.ref b333), .unset, .unset, .unset] [(.int (2 : Int32)), (.ref b307), (.int (2 : Int32)), (.ref b333)]))
    obtain ⟨cl354, Ar354, q354, S354, M354, H354, G354⟩ := (id f349)
    have hin354 : ¬ ((2 : Int32) < 0 ∨ cl354.slots.size ≤ ((2 : Int32)).toNatClampNeg) := inb_of S354 ⟨by decide, by decide⟩
    have hat354 : cl354.slots[((2 : Int32)).toNatClampNeg]? = some (.int D2) := H354.at hin354 rfl
    refine own_go (fun t k => X347.baloadBytes hx (j := (2 : Int32)) (v := (.int D2)) (by rw [e347]; exact Ar354.1) (State.isArrayOf_alike hZ.alike Ar354.2.1) Ar354.2.2 hin354 hat354 (g := (mkF m 91 #[.val (.int p1), .val (.int p2), .val (.int p3), .val (.int p4), .val (.int p5), .val (.int (4 : Int32)), .val (.ref b307), .val (.ref b333), .unset, .unset, .unset] [(.int (2 : Int32)), (.ref b307), (.int (2 : Int32)), (.ref b333)])) rfl rfl (hb hby at_91) _ k) ?_
    show own_Fin p e below _ (T347.setTop (mkF m 92 #[.val (.int p1), .val (.int p2), .val (.int p3), .val (.int p4), .val (.int p5), .val (.int (4 : Int32)), .val (.ref b307), .val (.ref b333), .unset, .unset, .unset] [(.int D2), (.int (2 : Int32)), (.ref b333)]))
    obtain ⟨cl355, Ar355, q355, S355, M355, H355, G355⟩ := (id f352)
    have hin355 : ¬ ((2 : Int32) < 0 ∨ cl355.slots.size ≤ ((2 : Int32)).toNatClampNeg) := inb_of S355 ⟨by decide, by decide⟩
    obtain ⟨T355, h355, X355, e355, W355, st355⟩ := stB X347 hx hZ e347 Ar355 (j := (2 : Int32)) hin355 (g := (mkF m 92 #[.val (.int p1), .val (.int p2), .val (.int p3), .val (.int p4), .val (.int p5), .val (.int (4 : Int32)), .val (.ref b307), .val (.ref b333), .unset, .unset, .unset] [(.int D2), (.int (2 : Int32)), (.ref b333)])) rfl rfl (hb hby at_92)
    have f356 := f348.wr W355
    have f357 := f349.other W355 ne334
    have f358 := f350.wr W355
    have V355 := Arv.set Ar355 q355 S355 M355 H355 G355 (fits_nar_byte _) W355 2 rfl (Nat.le_of_ble_eq_true rfl)
    have f360 : Arv Z h355 b333 k333 .byte (4 : Int32) [(.int D0), (.int D1), (.int (nar .byte D2)), (.int (0 : Int32))] (.int (0 : Int32)) := V355
    rw [hN2] at f360
    have Zh361 : n0 ≤ h355.size := Nat.le_trans Zh353 (Nat.le_of_eq W355.size.symm)
    have N355 := Fr.snoc X355 N347 g_b333
    refine own_go st355 ?_
    show own_Fin p e below _ (T355.setTop (mkF m 93 #[.val (.int p1), .val (.int p2), .val (.int p3), .val (.int p4), .val (.int p5), .val (.int (4 : Int32)), .val (.ref b307), .val (.ref b333), .unset, .unset, .unset] []))
    refine own_go (fun t k => XS.iload X355.here hx rfl (hb hby at_93) rfl  (XS.iconst X355.here hx rfl (hb hby at_95) k)) ?_
    show own_Fin p e below _ (T355.setTop (mkF m 96 #[.val (.int p1), .val (.int p2), .val (.int p3), .val (.int p4), .val (.int p5), .val (.int (4 : Int32)), .val (.ref b307), .val (.ref b333), .unset, .unset, .unset] [(.int (3 : Int32)), (.int (4 : Int32))]))
    refine own_go (fun t k => XS.icmpNo X355.here hx rfl (hb hby at_96) rfl (tlt (by decide : (3 : Int32) < (4 : Int32))).2.2.2 (XS.aload X355.here hx rfl (hb hby at_99) rfl rfl  (XS.iconst X355.here hx rfl (hb hby at_101) (XS.aload X355.here hx rfl (hb hby at_102) rfl rfl  (XS.iconst X355.here hx rfl (hb hby at_104) k))))) ?_
    show own_Fin p e below _ (T355.setTop (mkF m 105 #[.val (.int p1), .val (.int p2), .val (.int p3), .val (.int p4), .val (.int p5), .val (.int (4 : Int32)), .val (.ref b307), .val (.ref b333), .unset, .unset, .unset] [(.int (3 : Int32)), (.ref b307), (.int (3 : Int32)), (.ref b333)]))
    obtain ⟨cl362, Ar362, q362, S362, M362, H362, G362⟩ := (id f357)
    have hin362 : ¬ ((3 : Int32) < 0 ∨ cl362.slots.size ≤ ((3 : Int32)).toNatClampNeg) := inb_of S362 ⟨by decide, by decide⟩
    have hat362 : cl362.slots[((3 : Int32)).toNatClampNeg]? = some (.int D3) := H362.at hin362 rfl
    refine own_go (fun t k => X355.baloadBytes hx (j := (3 : Int32)) (v := (.int D3)) (by rw [e355]; exact Ar362.1) (State.isArrayOf_alike hZ.alike Ar362.2.1) Ar362.2.2 hin362 hat362 (g := (mkF m 105 #[.val (.int p1), .val (.int p2), .val (.int p3), .val (.int p4), .val (.int p5), .val (.int (4 : Int32)), .val (.ref b307), .val (.ref b333), .unset, .unset, .unset] [(.int (3 : Int32)), (.ref b307), (.int (3 : Int32)), (.ref b333)])) rfl rfl (hb hby at_105) _ k) ?_
    show own_Fin p e below _ (T355.setTop (mkF m 106 #[.val (.int p1), .val (.int p2), .val (.int p3), .val (.int p4), .val (.int p5), .val (.int (4 : Int32)), .val (.ref b307), .val (.ref b333), .unset, .unset, .unset] [(.int D3), (.int (3 : Int32)), (.ref b333)]))
    obtain ⟨cl363, Ar363, q363, S363, M363, H363, G363⟩ := (id f360)
    have hin363 : ¬ ((3 : Int32) < 0 ∨ cl363.slots.size ≤ ((3 : Int32)).toNatClampNeg) := inb_of S363 ⟨by decide, by decide⟩
    obtain ⟨T363, h363, X363, e363, W363, st363⟩ := stB X355 hx hZ e355 Ar363 (j := (3 : Int32)) hin363 (g := (mkF m 106 #[.val (.int p1), .val (.int p2), .val (.int p3), .val (.int p4), .val (.int p5), .val (.int (4 : Int32)), .val (.ref b307), .val (.ref b333), .unset, .unset, .unset] [(.int D3), (.int (3 : Int32)), (.ref b333)])) rfl rfl (hb hby at_106)
    have f364 := f356.wr W363
    have f365 := f357.other W363 ne334
    have f366 := f358.wr W363
    have V363 := Arv.set Ar363 q363 S363 M363 H363 G363 (fits_nar_byte _) W363 3 rfl (Nat.le_of_ble_eq_true rfl)
    have f368 : Arv Z h363 b333 k333 .byte (4 : Int32) [(.int D0), (.int D1), (.int D2), (.int (nar .byte D3))] (.int (0 : Int32)) := V363
    rw [hN3] at f368
    have Zh369 : n0 ≤ h363.size := Nat.le_trans Zh361 (Nat.le_of_eq W363.size.symm)
    have N363 := Fr.snoc X363 N355 g_b333
    refine own_go st363 ?_
    show own_Fin p e below _ (T363.setTop (mkF m 107 #[.val (.int p1), .val (.int p2), .val (.int p3), .val (.int p4), .val (.int p5), .val (.int (4 : Int32)), .val (.ref b307), .val (.ref b333), .unset, .unset, .unset] []))
    refine own_go (fun t k => XS.iload X363.here hx rfl (hb hby at_107) rfl  (XS.iconst X363.here hx rfl (hb hby at_109) k)) ?_
    show own_Fin p e below _ (T363.setTop (mkF m 110 #[.val (.int p1), .val (.int p2), .val (.int p3), .val (.int p4), .val (.int p5), .val (.int (4 : Int32)), .val (.ref b307), .val (.ref b333), .unset, .unset, .unset] [(.int (4 : Int32)), (.int (4 : Int32))]))
    refine own_go (fun t k => XS.icmpNo X363.here hx rfl (hb hby at_110) rfl (flt (by decide : ¬ ((4 : Int32) < (4 : Int32)))).1 (XS.aload X363.here hx rfl (hb hby at_113) rfl rfl  (XS.iconst X363.here hx rfl (hb hby at_115) k))) ?_
    show own_Fin p e below _ (T363.setTop (mkF m 116 #[.val (.int p1), .val (.int p2), .val (.int p3), .val (.int p4), .val (.int p5), .val (.int (4 : Int32)), .val (.ref b307), .val (.ref b333), .unset, .unset, .unset] [(.int (3 : Int32)), (.ref b307)]))
    obtain ⟨cl370, Ar370, q370, S370, M370, H370, G370⟩ := (id f365)
    have hin370 : ¬ ((3 : Int32) < 0 ∨ cl370.slots.size ≤ ((3 : Int32)).toNatClampNeg) := inb_of S370 ⟨by decide, by decide⟩
    have hat370 : cl370.slots[((3 : Int32)).toNatClampNeg]? = some (.int D3) := H370.at hin370 rfl
    refine own_go (fun t k => X363.baloadBytes hx (j := (3 : Int32)) (v := (.int D3)) (by rw [e363]; exact Ar370.1) (State.isArrayOf_alike hZ.alike Ar370.2.1) Ar370.2.2 hin370 hat370 (g := (mkF m 116 #[.val (.int p1), .val (.int p2), .val (.int p3), .val (.int p4), .val (.int p5), .val (.int (4 : Int32)), .val (.ref b307), .val (.ref b333), .unset, .unset, .unset] [(.int (3 : Int32)), (.ref b307)])) rfl rfl (hb hby at_116) _ (XS.iconst X363.here hx rfl (hb hby at_117) k)) ?_
    show own_Fin p e below _ (T363.setTop (mkF m 118 #[.val (.int p1), .val (.int p2), .val (.int p3), .val (.int p4), .val (.int p5), .val (.int (4 : Int32)), .val (.ref b307), .val (.ref b333), .unset, .unset, .unset] [(.int (-1 : Int32)), (.int D3)]))
    by_cases hc371 : D3 = (-1 : Int32)
    · skip
      refine own_go (fun t k => XS.icmpYes X363.here hx rfl (pc0 := 118) (pc' := 127) rfl (hb hby at_118) rfl (teq hc371).1 (by decide) (by decide) (XS.iload X363.here hx rfl (hb hby at_127) rfl  (XS.iconst X363.here hx rfl (hb hby at_129) k))) ?_
      show own_Fin p e below _ (T363.setTop (mkF m 130 #[.val (.int p1), .val (.int p2), .val (.int p3), .val (.int p4), .val (.int p5), .val (.int (4 : Int32)), .val (.ref b307), .val (.ref b333), .unset, .unset, .unset] [(.int (3 : Int32)), (.int (4 : Int32))]))
      refine own_go (fun t k => XS.icmpNo X363.here hx rfl (hb hby at_130) rfl (flt (by decide : ¬ ((4 : Int32) < (3 : Int32)))).1 (XS.aload X363.here hx rfl (hb hby at_133) rfl rfl  (XS.iconst X363.here hx rfl (hb hby at_135) k))) ?_
      show own_Fin p e below _ (T363.setTop (mkF m 136 #[.val (.int p1), .val (.int p2), .val (.int p3), .val (.int p4), .val (.int p5), .val (.int (4 : Int32)), .val (.ref b307), .val (.ref b333), .unset, .unset, .unset] [(.int (2 : Int32)), (.ref b307)]))
      obtain ⟨cl372, Ar372, q372, S372, M372, H372, G372⟩ := (id f365)
      have hin372 : ¬ ((2 : Int32) < 0 ∨ cl372.slots.size ≤ ((2 : Int32)).toNatClampNeg) := inb_of S372 ⟨by decide, by decide⟩
      have hat372 : cl372.slots[((2 : Int32)).toNatClampNeg]? = some (.int D2) := H372.at hin372 rfl
      refine own_go (fun t k => X363.baloadBytes hx (j := (2 : Int32)) (v := (.int D2)) (by rw [e363]; exact Ar372.1) (State.isArrayOf_alike hZ.alike Ar372.2.1) Ar372.2.2 hin372 hat372 (g := (mkF m 136 #[.val (.int p1), .val (.int p2), .val (.int p3), .val (.int p4), .val (.int p5), .val (.int (4 : Int32)), .val (.ref b307), .val (.ref b333), .unset, .unset, .unset] [(.int (2 : Int32)), (.ref b307)])) rfl rfl (hb hby at_136) _ (XS.iconst X363.here hx rfl (hb hby at_137) k)) ?_
      show own_Fin p e below _ (T363.setTop (mkF m 138 #[.val (.int p1), .val (.int p2), .val (.int p3), .val (.int p4), .val (.int p5), .val (.int (4 : Int32)), .val (.ref b307), .val (.ref b333), .unset, .unset, .unset] [(.int (-1 : Int32)), (.int D2)]))
      by_cases hc373 : D2 = (-1 : Int32)
      · skip
        refine own_go (fun t k => XS.icmpYes X363.here hx rfl (pc0 := 138) (pc' := 147) rfl (hb hby at_138) rfl (teq hc373).1 (by decide) (by decide) (XS.iload X363.here hx rfl (hb hby at_147) rfl  (XS.iconst X363.here hx rfl (hb hby at_149) k))) ?_
        show own_Fin p e below _ (T363.setTop (mkF m 150 #[.val (.int p1), .val (.int p2), .val (.int p3), .val (.int p4), .val (.int p5), .val (.int (4 : Int32)), .val (.ref b307), .val (.ref b333), .unset, .unset, .unset] [(.int (2 : Int32)), (.int (4 : Int32))]))
        refine own_go (fun t k => XS.icmpNo X363.here hx rfl (hb hby at_150) rfl (flt (by decide : ¬ ((4 : Int32) < (2 : Int32)))).1 (XS.aload X363.here hx rfl (hb hby at_153) rfl rfl  (XS.iconst X363.here hx rfl (hb hby at_155) k))) ?_
        show own_Fin p e below _ (T363.setTop (mkF m 156 #[.val (.int p1), .val (.int p2), .val (.int p3), .val (.int p4), .val (.int p5), .val (.int (4 : Int32)), .val (.ref b307), .val (.ref b333), .unset, .unset, .unset] [(.int (1 : Int32)), (.ref b307)]))
        obtain ⟨cl374, Ar374, q374, S374, M374, H374, G374⟩ := (id f365)
        have hin374 : ¬ ((1 : Int32) < 0 ∨ cl374.slots.size ≤ ((1 : Int32)).toNatClampNeg) := inb_of S374 ⟨by decide, by decide⟩
        have hat374 : cl374.slots[((1 : Int32)).toNatClampNeg]? = some (.int D1) := H374.at hin374 rfl
        refine own_go (fun t k => X363.baloadBytes hx (j := (1 : Int32)) (v := (.int D1)) (by rw [e363]; exact Ar374.1) (State.isArrayOf_alike hZ.alike Ar374.2.1) Ar374.2.2 hin374 hat374 (g := (mkF m 156 #[.val (.int p1), .val (.int p2), .val (.int p3), .val (.int p4), .val (.int p5), .val (.int (4 : Int32)), .val (.ref b307), .val (.ref b333), .unset, .unset, .unset] [(.int (1 : Int32)), (.ref b307)])) rfl rfl (hb hby at_156) _ (XS.iconst X363.here hx rfl (hb hby at_157) k)) ?_
        show own_Fin p e below _ (T363.setTop (mkF m 158 #[.val (.int p1), .val (.int p2), .val (.int p3), .val (.int p4), .val (.int p5), .val (.int (4 : Int32)), .val (.ref b307), .val (.ref b333), .unset, .unset, .unset] [(.int (-1 : Int32)), (.int D1)]))
        by_cases hc375 : D1 = (-1 : Int32)
        · skip
          refine own_go (fun t k => XS.icmpYes X363.here hx rfl (pc0 := 158) (pc' := 167) rfl (hb hby at_158) rfl (teq hc375).1 (by decide) (by decide) (XS.iload X363.here hx rfl (hb hby at_167) rfl  (XS.iconst X363.here hx rfl (hb hby at_169) k))) ?_
          show own_Fin p e below _ (T363.setTop (mkF m 170 #[.val (.int p1), .val (.int p2), .val (.int p3), .val (.int p4), .val (.int p5), .val (.int (4 : Int32)), .val (.ref b307), .val (.ref b333), .unset, .unset, .unset] [(.int (1 : Int32)), (.int (4 : Int32))]))
          refine own_go (fun t k => XS.icmpNo X363.here hx rfl (hb hby at_170) rfl (flt (by decide : ¬ ((4 : Int32) < (1 : Int32)))).1 (XS.aload X363.here hx rfl (hb hby at_173) rfl rfl  (XS.iconst X363.here hx rfl (hb hby at_175) k))) ?_
          show own_Fin p e below _ (T363.setTop (mkF m 176 #[.val (.int p1), .val (.int p2), .val (.int p3), .val (.int p4), .val (.int p5), .val (.int (4 : Int32)), .val (.ref b307), .val (.ref b333), .unset, .unset, .unset] [(.int (0 : Int32)), (.ref b307)]))
          obtain ⟨cl376, Ar376, q376, S376, M376, H376, G376⟩ := (id f365)
          have hin376 : ¬ ((0 : Int32) < 0 ∨ cl376.slots.size ≤ ((0 : Int32)).toNatClampNeg) := inb_of S376 ⟨by decide, by decide⟩
          have hat376 : cl376.slots[((0 : Int32)).toNatClampNeg]? = some (.int D0) := H376.at hin376 rfl
          refine own_go (fun t k => X363.baloadBytes hx (j := (0 : Int32)) (v := (.int D0)) (by rw [e363]; exact Ar376.1) (State.isArrayOf_alike hZ.alike Ar376.2.1) Ar376.2.2 hin376 hat376 (g := (mkF m 176 #[.val (.int p1), .val (.int p2), .val (.int p3), .val (.int p4), .val (.int p5), .val (.int (4 : Int32)), .val (.ref b307), .val (.ref b333), .unset, .unset, .unset] [(.int (0 : Int32)), (.ref b307)])) rfl rfl (hb hby at_176) _ (XS.iconst X363.here hx rfl (hb hby at_177) k)) ?_
          show own_Fin p e below _ (T363.setTop (mkF m 178 #[.val (.int p1), .val (.int p2), .val (.int p3), .val (.int p4), .val (.int p5), .val (.int (4 : Int32)), .val (.ref b307), .val (.ref b333), .unset, .unset, .unset] [(.int (-1 : Int32)), (.int D0)]))
          by_cases hc377 : D0 = (-1 : Int32)
          · skip
            refine own_go (fun t k => XS.icmpYes X363.here hx rfl (pc0 := 178) (pc' := 187) rfl (hb hby at_178) rfl (teq hc377).1 (by decide) (by decide) (XS.iconst X363.here hx rfl (hb hby at_187) (XS.istore X363.here hx rfl (hb hby at_188) rfl (l' := #[.val (.int p1), .val (.int p2), .val (.int p3), .val (.int p4), .val (.int p5), .val (.int (4 : Int32)), .val (.ref b307), .val (.ref b333), .val (.int (0 : Int32)), .unset, .unset]) rfl (XS.aload X363.here hx rfl (hb hby at_190) rfl rfl  k)))) ?_
            show own_Fin p e below _ (T363.setTop (mkF m 192 #[.val (.int p1), .val (.int p2), .val (.int p3), .val (.int p4), .val (.int p5), .val (.int (4 : Int32)), .val (.ref b307), .val (.ref b333), .val (.int (0 : Int32)), .unset, .unset] [(.ref b333)]))
            obtain ⟨_, _, ⟨T378, L378, k378, n378⟩, -, X378, ⟨Lc378, hQ378, l378, y378, z378⟩, st378⟩ := Jvm.LawKit.callS X363 hx (y := (⟨"com/example/keyslice/keyslice/storage/KeyRange", "after", "([B)[B"⟩ : MethodName)) hown (mvT hZ hw_6) (mvT hZ hw_7) (mvT hZ hw_8) (mvT hZ hw_9) (by decide) (backOf (W := 0) (rm2r40 l Z a0 hw [] (b333) k333 (D0) (D1) (D2) (D3) h363 n0 Zh369 f368 f366 hc371 hc373 hc375 hc377) hZ hw_9 hw_8 (by decide) (by decide)) (g := (mkF m 192 #[.val (.int p1), .val (.int p2), .val (.int p3), .val (.int p4), .val (.int p5), .val (.int (4 : Int32)), .val (.ref b307), .val (.ref b333), .val (.int (0 : Int32)), .unset, .unset] [(.ref b333)])) rfl (by rw [hml]; rfl) (argsL := [(.ref b333)]) (rest := []) (lenOf pd_3 rfl) rfl (by show 2 * 0 + _ ≤ _; exact Nat.le_of_eq rfl) (hb hby at_192) (fun _ _ => ⟨rfl, e363, (by decide : 2 + 0 ≤ _), (by decide : 8 + 0 ≤ _)⟩)
            dsimp only [Pt.U, Pt.locs, Pt.cells, Pt.slots] at X378 l378 y378 z378 st378 hQ378
            subst l378 y378 z378
            obtain ⟨rfl, N378q, e378⟩ := hQ378
            have N378 := Fr.app N363 N378q
            refine own_go st378 ?_
            show own_Fin p e below _ (T378.setTop (mkF m 195 #[.val (.int p1), .val (.int p2), .val (.int p3), .val (.int p4), .val (.int p5), .val (.int (4 : Int32)), .val (.ref b307), .val (.ref b333), .val (.int (0 : Int32)), .unset, .unset] [.null]))
            refine own_go (fun t k => XS.astore X378.here hx rfl (hb hby at_195) rfl rfl (l' := #[.val (.int p1), .val (.int p2), .val (.int p3), .val (.int p4), .val (.int p5), .val (.int (4 : Int32)), .val (.ref b307), .val (.ref b333), .val (.int (0 : Int32)), .val .null, .unset]) rfl (XS.aload X378.here hx rfl (hb hby at_197) rfl rfl  (XS.aload X378.here hx rfl (hb hby at_199) rfl rfl  (XS.iconst X378.here hx rfl (hb hby at_201) (XS.iload X378.here hx rfl (hb hby at_202) rfl  k))))) ?_
            show own_Fin p e below _ (T378.setTop (mkF m 204 #[.val (.int p1), .val (.int p2), .val (.int p3), .val (.int p4), .val (.int p5), .val (.int (4 : Int32)), .val (.ref b307), .val (.ref b333), .val (.int (0 : Int32)), .val .null, .unset] [(.int (4 : Int32)), (.int (0 : Int32)), (.ref b307), (.ref b333)]))
            obtain ⟨_, _, ⟨T379, L379, k379, n379⟩, -, X379, ⟨Lc379, hQ379, l379, y379, z379⟩, st379⟩ := Jvm.LawKit.callS X378 hx (y := (⟨"com/example/keyslice/keyslice/storage/KeyRangeAfterPinLaw", "held", "([B[BII)Z"⟩ : MethodName)) hown (mvT hZ hw_10) (mvT hZ hw_11) (mvT hZ hw_4) (mvT hZ hw_12) (by decide) (backOf (W := 0) (rm3h04 l Z a0 hw [] (b333) (b307) k333 k307 (D0) (D1) (D2) (D3) h363 n0 Zh369 f368 f365) hZ hw_12 hw_4 (by decide) (by decide)) (g := (mkF m 204 #[.val (.int p1), .val (.int p2), .val (.int p3), .val (.int p4), .val (.int p5), .val (.int (4 : Int32)), .val (.ref b307), .val (.ref b333), .val (.int (0 : Int32)), .val .null, .unset] [(.int (4 : Int32)), (.int (0 : Int32)), (.ref b307), (.ref b333)])) rfl (by rw [hml]; rfl) (argsL := [(.ref b333), (.ref b307), (.int (0 : Int32)), (.int (4 : Int32))]) (rest := []) (lenOf pd_4 rfl) rfl (by show 2 * 0 + _ ≤ _; exact Nat.le_of_eq rfl) (hb hby at_204) (fun _ _ => ⟨rfl, e378, (by decide : 2 + 0 ≤ _), (by decide : 8 + 0 ≤ _)⟩)
            dsimp only [Pt.U, Pt.locs, Pt.cells, Pt.slots] at X379 l379 y379 z379 st379 hQ379
            subst l379 y379 z379
            obtain ⟨rfl, N379q, e379⟩ := hQ379
            have N379 := Fr.app N378 N379q
            refine own_go st379 ?_
            show own_Fin p e below _ (T379.setTop (mkF m 207 #[.val (.int p1), .val (.int p2), .val (.int p3), .val (.int p4), .val (.int p5), .val (.int (4 : Int32)), .val (.ref b307), .val (.ref b333), .val (.int (0 : Int32)), .val .null, .unset] [(.int (1 : Int32))]))
            refine own_go (fun t k => XS.ifNo X379.here hx rfl (hb hby at_207) rfl ((if0 _ _).trans (feq (by decide : ¬ ((1 : Int32) = (0 : Int32)))).1) (XS.aload X379.here hx rfl (hb hby at_210) rfl rfl  (XS.aload X379.here hx rfl (hb hby at_212) rfl rfl  (XS.iconst X379.here hx rfl (hb hby at_214) (XS.iload X379.here hx rfl (hb hby at_215) rfl  k))))) ?_
            show own_Fin p e below _ (T379.setTop (mkF m 217 #[.val (.int p1), .val (.int p2), .val (.int p3), .val (.int p4), .val (.int p5), .val (.int (4 : Int32)), .val (.ref b307), .val (.ref b333), .val (.int (0 : Int32)), .val .null, .unset] [(.int (4 : Int32)), (.int (1 : Int32)), (.ref b307), (.ref b333)]))
            obtain ⟨_, _, ⟨T380, L380, k380, n380⟩, -, X380, ⟨Lc380, hQ380, l380, y380, z380⟩, st380⟩ := Jvm.LawKit.callS X379 hx (y := (⟨"com/example/keyslice/keyslice/storage/KeyRangeAfterPinLaw", "held", "([B[BII)Z"⟩ : MethodName)) hown (mvT hZ hw_10) (mvT hZ hw_11) (mvT hZ hw_4) (mvT hZ hw_12) (by decide) (backOf (W := 0) (rm3h14 l Z a0 hw [] (b333) (b307) k333 k307 (D0) (D1) (D2) (D3) h363 n0 Zh369 f368 f365) hZ hw_12 hw_4 (by decide) (by decide)) (g := (mkF m 217 #[.val (.int p1), .val (.int p2), .val (.int p3), .val (.int p4), .val (.int p5), .val (.int (4 : Int32)), .val (.ref b307), .val (.ref b333), .val (.int (0 : Int32)), .val .null, .unset] [(.int (4 : Int32)), (.int (1 : Int32)), (.ref b307), (.ref b333)])) rfl (by rw [hml]; rfl) (argsL := [(.ref b333), (.ref b307), (.int (1 : Int32)), (.int (4 : Int32))]) (rest := []) (lenOf pd_4 rfl) rfl (by show 2 * 0 + _ ≤ _; exact Nat.le_of_eq rfl) (hb hby at_217) (fun _ _ => ⟨rfl, e379, (by decide : 2 + 0 ≤ _), (by decide : 8 + 0 ≤ _)⟩)
            dsimp only [Pt.U, Pt.locs, Pt.cells, Pt.slots] at X380 l380 y380 z380 st380 hQ380
            subst l380 y380 z380
            obtain ⟨rfl, N380q, e380⟩ := hQ380
            have N380 := Fr.app N379 N380q
            refine own_go st380 ?_
            show own_Fin p e below _ (T380.setTop (mkF m 220 #[.val (.int p1), .val (.int p2), .val (.int p3), .val (.int p4), .val (.int p5), .val (.int (4 : Int32)), .val (.ref b307), .val (.ref b333), .val (.int (0 : Int32)), .val .null, .unset] [(.int (1 : Int32))]))
            refine own_go (fun t k => XS.ifNo X380.here hx rfl (hb hby at_220) rfl ((if0 _ _).trans (feq (by decide : ¬ ((1 : Int32) = (0 : Int32)))).1) (XS.aload X380.here hx rfl (hb hby at_223) rfl rfl  (XS.aload X380.here hx rfl (hb hby at_225) rfl rfl  (XS.iconst X380.here hx rfl (hb hby at_227) (XS.iload X380.here hx rfl (hb hby at_228) rfl  k))))) ?_
            show own_Fin p e below _ (T380.setTop (mkF m 230 #[.val (.int p1), .val (.int p2), .val (.int p3), .val (.int p4), .val (.int p5), .val (.int (4 : Int32)), .val (.ref b307), .val (.ref b333), .val (.int (0 : Int32)), .val .null, .unset] [(.int (4 : Int32)), (.int (2 : Int32)), (.ref b307), (.ref b333)]))
            obtain ⟨_, _, ⟨T381, L381, k381, n381⟩, -, X381, ⟨Lc381, hQ381, l381, y381, z381⟩, st381⟩ := Jvm.LawKit.callS X380 hx (y := (⟨"com/example/keyslice/keyslice/storage/KeyRangeAfterPinLaw", "held", "([B[BII)Z"⟩ : MethodName)) hown (mvT hZ hw_10) (mvT hZ hw_11) (mvT hZ hw_4) (mvT hZ hw_12) (by decide) (backOf (W := 0) (rm3h24 l Z a0 hw [] (b333) (b307) k333 k307 (D0) (D1) (D2) (D3) h363 n0 Zh369 f368 f365) hZ hw_12 hw_4 (by decide) (by decide)) (g := (mkF m 230 #[.val (.int p1), .val (.int p2), .val (.int p3), .val (.int p4), .val (.int p5), .val (.int (4 : Int32)), .val (.ref b307), .val (.ref b333), .val (.int (0 : Int32)), .val .null, .unset] [(.int (4 : Int32)), (.int (2 : Int32)), (.ref b307), (.ref b333)])) rfl (by rw [hml]; rfl) (argsL := [(.ref b333), (.ref b307), (.int (2 : Int32)), (.int (4 : Int32))]) (rest := []) (lenOf pd_4 rfl) rfl (by show 2 * 0 + _ ≤ _; exact Nat.le_of_eq rfl) (hb hby at_230) (fun _ _ => ⟨rfl, e380, (by decide : 2 + 0 ≤ _), (by decide : 8 + 0 ≤ _)⟩)
            dsimp only [Pt.U, Pt.locs, Pt.cells, Pt.slots] at X381 l381 y381 z381 st381 hQ381
            subst l381 y381 z381
            obtain ⟨rfl, N381q, e381⟩ := hQ381
            have N381 := Fr.app N380 N381q
            refine own_go st381 ?_
            show own_Fin p e below _ (T381.setTop (mkF m 233 #[.val (.int p1), .val (.int p2), .val (.int p3), .val (.int p4), .val (.int p5), .val (.int (4 : Int32)), .val (.ref b307), .val (.ref b333), .val (.int (0 : Int32)), .val .null, .unset] [(.int (1 : Int32))]))
            refine own_go (fun t k => XS.ifNo X381.here hx rfl (hb hby at_233) rfl ((if0 _ _).trans (feq (by decide : ¬ ((1 : Int32) = (0 : Int32)))).1) (XS.aload X381.here hx rfl (hb hby at_236) rfl rfl  (XS.aload X381.here hx rfl (hb hby at_238) rfl rfl  (XS.iconst X381.here hx rfl (hb hby at_240) (XS.iload X381.here hx rfl (hb hby at_241) rfl  k))))) ?_
            show own_Fin p e below _ (T381.setTop (mkF m 243 #[.val (.int p1), .val (.int p2), .val (.int p3), .val (.int p4), .val (.int p5), .val (.int (4 : Int32)), .val (.ref b307), .val (.ref b333), .val (.int (0 : Int32)), .val .null, .unset] [(.int (4 : Int32)), (.int (3 : Int32)), (.ref b307), (.ref b333)]))
            obtain ⟨_, _, ⟨T382, L382, k382, n382⟩, -, X382, ⟨Lc382, hQ382, l382, y382, z382⟩, st382⟩ := Jvm.LawKit.callS X381 hx (y := (⟨"com/example/keyslice/keyslice/storage/KeyRangeAfterPinLaw", "held", "([B[BII)Z"⟩ : MethodName)) hown (mvT hZ hw_10) (mvT hZ hw_11) (mvT hZ hw_4) (mvT hZ hw_12) (by decide) (backOf (W := 0) (rm3h34 l Z a0 hw [] (b333) (b307) k333 k307 (D0) (D1) (D2) (D3) h363 n0 Zh369 f368 f365) hZ hw_12 hw_4 (by decide) (by decide)) (g := (mkF m 243 #[.val (.int p1), .val (.int p2), .val (.int p3), .val (.int p4), .val (.int p5), .val (.int (4 : Int32)), .val (.ref b307), .val (.ref b333), .val (.int (0 : Int32)), .val .null, .unset] [(.int (4 : Int32)), (.int (3 : Int32)), (.ref b307), (.ref b333)])) rfl (by rw [hml]; rfl) (argsL := [(.ref b333), (.ref b307), (.int (3 : Int32)), (.int (4 : Int32))]) (rest := []) (lenOf pd_4 rfl) rfl (by show 2 * 0 + _ ≤ _; exact Nat.le_of_eq rfl) (hb hby at_243) (fun _ _ => ⟨rfl, e381, (by decide : 2 + 0 ≤ _), (by decide : 8 + 0 ≤ _)⟩)
            dsimp only [Pt.U, Pt.locs, Pt.cells, Pt.slots] at X382 l382 y382 z382 st382 hQ382
            subst l382 y382 z382
            obtain ⟨rfl, N382q, e382⟩ := hQ382
            have N382 := Fr.app N381 N382q
            refine own_go st382 ?_
            show own_Fin p e below _ (T382.setTop (mkF m 246 #[.val (.int p1), .val (.int p2), .val (.int p3), .val (.int p4), .val (.int p5), .val (.int (4 : Int32)), .val (.ref b307), .val (.ref b333), .val (.int (0 : Int32)), .val .null, .unset] [(.int (1 : Int32))]))
            refine own_go (fun t k => XS.ifNo X382.here hx rfl (hb hby at_246) rfl ((if0 _ _).trans (feq (by decide : ¬ ((1 : Int32) = (0 : Int32)))).1) (XS.iconst X382.here hx rfl (hb hby at_249) (XS.goto X382.here hx rfl (pc0 := 250) (pc' := 254) rfl (hb hby at_250) (by decide) (by decide) (XS.istore X382.here hx rfl (hb hby at_254) rfl (l' := #[.val (.int p1), .val (.int p2), .val (.int p3), .val (.int p4), .val (.int p5), .val (.int (4 : Int32)), .val (.ref b307), .val (.ref b333), .val (.int (0 : Int32)), .val .null, .val (.int (1 : Int32))]) rfl (XS.iload X382.here hx rfl (hb hby at_256) rfl  k))))) ?_
            show own_Fin p e below _ (T382.setTop (mkF m 258 #[.val (.int p1), .val (.int p2), .val (.int p3), .val (.int p4), .val (.int p5), .val (.int (4 : Int32)), .val (.ref b307), .val (.ref b333), .val (.int (0 : Int32)), .val .null, .val (.int (1 : Int32))] [(.int (0 : Int32))]))
            refine own_go (fun t k => XS.ifNo X382.here hx rfl (hb hby at_258) rfl ((if0 _ _).trans (teq (by decide : (0 : Int32) = (0 : Int32))).2) (XS.aload X382.here hx rfl (hb hby at_261) rfl rfl  k)) ?_
            show own_Fin p e below _ (T382.setTop (mkF m 263 #[.val (.int p1), .val (.int p2), .val (.int p3), .val (.int p4), .val (.int p5), .val (.int (4 : Int32)), .val (.ref b307), .val (.ref b333), .val (.int (0 : Int32)), .val .null, .val (.int (1 : Int32))] [.null]))
            refine own_go (fun t k => XS.ifnonnullNo X382.here hx rfl (hb hby at_263) rfl (XS.iload X382.here hx rfl (hb hby at_266) rfl  k)) ?_
            show own_Fin p e below _ (T382.setTop (mkF m 268 #[.val (.int p1), .val (.int p2), .val (.int p3), .val (.int p4), .val (.int p5), .val (.int (4 : Int32)), .val (.ref b307), .val (.ref b333), .val (.int (0 : Int32)), .val .null, .val (.int (1 : Int32))] [(.int (1 : Int32))]))
            refine own_go (fun t k => XS.ifNo X382.here hx rfl (hb hby at_268) rfl ((if0 _ _).trans (feq (by decide : ¬ ((1 : Int32) = (0 : Int32)))).1) (XS.iconst X382.here hx rfl (hb hby at_271) (XS.goto X382.here hx rfl (pc0 := 272) (pc' := 276) rfl (hb hby at_272) (by decide) (by decide) k))) ?_
            show own_Fin p e below _ (T382.setTop (mkF m 276 #[.val (.int p1), .val (.int p2), .val (.int p3), .val (.int p4), .val (.int p5), .val (.int (4 : Int32)), .val (.ref b307), .val (.ref b333), .val (.int (0 : Int32)), .val .null, .val (.int (1 : Int32))] [(.int (1 : Int32))]))
            exact own_out X382 (fun h => by rw [Bd.returns] at h; cases h) Bd.notSynchronized (fun fs hr => retN X382 hx (t := .boolean) Bd.returns (by simp) (hb hby at_276) hr) ⟨rfl, N382⟩ (by decide) (by decide)
          · skip
            refine own_go (fun t k => XS.icmpNo X363.here hx rfl (hb hby at_178) rfl (feq hc377).1 (XS.iconst X363.here hx rfl (hb hby at_181) (XS.istore X363.here hx rfl (hb hby at_182) rfl (l' := #[.val (.int p1), .val (.int p2), .val (.int p3), .val (.int p4), .val (.int p5), .val (.int (4 : Int32)), .val (.ref b307), .val (.ref b333), .val (.int (1 : Int32)), .unset, .unset]) rfl (XS.goto X363.here hx rfl (pc0 := 184) (pc' := 190) rfl (hb hby at_184) (by decide) (by decide) (XS.aload X363.here hx rfl (hb hby at_190) rfl rfl  k))))) ?_
            show own_Fin p e below _ (T363.setTop (mkF m 192 #[.val (.int p1), .val (.int p2), .val (.int p3), .val (.int p4), .val (.int p5), .val (.int (4 : Int32)), .val (.ref b307), .val (.ref b333), .val (.int (1 : Int32)), .unset, .unset] [(.ref b333)]))
            obtain ⟨_, _, ⟨T383, L383, k383, n383⟩, -, X383, ⟨Lc383, hQ383, l383, y383, z383⟩, st383⟩ := Jvm.LawKit.callS X363 hx (y := (⟨"com/example/keyslice/keyslice/storage/KeyRange", "after", "([B)[B"⟩ : MethodName)) hown (mvT hZ hw_6) (mvT hZ hw_7) (mvT hZ hw_8) (mvT hZ hw_9) (by decide) (backOf (W := 0) (rm2r41 l Z a0 hw [] (b333) k333 (D0) (D1) (D2) (D3) h363 n0 Zh369 f368 f366 hc371 hc373 hc375 hc377) hZ hw_9 hw_8 (by decide) (by decide)) (g := (mkF m 192 #[.val (.int p1), .val (.int p2), .val (.int p3), .val (.int p4), .val (.int p5), .val (.int (4 : Int32)), .val (.ref b307), .val (.ref b333), .val (.int (1 : Int32)), .unset, .unset] [(.ref b333)])) rfl (by rw [hml]; rfl) (argsL := [(.ref b333)]) (rest := []) (lenOf pd_3 rfl) rfl (by show 2 * 0 + _ ≤ _; exact Nat.le_of_eq rfl) (hb hby at_192) (fun _ _ => ⟨rfl, e363, (by decide : 2 + 1 ≤ _), (by decide : 8 + 1 ≤ _)⟩)
            dsimp only [Pt.U, Pt.locs, Pt.cells, Pt.slots] at X383 l383 y383 z383 st383 hQ383
            subst l383 y383 z383
            obtain ⟨b383, k383, rfl, N383q, sz383, K383, V383⟩ := hQ383
            have N383 := Fr.app N363 N383q
            have g_b383 : n0 ≤ b383 := Nat.le_trans Zh369 sz383
            have ne384 : b307 ≠ b383 := Nat.ne_of_lt (Nat.lt_of_lt_of_le f364.lt sz383)
            have ne385 : b333 ≠ b383 := Nat.ne_of_lt (Nat.lt_of_lt_of_le f366.lt sz383)
            have E383 : Ext _ _ := ⟨K383.1, fun a c q => K383.2.1 a c q nin0⟩
            have f386 := f364.ext E383
            have f387 := f365.ext E383
            have f388 := f366.ext E383
            have f389 := f368.ext E383
            have Zh390 : n0 ≤ T383.heap.size := Nat.le_trans Zh369 K383.1
            refine own_go st383 ?_
            show own_Fin p e below _ (T383.setTop (mkF m 195 #[.val (.int p1), .val (.int p2), .val (.int p3), .val (.int p4), .val (.int p5), .val (.int (4 : Int32)), .val (.ref b307), .val (.ref b333), .val (.int (1 : Int32)), .unset, .unset] [(.ref b383)]))
            refine own_go (fun t k => XS.astore X383.here hx rfl (hb hby at_195) rfl rfl (l' := #[.val (.int p1), .val (.int p2), .val (.int p3), .val (.int p4), .val (.int p5), .val (.int (4 : Int32)), .val (.ref b307), .val (.ref b333), .val (.int (1 : Int32)), .val (.ref b383), .unset]) rfl (XS.aload X383.here hx rfl (hb hby at_197) rfl rfl  (XS.aload X383.here hx rfl (hb hby at_199) rfl rfl  (XS.iconst X383.here hx rfl (hb hby at_201) (XS.iload X383.here hx rfl (hb hby at_202) rfl  k))))) ?_
            show own_Fin p e below _ (T383.setTop (mkF m 204 #[.val (.int p1), .val (.int p2), .val (.int p3), .val (.int p4), .val (.int p5), .val (.int (4 : Int32)), .val (.ref b307), .val (.ref b333), .val (.int (1 : Int32)), .val (.ref b383), .unset] [(.int (4 : Int32)), (.int (0 : Int32)), (.ref b307), (.ref b333)]))
            obtain ⟨_, _, ⟨T391, L391, k391, n391⟩, -, X391, ⟨Lc391, hQ391, l391, y391, z391⟩, st391⟩ := Jvm.LawKit.callS X383 hx (y := (⟨"com/example/keyslice/keyslice/storage/KeyRangeAfterPinLaw", "held", "([B[BII)Z"⟩ : MethodName)) hown (mvT hZ hw_10) (mvT hZ hw_11) (mvT hZ hw_4) (mvT hZ hw_12) (by decide) (backOf (W := 0) (rm3h04 l Z a0 hw [] (b333) (b307) k333 k307 (D0) (D1) (D2) (D3) T383.heap n0 Zh390 f389 f387) hZ hw_12 hw_4 (by decide) (by decide)) (g := (mkF m 204 #[.val (.int p1), .val (.int p2), .val (.int p3), .val (.int p4), .val (.int p5), .val (.int (4 : Int32)), .val (.ref b307), .val (.ref b333), .val (.int (1 : Int32)), .val (.ref b383), .unset] [(.int (4 : Int32)), (.int (0 : Int32)), (.ref b307), (.ref b333)])) rfl (by rw [hml]; rfl) (argsL := [(.ref b333), (.ref b307), (.int (0 : Int32)), (.int (4 : Int32))]) (rest := []) (lenOf pd_4 rfl) rfl (by show 2 * 0 + _ ≤ _; exact Nat.le_of_eq rfl) (hb hby at_204) (fun _ _ => ⟨rfl, rfl, (by decide : 3 + 0 ≤ _), (by decide : 9 + 0 ≤ _)⟩)
            dsimp only [Pt.U, Pt.locs, Pt.cells, Pt.slots] at X391 l391 y391 z391 st391 hQ391
            subst l391 y391 z391
            obtain ⟨rfl, N391q, e391⟩ := hQ391
            have N391 := Fr.app N383 N391q
            refine own_go st391 ?_
            show own_Fin p e below _ (T391.setTop (mkF m 207 #[.val (.int p1), .val (.int p2), .val (.int p3), .val (.int p4), .val (.int p5), .val (.int (4 : Int32)), .val (.ref b307), .val (.ref b333), .val (.int (1 : Int32)), .val (.ref b383), .unset] [(.int (1 : Int32))]))
            refine own_go (fun t k => XS.ifNo X391.here hx rfl (hb hby at_207) rfl ((if0 _ _).trans (feq (by decide : ¬ ((1 : Int32) = (0 : Int32)))).1) (XS.aload X391.here hx rfl (hb hby at_210) rfl rfl  (XS.aload X391.here hx rfl (hb hby at_212) rfl rfl  (XS.iconst X391.here hx rfl (hb hby at_214) (XS.iload X391.here hx rfl (hb hby at_215) rfl  k))))) ?_
            show own_Fin p e below _ (T391.setTop (mkF m 217 #[.val (.int p1), .val (.int p2), .val (.int p3), .val (.int p4), .val (.int p5), .val (.int (4 : Int32)), .val (.ref b307), .val (.ref b333), .val (.int (1 : Int32)), .val (.ref b383), .unset] [(.int (4 : Int32)), (.int (1 : Int32)), (.ref b307), (.ref b333)]))
            obtain ⟨_, _, ⟨T392, L392, k392, n392⟩, -, X392, ⟨Lc392, hQ392, l392, y392, z392⟩, st392⟩ := Jvm.LawKit.callS X391 hx (y := (⟨"com/example/keyslice/keyslice/storage/KeyRangeAfterPinLaw", "held", "([B[BII)Z"⟩ : MethodName)) hown (mvT hZ hw_10) (mvT hZ hw_11) (mvT hZ hw_4) (mvT hZ hw_12) (by decide) (backOf (W := 0) (rm3h14 l Z a0 hw [] (b333) (b307) k333 k307 (D0) (D1) (D2) (D3) T383.heap n0 Zh390 f389 f387) hZ hw_12 hw_4 (by decide) (by decide)) (g := (mkF m 217 #[.val (.int p1), .val (.int p2), .val (.int p3), .val (.int p4), .val (.int p5), .val (.int (4 : Int32)), .val (.ref b307), .val (.ref b333), .val (.int (1 : Int32)), .val (.ref b383), .unset] [(.int (4 : Int32)), (.int (1 : Int32)), (.ref b307), (.ref b333)])) rfl (by rw [hml]; rfl) (argsL := [(.ref b333), (.ref b307), (.int (1 : Int32)), (.int (4 : Int32))]) (rest := []) (lenOf pd_4 rfl) rfl (by show 2 * 0 + _ ≤ _; exact Nat.le_of_eq rfl) (hb hby at_217) (fun _ _ => ⟨rfl, e391, (by decide : 3 + 0 ≤ _), (by decide : 9 + 0 ≤ _)⟩)
            dsimp only [Pt.U, Pt.locs, Pt.cells, Pt.slots] at X392 l392 y392 z392 st392 hQ392
            subst l392 y392 z392
            obtain ⟨rfl, N392q, e392⟩ := hQ392
            have N392 := Fr.app N391 N392q
            refine own_go st392 ?_
            show own_Fin p e below _ (T392.setTop (mkF m 220 #[.val (.int p1), .val (.int p2), .val (.int p3), .val (.int p4), .val (.int p5), .val (.int (4 : Int32)), .val (.ref b307), .val (.ref b333), .val (.int (1 : Int32)), .val (.ref b383), .unset] [(.int (1 : Int32))]))
            refine own_go (fun t k => XS.ifNo X392.here hx rfl (hb hby at_220) rfl ((if0 _ _).trans (feq (by decide : ¬ ((1 : Int32) = (0 : Int32)))).1) (XS.aload X392.here hx rfl (hb hby at_223) rfl rfl  (XS.aload X392.here hx rfl (hb hby at_225) rfl rfl  (XS.iconst X392.here hx rfl (hb hby at_227) (XS.iload X392.here hx rfl (hb hby at_228) rfl  k))))) ?_
            show own_Fin p e below _ (T392.setTop (mkF m 230 #[.val (.int p1), .val (.int p2), .val (.int p3), .val (.int p4), .val (.int p5), .val (.int (4 : Int32)), .val (.ref b307), .val (.ref b333), .val (.int (1 : Int32)), .val (.ref b383), .unset] [(.int (4 : Int32)), (.int (2 : Int32)), (.ref b307), (.ref b333)]))
            obtain ⟨_, _, ⟨T393, L393, k393, n393⟩, -, X393, ⟨Lc393, hQ393, l393, y393, z393⟩, st393⟩ := Jvm.LawKit.callS X392 hx (y := (⟨"com/example/keyslice/keyslice/storage/KeyRangeAfterPinLaw", "held", "([B[BII)Z"⟩ : MethodName)) hown (mvT hZ hw_10) (mvT hZ hw_11) (mvT hZ hw_4) (mvT hZ hw_12) (by decide) (backOf (W := 0) (rm3h24 l Z a0 hw [] (b333) (b307) k333 k307 (D0) (D1) (D2) (D3) T383.heap n0 Zh390 f389 f387) hZ hw_12 hw_4 (by decide) (by decide)) (g := (mkF m 230 #[.val (.int p1), .val (.int p2), .val (.int p3), .val (.int p4), .val (.int p5), .val (.int (4 : Int32)), .val (.ref b307), .val (.ref b333), .val (.int (1 : Int32)), .val (.ref b383), .unset] [(.int (4 : Int32)), (.int (2 : Int32)), (.ref b307), (.ref b333)])) rfl (by rw [hml]; rfl) (argsL := [(.ref b333), (.ref b307), (.int (2 : Int32)), (.int (4 : Int32))]) (rest := []) (lenOf pd_4 rfl) rfl (by show 2 * 0 + _ ≤ _; exact Nat.le_of_eq rfl) (hb hby at_230) (fun _ _ => ⟨rfl, e392, (by decide : 3 + 0 ≤ _), (by decide : 9 + 0 ≤ _)⟩)
            dsimp only [Pt.U, Pt.locs, Pt.cells, Pt.slots] at X393 l393 y393 z393 st393 hQ393
            subst l393 y393 z393
            obtain ⟨rfl, N393q, e393⟩ := hQ393
            have N393 := Fr.app N392 N393q
            refine own_go st393 ?_
            show own_Fin p e below _ (T393.setTop (mkF m 233 #[.val (.int p1), .val (.int p2), .val (.int p3), .val (.int p4), .val (.int p5), .val (.int (4 : Int32)), .val (.ref b307), .val (.ref b333), .val (.int (1 : Int32)), .val (.ref b383), .unset] [(.int (1 : Int32))]))
            refine own_go (fun t k => XS.ifNo X393.here hx rfl (hb hby at_233) rfl ((if0 _ _).trans (feq (by decide : ¬ ((1 : Int32) = (0 : Int32)))).1) (XS.aload X393.here hx rfl (hb hby at_236) rfl rfl  (XS.aload X393.here hx rfl (hb hby at_238) rfl rfl  (XS.iconst X393.here hx rfl (hb hby at_240) (XS.iload X393.here hx rfl (hb hby at_241) rfl  k))))) ?_
            show own_Fin p e below _ (T393.setTop (mkF m 243 #[.val (.int p1), .val (.int p2), .val (.int p3), .val (.int p4), .val (.int p5), .val (.int (4 : Int32)), .val (.ref b307), .val (.ref b333), .val (.int (1 : Int32)), .val (.ref b383), .unset] [(.int (4 : Int32)), (.int (3 : Int32)), (.ref b307), (.ref b333)]))
            obtain ⟨_, _, ⟨T394, L394, k394, n394⟩, -, X394, ⟨Lc394, hQ394, l394, y394, z394⟩, st394⟩ := Jvm.LawKit.callS X393 hx (y := (⟨"com/example/keyslice/keyslice/storage/KeyRangeAfterPinLaw", "held", "([B[BII)Z"⟩ : MethodName)) hown (mvT hZ hw_10) (mvT hZ hw_11) (mvT hZ hw_4) (mvT hZ hw_12) (by decide) (backOf (W := 0) (rm3h34 l Z a0 hw [] (b333) (b307) k333 k307 (D0) (D1) (D2) (D3) T383.heap n0 Zh390 f389 f387) hZ hw_12 hw_4 (by decide) (by decide)) (g := (mkF m 243 #[.val (.int p1), .val (.int p2), .val (.int p3), .val (.int p4), .val (.int p5), .val (.int (4 : Int32)), .val (.ref b307), .val (.ref b333), .val (.int (1 : Int32)), .val (.ref b383), .unset] [(.int (4 : Int32)), (.int (3 : Int32)), (.ref b307), (.ref b333)])) rfl (by rw [hml]; rfl) (argsL := [(.ref b333), (.ref b307), (.int (3 : Int32)), (.int (4 : Int32))]) (rest := []) (lenOf pd_4 rfl) rfl (by show 2 * 0 + _ ≤ _; exact Nat.le_of_eq rfl) (hb hby at_243) (fun _ _ => ⟨rfl, e393, (by decide : 3 + 0 ≤ _), (by decide : 9 + 0 ≤ _)⟩)
            dsimp only [Pt.U, Pt.locs, Pt.cells, Pt.slots] at X394 l394 y394 z394 st394 hQ394
            subst l394 y394 z394
            obtain ⟨rfl, N394q, e394⟩ := hQ394
            have N394 := Fr.app N393 N394q
            refine own_go st394 ?_
            show own_Fin p e below _ (T394.setTop (mkF m 246 #[.val (.int p1), .val (.int p2), .val (.int p3), .val (.int p4), .val (.int p5), .val (.int (4 : Int32)), .val (.ref b307), .val (.ref b333), .val (.int (1 : Int32)), .val (.ref b383), .unset] [(.int (1 : Int32))]))
            refine own_go (fun t k => XS.ifNo X394.here hx rfl (hb hby at_246) rfl ((if0 _ _).trans (feq (by decide : ¬ ((1 : Int32) = (0 : Int32)))).1) (XS.iconst X394.here hx rfl (hb hby at_249) (XS.goto X394.here hx rfl (pc0 := 250) (pc' := 254) rfl (hb hby at_250) (by decide) (by decide) (XS.istore X394.here hx rfl (hb hby at_254) rfl (l' := #[.val (.int p1), .val (.int p2), .val (.int p3), .val (.int p4), .val (.int p5), .val (.int (4 : Int32)), .val (.ref b307), .val (.ref b333), .val (.int (1 : Int32)), .val (.ref b383), .val (.int (1 : Int32))]) rfl (XS.iload X394.here hx rfl (hb hby at_256) rfl  k))))) ?_
            show own_Fin p e below _ (T394.setTop (mkF m 258 #[.val (.int p1), .val (.int p2), .val (.int p3), .val (.int p4), .val (.int p5), .val (.int (4 : Int32)), .val (.ref b307), .val (.ref b333), .val (.int (1 : Int32)), .val (.ref b383), .val (.int (1 : Int32))] [(.int (1 : Int32))]))
            refine own_go (fun t k => XS.ifYes X394.here hx rfl (pc0 := 258) (pc' := 277) rfl (hb hby at_258) rfl ((if0 _ _).trans (feq (by decide : ¬ ((1 : Int32) = (0 : Int32)))).2) (by decide) (by decide) (XS.aload X394.here hx rfl (hb hby at_277) rfl rfl  k)) ?_
            show own_Fin p e below _ (T394.setTop (mkF m 279 #[.val (.int p1), .val (.int p2), .val (.int p3), .val (.int p4), .val (.int p5), .val (.int (4 : Int32)), .val (.ref b307), .val (.ref b333), .val (.int (1 : Int32)), .val (.ref b383), .val (.int (1 : Int32))] [(.ref b383)]))
            refine own_go (fun t k => XS.ifnullNo X394.here hx rfl (hb hby at_279) rfl (XS.aload X394.here hx rfl (hb hby at_282) rfl rfl  (XS.aload X394.here hx rfl (hb hby at_284) rfl rfl  k))) ?_
            show own_Fin p e below _ (T394.setTop (mkF m 286 #[.val (.int p1), .val (.int p2), .val (.int p3), .val (.int p4), .val (.int p5), .val (.int (4 : Int32)), .val (.ref b307), .val (.ref b333), .val (.int (1 : Int32)), .val (.ref b383), .val (.int (1 : Int32))] [(.ref b333), (.ref b383)]))
            refine own_go (fun t k => Jvm.RoadKit.acmp (g := (mkF m 286 #[.val (.int p1), .val (.int p2), .val (.int p3), .val (.int p4), .val (.int p5), .val (.int (4 : Int32)), .val (.ref b307), .val (.ref b333), .val (.int (1 : Int32)), .val (.ref b383), .val (.int (1 : Int32))] [(.ref b333), (.ref b383)])) X394 hx rfl rfl rfl (pc0 := 286) (pc' := 289) (same := false) rfl (hb hby at_286) rfl (decide_eq_false fun q => (Ne.symm ne385) (Value.ref.inj q)) (by decide) (by decide) (XS.aload X394.here hx rfl (hb hby at_289) rfl rfl  k)) ?_
            show own_Fin p e below _ (T394.setTop (mkF m 291 #[.val (.int p1), .val (.int p2), .val (.int p3), .val (.int p4), .val (.int p5), .val (.int (4 : Int32)), .val (.ref b307), .val (.ref b333), .val (.int (1 : Int32)), .val (.ref b383), .val (.int (1 : Int32))] [(.ref b383)]))
            obtain ⟨cl395, Ar395, q395, S395, M395, H395, G395⟩ := (id V383)
            refine own_go (fun t k => X394.arraylength hx (by rw [e394]; exact Ar395.1) (State.isArrayOf_alike hZ.alike Ar395.2.1) (g := (mkF m 291 #[.val (.int p1), .val (.int p2), .val (.int p3), .val (.int p4), .val (.int p5), .val (.int (4 : Int32)), .val (.ref b307), .val (.ref b333), .val (.int (1 : Int32)), .val (.ref b383), .val (.int (1 : Int32))] [(.ref b383)])) rfl rfl (hb hby at_291) _ k) ?_
            rw [len_of S395 M395]
            show own_Fin p e below _ (T394.setTop (mkF m 292 #[.val (.int p1), .val (.int p2), .val (.int p3), .val (.int p4), .val (.int p5), .val (.int (4 : Int32)), .val (.ref b307), .val (.ref b333), .val (.int (1 : Int32)), .val (.ref b383), .val (.int (1 : Int32))] [(.int (1 : Int32))]))
            refine own_go (fun t k => XS.iload X394.here hx rfl (hb hby at_292) rfl  k) ?_
            show own_Fin p e below _ (T394.setTop (mkF m 294 #[.val (.int p1), .val (.int p2), .val (.int p3), .val (.int p4), .val (.int p5), .val (.int (4 : Int32)), .val (.ref b307), .val (.ref b333), .val (.int (1 : Int32)), .val (.ref b383), .val (.int (1 : Int32))] [(.int (1 : Int32)), (.int (1 : Int32))]))
            refine own_go (fun t k => XS.icmpYes X394.here hx rfl (pc0 := 294) (pc' := 299) rfl (hb hby at_294) rfl (teq (by decide : (1 : Int32) = (1 : Int32))).1 (by decide) (by decide) (XS.iload X394.here hx rfl (hb hby at_299) rfl  k)) ?_
            show own_Fin p e below _ (T394.setTop (mkF m 301 #[.val (.int p1), .val (.int p2), .val (.int p3), .val (.int p4), .val (.int p5), .val (.int (4 : Int32)), .val (.ref b307), .val (.ref b333), .val (.int (1 : Int32)), .val (.ref b383), .val (.int (1 : Int32))] [(.int (1 : Int32))]))
            refine own_go (fun t k => XS.ifNo X394.here hx rfl (hb hby at_301) rfl ((if0 _ _).trans (feq (by decide : ¬ ((1 : Int32) = (0 : Int32)))).1) (XS.aload X394.here hx rfl (hb hby at_304) rfl rfl  (XS.aload X394.here hx rfl (hb hby at_306) rfl rfl  (XS.iconst X394.here hx rfl (hb hby at_308) (XS.iload X394.here hx rfl (hb hby at_309) rfl  k))))) ?_
            show own_Fin p e below _ (T394.setTop (mkF m 311 #[.val (.int p1), .val (.int p2), .val (.int p3), .val (.int p4), .val (.int p5), .val (.int (4 : Int32)), .val (.ref b307), .val (.ref b333), .val (.int (1 : Int32)), .val (.ref b383), .val (.int (1 : Int32))] [(.int (1 : Int32)), (.int (0 : Int32)), (.ref b307), (.ref b383)]))
            obtain ⟨_, _, ⟨T396, L396, k396, n396⟩, -, X396, ⟨Lc396, hQ396, l396, y396, z396⟩, st396⟩ := Jvm.LawKit.callS X394 hx (y := (⟨"com/example/keyslice/keyslice/storage/KeyRangeAfterPinLaw", "slot", "([B[BII)Z"⟩ : MethodName)) hown (mvT hZ hw_26) (mvT hZ hw_27) (mvT hZ hw_4) (mvT hZ hw_28) (by decide) (backOf (W := 0) (rm5s01 l Z a0 hw [] (b383) (b307) k383 k307 (D0) (D1) (D2) (D3) T383.heap n0 Zh390 V383 f387) hZ hw_28 hw_4 (by decide) (by decide)) (g := (mkF m 311 #[.val (.int p1), .val (.int p2), .val (.int p3), .val (.int p4), .val (.int p5), .val (.int (4 : Int32)), .val (.ref b307), .val (.ref b333), .val (.int (1 : Int32)), .val (.ref b383), .val (.int (1 : Int32))] [(.int (1 : Int32)), (.int (0 : Int32)), (.ref b307), (.ref b383)])) rfl (by rw [hml]; rfl) (argsL := [(.ref b383), (.ref b307), (.int (0 : Int32)), (.int (1 : Int32))]) (rest := []) (lenOf pd_4 rfl) rfl (by show 2 * 0 + _ ≤ _; exact Nat.le_of_eq rfl) (hb hby at_311) (fun _ _ => ⟨rfl, e394, (by decide : 3 + 0 ≤ _), (by decide : 9 + 0 ≤ _)⟩)
            dsimp only [Pt.U, Pt.locs, Pt.cells, Pt.slots] at X396 l396 y396 z396 st396 hQ396
            subst l396 y396 z396
            obtain ⟨rfl, N396q, e396⟩ := hQ396
            have N396 := Fr.app N394 N396q
            refine own_go st396 ?_
            show own_Fin p e below _ (T396.setTop (mkF m 314 #[.val (.int p1), .val (.int p2), .val (.int p3), .val (.int p4), .val (.int p5), .val (.int (4 : Int32)), .val (.ref b307), .val (.ref b333), .val (.int (1 : Int32)), .val (.ref b383), .val (.int (1 : Int32))] [(.int (1 : Int32))]))
            refine own_go (fun t k => XS.ifNo X396.here hx rfl (hb hby at_314) rfl ((if0 _ _).trans (feq (by decide : ¬ ((1 : Int32) = (0 : Int32)))).1) (XS.aload X396.here hx rfl (hb hby at_317) rfl rfl  (XS.aload X396.here hx rfl (hb hby at_319) rfl rfl  (XS.iconst X396.here hx rfl (hb hby at_321) (XS.iload X396.here hx rfl (hb hby at_322) rfl  k))))) ?_
            show own_Fin p e below _ (T396.setTop (mkF m 324 #[.val (.int p1), .val (.int p2), .val (.int p3), .val (.int p4), .val (.int p5), .val (.int (4 : Int32)), .val (.ref b307), .val (.ref b333), .val (.int (1 : Int32)), .val (.ref b383), .val (.int (1 : Int32))] [(.int (1 : Int32)), (.int (1 : Int32)), (.ref b307), (.ref b383)]))
            obtain ⟨_, _, ⟨T397, L397, k397, n397⟩, -, X397, ⟨Lc397, hQ397, l397, y397, z397⟩, st397⟩ := Jvm.LawKit.callS X396 hx (y := (⟨"com/example/keyslice/keyslice/storage/KeyRangeAfterPinLaw", "slot", "([B[BII)Z"⟩ : MethodName)) hown (mvT hZ hw_26) (mvT hZ hw_27) (mvT hZ hw_4) (mvT hZ hw_28) (by decide) (backOf (W := 0) (rm5s11 l Z a0 hw [] (b383) (b307) k383 k307 (D0) (D1) (D2) (D3) T383.heap n0 Zh390 V383 f387) hZ hw_28 hw_4 (by decide) (by decide)) (g := (mkF m 324 #[.val (.int p1), .val (.int p2), .val (.int p3), .val (.int p4), .val (.int p5), .val (.int (4 : Int32)), .val (.ref b307), .val (.ref b333), .val (.int (1 : Int32)), .val (.ref b383), .val (.int (1 : Int32))] [(.int (1 : Int32)), (.int (1 : Int32)), (.ref b307), (.ref b383)])) rfl (by rw [hml]; rfl) (argsL := [(.ref b383), (.ref b307), (.int (1 : Int32)), (.int (1 : Int32))]) (rest := []) (lenOf pd_4 rfl) rfl (by show 2 * 0 + _ ≤ _; exact Nat.le_of_eq rfl) (hb hby at_324) (fun _ _ => ⟨rfl, e396, (by decide : 3 + 0 ≤ _), (by decide : 9 + 0 ≤ _)⟩)
            dsimp only [Pt.U, Pt.locs, Pt.cells, Pt.slots] at X397 l397 y397 z397 st397 hQ397
            subst l397 y397 z397
            obtain ⟨rfl, N397q, e397⟩ := hQ397
            have N397 := Fr.app N396 N397q
            refine own_go st397 ?_
            show own_Fin p e below _ (T397.setTop (mkF m 327 #[.val (.int p1), .val (.int p2), .val (.int p3), .val (.int p4), .val (.int p5), .val (.int (4 : Int32)), .val (.ref b307), .val (.ref b333), .val (.int (1 : Int32)), .val (.ref b383), .val (.int (1 : Int32))] [(.int (1 : Int32))]))
            refine own_go (fun t k => XS.ifNo X397.here hx rfl (hb hby at_327) rfl ((if0 _ _).trans (feq (by decide : ¬ ((1 : Int32) = (0 : Int32)))).1) (XS.aload X397.here hx rfl (hb hby at_330) rfl rfl  (XS.aload X397.here hx rfl (hb hby at_332) rfl rfl  (XS.iconst X397.here hx rfl (hb hby at_334) (XS.iload X397.here hx rfl (hb hby at_335) rfl  k))))) ?_
            show own_Fin p e below _ (T397.setTop (mkF m 337 #[.val (.int p1), .val (.int p2), .val (.int p3), .val (.int p4), .val (.int p5), .val (.int (4 : Int32)), .val (.ref b307), .val (.ref b333), .val (.int (1 : Int32)), .val (.ref b383), .val (.int (1 : Int32))] [(.int (1 : Int32)), (.int (2 : Int32)), (.ref b307), (.ref b383)]))
            obtain ⟨_, _, ⟨T398, L398, k398, n398⟩, -, X398, ⟨Lc398, hQ398, l398, y398, z398⟩, st398⟩ := Jvm.LawKit.callS X397 hx (y := (⟨"com/example/keyslice/keyslice/storage/KeyRangeAfterPinLaw", "slot", "([B[BII)Z"⟩ : MethodName)) hown (mvT hZ hw_26) (mvT hZ hw_27) (mvT hZ hw_4) (mvT hZ hw_28) (by decide) (backOf (W := 0) (rm5s21 l Z a0 hw [] (b383) (b307) k383 k307 (D0) (D1) (D2) (D3) T383.heap n0 Zh390 V383 f387) hZ hw_28 hw_4 (by decide) (by decide)) (g := (mkF m 337 #[.val (.int p1), .val (.int p2), .val (.int p3), .val (.int p4), .val (.int p5), .val (.int (4 : Int32)), .val (.ref b307), .val (.ref b333), .val (.int (1 : Int32)), .val (.ref b383), .val (.int (1 : Int32))] [(.int (1 : Int32)), (.int (2 : Int32)), (.ref b307), (.ref b383)])) rfl (by rw [hml]; rfl) (argsL := [(.ref b383), (.ref b307), (.int (2 : Int32)), (.int (1 : Int32))]) (rest := []) (lenOf pd_4 rfl) rfl (by show 2 * 0 + _ ≤ _; exact Nat.le_of_eq rfl) (hb hby at_337) (fun _ _ => ⟨rfl, e397, (by decide : 3 + 0 ≤ _), (by decide : 9 + 0 ≤ _)⟩)
            dsimp only [Pt.U, Pt.locs, Pt.cells, Pt.slots] at X398 l398 y398 z398 st398 hQ398
            subst l398 y398 z398
            obtain ⟨rfl, N398q, e398⟩ := hQ398
            have N398 := Fr.app N397 N398q
            refine own_go st398 ?_
            show own_Fin p e below _ (T398.setTop (mkF m 340 #[.val (.int p1), .val (.int p2), .val (.int p3), .val (.int p4), .val (.int p5), .val (.int (4 : Int32)), .val (.ref b307), .val (.ref b333), .val (.int (1 : Int32)), .val (.ref b383), .val (.int (1 : Int32))] [(.int (1 : Int32))]))
            refine own_go (fun t k => XS.ifNo X398.here hx rfl (hb hby at_340) rfl ((if0 _ _).trans (feq (by decide : ¬ ((1 : Int32) = (0 : Int32)))).1) (XS.aload X398.here hx rfl (hb hby at_343) rfl rfl  (XS.aload X398.here hx rfl (hb hby at_345) rfl rfl  (XS.iconst X398.here hx rfl (hb hby at_347) (XS.iload X398.here hx rfl (hb hby at_348) rfl  k))))) ?_
            show own_Fin p e below _ (T398.setTop (mkF m 350 #[.val (.int p1), .val (.int p2), .val (.int p3), .val (.int p4), .val (.int p5), .val (.int (4 : Int32)), .val (.ref b307), .val (.ref b333), .val (.int (1 : Int32)), .val (.ref b383), .val (.int (1 : Int32))] [(.int (1 : Int32)), (.int (3 : Int32)), (.ref b307), (.ref b383)]))
            obtain ⟨_, _, ⟨T399, L399, k399, n399⟩, -, X399, ⟨Lc399, hQ399, l399, y399, z399⟩, st399⟩ := Jvm.LawKit.callS X398 hx (y := (⟨"com/example/keyslice/keyslice/storage/KeyRangeAfterPinLaw", "slot", "([B[BII)Z"⟩ : MethodName)) hown (mvT hZ hw_26) (mvT hZ hw_27) (mvT hZ hw_4) (mvT hZ hw_28) (by decide) (backOf (W := 0) (rm5s31 l Z a0 hw [] (b383) (b307) k383 k307 (D0) (D1) (D2) (D3) T383.heap n0 Zh390 V383 f387) hZ hw_28 hw_4 (by decide) (by decide)) (g := (mkF m 350 #[.val (.int p1), .val (.int p2), .val (.int p3), .val (.int p4), .val (.int p5), .val (.int (4 : Int32)), .val (.ref b307), .val (.ref b333), .val (.int (1 : Int32)), .val (.ref b383), .val (.int (1 : Int32))] [(.int (1 : Int32)), (.int (3 : Int32)), (.ref b307), (.ref b383)])) rfl (by rw [hml]; rfl) (argsL := [(.ref b383), (.ref b307), (.int (3 : Int32)), (.int (1 : Int32))]) (rest := []) (lenOf pd_4 rfl) rfl (by show 2 * 0 + _ ≤ _; exact Nat.le_of_eq rfl) (hb hby at_350) (fun _ _ => ⟨rfl, e398, (by decide : 3 + 0 ≤ _), (by decide : 9 + 0 ≤ _)⟩)
            dsimp only [Pt.U, Pt.locs, Pt.cells, Pt.slots] at X399 l399 y399 z399 st399 hQ399
            subst l399 y399 z399
            obtain ⟨rfl, N399q, e399⟩ := hQ399
            have N399 := Fr.app N398 N399q
            refine own_go st399 ?_
            show own_Fin p e below _ (T399.setTop (mkF m 353 #[.val (.int p1), .val (.int p2), .val (.int p3), .val (.int p4), .val (.int p5), .val (.int (4 : Int32)), .val (.ref b307), .val (.ref b333), .val (.int (1 : Int32)), .val (.ref b383), .val (.int (1 : Int32))] [(.int (1 : Int32))]))
            refine own_go (fun t k => XS.ifNo X399.here hx rfl (hb hby at_353) rfl ((if0 _ _).trans (feq (by decide : ¬ ((1 : Int32) = (0 : Int32)))).1) (XS.iconst X399.here hx rfl (hb hby at_356) (XS.goto X399.here hx rfl (pc0 := 357) (pc' := 361) rfl (hb hby at_357) (by decide) (by decide) k))) ?_
            show own_Fin p e below _ (T399.setTop (mkF m 361 #[.val (.int p1), .val (.int p2), .val (.int p3), .val (.int p4), .val (.int p5), .val (.int (4 : Int32)), .val (.ref b307), .val (.ref b333), .val (.int (1 : Int32)), .val (.ref b383), .val (.int (1 : Int32))] [(.int (1 : Int32))]))
            exact own_out X399 (fun h => by rw [Bd.returns] at h; cases h) Bd.notSynchronized (fun fs hr => retN X399 hx (t := .boolean) Bd.returns (by simp) (hb hby at_361) hr) ⟨rfl, N399⟩ (by decide) (by decide)
        · skip
          refine own_go (fun t k => XS.icmpNo X363.here hx rfl (hb hby at_158) rfl (feq hc375).1 (XS.iconst X363.here hx rfl (hb hby at_161) (XS.istore X363.here hx rfl (hb hby at_162) rfl (l' := #[.val (.int p1), .val (.int p2), .val (.int p3), .val (.int p4), .val (.int p5), .val (.int (4 : Int32)), .val (.ref b307), .val (.ref b333), .val (.int (2 : Int32)), .unset, .unset]) rfl (XS.goto X363.here hx rfl (pc0 := 164) (pc' := 190) rfl (hb hby at_164) (by decide) (by decide) (XS.aload X363.here hx rfl (hb hby at_190) rfl rfl  k))))) ?_
          show own_Fin p e below _ (T363.setTop (mkF m 192 #[.val (.int p1), .val (.int p2), .val (.int p3), .val (.int p4), .val (.int p5), .val (.int (4 : Int32)), .val (.ref b307), .val (.ref b333), .val (.int (2 : Int32)), .unset, .unset] [(.ref b333)]))
          obtain ⟨_, _, ⟨T400, L400, k400, n400⟩, -, X400, ⟨Lc400, hQ400, l400, y400, z400⟩, st400⟩ := Jvm.LawKit.callS X363 hx (y := (⟨"com/example/keyslice/keyslice/storage/KeyRange", "after", "([B)[B"⟩ : MethodName)) hown (mvT hZ hw_6) (mvT hZ hw_7) (mvT hZ hw_8) (mvT hZ hw_9) (by decide) (backOf (W := 0) (rm2r42 l Z a0 hw [] (b333) k333 (D0) (D1) (D2) (D3) h363 n0 Zh369 f368 f366 hc371 hc373 hc375) hZ hw_9 hw_8 (by decide) (by decide)) (g := (mkF m 192 #[.val (.int p1), .val (.int p2), .val (.int p3), .val (.int p4), .val (.int p5), .val (.int (4 : Int32)), .val (.ref b307), .val (.ref b333), .val (.int (2 : Int32)), .unset, .unset] [(.ref b333)])) rfl (by rw [hml]; rfl) (argsL := [(.ref b333)]) (rest := []) (lenOf pd_3 rfl) rfl (by show 2 * 0 + _ ≤ _; exact Nat.le_of_eq rfl) (hb hby at_192) (fun _ _ => ⟨rfl, e363, (by decide : 2 + 1 ≤ _), (by decide : 8 + 2 ≤ _)⟩)
          dsimp only [Pt.U, Pt.locs, Pt.cells, Pt.slots] at X400 l400 y400 z400 st400 hQ400
          subst l400 y400 z400
          obtain ⟨b400, k400, rfl, N400q, sz400, K400, V400⟩ := hQ400
          have N400 := Fr.app N363 N400q
          have g_b400 : n0 ≤ b400 := Nat.le_trans Zh369 sz400
          have ne401 : b307 ≠ b400 := Nat.ne_of_lt (Nat.lt_of_lt_of_le f364.lt sz400)
          have ne402 : b333 ≠ b400 := Nat.ne_of_lt (Nat.lt_of_lt_of_le f366.lt sz400)
          have E400 : Ext _ _ := ⟨K400.1, fun a c q => K400.2.1 a c q nin0⟩
          have f403 := f364.ext E400
          have f404 := f365.ext E400
          have f405 := f366.ext E400
          have f406 := f368.ext E400
          have Zh407 : n0 ≤ T400.heap.size := Nat.le_trans Zh369 K400.1
          refine own_go st400 ?_
          show own_Fin p e below _ (T400.setTop (mkF m 195 #[.val (.int p1), .val (.int p2), .val (.int p3), .val (.int p4), .val (.int p5), .val (.int (4 : Int32)), .val (.ref b307), .val (.ref b333), .val (.int (2 : Int32)), .unset, .unset] [(.ref b400)]))
          refine own_go (fun t k => XS.astore X400.here hx rfl (hb hby at_195) rfl rfl (l' := #[.val (.int p1), .val (.int p2), .val (.int p3), .val (.int p4), .val (.int p5), .val (.int (4 : Int32)), .val (.ref b307), .val (.ref b333), .val (.int (2 : Int32)), .val (.ref b400), .unset]) rfl (XS.aload X400.here hx rfl (hb hby at_197) rfl rfl  (XS.aload X400.here hx rfl (hb hby at_199) rfl rfl  (XS.iconst X400.here hx rfl (hb hby at_201) (XS.iload X400.here hx rfl (hb hby at_202) rfl  k))))) ?_
          show own_Fin p e below _ (T400.setTop (mkF m 204 #[.val (.int p1), .val (.int p2), .val (.int p3), .val (.int p4), .val (.int p5), .val (.int (4 : Int32)), .val (.ref b307), .val (.ref b333), .val (.int (2 : Int32)), .val (.ref b400), .unset] [(.int (4 : Int32)), (.int (0 : Int32)), (.ref b307), (.ref b333)]))
          obtain ⟨_, _, ⟨T408, L408, k408, n408⟩, -, X408, ⟨Lc408, hQ408, l408, y408, z408⟩, st408⟩ := Jvm.LawKit.callS X400 hx (y := (⟨"com/example/keyslice/keyslice/storage/KeyRangeAfterPinLaw", "held", "([B[BII)Z"⟩ : MethodName)) hown (mvT hZ hw_10) (mvT hZ hw_11) (mvT hZ hw_4) (mvT hZ hw_12) (by decide) (backOf (W := 0) (rm3h04 l Z a0 hw [] (b333) (b307) k333 k307 (D0) (D1) (D2) (D3) T400.heap n0 Zh407 f406 f404) hZ hw_12 hw_4 (by decide) (by decide)) (g := (mkF m 204 #[.val (.int p1), .val (.int p2), .val (.int p3), .val (.int p4), .val (.int p5), .val (.int (4 : Int32)), .val (.ref b307), .val (.ref b333), .val (.int (2 : Int32)), .val (.ref b400), .unset] [(.int (4 : Int32)), (.int (0 : Int32)), (.ref b307), (.ref b333)])) rfl (by rw [hml]; rfl) (argsL := [(.ref b333), (.ref b307), (.int (0 : Int32)), (.int (4 : Int32))]) (rest := []) (lenOf pd_4 rfl) rfl (by show 2 * 0 + _ ≤ _; exact Nat.le_of_eq rfl) (hb hby at_204) (fun _ _ => ⟨rfl, rfl, (by decide : 3 + 0 ≤ _), (by decide : 10 + 0 ≤ _)⟩)
          dsimp only [Pt.U, Pt.locs, Pt.cells, Pt.slots] at X408 l408 y408 z408 st408 hQ408
          subst l408 y408 z408
          obtain ⟨rfl, N408q, e408⟩ := hQ408
          have N408 := Fr.app N400 N408q
          refine own_go st408 ?_
          show own_Fin p e below _ (T408.setTop (mkF m 207 #[.val (.int p1), .val (.int p2), .val (.int p3), .val (.int p4), .val (.int p5), .val (.int (4 : Int32)), .val (.ref b307), .val (.ref b333), .val (.int (2 : Int32)), .val (.ref b400), .unset] [(.int (1 : Int32))]))
          refine own_go (fun t k => XS.ifNo X408.here hx rfl (hb hby at_207) rfl ((if0 _ _).trans (feq (by decide : ¬ ((1 : Int32) = (0 : Int32)))).1) (XS.aload X408.here hx rfl (hb hby at_210) rfl rfl  (XS.aload X408.here hx rfl (hb hby at_212) rfl rfl  (XS.iconst X408.here hx rfl (hb hby at_214) (XS.iload X408.here hx rfl (hb hby at_215) rfl  k))))) ?_
          show own_Fin p e below _ (T408.setTop (mkF m 217 #[.val (.int p1), .val (.int p2), .val (.int p3), .val (.int p4), .val (.int p5), .val (.int (4 : Int32)), .val (.ref b307), .val (.ref b333), .val (.int (2 : Int32)), .val (.ref b400), .unset] [(.int (4 : Int32)), (.int (1 : Int32)), (.ref b307), (.ref b333)]))
          obtain ⟨_, _, ⟨T409, L409, k409, n409⟩, -, X409, ⟨Lc409, hQ409, l409, y409, z409⟩, st409⟩ := Jvm.LawKit.callS X408 hx (y := (⟨"com/example/keyslice/keyslice/storage/KeyRangeAfterPinLaw", "held", "([B[BII)Z"⟩ : MethodName)) hown (mvT hZ hw_10) (mvT hZ hw_11) (mvT hZ hw_4) (mvT hZ hw_12) (by decide) (backOf (W := 0) (rm3h14 l Z a0 hw [] (b333) (b307) k333 k307 (D0) (D1) (D2) (D3) T400.heap n0 Zh407 f406 f404) hZ hw_12 hw_4 (by decide) (by decide)) (g := (mkF m 217 #[.val (.int p1), .val (.int p2), .val (.int p3), .val (.int p4), .val (.int p5), .val (.int (4 : Int32)), .val (.ref b307), .val (.ref b333), .val (.int (2 : Int32)), .val (.ref b400), .unset] [(.int (4 : Int32)), (.int (1 : Int32)), (.ref b307), (.ref b333)])) rfl (by rw [hml]; rfl) (argsL := [(.ref b333), (.ref b307), (.int (1 : Int32)), (.int (4 : Int32))]) (rest := []) (lenOf pd_4 rfl) rfl (by show 2 * 0 + _ ≤ _; exact Nat.le_of_eq rfl) (hb hby at_217) (fun _ _ => ⟨rfl, e408, (by decide : 3 + 0 ≤ _), (by decide : 10 + 0 ≤ _)⟩)
          dsimp only [Pt.U, Pt.locs, Pt.cells, Pt.slots] at X409 l409 y409 z409 st409 hQ409
          subst l409 y409 z409
          obtain ⟨rfl, N409q, e409⟩ := hQ409
          have N409 := Fr.app N408 N409q
          refine own_go st409 ?_
          show own_Fin p e below _ (T409.setTop (mkF m 220 #[.val (.int p1), .val (.int p2), .val (.int p3), .val (.int p4), .val (.int p5), .val (.int (4 : Int32)), .val (.ref b307), .val (.ref b333), .val (.int (2 : Int32)), .val (.ref b400), .unset] [(.int (1 : Int32))]))
          refine own_go (fun t k => XS.ifNo X409.here hx rfl (hb hby at_220) rfl ((if0 _ _).trans (feq (by decide : ¬ ((1 : Int32) = (0 : Int32)))).1) (XS.aload X409.here hx rfl (hb hby at_223) rfl rfl  (XS.aload X409.here hx rfl (hb hby at_225) rfl rfl  (XS.iconst X409.here hx rfl (hb hby at_227) (XS.iload X409.here hx rfl (hb hby at_228) rfl  k))))) ?_
          show own_Fin p e below _ (T409.setTop (mkF m 230 #[.val (.int p1), .val (.int p2), .val (.int p3), .val (.int p4), .val (.int p5), .val (.int (4 : Int32)), .val (.ref b307), .val (.ref b333), .val (.int (2 : Int32)), .val (.ref b400), .unset] [(.int (4 : Int32)), (.int (2 : Int32)), (.ref b307), (.ref b333)]))
          obtain ⟨_, _, ⟨T410, L410, k410, n410⟩, -, X410, ⟨Lc410, hQ410, l410, y410, z410⟩, st410⟩ := Jvm.LawKit.callS X409 hx (y := (⟨"com/example/keyslice/keyslice/storage/KeyRangeAfterPinLaw", "held", "([B[BII)Z"⟩ : MethodName)) hown (mvT hZ hw_10) (mvT hZ hw_11) (mvT hZ hw_4) (mvT hZ hw_12) (by decide) (backOf (W := 0) (rm3h24 l Z a0 hw [] (b333) (b307) k333 k307 (D0) (D1) (D2) (D3) T400.heap n0 Zh407 f406 f404) hZ hw_12 hw_4 (by decide) (by decide)) (g := (mkF m 230 #[.val (.int p1), .val (.int p2), .val (.int p3), .val (.int p4), .val (.int p5), .val (.int (4 : Int32)), .val (.ref b307), .val (.ref b333), .val (.int (2 : Int32)), .val (.ref b400), .unset] [(.int (4 : Int32)), (.int (2 : Int32)), (.ref b307), (.ref b333)])) rfl (by rw [hml]; rfl) (argsL := [(.ref b333), (.ref b307), (.int (2 : Int32)), (.int (4 : Int32))]) (rest := []) (lenOf pd_4 rfl) rfl (by show 2 * 0 + _ ≤ _; exact Nat.le_of_eq rfl) (hb hby at_230) (fun _ _ => ⟨rfl, e409, (by decide : 3 + 0 ≤ _), (by decide : 10 + 0 ≤ _)⟩)
          dsimp only [Pt.U, Pt.locs, Pt.cells, Pt.slots] at X410 l410 y410 z410 st410 hQ410
          subst l410 y410 z410
          obtain ⟨rfl, N410q, e410⟩ := hQ410
          have N410 := Fr.app N409 N410q
          refine own_go st410 ?_
          show own_Fin p e below _ (T410.setTop (mkF m 233 #[.val (.int p1), .val (.int p2), .val (.int p3), .val (.int p4), .val (.int p5), .val (.int (4 : Int32)), .val (.ref b307), .val (.ref b333), .val (.int (2 : Int32)), .val (.ref b400), .unset] [(.int (1 : Int32))]))
          refine own_go (fun t k => XS.ifNo X410.here hx rfl (hb hby at_233) rfl ((if0 _ _).trans (feq (by decide : ¬ ((1 : Int32) = (0 : Int32)))).1) (XS.aload X410.here hx rfl (hb hby at_236) rfl rfl  (XS.aload X410.here hx rfl (hb hby at_238) rfl rfl  (XS.iconst X410.here hx rfl (hb hby at_240) (XS.iload X410.here hx rfl (hb hby at_241) rfl  k))))) ?_
          show own_Fin p e below _ (T410.setTop (mkF m 243 #[.val (.int p1), .val (.int p2), .val (.int p3), .val (.int p4), .val (.int p5), .val (.int (4 : Int32)), .val (.ref b307), .val (.ref b333), .val (.int (2 : Int32)), .val (.ref b400), .unset] [(.int (4 : Int32)), (.int (3 : Int32)), (.ref b307), (.ref b333)]))
          obtain ⟨_, _, ⟨T411, L411, k411, n411⟩, -, X411, ⟨Lc411, hQ411, l411, y411, z411⟩, st411⟩ := Jvm.LawKit.callS X410 hx (y := (⟨"com/example/keyslice/keyslice/storage/KeyRangeAfterPinLaw", "held", "([B[BII)Z"⟩ : MethodName)) hown (mvT hZ hw_10) (mvT hZ hw_11) (mvT hZ hw_4) (mvT hZ hw_12) (by decide) (backOf (W := 0) (rm3h34 l Z a0 hw [] (b333) (b307) k333 k307 (D0) (D1) (D2) (D3) T400.heap n0 Zh407 f406 f404) hZ hw_12 hw_4 (by decide) (by decide)) (g := (mkF m 243 #[.val (.int p1), .val (.int p2), .val (.int p3), .val (.int p4), .val (.int p5), .val (.int (4 : Int32)), .val (.ref b307), .val (.ref b333), .val (.int (2 : Int32)), .val (.ref b400), .unset] [(.int (4 : Int32)), (.int (3 : Int32)), (.ref b307), (.ref b333)])) rfl (by rw [hml]; rfl) (argsL := [(.ref b333), (.ref b307), (.int (3 : Int32)), (.int (4 : Int32))]) (rest := []) (lenOf pd_4 rfl) rfl (by show 2 * 0 + _ ≤ _; exact Nat.le_of_eq rfl) (hb hby at_243) (fun _ _ => ⟨rfl, e410, (by decide : 3 + 0 ≤ _), (by decide : 10 + 0 ≤ _)⟩)
          dsimp only [Pt.U, Pt.locs, Pt.cells, Pt.slots] at X411 l411 y411 z411 st411 hQ411
          subst l411 y411 z411
          obtain ⟨rfl, N411q, e411⟩ := hQ411
          have N411 := Fr.app N410 N411q
          refine own_go st411 ?_
          show own_Fin p e below _ (T411.setTop (mkF m 246 #[.val (.int p1), .val (.int p2), .val (.int p3), .val (.int p4), .val (.int p5), .val (.int (4 : Int32)), .val (.ref b307), .val (.ref b333), .val (.int (2 : Int32)), .val (.ref b400), .unset] [(.int (1 : Int32))]))
          refine own_go (fun t k => XS.ifNo X411.here hx rfl (hb hby at_246) rfl ((if0 _ _).trans (feq (by decide : ¬ ((1 : Int32) = (0 : Int32)))).1) (XS.iconst X411.here hx rfl (hb hby at_249) (XS.goto X411.here hx rfl (pc0 := 250) (pc' := 254) rfl (hb hby at_250) (by decide) (by decide) (XS.istore X411.here hx rfl (hb hby at_254) rfl (l' := #[.val (.int p1), .val (.int p2), .val (.int p3), .val (.int p4), .val (.int p5), .val (.int (4 : Int32)), .val (.ref b307), .val (.ref b333), .val (.int (2 : Int32)), .val (.ref b400), .val (.int (1 : Int32))]) rfl (XS.iload X411.here hx rfl (hb hby at_256) rfl  k))))) ?_
          show own_Fin p e below _ (T411.setTop (mkF m 258 #[.val (.int p1), .val (.int p2), .val (.int p3), .val (.int p4), .val (.int p5), .val (.int (4 : Int32)), .val (.ref b307), .val (.ref b333), .val (.int (2 : Int32)), .val (.ref b400), .val (.int (1 : Int32))] [(.int (2 : Int32))]))
          refine own_go (fun t k => XS.ifYes X411.here hx rfl (pc0 := 258) (pc' := 277) rfl (hb hby at_258) rfl ((if0 _ _).trans (feq (by decide : ¬ ((2 : Int32) = (0 : Int32)))).2) (by decide) (by decide) (XS.aload X411.here hx rfl (hb hby at_277) rfl rfl  k)) ?_
          show own_Fin p e below _ (T411.setTop (mkF m 279 #[.val (.int p1), .val (.int p2), .val (.int p3), .val (.int p4), .val (.int p5), .val (.int (4 : Int32)), .val (.ref b307), .val (.ref b333), .val (.int (2 : Int32)), .val (.ref b400), .val (.int (1 : Int32))] [(.ref b400)]))
          refine own_go (fun t k => XS.ifnullNo X411.here hx rfl (hb hby at_279) rfl (XS.aload X411.here hx rfl (hb hby at_282) rfl rfl  (XS.aload X411.here hx rfl (hb hby at_284) rfl rfl  k))) ?_
          show own_Fin p e below _ (T411.setTop (mkF m 286 #[.val (.int p1), .val (.int p2), .val (.int p3), .val (.int p4), .val (.int p5), .val (.int (4 : Int32)), .val (.ref b307), .val (.ref b333), .val (.int (2 : Int32)), .val (.ref b400), .val (.int (1 : Int32))] [(.ref b333), (.ref b400)]))
          refine own_go (fun t k => Jvm.RoadKit.acmp (g := (mkF m 286 #[.val (.int p1), .val (.int p2), .val (.int p3), .val (.int p4), .val (.int p5), .val (.int (4 : Int32)), .val (.ref b307), .val (.ref b333), .val (.int (2 : Int32)), .val (.ref b400), .val (.int (1 : Int32))] [(.ref b333), (.ref b400)])) X411 hx rfl rfl rfl (pc0 := 286) (pc' := 289) (same := false) rfl (hb hby at_286) rfl (decide_eq_false fun q => (Ne.symm ne402) (Value.ref.inj q)) (by decide) (by decide) (XS.aload X411.here hx rfl (hb hby at_289) rfl rfl  k)) ?_
          show own_Fin p e below _ (T411.setTop (mkF m 291 #[.val (.int p1), .val (.int p2), .val (.int p3), .val (.int p4), .val (.int p5), .val (.int (4 : Int32)), .val (.ref b307), .val (.ref b333), .val (.int (2 : Int32)), .val (.ref b400), .val (.int (1 : Int32))] [(.ref b400)]))
          obtain ⟨cl412, Ar412, q412, S412, M412, H412, G412⟩ := (id V400)
          refine own_go (fun t k => X411.arraylength hx (by rw [e411]; exact Ar412.1) (State.isArrayOf_alike hZ.alike Ar412.2.1) (g := (mkF m 291 #[.val (.int p1), .val (.int p2), .val (.int p3), .val (.int p4), .val (.int p5), .val (.int (4 : Int32)), .val (.ref b307), .val (.ref b333), .val (.int (2 : Int32)), .val (.ref b400), .val (.int (1 : Int32))] [(.ref b400)])) rfl rfl (hb hby at_291) _ k) ?_
          rw [len_of S412 M412]
          show own_Fin p e below _ (T411.setTop (mkF m 292 #[.val (.int p1), .val (.int p2), .val (.int p3), .val (.int p4), .val (.int p5), .val (.int (4 : Int32)), .val (.ref b307), .val (.ref b333), .val (.int (2 : Int32)), .val (.ref b400), .val (.int (1 : Int32))] [(.int (2 : Int32))]))
          refine own_go (fun t k => XS.iload X411.here hx rfl (hb hby at_292) rfl  k) ?_
          show own_Fin p e below _ (T411.setTop (mkF m 294 #[.val (.int p1), .val (.int p2), .val (.int p3), .val (.int p4), .val (.int p5), .val (.int (4 : Int32)), .val (.ref b307), .val (.ref b333), .val (.int (2 : Int32)), .val (.ref b400), .val (.int (1 : Int32))] [(.int (2 : Int32)), (.int (2 : Int32))]))
          refine own_go (fun t k => XS.icmpYes X411.here hx rfl (pc0 := 294) (pc' := 299) rfl (hb hby at_294) rfl (teq (by decide : (2 : Int32) = (2 : Int32))).1 (by decide) (by decide) (XS.iload X411.here hx rfl (hb hby at_299) rfl  k)) ?_
          show own_Fin p e below _ (T411.setTop (mkF m 301 #[.val (.int p1), .val (.int p2), .val (.int p3), .val (.int p4), .val (.int p5), .val (.int (4 : Int32)), .val (.ref b307), .val (.ref b333), .val (.int (2 : Int32)), .val (.ref b400), .val (.int (1 : Int32))] [(.int (1 : Int32))]))
          refine own_go (fun t k => XS.ifNo X411.here hx rfl (hb hby at_301) rfl ((if0 _ _).trans (feq (by decide : ¬ ((1 : Int32) = (0 : Int32)))).1) (XS.aload X411.here hx rfl (hb hby at_304) rfl rfl  (XS.aload X411.here hx rfl (hb hby at_306) rfl rfl  (XS.iconst X411.here hx rfl (hb hby at_308) (XS.iload X411.here hx rfl (hb hby at_309) rfl  k))))) ?_
          show own_Fin p e below _ (T411.setTop (mkF m 311 #[.val (.int p1), .val (.int p2), .val (.int p3), .val (.int p4), .val (.int p5), .val (.int (4 : Int32)), .val (.ref b307), .val (.ref b333), .val (.int (2 : Int32)), .val (.ref b400), .val (.int (1 : Int32))] [(.int (2 : Int32)), (.int (0 : Int32)), (.ref b307), (.ref b400)]))
          obtain ⟨_, _, ⟨T413, L413, k413, n413⟩, -, X413, ⟨Lc413, hQ413, l413, y413, z413⟩, st413⟩ := Jvm.LawKit.callS X411 hx (y := (⟨"com/example/keyslice/keyslice/storage/KeyRangeAfterPinLaw", "slot", "([B[BII)Z"⟩ : MethodName)) hown (mvT hZ hw_26) (mvT hZ hw_27) (mvT hZ hw_4) (mvT hZ hw_28) (by decide) (backOf (W := 0) (rm5s02 l Z a0 hw [] (b400) (b307) k400 k307 (D0) (D1) (D2) (D3) T400.heap n0 Zh407 V400 f404) hZ hw_28 hw_4 (by decide) (by decide)) (g := (mkF m 311 #[.val (.int p1), .val (.int p2), .val (.int p3), .val (.int p4), .val (.int p5), .val (.int (4 : Int32)), .val (.ref b307), .val (.ref b333), .val (.int (2 : Int32)), .val (.ref b400), .val (.int (1 : Int32))] [(.int (2 : Int32)), (.int (0 : Int32)), (.ref b307), (.ref b400)])) rfl (by rw [hml]; rfl) (argsL := [(.ref b400), (.ref b307), (.int (0 : Int32)), (.int (2 : Int32))]) (rest := []) (lenOf pd_4 rfl) rfl (by show 2 * 0 + _ ≤ _; exact Nat.le_of_eq rfl) (hb hby at_311) (fun _ _ => ⟨rfl, e411, (by decide : 3 + 0 ≤ _), (by decide : 10 + 0 ≤ _)⟩)
          dsimp only [Pt.U, Pt.locs, Pt.cells, Pt.slots] at X413 l413 y413 z413 st413 hQ413
          subst l413 y413 z413
          obtain ⟨rfl, N413q, e413⟩ := hQ413
          have N413 := Fr.app N411 N413q
          refine own_go st413 ?_
          show own_Fin p e below _ (T413.setTop (mkF m 314 #[.val (.int p1), .val (.int p2), .val (.int p3), .val (.int p4), .val (.int p5), .val (.int (4 : Int32)), .val (.ref b307), .val (.ref b333), .val (.int (2 : Int32)), .val (.ref b400), .val (.int (1 : Int32))] [(.int (1 : Int32))]))
          refine own_go (fun t k => XS.ifNo X413.here hx rfl (hb hby at_314) rfl ((if0 _ _).trans (feq (by decide : ¬ ((1 : Int32) = (0 : Int32)))).1) (XS.aload X413.here hx rfl (hb hby at_317) rfl rfl  (XS.aload X413.here hx rfl (hb hby at_319) rfl rfl  (XS.iconst X413.here hx rfl (hb hby at_321) (XS.iload X413.here hx rfl (hb hby at_322) rfl  k))))) ?_
          show own_Fin p e below _ (T413.setTop (mkF m 324 #[.val (.int p1), .val (.int p2), .val (.int p3), .val (.int p4), .val (.int p5), .val (.int (4 : Int32)), .val (.ref b307), .val (.ref b333), .val (.int (2 : Int32)), .val (.ref b400), .val (.int (1 : Int32))] [(.int (2 : Int32)), (.int (1 : Int32)), (.ref b307), (.ref b400)]))
          obtain ⟨_, _, ⟨T414, L414, k414, n414⟩, -, X414, ⟨Lc414, hQ414, l414, y414, z414⟩, st414⟩ := Jvm.LawKit.callS X413 hx (y := (⟨"com/example/keyslice/keyslice/storage/KeyRangeAfterPinLaw", "slot", "([B[BII)Z"⟩ : MethodName)) hown (mvT hZ hw_26) (mvT hZ hw_27) (mvT hZ hw_4) (mvT hZ hw_28) (by decide) (backOf (W := 0) (rm5s12 l Z a0 hw [] (b400) (b307) k400 k307 (D0) (D1) (D2) (D3) T400.heap n0 Zh407 V400 f404) hZ hw_28 hw_4 (by decide) (by decide)) (g := (mkF m 324 #[.val (.int p1), .val (.int p2), .val (.int p3), .val (.int p4), .val (.int p5), .val (.int (4 : Int32)), .val (.ref b307), .val (.ref b333), .val (.int (2 : Int32)), .val (.ref b400), .val (.int (1 : Int32))] [(.int (2 : Int32)), (.int (1 : Int32)), (.ref b307), (.ref b400)])) rfl (by rw [hml]; rfl) (argsL := [(.ref b400), (.ref b307), (.int (1 : Int32)), (.int (2 : Int32))]) (rest := []) (lenOf pd_4 rfl) rfl (by show 2 * 0 + _ ≤ _; exact Nat.le_of_eq rfl) (hb hby at_324) (fun _ _ => ⟨rfl, e413, (by decide : 3 + 0 ≤ _), (by decide : 10 + 0 ≤ _)⟩)
          dsimp only [Pt.U, Pt.locs, Pt.cells, Pt.slots] at X414 l414 y414 z414 st414 hQ414
          subst l414 y414 z414
          obtain ⟨rfl, N414q, e414⟩ := hQ414
          have N414 := Fr.app N413 N414q
          refine own_go st414 ?_
          show own_Fin p e below _ (T414.setTop (mkF m 327 #[.val (.int p1), .val (.int p2), .val (.int p3), .val (.int p4), .val (.int p5), .val (.int (4 : Int32)), .val (.ref b307), .val (.ref b333), .val (.int (2 : Int32)), .val (.ref b400), .val (.int (1 : Int32))] [(.int (1 : Int32))]))
          refine own_go (fun t k => XS.ifNo X414.here hx rfl (hb hby at_327) rfl ((if0 _ _).trans (feq (by decide : ¬ ((1 : Int32) = (0 : Int32)))).1) (XS.aload X414.here hx rfl (hb hby at_330) rfl rfl  (XS.aload X414.here hx rfl (hb hby at_332) rfl rfl  (XS.iconst X414.here hx rfl (hb hby at_334) (XS.iload X414.here hx rfl (hb hby at_335) rfl  k))))) ?_
          show own_Fin p e below _ (T414.setTop (mkF m 337 #[.val (.int p1), .val (.int p2), .val (.int p3), .val (.int p4), .val (.int p5), .val (.int (4 : Int32)), .val (.ref b307), .val (.ref b333), .val (.int (2 : Int32)), .val (.ref b400), .val (.int (1 : Int32))] [(.int (2 : Int32)), (.int (2 : Int32)), (.ref b307), (.ref b400)]))
          obtain ⟨_, _, ⟨T415, L415, k415, n415⟩, -, X415, ⟨Lc415, hQ415, l415, y415, z415⟩, st415⟩ := Jvm.LawKit.callS X414 hx (y := (⟨"com/example/keyslice/keyslice/storage/KeyRangeAfterPinLaw", "slot", "([B[BII)Z"⟩ : MethodName)) hown (mvT hZ hw_26) (mvT hZ hw_27) (mvT hZ hw_4) (mvT hZ hw_28) (by decide) (backOf (W := 0) (rm5s22 l Z a0 hw [] (b400) (b307) k400 k307 (D0) (D1) (D2) (D3) T400.heap n0 Zh407 V400 f404) hZ hw_28 hw_4 (by decide) (by decide)) (g := (mkF m 337 #[.val (.int p1), .val (.int p2), .val (.int p3), .val (.int p4), .val (.int p5), .val (.int (4 : Int32)), .val (.ref b307), .val (.ref b333), .val (.int (2 : Int32)), .val (.ref b400), .val (.int (1 : Int32))] [(.int (2 : Int32)), (.int (2 : Int32)), (.ref b307), (.ref b400)])) rfl (by rw [hml]; rfl) (argsL := [(.ref b400), (.ref b307), (.int (2 : Int32)), (.int (2 : Int32))]) (rest := []) (lenOf pd_4 rfl) rfl (by show 2 * 0 + _ ≤ _; exact Nat.le_of_eq rfl) (hb hby at_337) (fun _ _ => ⟨rfl, e414, (by decide : 3 + 0 ≤ _), (by decide : 10 + 0 ≤ _)⟩)
          dsimp only [Pt.U, Pt.locs, Pt.cells, Pt.slots] at X415 l415 y415 z415 st415 hQ415
          subst l415 y415 z415
          obtain ⟨rfl, N415q, e415⟩ := hQ415
          have N415 := Fr.app N414 N415q
          refine own_go st415 ?_
          show own_Fin p e below _ (T415.setTop (mkF m 340 #[.val (.int p1), .val (.int p2), .val (.int p3), .val (.int p4), .val (.int p5), .val (.int (4 : Int32)), .val (.ref b307), .val (.ref b333), .val (.int (2 : Int32)), .val (.ref b400), .val (.int (1 : Int32))] [(.int (1 : Int32))]))
          refine own_go (fun t k => XS.ifNo X415.here hx rfl (hb hby at_340) rfl ((if0 _ _).trans (feq (by decide : ¬ ((1 : Int32) = (0 : Int32)))).1) (XS.aload X415.here hx rfl (hb hby at_343) rfl rfl  (XS.aload X415.here hx rfl (hb hby at_345) rfl rfl  (XS.iconst X415.here hx rfl (hb hby at_347) (XS.iload X415.here hx rfl (hb hby at_348) rfl  k))))) ?_
          show own_Fin p e below _ (T415.setTop (mkF m 350 #[.val (.int p1), .val (.int p2), .val (.int p3), .val (.int p4), .val (.int p5), .val (.int (4 : Int32)), .val (.ref b307), .val (.ref b333), .val (.int (2 : Int32)), .val (.ref b400), .val (.int (1 : Int32))] [(.int (2 : Int32)), (.int (3 : Int32)), (.ref b307), (.ref b400)]))
          obtain ⟨_, _, ⟨T416, L416, k416, n416⟩, -, X416, ⟨Lc416, hQ416, l416, y416, z416⟩, st416⟩ := Jvm.LawKit.callS X415 hx (y := (⟨"com/example/keyslice/keyslice/storage/KeyRangeAfterPinLaw", "slot", "([B[BII)Z"⟩ : MethodName)) hown (mvT hZ hw_26) (mvT hZ hw_27) (mvT hZ hw_4) (mvT hZ hw_28) (by decide) (backOf (W := 0) (rm5s32 l Z a0 hw [] (b400) (b307) k400 k307 (D0) (D1) (D2) (D3) T400.heap n0 Zh407 V400 f404) hZ hw_28 hw_4 (by decide) (by decide)) (g := (mkF m 350 #[.val (.int p1), .val (.int p2), .val (.int p3), .val (.int p4), .val (.int p5), .val (.int (4 : Int32)), .val (.ref b307), .val (.ref b333), .val (.int (2 : Int32)), .val (.ref b400), .val (.int (1 : Int32))] [(.int (2 : Int32)), (.int (3 : Int32)), (.ref b307), (.ref b400)])) rfl (by rw [hml]; rfl) (argsL := [(.ref b400), (.ref b307), (.int (3 : Int32)), (.int (2 : Int32))]) (rest := []) (lenOf pd_4 rfl) rfl (by show 2 * 0 + _ ≤ _; exact Nat.le_of_eq rfl) (hb hby at_350) (fun _ _ => ⟨rfl, e415, (by decide : 3 + 0 ≤ _), (by decide : 10 + 0 ≤ _)⟩)
          dsimp only [Pt.U, Pt.locs, Pt.cells, Pt.slots] at X416 l416 y416 z416 st416 hQ416
          subst l416 y416 z416
          obtain ⟨rfl, N416q, e416⟩ := hQ416
          have N416 := Fr.app N415 N416q
          refine own_go st416 ?_
          show own_Fin p e below _ (T416.setTop (mkF m 353 #[.val (.int p1), .val (.int p2), .val (.int p3), .val (.int p4), .val (.int p5), .val (.int (4 : Int32)), .val (.ref b307), .val (.ref b333), .val (.int (2 : Int32)), .val (.ref b400), .val (.int (1 : Int32))] [(.int (1 : Int32))]))
          refine own_go (fun t k => XS.ifNo X416.here hx rfl (hb hby at_353) rfl ((if0 _ _).trans (feq (by decide : ¬ ((1 : Int32) = (0 : Int32)))).1) (XS.iconst X416.here hx rfl (hb hby at_356) (XS.goto X416.here hx rfl (pc0 := 357) (pc' := 361) rfl (hb hby at_357) (by decide) (by decide) k))) ?_
          show own_Fin p e below _ (T416.setTop (mkF m 361 #[.val (.int p1), .val (.int p2), .val (.int p3), .val (.int p4), .val (.int p5), .val (.int (4 : Int32)), .val (.ref b307), .val (.ref b333), .val (.int (2 : Int32)), .val (.ref b400), .val (.int (1 : Int32))] [(.int (1 : Int32))]))
          exact own_out X416 (fun h => by rw [Bd.returns] at h; cases h) Bd.notSynchronized (fun fs hr => retN X416 hx (t := .boolean) Bd.returns (by simp) (hb hby at_361) hr) ⟨rfl, N416⟩ (by decide) (by decide)
      · skip
        refine own_go (fun t k => XS.icmpNo X363.here hx rfl (hb hby at_138) rfl (feq hc373).1 (XS.iconst X363.here hx rfl (hb hby at_141) (XS.istore X363.here hx rfl (hb hby at_142) rfl (l' := #[.val (.int p1), .val (.int p2), .val (.int p3), .val (.int p4), .val (.int p5), .val (.int (4 : Int32)), .val (.ref b307), .val (.ref b333), .val (.int (3 : Int32)), .unset, .unset]) rfl (XS.goto X363.here hx rfl (pc0 := 144) (pc' := 190) rfl (hb hby at_144) (by decide) (by decide) (XS.aload X363.here hx rfl (hb hby at_190) rfl rfl  k))))) ?_
        show own_Fin p e below _ (T363.setTop (mkF m 192 #[.val (.int p1), .val (.int p2), .val (.int p3), .val (.int p4), .val (.int p5), .val (.int (4 : Int32)), .val (.ref b307), .val (.ref b333), .val (.int (3 : Int32)), .unset, .unset] [(.ref b333)]))
        obtain ⟨_, _, ⟨T417, L417, k417, n417⟩, -, X417, ⟨Lc417, hQ417, l417, y417, z417⟩, st417⟩ := Jvm.LawKit.callS X363 hx (y := (⟨"com/example/keyslice/keyslice/storage/KeyRange", "after", "([B)[B"⟩ : MethodName)) hown (mvT hZ hw_6) (mvT hZ hw_7) (mvT hZ hw_8) (mvT hZ hw_9) (by decide) (backOf (W := 0) (rm2r43 l Z a0 hw [] (b333) k333 (D0) (D1) (D2) (D3) h363 n0 Zh369 f368 f366 hc371 hc373) hZ hw_9 hw_8 (by decide) (by decide)) (g := (mkF m 192 #[.val (.int p1), .val (.int p2), .val (.int p3), .val (.int p4), .val (.int p5), .val (.int (4 : Int32)), .val (.ref b307), .val (.ref b333), .val (.int (3 : Int32)), .unset, .unset] [(.ref b333)])) rfl (by rw [hml]; rfl) (argsL := [(.ref b333)]) (rest := []) (lenOf pd_3 rfl) rfl (by show 2 * 0 + _ ≤ _; exact Nat.le_of_eq rfl) (hb hby at_192) (fun _ _ => ⟨rfl, e363, (by decide : 2 + 1 ≤ _), (by decide : 8 + 3 ≤ _)⟩)
        dsimp only [Pt.U, Pt.locs, Pt.cells, Pt.slots] at X417 l417 y417 z417 st417 hQ417
        subst l417 y417 z417
        obtain ⟨b417, k417, rfl, N417q, sz417, K417, V417⟩ := hQ417
        have N417 := Fr.app N363 N417q
        have g_b417 : n0 ≤ b417 := Nat.le_trans Zh369 sz417
        have ne418 : b307 ≠ b417 := Nat.ne_of_lt (Nat.lt_of_lt_of_le f364.lt sz417)
        have ne419 : b333 ≠ b417 := Nat.ne_of_lt (Nat.lt_of_lt_of_le f366.lt sz417)
        have E417 : Ext _ _ := ⟨K417.1, fun a c q => K417.2.1 a c q nin0⟩
        have f420 := f364.ext E417
        have f421 := f365.ext E417
        have f422 := f366.ext E417
        have f423 := f368.ext E417
        have Zh424 : n0 ≤ T417.heap.size := Nat.le_trans Zh369 K417.1
        refine own_go st417 ?_
        show own_Fin p e below _ (T417.setTop (mkF m 195 #[.val (.int p1), .val (.int p2), .val (.int p3), .val (.int p4), .val (.int p5), .val (.int (4 : Int32)), .val (.ref b307), .val (.ref b333), .val (.int (3 : Int32)), .unset, .unset] [(.ref b417)]))
        refine own_go (fun t k => XS.astore X417.here hx rfl (hb hby at_195) rfl rfl (l' := #[.val (.int p1), .val (.int p2), .val (.int p3), .val (.int p4), .val (.int p5), .val (.int (4 : Int32)), .val (.ref b307), .val (.ref b333), .val (.int (3 : Int32)), .val (.ref b417), .unset]) rfl (XS.aload X417.here hx rfl (hb hby at_197) rfl rfl  (XS.aload X417.here hx rfl (hb hby at_199) rfl rfl  (XS.iconst X417.here hx rfl (hb hby at_201) (XS.iload X417.here hx rfl (hb hby at_202) rfl  k))))) ?_
        show own_Fin p e below _ (T417.setTop (mkF m 204 #[.val (.int p1), .val (.int p2), .val (.int p3), .val (.int p4), .val (.int p5), .val (.int (4 : Int32)), .val (.ref b307), .val (.ref b333), .val (.int (3 : Int32)), .val (.ref b417), .unset] [(.int (4 : Int32)), (.int (0 : Int32)), (.ref b307), (.ref b333)]))
        obtain ⟨_, _, ⟨T425, L425, k425, n425⟩, -, X425, ⟨Lc425, hQ425, l425, y425, z425⟩, st425⟩ := Jvm.LawKit.callS X417 hx (y := (⟨"com/example/keyslice/keyslice/storage/KeyRangeAfterPinLaw", "held", "([B[BII)Z"⟩ : MethodName)) hown (mvT hZ hw_10) (mvT hZ hw_11) (mvT hZ hw_4) (mvT hZ hw_12) (by decide) (backOf (W := 0) (rm3h04 l Z a0 hw [] (b333) (b307) k333 k307 (D0) (D1) (D2) (D3) T417.heap n0 Zh424 f423 f421) hZ hw_12 hw_4 (by decide) (by decide)) (g := (mkF m 204 #[.val (.int p1), .val (.int p2), .val (.int p3), .val (.int p4), .val (.int p5), .val (.int (4 : Int32)), .val (.ref b307), .val (.ref b333), .val (.int (3 : Int32)), .val (.ref b417), .unset] [(.int (4 : Int32)), (.int (0 : Int32)), (.ref b307), (.ref b333)])) rfl (by rw [hml]; rfl) (argsL := [(.ref b333), (.ref b307), (.int (0 : Int32)), (.int (4 : Int32))]) (rest := []) (lenOf pd_4 rfl) rfl (by show 2 * 0 + _ ≤ _; exact Nat.le_of_eq rfl) (hb hby at_204) (fun _ _ => ⟨rfl, rfl, (by decide : 3 + 0 ≤ _), (by decide : 11 + 0 ≤ _)⟩)
        dsimp only [Pt.U, Pt.locs, Pt.cells, Pt.slots] at X425 l425 y425 z425 st425 hQ425
        subst l425 y425 z425
        obtain ⟨rfl, N425q, e425⟩ := hQ425
        have N425 := Fr.app N417 N425q
        refine own_go st425 ?_
        show own_Fin p e below _ (T425.setTop (mkF m 207 #[.val (.int p1), .val (.int p2), .val (.int p3), .val (.int p4), .val (.int p5), .val (.int (4 : Int32)), .val (.ref b307), .val (.ref b333), .val (.int (3 : Int32)), .val (.ref b417), .unset] [(.int (1 : Int32))]))
        refine own_go (fun t k => XS.ifNo X425.here hx rfl (hb hby at_207) rfl ((if0 _ _).trans (feq (by decide : ¬ ((1 : Int32) = (0 : Int32)))).1) (XS.aload X425.here hx rfl (hb hby at_210) rfl rfl  (XS.aload X425.here hx rfl (hb hby at_212) rfl rfl  (XS.iconst X425.here hx rfl (hb hby at_214) (XS.iload X425.here hx rfl (hb hby at_215) rfl  k))))) ?_
        show own_Fin p e below _ (T425.setTop (mkF m 217 #[.val (.int p1), .val (.int p2), .val (.int p3), .val (.int p4), .val (.int p5), .val (.int (4 : Int32)), .val (.ref b307), .val (.ref b333), .val (.int (3 : Int32)), .val (.ref b417), .unset] [(.int (4 : Int32)), (.int (1 : Int32)), (.ref b307), (.ref b333)]))
        obtain ⟨_, _, ⟨T426, L426, k426, n426⟩, -, X426, ⟨Lc426, hQ426, l426, y426, z426⟩, st426⟩ := Jvm.LawKit.callS X425 hx (y := (⟨"com/example/keyslice/keyslice/storage/KeyRangeAfterPinLaw", "held", "([B[BII)Z"⟩ : MethodName)) hown (mvT hZ hw_10) (mvT hZ hw_11) (mvT hZ hw_4) (mvT hZ hw_12) (by decide) (backOf (W := 0) (rm3h14 l Z a0 hw [] (b333) (b307) k333 k307 (D0) (D1) (D2) (D3) T417.heap n0 Zh424 f423 f421) hZ hw_12 hw_4 (by decide) (by decide)) (g := (mkF m 217 #[.val (.int p1), .val (.int p2), .val (.int p3), .val (.int p4), .val (.int p5), .val (.int (4 : Int32)), .val (.ref b307), .val (.ref b333), .val (.int (3 : Int32)), .val (.ref b417), .unset] [(.int (4 : Int32)), (.int (1 : Int32)), (.ref b307), (.ref b333)])) rfl (by rw [hml]; rfl) (argsL := [(.ref b333), (.ref b307), (.int (1 : Int32)), (.int (4 : Int32))]) (rest := []) (lenOf pd_4 rfl) rfl (by show 2 * 0 + _ ≤ _; exact Nat.le_of_eq rfl) (hb hby at_217) (fun _ _ => ⟨rfl, e425, (by decide : 3 + 0 ≤ _), (by decide : 11 + 0 ≤ _)⟩)
        dsimp only [Pt.U, Pt.locs, Pt.cells, Pt.slots] at X426 l426 y426 z426 st426 hQ426
        subst l426 y426 z426
        obtain ⟨rfl, N426q, e426⟩ := hQ426
        have N426 := Fr.app N425 N426q
        refine own_go st426 ?_
        show own_Fin p e below _ (T426.setTop (mkF m 220 #[.val (.int p1), .val (.int p2), .val (.int p3), .val (.int p4), .val (.int p5), .val (.int (4 : Int32)), .val (.ref b307), .val (.ref b333), .val (.int (3 : Int32)), .val (.ref b417), .unset] [(.int (1 : Int32))]))
        refine own_go (fun t k => XS.ifNo X426.here hx rfl (hb hby at_220) rfl ((if0 _ _).trans (feq (by decide : ¬ ((1 : Int32) = (0 : Int32)))).1) (XS.aload X426.here hx rfl (hb hby at_223) rfl rfl  (XS.aload X426.here hx rfl (hb hby at_225) rfl rfl  (XS.iconst X426.here hx rfl (hb hby at_227) (XS.iload X426.here hx rfl (hb hby at_228) rfl  k))))) ?_
        show own_Fin p e below _ (T426.setTop (mkF m 230 #[.val (.int p1), .val (.int p2), .val (.int p3), .val (.int p4), .val (.int p5), .val (.int (4 : Int32)), .val (.ref b307), .val (.ref b333), .val (.int (3 : Int32)), .val (.ref b417), .unset] [(.int (4 : Int32)), (.int (2 : Int32)), (.ref b307), (.ref b333)]))
        obtain ⟨_, _, ⟨T427, L427, k427, n427⟩, -, X427, ⟨Lc427, hQ427, l427, y427, z427⟩, st427⟩ := Jvm.LawKit.callS X426 hx (y := (⟨"com/example/keyslice/keyslice/storage/KeyRangeAfterPinLaw", "held", "([B[BII)Z"⟩ : MethodName)) hown (mvT hZ hw_10) (mvT hZ hw_11) (mvT hZ hw_4) (mvT hZ hw_12) (by decide) (backOf (W := 0) (rm3h24 l Z a0 hw [] (b333) (b307) k333 k307 (D0) (D1) (D2) (D3) T417.heap n0 Zh424 f423 f421) hZ hw_12 hw_4 (by decide) (by decide)) (g := (mkF m 230 #[.val (.int p1), .val (.int p2), .val (.int p3), .val (.int p4), .val (.int p5), .val (.int (4 : Int32)), .val (.ref b307), .val (.ref b333), .val (.int (3 : Int32)), .val (.ref b417), .unset] [(.int (4 : Int32)), (.int (2 : Int32)), (.ref b307), (.ref b333)])) rfl (by rw [hml]; rfl) (argsL := [(.ref b333), (.ref b307), (.int (2 : Int32)), (.int (4 : Int32))]) (rest := []) (lenOf pd_4 rfl) rfl (by show 2 * 0 + _ ≤ _; exact Nat.le_of_eq rfl) (hb hby at_230) (fun _ _ => ⟨rfl, e426, (by decide : 3 + 0 ≤ _), (by decide : 11 + 0 ≤ _)⟩)
        dsimp only [Pt.U, Pt.locs, Pt.cells, Pt.slots] at X427 l427 y427 z427 st427 hQ427
        subst l427 y427 z427
        obtain ⟨rfl, N427q, e427⟩ := hQ427
        have N427 := Fr.app N426 N427q
        refine own_go st427 ?_
        show own_Fin p e below _ (T427.setTop (mkF m 233 #[.val (.int p1), .val (.int p2), .val (.int p3), .val (.int p4), .val (.int p5), .val (.int (4 : Int32)), .val (.ref b307), .val (.ref b333), .val (.int (3 : Int32)), .val (.ref b417), .unset] [(.int (1 : Int32))]))
        refine own_go (fun t k => XS.ifNo X427.here hx rfl (hb hby at_233) rfl ((if0 _ _).trans (feq (by decide : ¬ ((1 : Int32) = (0 : Int32)))).1) (XS.aload X427.here hx rfl (hb hby at_236) rfl rfl  (XS.aload X427.here hx rfl (hb hby at_238) rfl rfl  (XS.iconst X427.here hx rfl (hb hby at_240) (XS.iload X427.here hx rfl (hb hby at_241) rfl  k))))) ?_
        show own_Fin p e below _ (T427.setTop (mkF m 243 #[.val (.int p1), .val (.int p2), .val (.int p3), .val (.int p4), .val (.int p5), .val (.int (4 : Int32)), .val (.ref b307), .val (.ref b333), .val (.int (3 : Int32)), .val (.ref b417), .unset] [(.int (4 : Int32)), (.int (3 : Int32)), (.ref b307), (.ref b333)]))
        obtain ⟨_, _, ⟨T428, L428, k428, n428⟩, -, X428, ⟨Lc428, hQ428, l428, y428, z428⟩, st428⟩ := Jvm.LawKit.callS X427 hx (y := (⟨"com/example/keyslice/keyslice/storage/KeyRangeAfterPinLaw", "held", "([B[BII)Z"⟩ : MethodName)) hown (mvT hZ hw_10) (mvT hZ hw_11) (mvT hZ hw_4) (mvT hZ hw_12) (by decide) (backOf (W := 0) (rm3h34 l Z a0 hw [] (b333) (b307) k333 k307 (D0) (D1) (D2) (D3) T417.heap n0 Zh424 f423 f421) hZ hw_12 hw_4 (by decide) (by decide)) (g := (mkF m 243 #[.val (.int p1), .val (.int p2), .val (.int p3), .val (.int p4), .val (.int p5), .val (.int (4 : Int32)), .val (.ref b307), .val (.ref b333), .val (.int (3 : Int32)), .val (.ref b417), .unset] [(.int (4 : Int32)), (.int (3 : Int32)), (.ref b307), (.ref b333)])) rfl (by rw [hml]; rfl) (argsL := [(.ref b333), (.ref b307), (.int (3 : Int32)), (.int (4 : Int32))]) (rest := []) (lenOf pd_4 rfl) rfl (by show 2 * 0 + _ ≤ _; exact Nat.le_of_eq rfl) (hb hby at_243) (fun _ _ => ⟨rfl, e427, (by decide : 3 + 0 ≤ _), (by decide : 11 + 0 ≤ _)⟩)
        dsimp only [Pt.U, Pt.locs, Pt.cells, Pt.slots] at X428 l428 y428 z428 st428 hQ428
        subst l428 y428 z428
        obtain ⟨rfl, N428q, e428⟩ := hQ428
        have N428 := Fr.app N427 N428q
        refine own_go st428 ?_
        show own_Fin p e below _ (T428.setTop (mkF m 246 #[.val (.int p1), .val (.int p2), .val (.int p3), .val (.int p4), .val (.int p5), .val (.int (4 : Int32)), .val (.ref b307), .val (.ref b333), .val (.int (3 : Int32)), .val (.ref b417), .unset] [(.int (1 : Int32))]))
        refine own_go (fun t k => XS.ifNo X428.here hx rfl (hb hby at_246) rfl ((if0 _ _).trans (feq (by decide : ¬ ((1 : Int32) = (0 : Int32)))).1) (XS.iconst X428.here hx rfl (hb hby at_249) (XS.goto X428.here hx rfl (pc0 := 250) (pc' := 254) rfl (hb hby at_250) (by decide) (by decide) (XS.istore X428.here hx rfl (hb hby at_254) rfl (l' := #[.val (.int p1), .val (.int p2), .val (.int p3), .val (.int p4), .val (.int p5), .val (.int (4 : Int32)), .val (.ref b307), .val (.ref b333), .val (.int (3 : Int32)), .val (.ref b417), .val (.int (1 : Int32))]) rfl (XS.iload X428.here hx rfl (hb hby at_256) rfl  k))))) ?_
        show own_Fin p e below _ (T428.setTop (mkF m 258 #[.val (.int p1), .val (.int p2), .val (.int p3), .val (.int p4), .val (.int p5), .val (.int (4 : Int32)), .val (.ref b307), .val (.ref b333), .val (.int (3 : Int32)), .val (.ref b417), .val (.int (1 : Int32))] [(.int (3 : Int32))]))
        refine own_go (fun t k => XS.ifYes X428.here hx rfl (pc0 := 258) (pc' := 277) rfl (hb hby at_258) rfl ((if0 _ _).trans (feq (by decide : ¬ ((3 : Int32) = (0 : Int32)))).2) (by decide) (by decide) (XS.aload X428.here hx rfl (hb hby at_277) rfl rfl  k)) ?_
        show own_Fin p e below _ (T428.setTop (mkF m 279 #[.val (.int p1), .val (.int p2), .val (.int p3), .val (.int p4), .val (.int p5), .val (.int (4 : Int32)), .val (.ref b307), .val (.ref b333), .val (.int (3 : Int32)), .val (.ref b417), .val (.int (1 : Int32))] [(.ref b417)]))
        refine own_go (fun t k => XS.ifnullNo X428.here hx rfl (hb hby at_279) rfl (XS.aload X428.here hx rfl (hb hby at_282) rfl rfl  (XS.aload X428.here hx rfl (hb hby at_284) rfl rfl  k))) ?_
        show own_Fin p e below _ (T428.setTop (mkF m 286 #[.val (.int p1), .val (.int p2), .val (.int p3), .val (.int p4), .val (.int p5), .val (.int (4 : Int32)), .val (.ref b307), .val (.ref b333), .val (.int (3 : Int32)), .val (.ref b417), .val (.int (1 : Int32))] [(.ref b333), (.ref b417)]))
        refine own_go (fun t k => Jvm.RoadKit.acmp (g := (mkF m 286 #[.val (.int p1), .val (.int p2), .val (.int p3), .val (.int p4), .val (.int p5), .val (.int (4 : Int32)), .val (.ref b307), .val (.ref b333), .val (.int (3 : Int32)), .val (.ref b417), .val (.int (1 : Int32))] [(.ref b333), (.ref b417)])) X428 hx rfl rfl rfl (pc0 := 286) (pc' := 289) (same := false) rfl (hb hby at_286) rfl (decide_eq_false fun q => (Ne.symm ne419) (Value.ref.inj q)) (by decide) (by decide) (XS.aload X428.here hx rfl (hb hby at_289) rfl rfl  k)) ?_
        show own_Fin p e below _ (T428.setTop (mkF m 291 #[.val (.int p1), .val (.int p2), .val (.int p3), .val (.int p4), .val (.int p5), .val (.int (4 : Int32)), .val (.ref b307), .val (.ref b333), .val (.int (3 : Int32)), .val (.ref b417), .val (.int (1 : Int32))] [(.ref b417)]))
        obtain ⟨cl429, Ar429, q429, S429, M429, H429, G429⟩ := (id V417)
        refine own_go (fun t k => X428.arraylength hx (by rw [e428]; exact Ar429.1) (State.isArrayOf_alike hZ.alike Ar429.2.1) (g := (mkF m 291 #[.val (.int p1), .val (.int p2), .val (.int p3), .val (.int p4), .val (.int p5), .val (.int (4 : Int32)), .val (.ref b307), .val (.ref b333), .val (.int (3 : Int32)), .val (.ref b417), .val (.int (1 : Int32))] [(.ref b417)])) rfl rfl (hb hby at_291) _ k) ?_
        rw [len_of S429 M429]
        show own_Fin p e below _ (T428.setTop (mkF m 292 #[.val (.int p1), .val (.int p2), .val (.int p3), .val (.int p4), .val (.int p5), .val (.int (4 : Int32)), .val (.ref b307), .val (.ref b333), .val (.int (3 : Int32)), .val (.ref b417), .val (.int (1 : Int32))] [(.int (3 : Int32))]))
        refine own_go (fun t k => XS.iload X428.here hx rfl (hb hby at_292) rfl  k) ?_
        show own_Fin p e below _ (T428.setTop (mkF m 294 #[.val (.int p1), .val (.int p2), .val (.int p3), .val (.int p4), .val (.int p5), .val (.int (4 : Int32)), .val (.ref b307), .val (.ref b333), .val (.int (3 : Int32)), .val (.ref b417), .val (.int (1 : Int32))] [(.int (3 : Int32)), (.int (3 : Int32))]))
        refine own_go (fun t k => XS.icmpYes X428.here hx rfl (pc0 := 294) (pc' := 299) rfl (hb hby at_294) rfl (teq (by decide : (3 : Int32) = (3 : Int32))).1 (by decide) (by decide) (XS.iload X428.here hx rfl (hb hby at_299) rfl  k)) ?_
        show own_Fin p e below _ (T428.setTop (mkF m 301 #[.val (.int p1), .val (.int p2), .val (.int p3), .val (.int p4), .val (.int p5), .val (.int (4 : Int32)), .val (.ref b307), .val (.ref b333), .val (.int (3 : Int32)), .val (.ref b417), .val (.int (1 : Int32))] [(.int (1 : Int32))]))
        refine own_go (fun t k => XS.ifNo X428.here hx rfl (hb hby at_301) rfl ((if0 _ _).trans (feq (by decide : ¬ ((1 : Int32) = (0 : Int32)))).1) (XS.aload X428.here hx rfl (hb hby at_304) rfl rfl  (XS.aload X428.here hx rfl (hb hby at_306) rfl rfl  (XS.iconst X428.here hx rfl (hb hby at_308) (XS.iload X428.here hx rfl (hb hby at_309) rfl  k))))) ?_
        show own_Fin p e below _ (T428.setTop (mkF m 311 #[.val (.int p1), .val (.int p2), .val (.int p3), .val (.int p4), .val (.int p5), .val (.int (4 : Int32)), .val (.ref b307), .val (.ref b333), .val (.int (3 : Int32)), .val (.ref b417), .val (.int (1 : Int32))] [(.int (3 : Int32)), (.int (0 : Int32)), (.ref b307), (.ref b417)]))
        obtain ⟨_, _, ⟨T430, L430, k430, n430⟩, -, X430, ⟨Lc430, hQ430, l430, y430, z430⟩, st430⟩ := Jvm.LawKit.callS X428 hx (y := (⟨"com/example/keyslice/keyslice/storage/KeyRangeAfterPinLaw", "slot", "([B[BII)Z"⟩ : MethodName)) hown (mvT hZ hw_26) (mvT hZ hw_27) (mvT hZ hw_4) (mvT hZ hw_28) (by decide) (backOf (W := 0) (rm5s03 l Z a0 hw [] (b417) (b307) k417 k307 (D0) (D1) (D2) (D3) T417.heap n0 Zh424 V417 f421) hZ hw_28 hw_4 (by decide) (by decide)) (g := (mkF m 311 #[.val (.int p1), .val (.int p2), .val (.int p3), .val (.int p4), .val (.int p5), .val (.int (4 : Int32)), .val (.ref b307), .val (.ref b333), .val (.int (3 : Int32)), .val (.ref b417), .val (.int (1 : Int32))] [(.int (3 : Int32)), (.int (0 : Int32)), (.ref b307), (.ref b417)])) rfl (by rw [hml]; rfl) (argsL := [(.ref b417), (.ref b307), (.int (0 : Int32)), (.int (3 : Int32))]) (rest := []) (lenOf pd_4 rfl) rfl (by show 2 * 0 + _ ≤ _; exact Nat.le_of_eq rfl) (hb hby at_311) (fun _ _ => ⟨rfl, e428, (by decide : 3 + 0 ≤ _), (by decide : 11 + 0 ≤ _)⟩)
        dsimp only [Pt.U, Pt.locs, Pt.cells, Pt.slots] at X430 l430 y430 z430 st430 hQ430
        subst l430 y430 z430
        obtain ⟨rfl, N430q, e430⟩ := hQ430
        have N430 := Fr.app N428 N430q
        refine own_go st430 ?_
        show own_Fin p e below _ (T430.setTop (mkF m 314 #[.val (.int p1), .val (.int p2), .val (.int p3), .val (.int p4), .val (.int p5), .val (.int (4 : Int32)), .val (.ref b307), .val (.ref b333), .val (.int (3 : Int32)), .val (.ref b417), .val (.int (1 : Int32))] [(.int (1 : Int32))]))
        refine own_go (fun t k => XS.ifNo X430.here hx rfl (hb hby at_314) rfl ((if0 _ _).trans (feq (by decide : ¬ ((1 : Int32) = (0 : Int32)))).1) (XS.aload X430.here hx rfl (hb hby at_317) rfl rfl  (XS.aload X430.here hx rfl (hb hby at_319) rfl rfl  (XS.iconst X430.here hx rfl (hb hby at_321) (XS.iload X430.here hx rfl (hb hby at_322) rfl  k))))) ?_
        show own_Fin p e below _ (T430.setTop (mkF m 324 #[.val (.int p1), .val (.int p2), .val (.int p3), .val (.int p4), .val (.int p5), .val (.int (4 : Int32)), .val (.ref b307), .val (.ref b333), .val (.int (3 : Int32)), .val (.ref b417), .val (.int (1 : Int32))] [(.int (3 : Int32)), (.int (1 : Int32)), (.ref b307), (.ref b417)]))
        obtain ⟨_, _, ⟨T431, L431, k431, n431⟩, -, X431, ⟨Lc431, hQ431, l431, y431, z431⟩, st431⟩ := Jvm.LawKit.callS X430 hx (y := (⟨"com/example/keyslice/keyslice/storage/KeyRangeAfterPinLaw", "slot", "([B[BII)Z"⟩ : MethodName)) hown (mvT hZ hw_26) (mvT hZ hw_27) (mvT hZ hw_4) (mvT hZ hw_28) (by decide) (backOf (W := 0) (rm5s13 l Z a0 hw [] (b417) (b307) k417 k307 (D0) (D1) (D2) (D3) T417.heap n0 Zh424 V417 f421) hZ hw_28 hw_4 (by decide) (by decide)) (g := (mkF m 324 #[.val (.int p1), .val (.int p2), .val (.int p3), .val (.int p4), .val (.int p5), .val (.int (4 : Int32)), .val (.ref b307), .val (.ref b333), .val (.int (3 : Int32)), .val (.ref b417), .val (.int (1 : Int32))] [(.int (3 : Int32)), (.int (1 : Int32)), (.ref b307), (.ref b417)])) rfl (by rw [hml]; rfl) (argsL := [(.ref b417), (.ref b307), (.int (1 : Int32)), (.int (3 : Int32))]) (rest := []) (lenOf pd_4 rfl) rfl (by show 2 * 0 + _ ≤ _; exact Nat.le_of_eq rfl) (hb hby at_324) (fun _ _ => ⟨rfl, e430, (by decide : 3 + 0 ≤ _), (by decide : 11 + 0 ≤ _)⟩)
        dsimp only [Pt.U, Pt.locs, Pt.cells, Pt.slots] at X431 l431 y431 z431 st431 hQ431
        subst l431 y431 z431
        obtain ⟨rfl, N431q, e431⟩ := hQ431
        have N431 := Fr.app N430 N431q
        refine own_go st431 ?_
        show own_Fin p e below _ (T431.setTop (mkF m 327 #[.val (.int p1), .val (.int p2), .val (.int p3), .val (.int p4), .val (.int p5), .val (.int (4 : Int32)), .val (.ref b307), .val (.ref b333), .val (.int (3 : Int32)), .val (.ref b417), .val (.int (1 : Int32))] [(.int (1 : Int32))]))
        refine own_go (fun t k => XS.ifNo X431.here hx rfl (hb hby at_327) rfl ((if0 _ _).trans (feq (by decide : ¬ ((1 : Int32) = (0 : Int32)))).1) (XS.aload X431.here hx rfl (hb hby at_330) rfl rfl  (XS.aload X431.here hx rfl (hb hby at_332) rfl rfl  (XS.iconst X431.here hx rfl (hb hby at_334) (XS.iload X431.here hx rfl (hb hby at_335) rfl  k))))) ?_
        show own_Fin p e below _ (T431.setTop (mkF m 337 #[.val (.int p1), .val (.int p2), .val (.int p3), .val (.int p4), .val (.int p5), .val (.int (4 : Int32)), .val (.ref b307), .val (.ref b333), .val (.int (3 : Int32)), .val (.ref b417), .val (.int (1 : Int32))] [(.int (3 : Int32)), (.int (2 : Int32)), (.ref b307), (.ref b417)]))
        obtain ⟨_, _, ⟨T432, L432, k432, n432⟩, -, X432, ⟨Lc432, hQ432, l432, y432, z432⟩, st432⟩ := Jvm.LawKit.callS X431 hx (y := (⟨"com/example/keyslice/keyslice/storage/KeyRangeAfterPinLaw", "slot", "([B[BII)Z"⟩ : MethodName)) hown (mvT hZ hw_26) (mvT hZ hw_27) (mvT hZ hw_4) (mvT hZ hw_28) (by decide) (backOf (W := 0) (rm5s23 l Z a0 hw [] (b417) (b307) k417 k307 (D0) (D1) (D2) (D3) T417.heap n0 Zh424 V417 f421) hZ hw_28 hw_4 (by decide) (by decide)) (g := (mkF m 337 #[.val (.int p1), .val (.int p2), .val (.int p3), .val (.int p4), .val (.int p5), .val (.int (4 : Int32)), .val (.ref b307), .val (.ref b333), .val (.int (3 : Int32)), .val (.ref b417), .val (.int (1 : Int32))] [(.int (3 : Int32)), (.int (2 : Int32)), (.ref b307), (.ref b417)])) rfl (by rw [hml]; rfl) (argsL := [(.ref b417), (.ref b307), (.int (2 : Int32)), (.int (3 : Int32))]) (rest := []) (lenOf pd_4 rfl) rfl (by show 2 * 0 + _ ≤ _; exact Nat.le_of_eq rfl) (hb hby at_337) (fun _ _ => ⟨rfl, e431, (by decide : 3 + 0 ≤ _), (by decide : 11 + 0 ≤ _)⟩)
        dsimp only [Pt.U, Pt.locs, Pt.cells, Pt.slots] at X432 l432 y432 z432 st432 hQ432
        subst l432 y432 z432
        obtain ⟨rfl, N432q, e432⟩ := hQ432
        have N432 := Fr.app N431 N432q
        refine own_go st432 ?_
        show own_Fin p e below _ (T432.setTop (mkF m 340 #[.val (.int p1), .val (.int p2), .val (.int p3), .val (.int p4), .val (.int p5), .val (.int (4 : Int32)), .val (.ref b307), .val (.ref b333), .val (.int (3 : Int32)), .val (.ref b417), .val (.int (1 : Int32))] [(.int (1 : Int32))]))
        refine own_go (fun t k => XS.ifNo X432.here hx rfl (hb hby at_340) rfl ((if0 _ _).trans (feq (by decide : ¬ ((1 : Int32) = (0 : Int32)))).1) (XS.aload X432.here hx rfl (hb hby at_343) rfl rfl  (XS.aload X432.here hx rfl (hb hby at_345) rfl rfl  (XS.iconst X432.here hx rfl (hb hby at_347) (XS.iload X432.here hx rfl (hb hby at_348) rfl  k))))) ?_
        show own_Fin p e below _ (T432.setTop (mkF m 350 #[.val (.int p1), .val (.int p2), .val (.int p3), .val (.int p4), .val (.int p5), .val (.int (4 : Int32)), .val (.ref b307), .val (.ref b333), .val (.int (3 : Int32)), .val (.ref b417), .val (.int (1 : Int32))] [(.int (3 : Int32)), (.int (3 : Int32)), (.ref b307), (.ref b417)]))
        obtain ⟨_, _, ⟨T433, L433, k433, n433⟩, -, X433, ⟨Lc433, hQ433, l433, y433, z433⟩, st433⟩ := Jvm.LawKit.callS X432 hx (y := (⟨"com/example/keyslice/keyslice/storage/KeyRangeAfterPinLaw", "slot", "([B[BII)Z"⟩ : MethodName)) hown (mvT hZ hw_26) (mvT hZ hw_27) (mvT hZ hw_4) (mvT hZ hw_28) (by decide) (backOf (W := 0) (rm5s33 l Z a0 hw [] (b417) (b307) k417 k307 (D0) (D1) (D2) (D3) T417.heap n0 Zh424 V417 f421) hZ hw_28 hw_4 (by decide) (by decide)) (g := (mkF m 350 #[.val (.int p1), .val (.int p2), .val (.int p3), .val (.int p4), .val (.int p5), .val (.int (4 : Int32)), .val (.ref b307), .val (.ref b333), .val (.int (3 : Int32)), .val (.ref b417), .val (.int (1 : Int32))] [(.int (3 : Int32)), (.int (3 : Int32)), (.ref b307), (.ref b417)])) rfl (by rw [hml]; rfl) (argsL := [(.ref b417), (.ref b307), (.int (3 : Int32)), (.int (3 : Int32))]) (rest := []) (lenOf pd_4 rfl) rfl (by show 2 * 0 + _ ≤ _; exact Nat.le_of_eq rfl) (hb hby at_350) (fun _ _ => ⟨rfl, e432, (by decide : 3 + 0 ≤ _), (by decide : 11 + 0 ≤ _)⟩)
        dsimp only [Pt.U, Pt.locs, Pt.cells, Pt.slots] at X433 l433 y433 z433 st433 hQ433
        subst l433 y433 z433
        obtain ⟨rfl, N433q, e433⟩ := hQ433
        have N433 := Fr.app N432 N433q
        refine own_go st433 ?_
        show own_Fin p e below _ (T433.setTop (mkF m 353 #[.val (.int p1), .val (.int p2), .val (.int p3), .val (.int p4), .val (.int p5), .val (.int (4 : Int32)), .val (.ref b307), .val (.ref b333), .val (.int (3 : Int32)), .val (.ref b417), .val (.int (1 : Int32))] [(.int (1 : Int32))]))
        refine own_go (fun t k => XS.ifNo X433.here hx rfl (hb hby at_353) rfl ((if0 _ _).trans (feq (by decide : ¬ ((1 : Int32) = (0 : Int32)))).1) (XS.iconst X433.here hx rfl (hb hby at_356) (XS.goto X433.here hx rfl (pc0 := 357) (pc' := 361) rfl (hb hby at_357) (by decide) (by decide) k))) ?_
        show own_Fin p e below _ (T433.setTop (mkF m 361 #[.val (.int p1), .val (.int p2), .val (.int p3), .val (.int p4), .val (.int p5), .val (.int (4 : Int32)), .val (.ref b307), .val (.ref b333), .val (.int (3 : Int32)), .val (.ref b417), .val (.int (1 : Int32))] [(.int (1 : Int32))]))
        exact own_out X433 (fun h => by rw [Bd.returns] at h; cases h) Bd.notSynchronized (fun fs hr => retN X433 hx (t := .boolean) Bd.returns (by simp) (hb hby at_361) hr) ⟨rfl, N433⟩ (by decide) (by decide)
    · skip
      refine own_go (fun t k => XS.icmpNo X363.here hx rfl (hb hby at_118) rfl (feq hc371).1 (XS.iconst X363.here hx rfl (hb hby at_121) (XS.istore X363.here hx rfl (hb hby at_122) rfl (l' := #[.val (.int p1), .val (.int p2), .val (.int p3), .val (.int p4), .val (.int p5), .val (.int (4 : Int32)), .val (.ref b307), .val (.ref b333), .val (.int (4 : Int32)), .unset, .unset]) rfl (XS.goto X363.here hx rfl (pc0 := 124) (pc' := 190) rfl (hb hby at_124) (by decide) (by decide) (XS.aload X363.here hx rfl (hb hby at_190) rfl rfl  k))))) ?_
      show own_Fin p e below _ (T363.setTop (mkF m 192 #[.val (.int p1), .val (.int p2), .val (.int p3), .val (.int p4), .val (.int p5), .val (.int (4 : Int32)), .val (.ref b307), .val (.ref b333), .val (.int (4 : Int32)), .unset, .unset] [(.ref b333)]))
      obtain ⟨_, _, ⟨T434, L434, k434, n434⟩, -, X434, ⟨Lc434, hQ434, l434, y434, z434⟩, st434⟩ := Jvm.LawKit.callS X363 hx (y := (⟨"com/example/keyslice/keyslice/storage/KeyRange", "after", "([B)[B"⟩ : MethodName)) hown (mvT hZ hw_6) (mvT hZ hw_7) (mvT hZ hw_8) (mvT hZ hw_9) (by decide) (backOf (W := 0) (rm2r44 l Z a0 hw [] (b333) k333 (D0) (D1) (D2) (D3) h363 n0 Zh369 f368 f366 hc371) hZ hw_9 hw_8 (by decide) (by decide)) (g := (mkF m 192 #[.val (.int p1), .val (.int p2), .val (.int p3), .val (.int p4), .val (.int p5), .val (.int (4 : Int32)), .val (.ref b307), .val (.ref b333), .val (.int (4 : Int32)), .unset, .unset] [(.ref b333)])) rfl (by rw [hml]; rfl) (argsL := [(.ref b333)]) (rest := []) (lenOf pd_3 rfl) rfl (by show 2 * 0 + _ ≤ _; exact Nat.le_of_eq rfl) (hb hby at_192) (fun _ _ => ⟨rfl, e363, (by decide : 2 + 1 ≤ _), (by decide : 8 + 4 ≤ _)⟩)
      dsimp only [Pt.U, Pt.locs, Pt.cells, Pt.slots] at X434 l434 y434 z434 st434 hQ434
      subst l434 y434 z434
      obtain ⟨b434, k434, rfl, N434q, sz434, K434, V434⟩ := hQ434
      have N434 := Fr.app N363 N434q
      have g_b434 : n0 ≤ b434 := Nat.le_trans Zh369 sz434
      have ne435 : b307 ≠ b434 := Nat.ne_of_lt (Nat.lt_of_lt_of_le f364.lt sz434)
      have ne436 : b333 ≠ b434 := Nat.ne_of_lt (Nat.lt_of_lt_of_le f366.lt sz434)
      have E434 : Ext _ _ := ⟨K434.1, fun a c q => K434.2.1 a c q nin0⟩
      have f437 := f364.ext E434
      have f438 := f365.ext E434
      have f439 := f366.ext E434
      have f440 := f368.ext E434
      have Zh441 : n0 ≤ T434.heap.size := Nat.le_trans Zh369 K434.1
      refine own_go st434 ?_
      show own_Fin p e below _ (T434.setTop (mkF m 195 #[.val (.int p1), .val (.int p2), .val (.int p3), .val (.int p4), .val (.int p5), .val (.int (4 : Int32)), .val (.ref b307), .val (.ref b333), .val (.int (4 : Int32)), .unset, .unset] [(.ref b434)]))
      refine own_go (fun t k => XS.astore X434.here hx rfl (hb hby at_195) rfl rfl (l' := #[.val (.int p1), .val (.int p2), .val (.int p3), .val (.int p4), .val (.int p5), .val (.int (4 : Int32)), .val (.ref b307), .val (.ref b333), .val (.int (4 : Int32)), .val (.ref b434), .unset]) rfl (XS.aload X434.here hx rfl (hb hby at_197) rfl rfl  (XS.aload X434.here hx rfl (hb hby at_199) rfl rfl  (XS.iconst X434.here hx rfl (hb hby at_201) (XS.iload X434.here hx rfl (hb hby at_202) rfl  k))))) ?_
      show own_Fin p e below _ (T434.setTop (mkF m 204 #[.val (.int p1), .val (.int p2), .val (.int p3), .val (.int p4), .val (.int p5), .val (.int (4 : Int32)), .val (.ref b307), .val (.ref b333), .val (.int (4 : Int32)), .val (.ref b434), .unset] [(.int (4 : Int32)), (.int (0 : Int32)), (.ref b307), (.ref b333)]))
      obtain ⟨_, _, ⟨T442, L442, k442, n442⟩, -, X442, ⟨Lc442, hQ442, l442, y442, z442⟩, st442⟩ := Jvm.LawKit.callS X434 hx (y := (⟨"com/example/keyslice/keyslice/storage/KeyRangeAfterPinLaw", "held", "([B[BII)Z"⟩ : MethodName)) hown (mvT hZ hw_10) (mvT hZ hw_11) (mvT hZ hw_4) (mvT hZ hw_12) (by decide) (backOf (W := 0) (rm3h04 l Z a0 hw [] (b333) (b307) k333 k307 (D0) (D1) (D2) (D3) T434.heap n0 Zh441 f440 f438) hZ hw_12 hw_4 (by decide) (by decide)) (g := (mkF m 204 #[.val (.int p1), .val (.int p2), .val (.int p3), .val (.int p4), .val (.int p5), .val (.int (4 : Int32)), .val (.ref b307), .val (.ref b333), .val (.int (4 : Int32)), .val (.ref b434), .unset] [(.int (4 : Int32)), (.int (0 : Int32)), (.ref b307), (.ref b333)])) rfl (by rw [hml]; rfl) (argsL := [(.ref b333), (.ref b307), (.int (0 : Int32)), (.int (4 : Int32))]) (rest := []) (lenOf pd_4 rfl) rfl (by show 2 * 0 + _ ≤ _; exact Nat.le_of_eq rfl) (hb hby at_204) (fun _ _ => ⟨rfl, rfl, (by decide : 3 + 0 ≤ _), (by decide : 12 + 0 ≤ _)⟩)
      dsimp only [Pt.U, Pt.locs, Pt.cells, Pt.slots] at X442 l442 y442 z442 st442 hQ442
      subst l442 y442 z442
      obtain ⟨rfl, N442q, e442⟩ := hQ442
      have N442 := Fr.app N434 N442q
      refine own_go st442 ?_
      show own_Fin p e below _ (T442.setTop (mkF m 207 #[.val (.int p1), .val (.int p2), .val (.int p3), .val (.int p4), .val (.int p5), .val (.int (4 : Int32)), .val (.ref b307), .val (.ref b333), .val (.int (4 : Int32)), .val (.ref b434), .unset] [(.int (1 : Int32))]))
      refine own_go (fun t k => XS.ifNo X442.here hx rfl (hb hby at_207) rfl ((if0 _ _).trans (feq (by decide : ¬ ((1 : Int32) = (0 : Int32)))).1) (XS.aload X442.here hx rfl (hb hby at_210) rfl rfl  (XS.aload X442.here hx rfl (hb hby at_212) rfl rfl  (XS.iconst X442.here hx rfl (hb hby at_214) (XS.iload X442.here hx rfl (hb hby at_215) rfl  k))))) ?_
      show own_Fin p e below _ (T442.setTop (mkF m 217 #[.val (.int p1), .val (.int p2), .val (.int p3), .val (.int p4), .val (.int p5), .val (.int (4 : Int32)), .val (.ref b307), .val (.ref b333), .val (.int (4 : Int32)), .val (.ref b434), .unset] [(.int (4 : Int32)), (.int (1 : Int32)), (.ref b307), (.ref b333)]))
      obtain ⟨_, _, ⟨T443, L443, k443, n443⟩, -, X443, ⟨Lc443, hQ443, l443, y443, z443⟩, st443⟩ := Jvm.LawKit.callS X442 hx (y := (⟨"com/example/keyslice/keyslice/storage/KeyRangeAfterPinLaw", "held", "([B[BII)Z"⟩ : MethodName)) hown (mvT hZ hw_10) (mvT hZ hw_11) (mvT hZ hw_4) (mvT hZ hw_12) (by decide) (backOf (W := 0) (rm3h14 l Z a0 hw [] (b333) (b307) k333 k307 (D0) (D1) (D2) (D3) T434.heap n0 Zh441 f440 f438) hZ hw_12 hw_4 (by decide) (by decide)) (g := (mkF m 217 #[.val (.int p1), .val (.int p2), .val (.int p3), .val (.int p4), .val (.int p5), .val (.int (4 : Int32)), .val (.ref b307), .val (.ref b333), .val (.int (4 : Int32)), .val (.ref b434), .unset] [(.int (4 : Int32)), (.int (1 : Int32)), (.ref b307), (.ref b333)])) rfl (by rw [hml]; rfl) (argsL := [(.ref b333), (.ref b307), (.int (1 : Int32)), (.int (4 : Int32))]) (rest := []) (lenOf pd_4 rfl) rfl (by show 2 * 0 + _ ≤ _; exact Nat.le_of_eq rfl) (hb hby at_217) (fun _ _ => ⟨rfl, e442, (by decide : 3 + 0 ≤ _), (by decide : 12 + 0 ≤ _)⟩)
      dsimp only [Pt.U, Pt.locs, Pt.cells, Pt.slots] at X443 l443 y443 z443 st443 hQ443
      subst l443 y443 z443
      obtain ⟨rfl, N443q, e443⟩ := hQ443
      have N443 := Fr.app N442 N443q
      refine own_go st443 ?_
      show own_Fin p e below _ (T443.setTop (mkF m 220 #[.val (.int p1), .val (.int p2), .val (.int p3), .val (.int p4), .val (.int p5), .val (.int (4 : Int32)), .val (.ref b307), .val (.ref b333), .val (.int (4 : Int32)), .val (.ref b434), .unset] [(.int (1 : Int32))]))
      refine own_go (fun t k => XS.ifNo X443.here hx rfl (hb hby at_220) rfl ((if0 _ _).trans (feq (by decide : ¬ ((1 : Int32) = (0 : Int32)))).1) (XS.aload X443.here hx rfl (hb hby at_223) rfl rfl  (XS.aload X443.here hx rfl (hb hby at_225) rfl rfl  (XS.iconst X443.here hx rfl (hb hby at_227) (XS.iload X443.here hx rfl (hb hby at_228) rfl  k))))) ?_
      show own_Fin p e below _ (T443.setTop (mkF m 230 #[.val (.int p1), .val (.int p2), .val (.int p3), .val (.int p4), .val (.int p5), .val (.int (4 : Int32)), .val (.ref b307), .val (.ref b333), .val (.int (4 : Int32)), .val (.ref b434), .unset] [(.int (4 : Int32)), (.int (2 : Int32)), (.ref b307), (.ref b333)]))
      obtain ⟨_, _, ⟨T444, L444, k444, n444⟩, -, X444, ⟨Lc444, hQ444, l444, y444, z444⟩, st444⟩ := Jvm.LawKit.callS X443 hx (y := (⟨"com/example/keyslice/keyslice/storage/KeyRangeAfterPinLaw", "held", "([B[BII)Z"⟩ : MethodName)) hown (mvT hZ hw_10) (mvT hZ hw_11) (mvT hZ hw_4) (mvT hZ hw_12) (by decide) (backOf (W := 0) (rm3h24 l Z a0 hw [] (b333) (b307) k333 k307 (D0) (D1) (D2) (D3) T434.heap n0 Zh441 f440 f438) hZ hw_12 hw_4 (by decide) (by decide)) (g := (mkF m 230 #[.val (.int p1), .val (.int p2), .val (.int p3), .val (.int p4), .val (.int p5), .val (.int (4 : Int32)), .val (.ref b307), .val (.ref b333), .val (.int (4 : Int32)), .val (.ref b434), .unset] [(.int (4 : Int32)), (.int (2 : Int32)), (.ref b307), (.ref b333)])) rfl (by rw [hml]; rfl) (argsL := [(.ref b333), (.ref b307), (.int (2 : Int32)), (.int (4 : Int32))]) (rest := []) (lenOf pd_4 rfl) rfl (by show 2 * 0 + _ ≤ _; exact Nat.le_of_eq rfl) (hb hby at_230) (fun _ _ => ⟨rfl, e443, (by decide : 3 + 0 ≤ _), (by decide : 12 + 0 ≤ _)⟩)
      dsimp only [Pt.U, Pt.locs, Pt.cells, Pt.slots] at X444 l444 y444 z444 st444 hQ444
      subst l444 y444 z444
      obtain ⟨rfl, N444q, e444⟩ := hQ444
      have N444 := Fr.app N443 N444q
      refine own_go st444 ?_
      show own_Fin p e below _ (T444.setTop (mkF m 233 #[.val (.int p1), .val (.int p2), .val (.int p3), .val (.int p4), .val (.int p5), .val (.int (4 : Int32)), .val (.ref b307), .val (.ref b333), .val (.int (4 : Int32)), .val (.ref b434), .unset] [(.int (1 : Int32))]))
      refine own_go (fun t k => XS.ifNo X444.here hx rfl (hb hby at_233) rfl ((if0 _ _).trans (feq (by decide : ¬ ((1 : Int32) = (0 : Int32)))).1) (XS.aload X444.here hx rfl (hb hby at_236) rfl rfl  (XS.aload X444.here hx rfl (hb hby at_238) rfl rfl  (XS.iconst X444.here hx rfl (hb hby at_240) (XS.iload X444.here hx rfl (hb hby at_241) rfl  k))))) ?_
      show own_Fin p e below _ (T444.setTop (mkF m 243 #[.val (.int p1), .val (.int p2), .val (.int p3), .val (.int p4), .val (.int p5), .val (.int (4 : Int32)), .val (.ref b307), .val (.ref b333), .val (.int (4 : Int32)), .val (.ref b434), .unset] [(.int (4 : Int32)), (.int (3 : Int32)), (.ref b307), (.ref b333)]))
      obtain ⟨_, _, ⟨T445, L445, k445, n445⟩, -, X445, ⟨Lc445, hQ445, l445, y445, z445⟩, st445⟩ := Jvm.LawKit.callS X444 hx (y := (⟨"com/example/keyslice/keyslice/storage/KeyRangeAfterPinLaw", "held", "([B[BII)Z"⟩ : MethodName)) hown (mvT hZ hw_10) (mvT hZ hw_11) (mvT hZ hw_4) (mvT hZ hw_12) (by decide) (backOf (W := 0) (rm3h34 l Z a0 hw [] (b333) (b307) k333 k307 (D0) (D1) (D2) (D3) T434.heap n0 Zh441 f440 f438) hZ hw_12 hw_4 (by decide) (by decide)) (g := (mkF m 243 #[.val (.int p1), .val (.int p2), .val (.int p3), .val (.int p4), .val (.int p5), .val (.int (4 : Int32)), .val (.ref b307), .val (.ref b333), .val (.int (4 : Int32)), .val (.ref b434), .unset] [(.int (4 : Int32)), (.int (3 : Int32)), (.ref b307), (.ref b333)])) rfl (by rw [hml]; rfl) (argsL := [(.ref b333), (.ref b307), (.int (3 : Int32)), (.int (4 : Int32))]) (rest := []) (lenOf pd_4 rfl) rfl (by show 2 * 0 + _ ≤ _; exact Nat.le_of_eq rfl) (hb hby at_243) (fun _ _ => ⟨rfl, e444, (by decide : 3 + 0 ≤ _), (by decide : 12 + 0 ≤ _)⟩)
      dsimp only [Pt.U, Pt.locs, Pt.cells, Pt.slots] at X445 l445 y445 z445 st445 hQ445
      subst l445 y445 z445
      obtain ⟨rfl, N445q, e445⟩ := hQ445
      have N445 := Fr.app N444 N445q
      refine own_go st445 ?_
      show own_Fin p e below _ (T445.setTop (mkF m 246 #[.val (.int p1), .val (.int p2), .val (.int p3), .val (.int p4), .val (.int p5), .val (.int (4 : Int32)), .val (.ref b307), .val (.ref b333), .val (.int (4 : Int32)), .val (.ref b434), .unset] [(.int (1 : Int32))]))
      refine own_go (fun t k => XS.ifNo X445.here hx rfl (hb hby at_246) rfl ((if0 _ _).trans (feq (by decide : ¬ ((1 : Int32) = (0 : Int32)))).1) (XS.iconst X445.here hx rfl (hb hby at_249) (XS.goto X445.here hx rfl (pc0 := 250) (pc' := 254) rfl (hb hby at_250) (by decide) (by decide) (XS.istore X445.here hx rfl (hb hby at_254) rfl (l' := #[.val (.int p1), .val (.int p2), .val (.int p3), .val (.int p4), .val (.int p5), .val (.int (4 : Int32)), .val (.ref b307), .val (.ref b333), .val (.int (4 : Int32)), .val (.ref b434), .val (.int (1 : Int32))]) rfl (XS.iload X445.here hx rfl (hb hby at_256) rfl  k))))) ?_
      show own_Fin p e below _ (T445.setTop (mkF m 258 #[.val (.int p1), .val (.int p2), .val (.int p3), .val (.int p4), .val (.int p5), .val (.int (4 : Int32)), .val (.ref b307), .val (.ref b333), .val (.int (4 : Int32)), .val (.ref b434), .val (.int (1 : Int32))] [(.int (4 : Int32))]))
      refine own_go (fun t k => XS.ifYes X445.here hx rfl (pc0 := 258) (pc' := 277) rfl (hb hby at_258) rfl ((if0 _ _).trans (feq (by decide : ¬ ((4 : Int32) = (0 : Int32)))).2) (by decide) (by decide) (XS.aload X445.here hx rfl (hb hby at_277) rfl rfl  k)) ?_
      show own_Fin p e below _ (T445.setTop (mkF m 279 #[.val (.int p1), .val (.int p2), .val (.int p3), .val (.int p4), .val (.int p5), .val (.int (4 : Int32)), .val (.ref b307), .val (.ref b333), .val (.int (4 : Int32)), .val (.ref b434), .val (.int (1 : Int32))] [(.ref b434)]))
      refine own_go (fun t k => XS.ifnullNo X445.here hx rfl (hb hby at_279) rfl (XS.aload X445.here hx rfl (hb hby at_282) rfl rfl  (XS.aload X445.here hx rfl (hb hby at_284) rfl rfl  k))) ?_
      show own_Fin p e below _ (T445.setTop (mkF m 286 #[.val (.int p1), .val (.int p2), .val (.int p3), .val (.int p4), .val (.int p5), .val (.int (4 : Int32)), .val (.ref b307), .val (.ref b333), .val (.int (4 : Int32)), .val (.ref b434), .val (.int (1 : Int32))] [(.ref b333), (.ref b434)]))
      refine own_go (fun t k => Jvm.RoadKit.acmp (g := (mkF m 286 #[.val (.int p1), .val (.int p2), .val (.int p3), .val (.int p4), .val (.int p5), .val (.int (4 : Int32)), .val (.ref b307), .val (.ref b333), .val (.int (4 : Int32)), .val (.ref b434), .val (.int (1 : Int32))] [(.ref b333), (.ref b434)])) X445 hx rfl rfl rfl (pc0 := 286) (pc' := 289) (same := false) rfl (hb hby at_286) rfl (decide_eq_false fun q => (Ne.symm ne436) (Value.ref.inj q)) (by decide) (by decide) (XS.aload X445.here hx rfl (hb hby at_289) rfl rfl  k)) ?_
      show own_Fin p e below _ (T445.setTop (mkF m 291 #[.val (.int p1), .val (.int p2), .val (.int p3), .val (.int p4), .val (.int p5), .val (.int (4 : Int32)), .val (.ref b307), .val (.ref b333), .val (.int (4 : Int32)), .val (.ref b434), .val (.int (1 : Int32))] [(.ref b434)]))
      obtain ⟨cl446, Ar446, q446, S446, M446, H446, G446⟩ := (id V434)
      refine own_go (fun t k => X445.arraylength hx (by rw [e445]; exact Ar446.1) (State.isArrayOf_alike hZ.alike Ar446.2.1) (g := (mkF m 291 #[.val (.int p1), .val (.int p2), .val (.int p3), .val (.int p4), .val (.int p5), .val (.int (4 : Int32)), .val (.ref b307), .val (.ref b333), .val (.int (4 : Int32)), .val (.ref b434), .val (.int (1 : Int32))] [(.ref b434)])) rfl rfl (hb hby at_291) _ k) ?_
      rw [len_of S446 M446]
      show own_Fin p e below _ (T445.setTop (mkF m 292 #[.val (.int p1), .val (.int p2), .val (.int p3), .val (.int p4), .val (.int p5), .val (.int (4 : Int32)), .val (.ref b307), .val (.ref b333), .val (.int (4 : Int32)), .val (.ref b434), .val (.int (1 : Int32))] [(.int (4 : Int32))]))
      refine own_go (fun t k => XS.iload X445.here hx rfl (hb hby at_292) rfl  k) ?_
      show own_Fin p e below _ (T445.setTop (mkF m 294 #[.val (.int p1), .val (.int p2), .val (.int p3), .val (.int p4), .val (.int p5), .val (.int (4 : Int32)), .val (.ref b307), .val (.ref b333), .val (.int (4 : Int32)), .val (.ref b434), .val (.int (1 : Int32))] [(.int (4 : Int32)), (.int (4 : Int32))]))
      refine own_go (fun t k => XS.icmpYes X445.here hx rfl (pc0 := 294) (pc' := 299) rfl (hb hby at_294) rfl (teq (by decide : (4 : Int32) = (4 : Int32))).1 (by decide) (by decide) (XS.iload X445.here hx rfl (hb hby at_299) rfl  k)) ?_
      show own_Fin p e below _ (T445.setTop (mkF m 301 #[.val (.int p1), .val (.int p2), .val (.int p3), .val (.int p4), .val (.int p5), .val (.int (4 : Int32)), .val (.ref b307), .val (.ref b333), .val (.int (4 : Int32)), .val (.ref b434), .val (.int (1 : Int32))] [(.int (1 : Int32))]))
      refine own_go (fun t k => XS.ifNo X445.here hx rfl (hb hby at_301) rfl ((if0 _ _).trans (feq (by decide : ¬ ((1 : Int32) = (0 : Int32)))).1) (XS.aload X445.here hx rfl (hb hby at_304) rfl rfl  (XS.aload X445.here hx rfl (hb hby at_306) rfl rfl  (XS.iconst X445.here hx rfl (hb hby at_308) (XS.iload X445.here hx rfl (hb hby at_309) rfl  k))))) ?_
      show own_Fin p e below _ (T445.setTop (mkF m 311 #[.val (.int p1), .val (.int p2), .val (.int p3), .val (.int p4), .val (.int p5), .val (.int (4 : Int32)), .val (.ref b307), .val (.ref b333), .val (.int (4 : Int32)), .val (.ref b434), .val (.int (1 : Int32))] [(.int (4 : Int32)), (.int (0 : Int32)), (.ref b307), (.ref b434)]))
      obtain ⟨_, _, ⟨T447, L447, k447, n447⟩, -, X447, ⟨Lc447, hQ447, l447, y447, z447⟩, st447⟩ := Jvm.LawKit.callS X445 hx (y := (⟨"com/example/keyslice/keyslice/storage/KeyRangeAfterPinLaw", "slot", "([B[BII)Z"⟩ : MethodName)) hown (mvT hZ hw_26) (mvT hZ hw_27) (mvT hZ hw_4) (mvT hZ hw_28) (by decide) (backOf (W := 0) (rm5s04 l Z a0 hw [] (b434) (b307) k434 k307 (D0) (D1) (D2) (D3) T434.heap n0 Zh441 V434 f438) hZ hw_28 hw_4 (by decide) (by decide)) (g := (mkF m 311 #[.val (.int p1), .val (.int p2), .val (.int p3), .val (.int p4), .val (.int p5), .val (.int (4 : Int32)), .val (.ref b307), .val (.ref b333), .val (.int (4 : Int32)), .val (.ref b434), .val (.int (1 : Int32))] [(.int (4 : Int32)), (.int (0 : Int32)), (.ref b307), (.ref b434)])) rfl (by rw [hml]; rfl) (argsL := [(.ref b434), (.ref b307), (.int (0 : Int32)), (.int (4 : Int32))]) (rest := []) (lenOf pd_4 rfl) rfl (by show 2 * 0 + _ ≤ _; exact Nat.le_of_eq rfl) (hb hby at_311) (fun _ _ => ⟨rfl, e445, (by decide : 3 + 0 ≤ _), (by decide : 12 + 0 ≤ _)⟩)
      dsimp only [Pt.U, Pt.locs, Pt.cells, Pt.slots] at X447 l447 y447 z447 st447 hQ447
      subst l447 y447 z447
      obtain ⟨rfl, N447q, e447⟩ := hQ447
      have N447 := Fr.app N445 N447q
      refine own_go st447 ?_
      show own_Fin p e below _ (T447.setTop (mkF m 314 #[.val (.int p1), .val (.int p2), .val (.int p3), .val (.int p4), .val (.int p5), .val (.int (4 : Int32)), .val (.ref b307), .val (.ref b333), .val (.int (4 : Int32)), .val (.ref b434), .val (.int (1 : Int32))] [(.int (1 : Int32))]))
      refine own_go (fun t k => XS.ifNo X447.here hx rfl (hb hby at_314) rfl ((if0 _ _).trans (feq (by decide : ¬ ((1 : Int32) = (0 : Int32)))).1) (XS.aload X447.here hx rfl (hb hby at_317) rfl rfl  (XS.aload X447.here hx rfl (hb hby at_319) rfl rfl  (XS.iconst X447.here hx rfl (hb hby at_321) (XS.iload X447.here hx rfl (hb hby at_322) rfl  k))))) ?_
      show own_Fin p e below _ (T447.setTop (mkF m 324 #[.val (.int p1), .val (.int p2), .val (.int p3), .val (.int p4), .val (.int p5), .val (.int (4 : Int32)), .val (.ref b307), .val (.ref b333), .val (.int (4 : Int32)), .val (.ref b434), .val (.int (1 : Int32))] [(.int (4 : Int32)), (.int (1 : Int32)), (.ref b307), (.ref b434)]))
      obtain ⟨_, _, ⟨T448, L448, k448, n448⟩, -, X448, ⟨Lc448, hQ448, l448, y448, z448⟩, st448⟩ := Jvm.LawKit.callS X447 hx (y := (⟨"com/example/keyslice/keyslice/storage/KeyRangeAfterPinLaw", "slot", "([B[BII)Z"⟩ : MethodName)) hown (mvT hZ hw_26) (mvT hZ hw_27) (mvT hZ hw_4) (mvT hZ hw_28) (by decide) (backOf (W := 0) (rm5s14 l Z a0 hw [] (b434) (b307) k434 k307 (D0) (D1) (D2) (D3) T434.heap n0 Zh441 V434 f438) hZ hw_28 hw_4 (by decide) (by decide)) (g := (mkF m 324 #[.val (.int p1), .val (.int p2), .val (.int p3), .val (.int p4), .val (.int p5), .val (.int (4 : Int32)), .val (.ref b307), .val (.ref b333), .val (.int (4 : Int32)), .val (.ref b434), .val (.int (1 : Int32))] [(.int (4 : Int32)), (.int (1 : Int32)), (.ref b307), (.ref b434)])) rfl (by rw [hml]; rfl) (argsL := [(.ref b434), (.ref b307), (.int (1 : Int32)), (.int (4 : Int32))]) (rest := []) (lenOf pd_4 rfl) rfl (by show 2 * 0 + _ ≤ _; exact Nat.le_of_eq rfl) (hb hby at_324) (fun _ _ => ⟨rfl, e447, (by decide : 3 + 0 ≤ _), (by decide : 12 + 0 ≤ _)⟩)
      dsimp only [Pt.U, Pt.locs, Pt.cells, Pt.slots] at X448 l448 y448 z448 st448 hQ448
      subst l448 y448 z448
      obtain ⟨rfl, N448q, e448⟩ := hQ448
      have N448 := Fr.app N447 N448q
      refine own_go st448 ?_
      show own_Fin p e below _ (T448.setTop (mkF m 327 #[.val (.int p1), .val (.int p2), .val (.int p3), .val (.int p4), .val (.int p5), .val (.int (4 : Int32)), .val (.ref b307), .val (.ref b333), .val (.int (4 : Int32)), .val (.ref b434), .val (.int (1 : Int32))] [(.int (1 : Int32))]))
      refine own_go (fun t k => XS.ifNo X448.here hx rfl (hb hby at_327) rfl ((if0 _ _).trans (feq (by decide : ¬ ((1 : Int32) = (0 : Int32)))).1) (XS.aload X448.here hx rfl (hb hby at_330) rfl rfl  (XS.aload X448.here hx rfl (hb hby at_332) rfl rfl  (XS.iconst X448.here hx rfl (hb hby at_334) (XS.iload X448.here hx rfl (hb hby at_335) rfl  k))))) ?_
      show own_Fin p e below _ (T448.setTop (mkF m 337 #[.val (.int p1), .val (.int p2), .val (.int p3), .val (.int p4), .val (.int p5), .val (.int (4 : Int32)), .val (.ref b307), .val (.ref b333), .val (.int (4 : Int32)), .val (.ref b434), .val (.int (1 : Int32))] [(.int (4 : Int32)), (.int (2 : Int32)), (.ref b307), (.ref b434)]))
      obtain ⟨_, _, ⟨T449, L449, k449, n449⟩, -, X449, ⟨Lc449, hQ449, l449, y449, z449⟩, st449⟩ := Jvm.LawKit.callS X448 hx (y := (⟨"com/example/keyslice/keyslice/storage/KeyRangeAfterPinLaw", "slot", "([B[BII)Z"⟩ : MethodName)) hown (mvT hZ hw_26) (mvT hZ hw_27) (mvT hZ hw_4) (mvT hZ hw_28) (by decide) (backOf (W := 0) (rm5s24 l Z a0 hw [] (b434) (b307) k434 k307 (D0) (D1) (D2) (D3) T434.heap n0 Zh441 V434 f438) hZ hw_28 hw_4 (by decide) (by decide)) (g := (mkF m 337 #[.val (.int p1), .val (.int p2), .val (.int p3), .val (.int p4), .val (.int p5), .val (.int (4 : Int32)), .val (.ref b307), .val (.ref b333), .val (.int (4 : Int32)), .val (.ref b434), .val (.int (1 : Int32))] [(.int (4 : Int32)), (.int (2 : Int32)), (.ref b307), (.ref b434)])) rfl (by rw [hml]; rfl) (argsL := [(.ref b434), (.ref b307), (.int (2 : Int32)), (.int (4 : Int32))]) (rest := []) (lenOf pd_4 rfl) rfl (by show 2 * 0 + _ ≤ _; exact Nat.le_of_eq rfl) (hb hby at_337) (fun _ _ => ⟨rfl, e448, (by decide : 3 + 0 ≤ _), (by decide : 12 + 0 ≤ _)⟩)
      dsimp only [Pt.U, Pt.locs, Pt.cells, Pt.slots] at X449 l449 y449 z449 st449 hQ449
      subst l449 y449 z449
      obtain ⟨rfl, N449q, e449⟩ := hQ449
      have N449 := Fr.app N448 N449q
      refine own_go st449 ?_
      show own_Fin p e below _ (T449.setTop (mkF m 340 #[.val (.int p1), .val (.int p2), .val (.int p3), .val (.int p4), .val (.int p5), .val (.int (4 : Int32)), .val (.ref b307), .val (.ref b333), .val (.int (4 : Int32)), .val (.ref b434), .val (.int (1 : Int32))] [(.int (1 : Int32))]))
      refine own_go (fun t k => XS.ifNo X449.here hx rfl (hb hby at_340) rfl ((if0 _ _).trans (feq (by decide : ¬ ((1 : Int32) = (0 : Int32)))).1) (XS.aload X449.here hx rfl (hb hby at_343) rfl rfl  (XS.aload X449.here hx rfl (hb hby at_345) rfl rfl  (XS.iconst X449.here hx rfl (hb hby at_347) (XS.iload X449.here hx rfl (hb hby at_348) rfl  k))))) ?_
      show own_Fin p e below _ (T449.setTop (mkF m 350 #[.val (.int p1), .val (.int p2), .val (.int p3), .val (.int p4), .val (.int p5), .val (.int (4 : Int32)), .val (.ref b307), .val (.ref b333), .val (.int (4 : Int32)), .val (.ref b434), .val (.int (1 : Int32))] [(.int (4 : Int32)), (.int (3 : Int32)), (.ref b307), (.ref b434)]))
      obtain ⟨_, _, ⟨T450, L450, k450, n450⟩, -, X450, ⟨Lc450, hQ450, l450, y450, z450⟩, st450⟩ := Jvm.LawKit.callS X449 hx (y := (⟨"com/example/keyslice/keyslice/storage/KeyRangeAfterPinLaw", "slot", "([B[BII)Z"⟩ : MethodName)) hown (mvT hZ hw_26) (mvT hZ hw_27) (mvT hZ hw_4) (mvT hZ hw_28) (by decide) (backOf (W := 0) (rm5s34 l Z a0 hw [] (b434) (b307) k434 k307 (D0) (D1) (D2) (D3) T434.heap n0 Zh441 V434 f438) hZ hw_28 hw_4 (by decide) (by decide)) (g := (mkF m 350 #[.val (.int p1), .val (.int p2), .val (.int p3), .val (.int p4), .val (.int p5), .val (.int (4 : Int32)), .val (.ref b307), .val (.ref b333), .val (.int (4 : Int32)), .val (.ref b434), .val (.int (1 : Int32))] [(.int (4 : Int32)), (.int (3 : Int32)), (.ref b307), (.ref b434)])) rfl (by rw [hml]; rfl) (argsL := [(.ref b434), (.ref b307), (.int (3 : Int32)), (.int (4 : Int32))]) (rest := []) (lenOf pd_4 rfl) rfl (by show 2 * 0 + _ ≤ _; exact Nat.le_of_eq rfl) (hb hby at_350) (fun _ _ => ⟨rfl, e449, (by decide : 3 + 0 ≤ _), (by decide : 12 + 0 ≤ _)⟩)
      dsimp only [Pt.U, Pt.locs, Pt.cells, Pt.slots] at X450 l450 y450 z450 st450 hQ450
      subst l450 y450 z450
      obtain ⟨rfl, N450q, e450⟩ := hQ450
      have N450 := Fr.app N449 N450q
      refine own_go st450 ?_
      show own_Fin p e below _ (T450.setTop (mkF m 353 #[.val (.int p1), .val (.int p2), .val (.int p3), .val (.int p4), .val (.int p5), .val (.int (4 : Int32)), .val (.ref b307), .val (.ref b333), .val (.int (4 : Int32)), .val (.ref b434), .val (.int (1 : Int32))] [(.int (1 : Int32))]))
      refine own_go (fun t k => XS.ifNo X450.here hx rfl (hb hby at_353) rfl ((if0 _ _).trans (feq (by decide : ¬ ((1 : Int32) = (0 : Int32)))).1) (XS.iconst X450.here hx rfl (hb hby at_356) (XS.goto X450.here hx rfl (pc0 := 357) (pc' := 361) rfl (hb hby at_357) (by decide) (by decide) k))) ?_
      show own_Fin p e below _ (T450.setTop (mkF m 361 #[.val (.int p1), .val (.int p2), .val (.int p3), .val (.int p4), .val (.int p5), .val (.int (4 : Int32)), .val (.ref b307), .val (.ref b333), .val (.int (4 : Int32)), .val (.ref b434), .val (.int (1 : Int32))] [(.int (1 : Int32))]))
      exact own_out X450 (fun h => by rw [Bd.returns] at h; cases h) Bd.notSynchronized (fun fs hr => retN X450 hx (t := .boolean) Bd.returns (by simp) (hb hby at_361) hr) ⟨rfl, N450⟩ (by decide) (by decide)
set_option maxRecDepth 65536 in
set_option maxHeartbeats 40000000 in
theorem comes_1 {Post : Tables → Env → Array Value → State → Outcome → State → Prop} (hpost : ∀ tb e args s v u, (limb_1_1.after args s (.returned v) u = true ∧ limb_1_2.after args s (.returned v) u = true ∧ True) → FrameEnd s (.returned v) u (Jvm.fieldLocs frame_1_writes args s ++ Jvm.arrayLocs frame_1_arrays args s ++ Jvm.staticLocs frame_1_statics s) 16 128 → Post tb e args s (.returned v) u) :
    ArmFor flags0 classFile x code maxLocals ret World_1 tables_1 room_1 Calls_1 rest_1 Pre_1 Post := by
  intro l hfl _ _ p e ha hc hk s m args below hf hA hF happ hP
  obtain ⟨hcalls, hrest, hpre⟩ := hP
  obtain ⟨-, -, -, hnamed, -, -, -, hat⟩ := (Spec.applies_iff hf).mp happ
  obtain ⟨hg, hn⟩ := and_e (Cond.before_iff.mp (show (Jvm.Cond.and given_1 narrow_1).before args s = true from hpre))
  obtain ⟨g0, r0⟩ := and_e hg
  obtain ⟨g1, r1⟩ := and_e r0
  obtain ⟨g2, r2⟩ := and_e r1
  obtain ⟨g3, r3⟩ := and_e r2
  obtain ⟨g4, r4⟩ := and_e r3
  obtain ⟨w0, w1, w2, w3, w4, rfl⟩ : ∃ w0 w1 w2 w3 w4 : Value, args = #[w0, w1, w2, w3, w4] := by
    have hs : args.size = 5 := by simpa [Cond.value, given_1] using g0
    obtain ⟨L⟩ := args
    match L, hs with
    | [w0, w1, w2, w3, w4], _ => exact ⟨w0, w1, w2, w3, w4, rfl⟩
  have hw := fun d (hd : d ∈ tables_1) => atoms_spec (ws := Jvm.Cond.code x code maxLocals ret :: tables_1) hat d (List.mem_cons_of_mem _ hd)
  have hfit : Fit s := fun {y c} hc i hi => by
    obtain ⟨ha, rfl⟩ := Array.getElem?_eq_some_iff.mp hc
    have q := List.all_eq_true.mp ((Array.all_eq_true_iff_forall_mem.mp hF) _ (Array.getElem_mem ha)) i (List.mem_range.mpr hi)
    simpa [Array.getElem?_eq_getElem hi] using q
  obtain ⟨i0, ei0⟩ := is_v g1
  obtain rfl : w0 = (.int i0) := Option.some.inj ei0
  obtain ⟨i1, ei1⟩ := is_v g2
  obtain rfl : w1 = (.int i1) := Option.some.inj ei1
  obtain ⟨i2, ei2⟩ := is_v g3
  obtain rfl : w2 = (.int i2) := Option.some.inj ei2
  obtain ⟨i3, ei3⟩ := is_v g4
  obtain rfl : w3 = (.int i3) := Option.some.inj ei3
  obtain ⟨i4, ei4⟩ := is_v r4
  obtain rfl : w4 = (.int i4) := Option.some.inj ei4
  obtain ⟨n, o, h1, h2, h3, _, L, rfl, ⟨rfl, N⟩, hq⟩ := rm0 l s _ hw tables_1 i0 i1 i2 i3 i4  s.heap s.heap.size (Nat.le_refl _)  p e ha hc hk s m _ below hf ((Spec.applies_iff_loose hf).mp happ).1 ⟨rfl, State.Warmed39.refl s, rfl⟩ trivial
  refine ⟨n, _, h1, h2, h3, hpost _ _ _ _ _ _ ⟨Cond.after_iff.mpr rfl, Cond.after_iff.mpr (eq_i res_at (Term.int_eval (1)) rfl), trivial⟩ ⟨hq.1, hq.2.1, (hq.2.2.sift fun y hy => Or.inr (N y hy)).mono (by decide) (by decide)⟩⟩
theorem main_1_1 : Claimed_1_1 := comes_1 fun _ _ _ _ _ _ h hF => ⟨h.1, hF⟩
theorem main_1_2 : Claimed_1_2 := comes_1 fun _ _ _ _ _ _ h hF => ⟨h.2.1, hF⟩
end Jvm.Pilot.@@N@@
namespace Jvm.Pilot.@@N@@
open Jvm Jvm.ClassFile Sem Op Lib Jvm.Free Jvm.Stand Jvm.Pilot.@@N@@.Jvm.D
/-! MADE BY PROGRAM (witnessworld.py) out of the Statement's table words and the real class files: 12 classes; the members and pool entries that the words name. The judged class is class 1, her method 4. -/
namespace start1
open Jvm.ClassFile
def u (s : String) : CpInfo := .utf8 (stringToUtf16 s)
/-- a pool by its gaps: so many unusable entries, then the entry; so many at the end -/
def gap : Nat → List CpInfo → List CpInfo
  | 0, r => r
  | n + 1, r => .unusable :: gap n r
def poolList (es : List (Nat × CpInfo)) (last : Nat) : List CpInfo := es.foldr (fun e r => gap e.1 (e.2 :: r)) (gap last [])
def pool (es : List (Nat × CpInfo)) (last : Nat) : Array CpInfo := ⟨poolList es last⟩
def fileOf (pool : Array CpInfo) (this : Nat) (attrs : Array Attribute := #[]) (ms : Array MethodInfo := #[]) (fl : Nat := 33) (sup : Nat := 0) (ifs : Array Nat := #[]) (fds : Array FieldInfo := #[]) : ClassFile where
  minorVersion := 0
  majorVersion := 65
  constantPool := pool
  accessFlags := fl
  thisClass := this
  superClass := sup
  interfaces := ifs
  fields := fds
  methods := ms
  attributes := attrs
def plain (name : String) (sup : Option ClassId) : Class where
  name := name
  kind := .ordinary
  loader := none
  accessFlags := 33
  super := sup
  interfaces := #[]
  cf := none
  fields := #[]
  methods := #[]
  instanceTypes := #[]
  staticTypes := #[]
  resolved := #[]
  callSites := []
  init := .initialized
  statics := none
  mirror := none

def pool0 : Array CpInfo := pool [(5, u "<init>"), (0, u "()V"), (1, .class_ 10), (1, u "java/lang/Object"), (85, u "clone"), (0, u "()Ljava/lang/Object;")] 26

def k0m0 : Method := { name := "<init>", desc := "()V", sig := { parameters := [], returnType := none }, accessFlags := 1, code := none }
def k0m1 : Method := { name := "clone", desc := "()Ljava/lang/Object;", sig := { parameters := [], returnType := some (.object "java/lang/Object") }, accessFlags := 260, code := none }
/-- java/lang/Object -/
def k0 : Class := { plain "java/lang/Object" none with
  accessFlags := 33
  interfaces := #[]
  cf := some (fileOf pool0 8 #[] #[{ accessFlags := 1, nameIndex := 5, descriptorIndex := 6, attributes := #[] }, { accessFlags := 260, nameIndex := 96, descriptorIndex := 97, attributes := #[] }] 33 0 #[] #[])
  fields := #[]
  methods := #[k0m0, k0m1]
  instanceTypes := #[]
  staticTypes := #[]
  resolved := Array.replicate 124 none
  statics := none }

def pool1 : Array CpInfo := pool [(2, .class_ 4), (1, u "java/lang/Object"), (0, u "<init>"), (0, u "()V"), (0, .integer 2147483647), (0, .methodref 9 10), (0, .class_ 11), (0, .nameAndType 12 13), (0, u "com/example/keyslice/keyslice/storage/KeyRangeAfterPinLaw"), (0, u "draw"), (0, u "(I)B"), (0, .methodref 15 16), (0, .class_ 17), (0, .nameAndType 18 19), (0, u "com/example/keyslice/keyslice/storage/KeyRange"), (0, u "after"), (0, u "([B)[B"), (0, .methodref 9 21), (0, .nameAndType 22 23), (0, u "held"), (0, u "([B[BII)Z"), (0, .methodref 9 25), (0, .nameAndType 26 23), (0, u "slot"), (3, u "law"), (0, u "(IIIII)Z")] 4

def k1m0 : Method := { name := "<init>", desc := "()V", sig := { parameters := [], returnType := none }, accessFlags := 1, code := none }
def k1c1 : Code := { maxStack := 2, maxLocals := 1, code := method_2_code, exceptionTable := #[], attributes := #[] }
def k1m1 : Method := { name := "draw", desc := "(I)B", sig := { parameters := [.int], returnType := some .byte }, accessFlags := 10, code := some k1c1 }
def k1c2 : Code := { maxStack := 3, maxLocals := 4, code := method_3_code, exceptionTable := #[], attributes := #[] }
def k1m2 : Method := { name := "held", desc := "([B[BII)Z", sig := { parameters := [(.array .byte), (.array .byte), .int, .int], returnType := some .boolean }, accessFlags := 10, code := some k1c2 }
def k1c3 : Code := { maxStack := 3, maxLocals := 5, code := method_4_code, exceptionTable := #[], attributes := #[] }
def k1m3 : Method := { name := "slot", desc := "([B[BII)Z", sig := { parameters := [(.array .byte), (.array .byte), .int, .int], returnType := some .boolean }, accessFlags := 10, code := some k1c3 }
def k1c4 : Code := { maxStack := 4, maxLocals := 11, code := code, exceptionTable := #[], attributes := #[] }
def k1m4 : Method := { name := "law", desc := "(IIIII)Z", sig := { parameters := [.int, .int, .int, .int, .int], returnType := some .boolean }, accessFlags := 9, code := some k1c4 }
/-- com/example/keyslice/keyslice/storage/KeyRangeAfterPinLaw -/
def k1 : Class := { plain "com/example/keyslice/keyslice/storage/KeyRangeAfterPinLaw" (some 0) with
  accessFlags := 49
  interfaces := #[]
  cf := some (fileOf pool1 9 #[] #[{ accessFlags := 1, nameIndex := 5, descriptorIndex := 6, attributes := #[] }, { accessFlags := 10, nameIndex := 12, descriptorIndex := 13, attributes := #[] }, { accessFlags := 10, nameIndex := 22, descriptorIndex := 23, attributes := #[] }, { accessFlags := 10, nameIndex := 26, descriptorIndex := 23, attributes := #[] }, { accessFlags := 9, nameIndex := 30, descriptorIndex := 31, attributes := #[] }] 49 2 #[] #[])
  fields := #[]
  methods := #[k1m0, k1m1, k1m2, k1m3, k1m4]
  instanceTypes := #[]
  staticTypes := #[]
  resolved := Array.replicate 36 none
  statics := none }

def pool2 : Array CpInfo := pool [(2, .class_ 4), (1, u "java/lang/Object"), (3, .class_ 10), (1, u "com/example/keyslice/keyslice/storage/KeyRange"), (0, u "start"), (0, u "[B"), (2, u "end"), (2, u "after"), (0, u "([B)[B"), (4, .class_ 26), (1, u "java/util/Arrays"), (57, .methodref 24 85), (0, .nameAndType 86 87), (0, u "copyOf"), (0, u "([BI)[B")] 39

def k2c0 : Code := { maxStack := 4, maxLocals := 3, code := prog_64_method_8_code, exceptionTable := #[], attributes := #[] }
def k2m0 : Method := { name := "after", desc := "([B)[B", sig := { parameters := [(.array .byte)], returnType := some (.array .byte) }, accessFlags := 8, code := some k2c0 }
/-- com/example/keyslice/keyslice/storage/KeyRange -/
def k2 : Class := { plain "com/example/keyslice/keyslice/storage/KeyRange" (some 0) with
  accessFlags := 49
  interfaces := #[]
  cf := some (fileOf pool2 8 #[] #[{ accessFlags := 8, nameIndex := 18, descriptorIndex := 19, attributes := #[] }] 49 2 #[] #[{ accessFlags := 18, nameIndex := 11, descriptorIndex := 12, attributes := #[] }, { accessFlags := 18, nameIndex := 15, descriptorIndex := 12, attributes := #[] }])
  fields := #[{ name := "start", type := (.array .byte), accessFlags := 18, slot := 0, constantValue := 0 }, { name := "end", type := (.array .byte), accessFlags := 18, slot := 1, constantValue := 0 }]
  methods := #[k2m0]
  instanceTypes := #[(.array .byte), (.array .byte)]
  staticTypes := #[]
  resolved := Array.replicate 127 none
  statics := none }

def pool3 : Array CpInfo := pool [(2, .class_ 4), (1, u "java/lang/Object"), (0, u "<init>"), (0, u "()V"), (7, .class_ 16), (1, u "java/util/Arrays"), (57, .class_ 76), (1, u "java/util/Arrays$NaturalOrder"), (32, u "()Ljava/lang/Object;"), (3, .class_ 115), (1, u "java/util/Arrays$LegacyMergeSort"), (1, u "Z"), (10, .nameAndType 129 109), (0, u "clone"), (20, .methodref 151 152), (0, .class_ 153), (0, .nameAndType 154 155), (0, u "java/lang/System"), (0, u "arraycopy"), (0, u "(Ljava/lang/Object;ILjava/lang/Object;II)V"), (146, u "copyOf"), (1, .methodref 305 306), (0, .class_ 307), (0, .nameAndType 308 309), (0, u "java/lang/Math"), (0, u "min"), (0, u "(II)I"), (0, .methodref 311 128), (0, .class_ 312), (0, u "[B"), (62, .class_ 376), (0, u "java/util/Arrays$ArrayList"), (68, u "$assertionsDisabled"), (269, u "MIN_ARRAY_SORT_GRAN"), (0, u "I"), (2, u "INSERTIONSORT_THRESHOLD"), (149, u "([BI)[B"), (105, .class_ 976), (0, u "java/util/Arrays$ArrayItr")] 52

def k3m0 : Method := { name := "<init>", desc := "()V", sig := { parameters := [], returnType := none }, accessFlags := 2, code := none }
def k3c1 : Code := { maxStack := 6, maxLocals := 3, code := jdk_65_method_121_code, exceptionTable := #[], attributes := #[] }
def k3m1 : Method := { name := "copyOf", desc := "([BI)[B", sig := { parameters := [(.array .byte), .int], returnType := some (.array .byte) }, accessFlags := 9, code := some k3c1 }
/-- java/util/Arrays -/
def k3 : Class := { plain "java/util/Arrays" (some 0) with
  accessFlags := 49
  interfaces := #[]
  cf := some (fileOf pool3 14 #[.nestMembers #[975, 375, 113, 74]] #[{ accessFlags := 2, nameIndex := 5, descriptorIndex := 6, attributes := #[] }, { accessFlags := 9, nameIndex := 302, descriptorIndex := 869, attributes := #[] }] 49 2 #[] #[{ accessFlags := 26, nameIndex := 715, descriptorIndex := 716, attributes := #[] }, { accessFlags := 26, nameIndex := 719, descriptorIndex := 716, attributes := #[] }, { accessFlags := 4120, nameIndex := 445, descriptorIndex := 117, attributes := #[] }])
  fields := #[{ name := "MIN_ARRAY_SORT_GRAN", type := .int, accessFlags := 26, slot := 0, constantValue := 0 }, { name := "INSERTIONSORT_THRESHOLD", type := .int, accessFlags := 26, slot := 1, constantValue := 0 }, { name := "$assertionsDisabled", type := .boolean, accessFlags := 4120, slot := 2, constantValue := 0 }]
  methods := #[k3m0, k3m1]
  instanceTypes := #[]
  staticTypes := #[.int, .int, .boolean]
  resolved := Array.replicate 1029 none
  statics := none }

def pool4 : Array CpInfo := pool [(1, .class_ 2), (0, u "java/lang/Cloneable"), (0, .class_ 4), (0, u "java/lang/Object")] 2

/-- java/lang/Cloneable -/
def k4 : Class := { plain "java/lang/Cloneable" (some 0) with
  accessFlags := 1537
  interfaces := #[]
  cf := some (fileOf pool4 1 #[] #[] 1537 3 #[] #[])
  fields := #[]
  methods := #[]
  instanceTypes := #[]
  staticTypes := #[]
  resolved := Array.replicate 7 none
  statics := none }

def pool5 : Array CpInfo := pool [(1, .class_ 2), (0, u "java/lang/Math"), (1, .class_ 6), (1, u "java/lang/Object"), (0, u "<init>"), (0, u "()V"), (89, .class_ 100), (1, u "java/lang/Math$RandomNumberGeneratorHolder"), (71, u "negativeZeroFloatBits"), (0, u "J"), (2, u "negativeZeroDoubleBits"), (24, u "min"), (43, u "$assertionsDisabled"), (0, u "Z"), (88, u "(II)I"), (2, u "twoToTheDoubleScaleDown"), (0, u "D"), (4, u "twoToTheDoubleScaleUp"), (9, u "E"), (3, u "PI"), (2, u "TAU"), (2, u "DEGREES_TO_RADIANS"), (0, u "RADIANS_TO_DEGREES")] 94

def k5m0 : Method := { name := "<init>", desc := "()V", sig := { parameters := [], returnType := none }, accessFlags := 2, code := none }
def k5c1 : Code := { maxStack := 2, maxLocals := 2, code := jdk_29_method_69_code, exceptionTable := #[], attributes := #[] }
def k5m1 : Method := { name := "min", desc := "(II)I", sig := { parameters := [.int, .int], returnType := some .int }, accessFlags := 9, code := some k5c1 }
/-- java/lang/Math -/
def k5 : Class := { plain "java/lang/Math" (some 0) with
  accessFlags := 49
  interfaces := #[]
  cf := some (fileOf pool5 1 #[.nestMembers #[98]] #[{ accessFlags := 2, nameIndex := 7, descriptorIndex := 8, attributes := #[] }, { accessFlags := 9, nameIndex := 201, descriptorIndex := 335, attributes := #[] }] 49 4 #[] #[{ accessFlags := 25, nameIndex := 354, descriptorIndex := 339, attributes := #[] }, { accessFlags := 25, nameIndex := 358, descriptorIndex := 339, attributes := #[] }, { accessFlags := 25, nameIndex := 361, descriptorIndex := 339, attributes := #[] }, { accessFlags := 26, nameIndex := 364, descriptorIndex := 339, attributes := #[] }, { accessFlags := 26, nameIndex := 365, descriptorIndex := 339, attributes := #[] }, { accessFlags := 26, nameIndex := 172, descriptorIndex := 173, attributes := #[] }, { accessFlags := 26, nameIndex := 176, descriptorIndex := 173, attributes := #[] }, { accessFlags := 8, nameIndex := 344, descriptorIndex := 339, attributes := #[] }, { accessFlags := 8, nameIndex := 338, descriptorIndex := 339, attributes := #[] }, { accessFlags := 4120, nameIndex := 245, descriptorIndex := 246, attributes := #[] }])
  fields := #[{ name := "E", type := .double, accessFlags := 25, slot := 0, constantValue := 0 }, { name := "PI", type := .double, accessFlags := 25, slot := 1, constantValue := 0 }, { name := "TAU", type := .double, accessFlags := 25, slot := 2, constantValue := 0 }, { name := "DEGREES_TO_RADIANS", type := .double, accessFlags := 26, slot := 3, constantValue := 0 }, { name := "RADIANS_TO_DEGREES", type := .double, accessFlags := 26, slot := 4, constantValue := 0 }, { name := "negativeZeroFloatBits", type := .long, accessFlags := 26, slot := 5, constantValue := 0 }, { name := "negativeZeroDoubleBits", type := .long, accessFlags := 26, slot := 6, constantValue := 0 }, { name := "twoToTheDoubleScaleUp", type := .double, accessFlags := 8, slot := 7, constantValue := 0 }, { name := "twoToTheDoubleScaleDown", type := .double, accessFlags := 8, slot := 8, constantValue := 0 }, { name := "$assertionsDisabled", type := .boolean, accessFlags := 4120, slot := 9, constantValue := 0 }]
  methods := #[k5m0, k5m1]
  instanceTypes := #[]
  staticTypes := #[.double, .double, .double, .double, .double, .long, .long, .double, .double, .boolean]
  resolved := Array.replicate 460 none
  statics := none }

def pool6 : Array CpInfo := pool [(2, .class_ 4), (1, u "java/lang/Object"), (0, u "<init>"), (0, u "()V"), (1, .class_ 10), (1, u "java/lang/System"), (0, u "allowSecurityManager"), (0, u "I"), (16, u "cons"), (0, u "Ljava/io/Console;"), (77, .class_ 110), (1, u "java/lang/System$CallersHolder"), (43, u "initialErrStream"), (0, u "Ljava/io/PrintStream;"), (19, u "security"), (0, u "Ljava/lang/SecurityManager;"), (31, .class_ 209), (0, u "java/lang/System$1"), (7, u "props"), (0, u "Ljava/util/Properties;"), (2, u "lineSeparator"), (0, u "Ljava/lang/String;"), (96, .class_ 321), (1, u "java/lang/System$LoggerFinder"), (5, .class_ 328), (0, u "java/lang/System$Logger"), (67, u "err"), (2, u "out"), (91, u "notSupportedJnuEncoding"), (15, u "in"), (17, u "initialIn"), (0, u "Ljava/io/InputStream;"), (35, u "bootLayer"), (0, u "Ljava/lang/ModuleLayer;"), (99, .class_ 664), (0, u "java/lang/System$2"), (9, u "NEVER"), (2, u "MAYBE"), (49, u "arraycopy"), (0, u "(Ljava/lang/Object;ILjava/lang/Object;II)V"), (72, .class_ 802), (0, u "java/lang/System$Logger$Level")] 31

def k6m0 : Method := { name := "<init>", desc := "()V", sig := { parameters := [], returnType := none }, accessFlags := 2, code := none }
def k6m1 : Method := { name := "arraycopy", desc := "(Ljava/lang/Object;ILjava/lang/Object;II)V", sig := { parameters := [(.object "java/lang/Object"), .int, (.object "java/lang/Object"), .int, .int], returnType := none }, accessFlags := 265, code := none }
/-- java/lang/System -/
def k6 : Class := { plain "java/lang/System" (some 0) with
  accessFlags := 49
  interfaces := #[]
  cf := some (fileOf pool6 8 #[.nestMembers #[319, 327, 801, 108, 663, 208]] #[{ accessFlags := 2, nameIndex := 5, descriptorIndex := 6, attributes := #[] }, { accessFlags := 265, nameIndex := 727, descriptorIndex := 728, attributes := #[] }] 49 2 #[] #[{ accessFlags := 25, nameIndex := 507, descriptorIndex := 526, attributes := #[] }, { accessFlags := 25, nameIndex := 399, descriptorIndex := 155, attributes := #[] }, { accessFlags := 25, nameIndex := 396, descriptorIndex := 155, attributes := #[] }, { accessFlags := 10, nameIndex := 525, descriptorIndex := 526, attributes := #[] }, { accessFlags := 26, nameIndex := 674, descriptorIndex := 12, attributes := #[] }, { accessFlags := 26, nameIndex := 677, descriptorIndex := 12, attributes := #[] }, { accessFlags := 10, nameIndex := 11, descriptorIndex := 12, attributes := #[] }, { accessFlags := 74, nameIndex := 175, descriptorIndex := 176, attributes := #[] }, { accessFlags := 10, nameIndex := 491, descriptorIndex := 222, attributes := #[] }, { accessFlags := 74, nameIndex := 29, descriptorIndex := 30, attributes := #[] }, { accessFlags := 74, nameIndex := 154, descriptorIndex := 155, attributes := #[] }, { accessFlags := 10, nameIndex := 217, descriptorIndex := 218, attributes := #[] }, { accessFlags := 10, nameIndex := 221, descriptorIndex := 222, attributes := #[] }, { accessFlags := 8, nameIndex := 562, descriptorIndex := 563, attributes := #[] }])
  fields := #[{ name := "in", type := (.object "java/io/InputStream"), accessFlags := 25, slot := 0, constantValue := 0 }, { name := "out", type := (.object "java/io/PrintStream"), accessFlags := 25, slot := 1, constantValue := 0 }, { name := "err", type := (.object "java/io/PrintStream"), accessFlags := 25, slot := 2, constantValue := 0 }, { name := "initialIn", type := (.object "java/io/InputStream"), accessFlags := 10, slot := 3, constantValue := 0 }, { name := "NEVER", type := .int, accessFlags := 26, slot := 4, constantValue := 0 }, { name := "MAYBE", type := .int, accessFlags := 26, slot := 5, constantValue := 0 }, { name := "allowSecurityManager", type := .int, accessFlags := 10, slot := 6, constantValue := 0 }, { name := "security", type := (.object "java/lang/SecurityManager"), accessFlags := 74, slot := 7, constantValue := 0 }, { name := "notSupportedJnuEncoding", type := (.object "java/lang/String"), accessFlags := 10, slot := 8, constantValue := 0 }, { name := "cons", type := (.object "java/io/Console"), accessFlags := 74, slot := 9, constantValue := 0 }, { name := "initialErrStream", type := (.object "java/io/PrintStream"), accessFlags := 74, slot := 10, constantValue := 0 }, { name := "props", type := (.object "java/util/Properties"), accessFlags := 10, slot := 11, constantValue := 0 }, { name := "lineSeparator", type := (.object "java/lang/String"), accessFlags := 10, slot := 12, constantValue := 0 }, { name := "bootLayer", type := (.object "java/lang/ModuleLayer"), accessFlags := 8, slot := 13, constantValue := 0 }]
  methods := #[k6m0, k6m1]
  instanceTypes := #[]
  staticTypes := #[(.object "java/io/InputStream"), (.object "java/io/PrintStream"), (.object "java/io/PrintStream"), (.object "java/io/InputStream"), .int, .int, .int, (.object "java/lang/SecurityManager"), (.object "java/lang/String"), (.object "java/io/Console"), (.object "java/io/PrintStream"), (.object "java/util/Properties"), (.object "java/lang/String"), (.object "java/lang/ModuleLayer")]
  resolved := Array.replicate 834 none
  statics := none }

def pool7 : Array CpInfo := pool [(1, u "java/io/Serializable"), (0, .class_ 1), (0, u "java/lang/Object"), (0, .class_ 3)] 3

/-- java/io/Serializable -/
def k7 : Class := { plain "java/io/Serializable" (some 0) with
  accessFlags := 1537
  interfaces := #[]
  cf := some (fileOf pool7 2 #[] #[] 1537 4 #[] #[])
  fields := #[]
  methods := #[]
  instanceTypes := #[]
  staticTypes := #[]
  resolved := Array.replicate 8 none
  statics := none }

/-- the primitive byte -/
def k8 : Class := { plain "byte" none with kind := .primitive 'B', accessFlags := 0x411 }
/-- [B -/
def k9 : Class := { plain "[B" (some 0) with kind := .array 8 .byte, interfaces := #[4, 7], accessFlags := 1041 }

/-- the primitive int -/
def k10 : Class := { plain "int" none with kind := .primitive 'I', accessFlags := 0x411 }
/-- [I -/
def k11 : Class := { plain "[I" (some 0) with kind := .array 10 .int, interfaces := #[4, 7], accessFlags := 1041 }

def heap : Heap := #[]
def classes : Array Class := #[k0, k1, k2, k3, k4, k5, k6, k7, k8, k9, k10, k11]
def interned : List (Array UInt16 × Addr) := []
def slotsUsed : Nat := 0
def theMethod : MethodId := ⟨1, 4⟩
def args0 : Array Value := #[.int 5, .int 6, .int 7, .int 8, .int 9]
def aboutOver (below : List Frame) : State where
  vm := { classes := classes, interned := interned.toArray }
  heap := heap
  slotsUsed := slotsUsed
  threads := #[{ frames := .invoking theMethod args0 :: below }]
def below0 : List Frame := [.native { method := ⟨0, 0⟩, args := #[] }]
def about1 : State := aboutOver below0
def p0 : Program := .bare "" "" ""
def e0 : Env := launch0.env 0 0 0
theorem w_frames : about1.frames = Frame.invoking theMethod args0 :: below0 := rfl
set_option maxRecDepth 65536 in
theorem w_args : argsFit about1.vm theMethod args0 = true := by decide +kernel
set_option maxRecDepth 65536 in
theorem w_heap : heapFits about1 = true := by decide +kernel
set_option maxRecDepth 65536 in
theorem w_runnable : about1.curStatus? = some .runnable := by decide +kernel
set_option maxRecDepth 65536 in
theorem w_alone : about1.alone = true := by decide +kernel
set_option maxRecDepth 65536 in
theorem w_named : about1.methodNamed? x = some theMethod := by decide +kernel
set_option maxRecDepth 65536 in
theorem w_hears : about1.hears theMethod below0 = true := by decide +kernel
set_option maxRecDepth 65536 in
theorem w_ripe : about1.ripe theMethod args0 below0 = true := by decide +kernel
theorem w_running : about1.status = .running := rfl
set_option maxRecDepth 65536 in
theorem w_room : about1.hasRoom e0.platform room_1 = true :=
  launch0.hasRoom_least _ room_1 (by decide +kernel) (by decide +kernel) (by decide +kernel) (by decide +kernel) (by decide +kernel) (by decide +kernel)
theorem allAtoms_all (ts : List Jvm.Cond) (a : Array Jvm.Value) (st : Jvm.State) : (allAtoms ts).before a st = ts.all (fun c => c.before a st) := by
  induction ts with
  | nil => rfl
  | cons c t ih =>
    show (Jvm.Cond.and c (allAtoms t)).before a st = _
    rw [Jvm.Cond.before_and, ih, List.all_cons]
def words1 : List Jvm.Cond := Jvm.Cond.code x code maxLocals ret :: tables_1
/-- a 'code' word, met by the world's own term for the bytes: nothing is compared byte by byte -/
theorem code_word {y : MethodName} {bytes : ByteArray} {mx : Nat} {rt : Option FieldType} {a : Array Value} {s : State} {m : MethodId} {meth : Method} {c : Code} (h1 : s.methodNamed? y = some m) (h2 : s.vm.method? m = some meth) (h3 : meth.code = some c) (h4 : c.code = bytes)
    (h5 : (c.maxLocals == mx && c.exceptionTable.isEmpty && decide (c.maxStack ≤ mostOperands) && decide (meth.sig.returnType = rt) && !meth.locks && decide (parseMethodDescriptor y.desc = some meth.sig)) = true) : (Jvm.Cond.code y bytes mx rt).before a s = true := by
  simp only [Bool.and_eq_true, beq_iff_eq, Bool.not_eq_true', decide_eq_true_eq] at h5
  obtain ⟨⟨⟨⟨⟨g1, g2⟩, g3⟩, g4⟩, g5⟩, g6⟩ := h5
  simp [Cond.before, Cond.holds, Cond.value, h1, h2, h3, h4, g1, g2, g3, g4, g5, g6]
def isCode : Jvm.Cond → Bool
  | .code _ _ _ _ => true
  | _ => false
theorem all_split {L : List Jvm.Cond} {P : Jvm.Cond → Bool} (h1 : L.all (fun c => isCode c || P c) = true) (h2 : ∀ c ∈ L.filter isCode, P c = true) : L.all P = true := by
  refine List.all_eq_true.mpr fun c hc => ?_
  have h := List.all_eq_true.mp h1 c hc
  rcases Bool.eq_false_or_eq_true (isCode c) with hi | hi
  · exact h2 c (List.mem_filter.mpr ⟨hc, hi⟩)
  · simpa [hi] using h
set_option maxRecDepth 65536 in
theorem w_c0 : (Jvm.Cond.code x code maxLocals ret).before args0 about1 = true := code_word (m := ⟨1, 4⟩) (meth := k1m4) (c := k1c4) (by decide +kernel) rfl rfl rfl (by decide +kernel)
set_option maxRecDepth 65536 in
theorem w_c1 : (Jvm.Cond.code ({ cls := "com/example/keyslice/keyslice/storage/KeyRangeAfterPinLaw", name := "draw", desc := "(I)B" } : Jvm.MethodName) method_2_code (1 : Nat) (Option.some Jvm.ClassFile.FieldType.byte)).before args0 about1 = true := code_word (m := ⟨1, 1⟩) (meth := k1m1) (c := k1c1) (by decide +kernel) rfl rfl rfl (by decide +kernel)
set_option maxRecDepth 65536 in
theorem w_c2 : (Jvm.Cond.code ({ cls := "com/example/keyslice/keyslice/storage/KeyRange", name := "after", desc := "([B)[B" } : Jvm.MethodName) prog_64_method_8_code (3 : Nat) (Option.some (Jvm.ClassFile.FieldType.array Jvm.ClassFile.FieldType.byte))).before args0 about1 = true := code_word (m := ⟨2, 0⟩) (meth := k2m0) (c := k2c0) (by decide +kernel) rfl rfl rfl (by decide +kernel)
set_option maxRecDepth 65536 in
theorem w_c3 : (Jvm.Cond.code ({ cls := "com/example/keyslice/keyslice/storage/KeyRangeAfterPinLaw", name := "held", desc := "([B[BII)Z" } : Jvm.MethodName) method_3_code (4 : Nat) (Option.some Jvm.ClassFile.FieldType.boolean)).before args0 about1 = true := code_word (m := ⟨1, 2⟩) (meth := k1m2) (c := k1c2) (by decide +kernel) rfl rfl rfl (by decide +kernel)
set_option maxRecDepth 65536 in
theorem w_c4 : (Jvm.Cond.code ({ cls := "java/util/Arrays", name := "copyOf", desc := "([BI)[B" } : Jvm.MethodName) jdk_65_method_121_code (3 : Nat) (Option.some (Jvm.ClassFile.FieldType.array Jvm.ClassFile.FieldType.byte))).before args0 about1 = true := code_word (m := ⟨3, 1⟩) (meth := k3m1) (c := k3c1) (by decide +kernel) rfl rfl rfl (by decide +kernel)
set_option maxRecDepth 65536 in
theorem w_c5 : (Jvm.Cond.code ({ cls := "com/example/keyslice/keyslice/storage/KeyRangeAfterPinLaw", name := "slot", desc := "([B[BII)Z" } : Jvm.MethodName) method_4_code (5 : Nat) (Option.some Jvm.ClassFile.FieldType.boolean)).before args0 about1 = true := code_word (m := ⟨1, 3⟩) (meth := k1m3) (c := k1c3) (by decide +kernel) rfl rfl rfl (by decide +kernel)
set_option maxRecDepth 65536 in
theorem w_c6 : (Jvm.Cond.code ({ cls := "java/lang/Math", name := "min", desc := "(II)I" } : Jvm.MethodName) jdk_29_method_69_code (2 : Nat) (Option.some Jvm.ClassFile.FieldType.int)).before args0 about1 = true := code_word (m := ⟨5, 1⟩) (meth := k5m1) (c := k5c1) (by decide +kernel) rfl rfl rfl (by decide +kernel)
def codes1 : List Jvm.Cond := [Jvm.Cond.code x code maxLocals ret, Jvm.Cond.code ({ cls := "com/example/keyslice/keyslice/storage/KeyRangeAfterPinLaw", name := "draw", desc := "(I)B" } : Jvm.MethodName) method_2_code (1 : Nat) (Option.some Jvm.ClassFile.FieldType.byte), Jvm.Cond.code ({ cls := "com/example/keyslice/keyslice/storage/KeyRange", name := "after", desc := "([B)[B" } : Jvm.MethodName) prog_64_method_8_code (3 : Nat) (Option.some (Jvm.ClassFile.FieldType.array Jvm.ClassFile.FieldType.byte)), Jvm.Cond.code ({ cls := "com/example/keyslice/keyslice/storage/KeyRangeAfterPinLaw", name := "held", desc := "([B[BII)Z" } : Jvm.MethodName) method_3_code (4 : Nat) (Option.some Jvm.ClassFile.FieldType.boolean), Jvm.Cond.code ({ cls := "java/util/Arrays", name := "copyOf", desc := "([BI)[B" } : Jvm.MethodName) jdk_65_method_121_code (3 : Nat) (Option.some (Jvm.ClassFile.FieldType.array Jvm.ClassFile.FieldType.byte)), Jvm.Cond.code ({ cls := "com/example/keyslice/keyslice/storage/KeyRangeAfterPinLaw", name := "slot", desc := "([B[BII)Z" } : Jvm.MethodName) method_4_code (5 : Nat) (Option.some Jvm.ClassFile.FieldType.boolean), Jvm.Cond.code ({ cls := "java/lang/Math", name := "min", desc := "(II)I" } : Jvm.MethodName) jdk_29_method_69_code (2 : Nat) (Option.some Jvm.ClassFile.FieldType.int)]
set_option maxRecDepth 65536 in
theorem codes_eq : words1.filter isCode = codes1 := rfl
theorem w_codes : ∀ c ∈ words1.filter isCode, c.before args0 about1 = true := by
  rw [codes_eq]
  intro c hc
  simp only [codes1, List.mem_cons, List.not_mem_nil, or_false] at hc
  rcases hc with rfl | rfl | rfl | rfl | rfl | rfl | rfl
  · exact w_c0
  · exact w_c1
  · exact w_c2
  · exact w_c3
  · exact w_c4
  · exact w_c5
  · exact w_c6
set_option maxRecDepth 65536 in
theorem w_t1 : (words1.take 24).all (fun c => isCode c || c.before args0 about1) = true := by decide +kernel
set_option maxRecDepth 65536 in
theorem w_t2 : (words1.drop 24).all (fun c => isCode c || c.before args0 about1) = true := by decide +kernel
theorem w_tables : (allAtoms (Jvm.Cond.code x code maxLocals ret :: tables_1)).before args0 about1 = true := by
  rw [allAtoms_all]
  show words1.all (fun c => c.before args0 about1) = true
  refine all_split ?_ w_codes
  rw [← List.take_append_drop 24 words1, List.all_append, w_t1, w_t2]
  rfl
set_option maxRecDepth 65536 in
theorem w_case : (Jvm.Cond.and given_1 narrow_1).before args0 about1 = true := by decide +kernel
theorem w_applies : (headSpec (Jvm.Cond.code x code maxLocals ret :: tables_1) room_1).applies x e0.platform about1 = true :=
  (Spec.applies_iff w_frames).mpr ⟨w_running, w_runnable, w_alone, w_named, w_hears, w_ripe, w_room, w_tables⟩
theorem atStart : AtStart classFile x code maxLocals ret World_1 tables_1 room_1 Calls_1 rest_1 Pre_1 launch0 p0 e0 about1 theMethod args0 below0 :=
  ⟨lists_1, trivial, launch0.admits_env _ _ _, launch0.least_env, fairChoices_fair.cas, fairChoices_fair.clock, w_frames, w_args, w_heap, w_applies, trivial, trivial, w_case⟩
end start1
theorem witness_1 : WitnessClaimed_1 := ⟨start1.p0, start1.e0, start1.about1, start1.theMethod, start1.args0, start1.below0, start1.atStart⟩
end Jvm.Pilot.@@N@@
