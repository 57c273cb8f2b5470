import JvmDerived
import JvmDerived.Pilot.@@N@@Statement
import JvmDerived.Pilot.@@N@@Code
set_option linter.unusedVariables false
set_option linter.unusedSimpArgs false
namespace Jvm.RoadKit
open Sem ClassFile Op Lib Jvm.Stand Jvm.Free Jvm.LawKit
section New
variable {p : Program} {l : Launch} {e : Env} {R : Room} {s : State} {m : MethodId} {args : Array Value} {below : List Frame} {meth : Method} {c : Code} {T : State} {locs : List Loc} {cells slots : Nat}
theorem retI (X : Stand p l e R s m args below meth c T locs cells slots) (hx : p.tables.exec = Jvm.exec) {pc : Nat} {Ls : Array Slot} {z : Int32} {rest : List Value} (hret : meth.sig.returnType = some .int) (hd : decode c.code pc = .ok (.ireturn, 1)) {fs : List Frame}
    (hl : ∀ (f : JFrame) (acts : List Action), f.method = m → f.locked = none → f.entered = [] → (doReturn e (T.setTop f) acts (some (.int z))).1 = T.setFrames fs) : Steps p.tables e below (T.setTop (mkF m pc Ls (.int z :: rest))) (T.setFrames fs) := by
  have hm' : T.vm.method? m = some meth := X.method'
  have hn : narrow .int (.int z) = .int z := rfl
  show Steps p.tables e below (T.setTop { method := m, pc := pc, locals := Ls, stack := _ :: rest, locked := none }) _
  jvm_step X.here [X.here.top, hx, hd, hm', hret, hn]
  first | (intro acts; rw [hl _ acts rfl rfl rfl]) | rw [hl _ _ rfl rfl rfl]
  exact Steps.refl _
/-- from the state S the run comes to an end at which A holds -/
def own_Fin (p : Program) (e : Env) (below : List Frame) (A : State → Outcome → Prop) (S : State) : Prop := ∃ s₂ o, Steps p.tables e below S s₂ ∧ s₂.status = .running ∧ Ended s₂ below o ∧ A s₂ o
theorem own_go {A : State → Outcome → Prop} {S S' : State} (k : ∀ t, Steps p.tables e below S' t → Steps p.tables e below S t) (h : own_Fin p e below A S') : own_Fin p e below A S := by
  obtain ⟨t, o, h1, h2⟩ := h; exact ⟨t, o, k t h1, h2⟩
/-- what a walk leaves: Q of the value, the heap and the written places -/
def own_A (s : State) (C S : Nat) (Q : Option Value → Heap → List Loc → Prop) : State → Outcome → Prop := fun U' o => ∃ v L, o = .returned v ∧ Q v U'.heap L ∧ FrameEnd s o U' L C S
/-- a body that writes nothing: its value, the heap as it was -/
def own_P (h0 : Heap) (n0 : Nat) (w : Value) (v : Option Value) (h : Heap) (L : List Loc) : Prop := v = some w ∧ Fr n0 L ∧ h = h0
theorem own_out (X : Stand p l e R s m args below meth c T locs cells slots) {v : Option Value} {Q : Option Value → Heap → List Loc → Prop} {C S : Nat} {g : JFrame}
    (hv : meth.sig.returnType = none → v = none) (hlocks : meth.locks = false)
    (st : ∀ fs, (∀ (f : JFrame) (acts : List Action), f.method = m → f.locked = none → f.entered = [] → (doReturn e (T.setTop f) acts v).1 = T.setFrames fs) → Steps p.tables e below (T.setTop g) (T.setFrames fs))
    (hQ : Q v T.heap locs) (hc : cells ≤ C) (hs : slots ≤ S) : own_Fin p e below (own_A s C S Q) (T.setTop g) := by
  obtain ⟨fs, hr, hrun, hended, hW, hsame⟩ := X.leave (v := v) hv hlocks
  exact ⟨_, _, st fs hr, hrun, hended, _, _, rfl, hQ, ⟨_, rfl⟩, hW, hsame.mono hc hs⟩
end New
end Jvm.RoadKit
namespace Jvm.Pilot.@@N@@
open Jvm Jvm.ClassFile Sem Op Lib Jvm.Free Jvm.Stand Jvm.LawKit Jvm.RoadKit Bundle Jvm.Pilot.@@N@@.Jvm.D
theorem d1_0 : decode prog_23_method_39_code 0 = .ok (.iload_n 0, 1) := by decide +kernel
theorem d1_1 : decode prog_23_method_39_code 1 = .ok (.bipush 48, 2) := by decide +kernel
theorem d1_3 : decode prog_23_method_39_code 3 = .ok (.if_icmp .lt 9, 3) := by decide +kernel
theorem d1_6 : decode prog_23_method_39_code 6 = .ok (.iload_n 0, 1) := by decide +kernel
theorem d1_7 : decode prog_23_method_39_code 7 = .ok (.bipush 57, 2) := by decide +kernel
theorem d1_9 : decode prog_23_method_39_code 9 = .ok (.if_icmp .le 33, 3) := by decide +kernel
theorem d1_12 : decode prog_23_method_39_code 12 = .ok (.iload_n 0, 1) := by decide +kernel
theorem d1_13 : decode prog_23_method_39_code 13 = .ok (.bipush 97, 2) := by decide +kernel
theorem d1_15 : decode prog_23_method_39_code 15 = .ok (.if_icmp .lt 9, 3) := by decide +kernel
theorem d1_18 : decode prog_23_method_39_code 18 = .ok (.iload_n 0, 1) := by decide +kernel
theorem d1_19 : decode prog_23_method_39_code 19 = .ok (.bipush 122, 2) := by decide +kernel
theorem d1_21 : decode prog_23_method_39_code 21 = .ok (.if_icmp .le 21, 3) := by decide +kernel
theorem d1_24 : decode prog_23_method_39_code 24 = .ok (.iload_n 0, 1) := by decide +kernel
theorem d1_25 : decode prog_23_method_39_code 25 = .ok (.bipush 65, 2) := by decide +kernel
theorem d1_27 : decode prog_23_method_39_code 27 = .ok (.if_icmp .lt 9, 3) := by decide +kernel
theorem d1_30 : decode prog_23_method_39_code 30 = .ok (.iload_n 0, 1) := by decide +kernel
theorem d1_31 : decode prog_23_method_39_code 31 = .ok (.bipush 90, 2) := by decide +kernel
theorem d1_33 : decode prog_23_method_39_code 33 = .ok (.if_icmp .le 9, 3) := by decide +kernel
theorem d1_36 : decode prog_23_method_39_code 36 = .ok (.iload_n 0, 1) := by decide +kernel
theorem d1_37 : decode prog_23_method_39_code 37 = .ok (.bipush 45, 2) := by decide +kernel
theorem d1_39 : decode prog_23_method_39_code 39 = .ok (.if_icmp .ne 7, 3) := by decide +kernel
theorem d1_42 : decode prog_23_method_39_code 42 = .ok (.iconst 1, 1) := by decide +kernel
theorem d1_43 : decode prog_23_method_39_code 43 = .ok (.goto 4, 3) := by decide +kernel
theorem d1_46 : decode prog_23_method_39_code 46 = .ok (.iconst 0, 1) := by decide +kernel
theorem d1_47 : decode prog_23_method_39_code 47 = .ok (.ireturn, 1) := by decide +kernel
theorem pn_0 : plainName "com/example/honeyguide/honeyguide/document/YamlCursor" = true := by first | (simp [plainName, overriddenIn]; done) | decide +kernel
theorem ef_1 (m : MethodId) (x0 : Int32)  : entryFrame m #[(.int x0)] 1 = mkF m 0 #[.val (.int x0)] [] := by first | (simp [entryFrame, mkF, argsToLocals, Value.category]; done) | rfl
def own_f_39 (p1 : Int32) : Int32 := if p1 = (45 : Int32) then (1 : Int32) else (0 : Int32)
def own_f_33 (p1 : Int32) : Int32 := if (90 : Int32) < p1 then (own_f_39 p1) else (1 : Int32)
def own_f_27 (p1 : Int32) : Int32 := if p1 < (65 : Int32) then (own_f_39 p1) else (own_f_33 p1)
def own_f_21 (p1 : Int32) : Int32 := if (122 : Int32) < p1 then (own_f_27 p1) else (1 : Int32)
def own_f_15 (p1 : Int32) : Int32 := if p1 < (97 : Int32) then (own_f_27 p1) else (own_f_21 p1)
def own_f_9 (p1 : Int32) : Int32 := if (57 : Int32) < p1 then (own_f_15 p1) else (1 : Int32)
def own_f_3 (p1 : Int32) : Int32 := if p1 < (48 : Int32) then (own_f_15 p1) else (own_f_9 p1)
set_option maxRecDepth 65536 in
set_option maxHeartbeats 40000000 in
theorem rm1 (l : Launch) (Z : State) (a0 : Array Value) (hw : ∀ d ∈ tables_1, d.before a0 Z = true) (ws : List Jvm.Cond) (p1 : Int32) (h0 : Heap) (n0 : Nat) (Z0 : n0 ≤ h0.size) :
    MetFree l (⟨"com/example/honeyguide/honeyguide/document/YamlCursor", "isWordChar", "(I)Z"⟩ : MethodName) (head1 (Jvm.Cond.code (⟨"com/example/honeyguide/honeyguide/document/YamlCursor", "isWordChar", "(I)Z"⟩ : MethodName) prog_23_method_39_code 1 (some .boolean) :: ws) ({ frames := 0, cells := 0, slots := 0, locals := 0 } : Room)) (fun a U => a = #[(.int p1)] ∧ Z.Warmed39 U.vm ∧ U.heap = h0) (fun _ _ _ _ _ => True) (fun _ U o U' => ∃ v L, o = .returned v ∧ (own_P h0 n0 (.int (own_f_3 p1))) v U'.heap L ∧ FrameEnd U o U' L ({ frames := 0, cells := 0, slots := 0, locals := 0 } : Room).cells ({ frames := 0, cells := 0, slots := 0, locals := 0 } : Room).slots) := by
  refine MetFree.of_bodySF (plainFor_of_name pn_0) hisR ?_
  intro p e s m args below meth c s₁ Bd hml0 hP hK
  obtain ⟨rfl, hZ, hh⟩ := hP
  have hx := Bd.exec
  have hby := Bd.bytes
  have hml : c.maxLocals = 1 := hml0
  have hown : s.vm.findClass "com/example/honeyguide/honeyguide/document/YamlCursor" = some m.cls := findClass_of_methodNamed Bd.named
  have hnm := (name_of_methodNamed Bd.named Bd.method).1
  have X0 : Stand p l e ({ frames := 0, cells := 0, slots := 0, locals := 0 } : Room) s m #[(.int p1)] below meth c s₁ [] 0 0 := Stand.of_body Bd
  have e0 : s₁.heap = h0 := by rw [← hh, Bd.state]; rfl
  have N0 := Fr.nil n0
  show own_Fin p e below (own_A s ({ frames := 0, cells := 0, slots := 0, locals := 0 } : Room).cells ({ frames := 0, cells := 0, slots := 0, locals := 0 } : Room).slots (own_P h0 n0 (.int (own_f_3 p1)))) _
  refine own_go (fun t k => castTop (ef_1 m (p1)) k) ?_
  have J0 : own_Fin p e below (own_A s ({ frames := 0, cells := 0, slots := 0, locals := 0 } : Room).cells ({ frames := 0, cells := 0, slots := 0, locals := 0 } : Room).slots (own_P h0 n0 (.int (own_f_39 p1)))) (s₁.setTop (mkF m 36 #[.val (.int p1)] [])) := by
    refine own_go (fun t k => XS.iloadN X0.here hx rfl (hb hby d1_36) rfl  (XS.bipush X0.here hx rfl (hb hby d1_37) k)) ?_
    show own_Fin p e below _ (s₁.setTop (mkF m 39 #[.val (.int p1)] [(.int (45 : Int32)), (.int p1)]))
    by_cases hc1 : p1 = (45 : Int32)
    · skip
      rw [(show (own_f_39 p1) = (1 : Int32) from if_pos hc1)]
      refine own_go (fun t k => XS.icmpNo X0.here hx rfl (hb hby d1_39) rfl (teq hc1).2 (XS.iconst X0.here hx rfl (hb hby d1_42) (XS.goto X0.here hx rfl (pc0 := 43) (pc' := 47) rfl (hb hby d1_43) (by decide) (by decide) k))) ?_
      show own_Fin p e below _ (s₁.setTop (mkF m 47 #[.val (.int p1)] [(.int (1 : Int32))]))
      exact own_out X0 (fun h => by rw [Bd.returns] at h; cases h) Bd.notSynchronized (fun fs hr => retN X0 hx (t := .boolean) Bd.returns (by simp) (hb hby d1_47) hr) ⟨rfl, N0, e0⟩ (by decide) (by decide)
    · skip
      rw [(show (own_f_39 p1) = (0 : Int32) from if_neg hc1)]
      refine own_go (fun t k => XS.icmpYes X0.here hx rfl (pc0 := 39) (pc' := 46) rfl (hb hby d1_39) rfl (feq hc1).2 (by decide) (by decide) (XS.iconst X0.here hx rfl (hb hby d1_46) k)) ?_
      show own_Fin p e below _ (s₁.setTop (mkF m 47 #[.val (.int p1)] [(.int (0 : Int32))]))
      exact own_out X0 (fun h => by rw [Bd.returns] at h; cases h) Bd.notSynchronized (fun fs hr => retN X0 hx (t := .boolean) Bd.returns (by simp) (hb hby d1_47) hr) ⟨rfl, N0, e0⟩ (by decide) (by decide)
  have J1 : own_Fin p e below (own_A s ({ frames := 0, cells := 0, slots := 0, locals := 0 } : Room).cells ({ frames := 0, cells := 0, slots := 0, locals := 0 } : Room).slots (own_P h0 n0 (.int (own_f_27 p1)))) (s₁.setTop (mkF m 24 #[.val (.int p1)] [])) := by
    refine own_go (fun t k => XS.iloadN X0.here hx rfl (hb hby d1_24) rfl  (XS.bipush X0.here hx rfl (hb hby d1_25) k)) ?_
    show own_Fin p e below _ (s₁.setTop (mkF m 27 #[.val (.int p1)] [(.int (65 : Int32)), (.int p1)]))
    by_cases hc2 : p1 < (65 : Int32)
    · skip
      rw [(show (own_f_27 p1) = (own_f_39 p1) from if_pos hc2)]
      refine own_go (fun t k => XS.icmpYes X0.here hx rfl (pc0 := 27) (pc' := 36) rfl (hb hby d1_27) rfl (tlt hc2).1 (by decide) (by decide) k) ?_
      exact J0
    · skip
      rw [(show (own_f_27 p1) = (own_f_33 p1) from if_neg hc2)]
      refine own_go (fun t k => XS.icmpNo X0.here hx rfl (hb hby d1_27) rfl (flt hc2).1 (XS.iloadN X0.here hx rfl (hb hby d1_30) rfl  (XS.bipush X0.here hx rfl (hb hby d1_31) k))) ?_
      show own_Fin p e below _ (s₁.setTop (mkF m 33 #[.val (.int p1)] [(.int (90 : Int32)), (.int p1)]))
      by_cases hc3 : (90 : Int32) < p1
      · skip
        rw [(show (own_f_33 p1) = (own_f_39 p1) from if_pos hc3)]
        refine own_go (fun t k => XS.icmpNo X0.here hx rfl (hb hby d1_33) rfl (tlt hc3).2.2.2 k) ?_
        exact J0
      · skip
        rw [(show (own_f_33 p1) = (1 : Int32) from if_neg hc3)]
        refine own_go (fun t k => XS.icmpYes X0.here hx rfl (pc0 := 33) (pc' := 42) rfl (hb hby d1_33) rfl (flt hc3).2.2.2 (by decide) (by decide) (XS.iconst X0.here hx rfl (hb hby d1_42) (XS.goto X0.here hx rfl (pc0 := 43) (pc' := 47) rfl (hb hby d1_43) (by decide) (by decide) k))) ?_
        show own_Fin p e below _ (s₁.setTop (mkF m 47 #[.val (.int p1)] [(.int (1 : Int32))]))
        exact own_out X0 (fun h => by rw [Bd.returns] at h; cases h) Bd.notSynchronized (fun fs hr => retN X0 hx (t := .boolean) Bd.returns (by simp) (hb hby d1_47) hr) ⟨rfl, N0, e0⟩ (by decide) (by decide)
  have J2 : own_Fin p e below (own_A s ({ frames := 0, cells := 0, slots := 0, locals := 0 } : Room).cells ({ frames := 0, cells := 0, slots := 0, locals := 0 } : Room).slots (own_P h0 n0 (.int (own_f_15 p1)))) (s₁.setTop (mkF m 12 #[.val (.int p1)] [])) := by
    refine own_go (fun t k => XS.iloadN X0.here hx rfl (hb hby d1_12) rfl  (XS.bipush X0.here hx rfl (hb hby d1_13) k)) ?_
    show own_Fin p e below _ (s₁.setTop (mkF m 15 #[.val (.int p1)] [(.int (97 : Int32)), (.int p1)]))
    by_cases hc4 : p1 < (97 : Int32)
    · skip
      rw [(show (own_f_15 p1) = (own_f_27 p1) from if_pos hc4)]
      refine own_go (fun t k => XS.icmpYes X0.here hx rfl (pc0 := 15) (pc' := 24) rfl (hb hby d1_15) rfl (tlt hc4).1 (by decide) (by decide) k) ?_
      exact J1
    · skip
      rw [(show (own_f_15 p1) = (own_f_21 p1) from if_neg hc4)]
      refine own_go (fun t k => XS.icmpNo X0.here hx rfl (hb hby d1_15) rfl (flt hc4).1 (XS.iloadN X0.here hx rfl (hb hby d1_18) rfl  (XS.bipush X0.here hx rfl (hb hby d1_19) k))) ?_
      show own_Fin p e below _ (s₁.setTop (mkF m 21 #[.val (.int p1)] [(.int (122 : Int32)), (.int p1)]))
      by_cases hc5 : (122 : Int32) < p1
      · skip
        rw [(show (own_f_21 p1) = (own_f_27 p1) from if_pos hc5)]
        refine own_go (fun t k => XS.icmpNo X0.here hx rfl (hb hby d1_21) rfl (tlt hc5).2.2.2 k) ?_
        exact J1
      · skip
        rw [(show (own_f_21 p1) = (1 : Int32) from if_neg hc5)]
        refine own_go (fun t k => XS.icmpYes X0.here hx rfl (pc0 := 21) (pc' := 42) rfl (hb hby d1_21) rfl (flt hc5).2.2.2 (by decide) (by decide) (XS.iconst X0.here hx rfl (hb hby d1_42) (XS.goto X0.here hx rfl (pc0 := 43) (pc' := 47) rfl (hb hby d1_43) (by decide) (by decide) k))) ?_
        show own_Fin p e below _ (s₁.setTop (mkF m 47 #[.val (.int p1)] [(.int (1 : Int32))]))
        exact own_out X0 (fun h => by rw [Bd.returns] at h; cases h) Bd.notSynchronized (fun fs hr => retN X0 hx (t := .boolean) Bd.returns (by simp) (hb hby d1_47) hr) ⟨rfl, N0, e0⟩ (by decide) (by decide)
  show own_Fin p e below _ (s₁.setTop (mkF m 0 #[.val (.int p1)] []))
  refine own_go (fun t k => XS.iloadN X0.here hx rfl (hb hby d1_0) rfl  (XS.bipush X0.here hx rfl (hb hby d1_1) k)) ?_
  show own_Fin p e below _ (s₁.setTop (mkF m 3 #[.val (.int p1)] [(.int (48 : Int32)), (.int p1)]))
  by_cases hc6 : p1 < (48 : Int32)
  · skip
    rw [(show (own_f_3 p1) = (own_f_15 p1) from if_pos hc6)]
    refine own_go (fun t k => XS.icmpYes X0.here hx rfl (pc0 := 3) (pc' := 12) rfl (hb hby d1_3) rfl (tlt hc6).1 (by decide) (by decide) k) ?_
    exact J2
  · skip
    rw [(show (own_f_3 p1) = (own_f_9 p1) from if_neg hc6)]
    refine own_go (fun t k => XS.icmpNo X0.here hx rfl (hb hby d1_3) rfl (flt hc6).1 (XS.iloadN X0.here hx rfl (hb hby d1_6) rfl  (XS.bipush X0.here hx rfl (hb hby d1_7) k))) ?_
    show own_Fin p e below _ (s₁.setTop (mkF m 9 #[.val (.int p1)] [(.int (57 : Int32)), (.int p1)]))
    by_cases hc7 : (57 : Int32) < p1
    · skip
      rw [(show (own_f_9 p1) = (own_f_15 p1) from if_pos hc7)]
      refine own_go (fun t k => XS.icmpNo X0.here hx rfl (hb hby d1_9) rfl (tlt hc7).2.2.2 k) ?_
      exact J2
    · skip
      rw [(show (own_f_9 p1) = (1 : Int32) from if_neg hc7)]
      refine own_go (fun t k => XS.icmpYes X0.here hx rfl (pc0 := 9) (pc' := 42) rfl (hb hby d1_9) rfl (flt hc7).2.2.2 (by decide) (by decide) (XS.iconst X0.here hx rfl (hb hby d1_42) (XS.goto X0.here hx rfl (pc0 := 43) (pc' := 47) rfl (hb hby d1_43) (by decide) (by decide) k))) ?_
      show own_Fin p e below _ (s₁.setTop (mkF m 47 #[.val (.int p1)] [(.int (1 : Int32))]))
      exact own_out X0 (fun h => by rw [Bd.returns] at h; cases h) Bd.notSynchronized (fun fs hr => retN X0 hx (t := .boolean) Bd.returns (by simp) (hb hby d1_47) hr) ⟨rfl, N0, e0⟩ (by decide) (by decide)
theorem d2_0 : decode method_2_code 0 = .ok (.iload_n 0, 1) := by decide +kernel
theorem d2_1 : decode method_2_code 1 = .ok (.i2l, 1) := by decide +kernel
theorem d2_2 : decode method_2_code 2 = .ok (.ldc2_w 7, 3) := by decide +kernel
theorem d2_5 : decode method_2_code 5 = .ok (.lsub, 1) := by decide +kernel
theorem d2_6 : decode method_2_code 6 = .ok (.lstore_n 1, 1) := by decide +kernel
theorem d2_7 : decode method_2_code 7 = .ok (.lload_n 1, 1) := by decide +kernel
theorem d2_8 : decode method_2_code 8 = .ok (.lconst 0, 1) := by decide +kernel
theorem d2_9 : decode method_2_code 9 = .ok (.lcmp, 1) := by decide +kernel
theorem d2_10 : decode method_2_code 10 = .ok (.ifCond .lt 15, 3) := by decide +kernel
theorem d2_13 : decode method_2_code 13 = .ok (.lload_n 1, 1) := by decide +kernel
theorem d2_14 : decode method_2_code 14 = .ok (.ldc2_w 9, 3) := by decide +kernel
theorem d2_17 : decode method_2_code 17 = .ok (.lcmp, 1) := by decide +kernel
theorem d2_18 : decode method_2_code 18 = .ok (.ifCond .ge 7, 3) := by decide +kernel
theorem d2_21 : decode method_2_code 21 = .ok (.iconst 1, 1) := by decide +kernel
theorem d2_22 : decode method_2_code 22 = .ok (.goto 4, 3) := by decide +kernel
theorem d2_25 : decode method_2_code 25 = .ok (.iconst 0, 1) := by decide +kernel
theorem d2_26 : decode method_2_code 26 = .ok (.istore_n 3, 1) := by decide +kernel
theorem d2_27 : decode method_2_code 27 = .ok (.iload_n 0, 1) := by decide +kernel
theorem d2_28 : decode method_2_code 28 = .ok (.bipush 32, 2) := by decide +kernel
theorem d2_30 : decode method_2_code 30 = .ok (.ior, 1) := by decide +kernel
theorem d2_31 : decode method_2_code 31 = .ok (.istore 4, 2) := by decide +kernel
theorem d2_33 : decode method_2_code 33 = .ok (.iload 4, 2) := by decide +kernel
theorem d2_35 : decode method_2_code 35 = .ok (.bipush 97, 2) := by decide +kernel
theorem d2_37 : decode method_2_code 37 = .ok (.if_icmp .lt 14, 3) := by decide +kernel
theorem d2_40 : decode method_2_code 40 = .ok (.iload 4, 2) := by decide +kernel
theorem d2_42 : decode method_2_code 42 = .ok (.bipush 122, 2) := by decide +kernel
theorem d2_44 : decode method_2_code 44 = .ok (.if_icmp .gt 7, 3) := by decide +kernel
theorem d2_47 : decode method_2_code 47 = .ok (.iconst 1, 1) := by decide +kernel
theorem d2_48 : decode method_2_code 48 = .ok (.goto 4, 3) := by decide +kernel
theorem d2_51 : decode method_2_code 51 = .ok (.iconst 0, 1) := by decide +kernel
theorem d2_52 : decode method_2_code 52 = .ok (.istore 5, 2) := by decide +kernel
theorem d2_54 : decode method_2_code 54 = .ok (.iload_n 0, 1) := by decide +kernel
theorem d2_55 : decode method_2_code 55 = .ok (.bipush 45, 2) := by decide +kernel
theorem d2_57 : decode method_2_code 57 = .ok (.if_icmp .ne 7, 3) := by decide +kernel
theorem d2_60 : decode method_2_code 60 = .ok (.iconst 1, 1) := by decide +kernel
theorem d2_61 : decode method_2_code 61 = .ok (.goto 4, 3) := by decide +kernel
theorem d2_64 : decode method_2_code 64 = .ok (.iconst 0, 1) := by decide +kernel
theorem d2_65 : decode method_2_code 65 = .ok (.istore 6, 2) := by decide +kernel
theorem d2_67 : decode method_2_code 67 = .ok (.iload_n 3, 1) := by decide +kernel
theorem d2_68 : decode method_2_code 68 = .ok (.ifCond .ne 13, 3) := by decide +kernel
theorem d2_71 : decode method_2_code 71 = .ok (.iload 5, 2) := by decide +kernel
theorem d2_73 : decode method_2_code 73 = .ok (.ifCond .ne 8, 3) := by decide +kernel
theorem d2_76 : decode method_2_code 76 = .ok (.iload 6, 2) := by decide +kernel
theorem d2_78 : decode method_2_code 78 = .ok (.ifCond .eq 7, 3) := by decide +kernel
theorem d2_81 : decode method_2_code 81 = .ok (.iconst 1, 1) := by decide +kernel
theorem d2_82 : decode method_2_code 82 = .ok (.goto 4, 3) := by decide +kernel
theorem d2_85 : decode method_2_code 85 = .ok (.iconst 0, 1) := by decide +kernel
theorem d2_86 : decode method_2_code 86 = .ok (.ireturn, 1) := by decide +kernel
theorem pn_1 : plainName "com/example/honeyguide/honeyguide/document/YamlCursorIsWordCharPinLaw" = true := by first | (simp [plainName, overriddenIn]; done) | decide +kernel
theorem ef_2 (m : MethodId) (x0 : Int32)  : entryFrame m #[(.int x0)] 7 = mkF m 0 #[.val (.int x0), .unset, .unset, .unset, .unset, .unset, .unset] [] := by first | (simp [entryFrame, mkF, argsToLocals, Value.category]; done) | rfl
def own_g_57 (p1 : Int32) : Int32 := if p1 = (45 : Int32) then (1 : Int32) else (0 : Int32)
def own_g_57_4 (p1 : Int32) : Int32 := if p1 = (45 : Int32) then (1 : Int32) else (1 : Int32)
def own_g_44 (p1 : Int32) : Int32 := if (122 : Int32) < (p1 ||| (32 : Int32)) then (own_g_57 p1) else (own_g_57_4 p1)
def own_g_37 (p1 : Int32) : Int32 := if (p1 ||| (32 : Int32)) < (97 : Int32) then (own_g_57 p1) else (own_g_44 p1)
def own_g_57_7 (p1 : Int32) : Int32 := if p1 = (45 : Int32) then (1 : Int32) else (1 : Int32)
def own_g_57_9 (p1 : Int32) : Int32 := if p1 = (45 : Int32) then (1 : Int32) else (1 : Int32)
def own_g_44_8 (p1 : Int32) : Int32 := if (122 : Int32) < (p1 ||| (32 : Int32)) then (own_g_57_7 p1) else (own_g_57_9 p1)
def own_g_37_6 (p1 : Int32) : Int32 := if (p1 ||| (32 : Int32)) < (97 : Int32) then (own_g_57_7 p1) else (own_g_44_8 p1)
def own_g_18 (p1 : Int32) : Int32 := if ((p1.toInt64) - (48 : Int64)) < (10 : Int64) then (own_g_37_6 p1) else (own_g_37 p1)
def own_g_10 (p1 : Int32) : Int32 := if ((p1.toInt64) - (48 : Int64)) < (0 : Int64) then (own_g_37 p1) else (own_g_18 p1)
set_option maxRecDepth 65536 in
set_option maxHeartbeats 40000000 in
theorem rm2 (l : Launch) (Z : State) (a0 : Array Value) (hw : ∀ d ∈ tables_1, d.before a0 Z = true) (ws : List Jvm.Cond) (p1 : Int32) (h0 : Heap) (n0 : Nat) (Z0 : n0 ≤ h0.size) :
    MetFree l (⟨"com/example/honeyguide/honeyguide/document/YamlCursorIsWordCharPinLaw", "expected", "(I)Z"⟩ : MethodName) (head1 (Jvm.Cond.code (⟨"com/example/honeyguide/honeyguide/document/YamlCursorIsWordCharPinLaw", "expected", "(I)Z"⟩ : MethodName) method_2_code 7 (some .boolean) :: ws) ({ frames := 0, cells := 0, slots := 0, locals := 0 } : Room)) (fun a U => a = #[(.int p1)] ∧ Z.Warmed39 U.vm ∧ U.heap = h0) (fun _ _ _ _ _ => True) (fun _ U o U' => ∃ v L, o = .returned v ∧ (own_P h0 n0 (.int (own_g_10 p1))) v U'.heap L ∧ FrameEnd U o U' L ({ frames := 0, cells := 0, slots := 0, locals := 0 } : Room).cells ({ frames := 0, cells := 0, slots := 0, locals := 0 } : Room).slots) := by
  refine MetFree.of_bodySF (plainFor_of_name pn_1) hisR ?_
  intro p e s m args below meth c s₁ Bd hml0 hP hK
  obtain ⟨rfl, hZ, hh⟩ := hP
  have hx := Bd.exec
  have hby := Bd.bytes
  have hml : c.maxLocals = 7 := hml0
  have hown : s.vm.findClass "com/example/honeyguide/honeyguide/document/YamlCursorIsWordCharPinLaw" = some m.cls := findClass_of_methodNamed Bd.named
  have hnm := (name_of_methodNamed Bd.named Bd.method).1
  have X0 : Stand p l e ({ frames := 0, cells := 0, slots := 0, locals := 0 } : Room) s m #[(.int p1)] below meth c s₁ [] 0 0 := Stand.of_body Bd
  have e0 : s₁.heap = h0 := by rw [← hh, Bd.state]; rfl
  have N0 := Fr.nil n0
  have hw_8 := hw _ (List.mem_of_getElem? (i := 8) rfl)
  have hw_9 := hw _ (List.mem_of_getElem? (i := 9) rfl)
  show own_Fin p e below (own_A s ({ frames := 0, cells := 0, slots := 0, locals := 0 } : Room).cells ({ frames := 0, cells := 0, slots := 0, locals := 0 } : Room).slots (own_P h0 n0 (.int (own_g_10 p1)))) _
  refine own_go (fun t k => castTop (ef_2 m (p1)) k) ?_
  have J0 : own_Fin p e below (own_A s ({ frames := 0, cells := 0, slots := 0, locals := 0 } : Room).cells ({ frames := 0, cells := 0, slots := 0, locals := 0 } : Room).slots (own_P h0 n0 (.int (own_g_57 p1)))) (s₁.setTop (mkF m 51 #[.val (.int p1), .val (.long ((p1.toInt64) - (48 : Int64))), .second, .val (.int (0 : Int32)), .val (.int (p1 ||| (32 : Int32))), .unset, .unset] [])) := by
    refine own_go (fun t k => XS.iconst X0.here hx rfl (hb hby d2_51) (XS.istore X0.here hx rfl (hb hby d2_52) rfl (l' := #[.val (.int p1), .val (.long ((p1.toInt64) - (48 : Int64))), .second, .val (.int (0 : Int32)), .val (.int (p1 ||| (32 : Int32))), .val (.int (0 : Int32)), .unset]) rfl (XS.iloadN X0.here hx rfl (hb hby d2_54) rfl  (XS.bipush X0.here hx rfl (hb hby d2_55) k)))) ?_
    show own_Fin p e below _ (s₁.setTop (mkF m 57 #[.val (.int p1), .val (.long ((p1.toInt64) - (48 : Int64))), .second, .val (.int (0 : Int32)), .val (.int (p1 ||| (32 : Int32))), .val (.int (0 : Int32)), .unset] [(.int (45 : Int32)), (.int p1)]))
    by_cases hc1 : p1 = (45 : Int32)
    · skip
      rw [(show (own_g_57 p1) = (1 : Int32) from if_pos hc1)]
      refine own_go (fun t k => XS.icmpNo X0.here hx rfl (hb hby d2_57) rfl (teq hc1).2 (XS.iconst X0.here hx rfl (hb hby d2_60) (XS.goto X0.here hx rfl (pc0 := 61) (pc' := 65) rfl (hb hby d2_61) (by decide) (by decide) (XS.istore X0.here hx rfl (hb hby d2_65) rfl (l' := #[.val (.int p1), .val (.long ((p1.toInt64) - (48 : Int64))), .second, .val (.int (0 : Int32)), .val (.int (p1 ||| (32 : Int32))), .val (.int (0 : Int32)), .val (.int (1 : Int32))]) rfl k)))) ?_
      show own_Fin p e below _ (s₁.setTop (mkF m 67 #[.val (.int p1), .val (.long ((p1.toInt64) - (48 : Int64))), .second, .val (.int (0 : Int32)), .val (.int (p1 ||| (32 : Int32))), .val (.int (0 : Int32)), .val (.int (1 : Int32))] []))
      refine own_go (fun t k => XS.iloadN X0.here hx rfl (hb hby d2_67) rfl  k) ?_
      show own_Fin p e below _ (s₁.setTop (mkF m 68 #[.val (.int p1), .val (.long ((p1.toInt64) - (48 : Int64))), .second, .val (.int (0 : Int32)), .val (.int (p1 ||| (32 : Int32))), .val (.int (0 : Int32)), .val (.int (1 : Int32))] [(.int (0 : Int32))]))
      refine own_go (fun t k => XS.ifNo X0.here hx rfl (hb hby d2_68) rfl ((if0 _ _).trans (teq (by decide : (0 : Int32) = (0 : Int32))).2) (XS.iload X0.here hx rfl (hb hby d2_71) rfl  k)) ?_
      show own_Fin p e below _ (s₁.setTop (mkF m 73 #[.val (.int p1), .val (.long ((p1.toInt64) - (48 : Int64))), .second, .val (.int (0 : Int32)), .val (.int (p1 ||| (32 : Int32))), .val (.int (0 : Int32)), .val (.int (1 : Int32))] [(.int (0 : Int32))]))
      refine own_go (fun t k => XS.ifNo X0.here hx rfl (hb hby d2_73) rfl ((if0 _ _).trans (teq (by decide : (0 : Int32) = (0 : Int32))).2) (XS.iload X0.here hx rfl (hb hby d2_76) rfl  k)) ?_
      show own_Fin p e below _ (s₁.setTop (mkF m 78 #[.val (.int p1), .val (.long ((p1.toInt64) - (48 : Int64))), .second, .val (.int (0 : Int32)), .val (.int (p1 ||| (32 : Int32))), .val (.int (0 : Int32)), .val (.int (1 : Int32))] [(.int (1 : Int32))]))
      refine own_go (fun t k => XS.ifNo X0.here hx rfl (hb hby d2_78) rfl ((if0 _ _).trans (feq (by decide : ¬ ((1 : Int32) = (0 : Int32)))).1) (XS.iconst X0.here hx rfl (hb hby d2_81) (XS.goto X0.here hx rfl (pc0 := 82) (pc' := 86) rfl (hb hby d2_82) (by decide) (by decide) k))) ?_
      show own_Fin p e below _ (s₁.setTop (mkF m 86 #[.val (.int p1), .val (.long ((p1.toInt64) - (48 : Int64))), .second, .val (.int (0 : Int32)), .val (.int (p1 ||| (32 : Int32))), .val (.int (0 : Int32)), .val (.int (1 : Int32))] [(.int (1 : Int32))]))
      exact own_out X0 (fun h => by rw [Bd.returns] at h; cases h) Bd.notSynchronized (fun fs hr => retN X0 hx (t := .boolean) Bd.returns (by simp) (hb hby d2_86) hr) ⟨rfl, N0, e0⟩ (by decide) (by decide)
    · skip
      rw [(show (own_g_57 p1) = (0 : Int32) from if_neg hc1)]
      refine own_go (fun t k => XS.icmpYes X0.here hx rfl (pc0 := 57) (pc' := 64) rfl (hb hby d2_57) rfl (feq hc1).2 (by decide) (by decide) (XS.iconst X0.here hx rfl (hb hby d2_64) (XS.istore X0.here hx rfl (hb hby d2_65) rfl (l' := #[.val (.int p1), .val (.long ((p1.toInt64) - (48 : Int64))), .second, .val (.int (0 : Int32)), .val (.int (p1 ||| (32 : Int32))), .val (.int (0 : Int32)), .val (.int (0 : Int32))]) rfl (XS.iloadN X0.here hx rfl (hb hby d2_67) rfl  k)))) ?_
      show own_Fin p e below _ (s₁.setTop (mkF m 68 #[.val (.int p1), .val (.long ((p1.toInt64) - (48 : Int64))), .second, .val (.int (0 : Int32)), .val (.int (p1 ||| (32 : Int32))), .val (.int (0 : Int32)), .val (.int (0 : Int32))] [(.int (0 : Int32))]))
      refine own_go (fun t k => XS.ifNo X0.here hx rfl (hb hby d2_68) rfl ((if0 _ _).trans (teq (by decide : (0 : Int32) = (0 : Int32))).2) (XS.iload X0.here hx rfl (hb hby d2_71) rfl  k)) ?_
      show own_Fin p e below _ (s₁.setTop (mkF m 73 #[.val (.int p1), .val (.long ((p1.toInt64) - (48 : Int64))), .second, .val (.int (0 : Int32)), .val (.int (p1 ||| (32 : Int32))), .val (.int (0 : Int32)), .val (.int (0 : Int32))] [(.int (0 : Int32))]))
      refine own_go (fun t k => XS.ifNo X0.here hx rfl (hb hby d2_73) rfl ((if0 _ _).trans (teq (by decide : (0 : Int32) = (0 : Int32))).2) (XS.iload X0.here hx rfl (hb hby d2_76) rfl  k)) ?_
      show own_Fin p e below _ (s₁.setTop (mkF m 78 #[.val (.int p1), .val (.long ((p1.toInt64) - (48 : Int64))), .second, .val (.int (0 : Int32)), .val (.int (p1 ||| (32 : Int32))), .val (.int (0 : Int32)), .val (.int (0 : Int32))] [(.int (0 : Int32))]))
      refine own_go (fun t k => XS.ifYes X0.here hx rfl (pc0 := 78) (pc' := 85) rfl (hb hby d2_78) rfl ((if0 _ _).trans (teq (by decide : (0 : Int32) = (0 : Int32))).1) (by decide) (by decide) (XS.iconst X0.here hx rfl (hb hby d2_85) k)) ?_
      show own_Fin p e below _ (s₁.setTop (mkF m 86 #[.val (.int p1), .val (.long ((p1.toInt64) - (48 : Int64))), .second, .val (.int (0 : Int32)), .val (.int (p1 ||| (32 : Int32))), .val (.int (0 : Int32)), .val (.int (0 : Int32))] [(.int (0 : Int32))]))
      exact own_out X0 (fun h => by rw [Bd.returns] at h; cases h) Bd.notSynchronized (fun fs hr => retN X0 hx (t := .boolean) Bd.returns (by simp) (hb hby d2_86) hr) ⟨rfl, N0, e0⟩ (by decide) (by decide)
  have J1 : own_Fin p e below (own_A s ({ frames := 0, cells := 0, slots := 0, locals := 0 } : Room).cells ({ frames := 0, cells := 0, slots := 0, locals := 0 } : Room).slots (own_P h0 n0 (.int (own_g_37 p1)))) (s₁.setTop (mkF m 25 #[.val (.int p1), .val (.long ((p1.toInt64) - (48 : Int64))), .second, .unset, .unset, .unset, .unset] [])) := by
    refine own_go (fun t k => XS.iconst X0.here hx rfl (hb hby d2_25) (XS.istoreN X0.here hx rfl (hb hby d2_26) rfl (l' := #[.val (.int p1), .val (.long ((p1.toInt64) - (48 : Int64))), .second, .val (.int (0 : Int32)), .unset, .unset, .unset]) rfl (XS.iloadN X0.here hx rfl (hb hby d2_27) rfl  (XS.bipush X0.here hx rfl (hb hby d2_28) k)))) ?_
    show own_Fin p e below _ (s₁.setTop (mkF m 30 #[.val (.int p1), .val (.long ((p1.toInt64) - (48 : Int64))), .second, .val (.int (0 : Int32)), .unset, .unset, .unset] [(.int (32 : Int32)), (.int p1)]))
    refine own_go (fun t k => XS.ior X0.here hx rfl (hb hby d2_30) rfl (XS.istore X0.here hx rfl (hb hby d2_31) rfl (l' := #[.val (.int p1), .val (.long ((p1.toInt64) - (48 : Int64))), .second, .val (.int (0 : Int32)), .val (.int (p1 ||| (32 : Int32))), .unset, .unset]) rfl (XS.iload X0.here hx rfl (hb hby d2_33) rfl  (XS.bipush X0.here hx rfl (hb hby d2_35) k)))) ?_
    show own_Fin p e below _ (s₁.setTop (mkF m 37 #[.val (.int p1), .val (.long ((p1.toInt64) - (48 : Int64))), .second, .val (.int (0 : Int32)), .val (.int (p1 ||| (32 : Int32))), .unset, .unset] [(.int (97 : Int32)), (.int (p1 ||| (32 : Int32)))]))
    by_cases hc2 : (p1 ||| (32 : Int32)) < (97 : Int32)
    · skip
      rw [(show (own_g_37 p1) = (own_g_57 p1) from if_pos hc2)]
      refine own_go (fun t k => XS.icmpYes X0.here hx rfl (pc0 := 37) (pc' := 51) rfl (hb hby d2_37) rfl (tlt hc2).1 (by decide) (by decide) k) ?_
      exact J0
    · skip
      rw [(show (own_g_37 p1) = (own_g_44 p1) from if_neg hc2)]
      refine own_go (fun t k => XS.icmpNo X0.here hx rfl (hb hby d2_37) rfl (flt hc2).1 (XS.iload X0.here hx rfl (hb hby d2_40) rfl  (XS.bipush X0.here hx rfl (hb hby d2_42) k))) ?_
      show own_Fin p e below _ (s₁.setTop (mkF m 44 #[.val (.int p1), .val (.long ((p1.toInt64) - (48 : Int64))), .second, .val (.int (0 : Int32)), .val (.int (p1 ||| (32 : Int32))), .unset, .unset] [(.int (122 : Int32)), (.int (p1 ||| (32 : Int32)))]))
      by_cases hc3 : (122 : Int32) < (p1 ||| (32 : Int32))
      · skip
        rw [(show (own_g_44 p1) = (own_g_57 p1) from if_pos hc3)]
        refine own_go (fun t k => XS.icmpYes X0.here hx rfl (pc0 := 44) (pc' := 51) rfl (hb hby d2_44) rfl (tlt hc3).2.2.1 (by decide) (by decide) k) ?_
        exact J0
      · skip
        rw [(show (own_g_44 p1) = (own_g_57_4 p1) from if_neg hc3)]
        refine own_go (fun t k => XS.icmpNo X0.here hx rfl (hb hby d2_44) rfl (flt hc3).2.2.1 (XS.iconst X0.here hx rfl (hb hby d2_47) (XS.goto X0.here hx rfl (pc0 := 48) (pc' := 52) rfl (hb hby d2_48) (by decide) (by decide) (XS.istore X0.here hx rfl (hb hby d2_52) rfl (l' := #[.val (.int p1), .val (.long ((p1.toInt64) - (48 : Int64))), .second, .val (.int (0 : Int32)), .val (.int (p1 ||| (32 : Int32))), .val (.int (1 : Int32)), .unset]) rfl k)))) ?_
        show own_Fin p e below _ (s₁.setTop (mkF m 54 #[.val (.int p1), .val (.long ((p1.toInt64) - (48 : Int64))), .second, .val (.int (0 : Int32)), .val (.int (p1 ||| (32 : Int32))), .val (.int (1 : Int32)), .unset] []))
        refine own_go (fun t k => XS.iloadN X0.here hx rfl (hb hby d2_54) rfl  (XS.bipush X0.here hx rfl (hb hby d2_55) k)) ?_
        show own_Fin p e below _ (s₁.setTop (mkF m 57 #[.val (.int p1), .val (.long ((p1.toInt64) - (48 : Int64))), .second, .val (.int (0 : Int32)), .val (.int (p1 ||| (32 : Int32))), .val (.int (1 : Int32)), .unset] [(.int (45 : Int32)), (.int p1)]))
        by_cases hc4 : p1 = (45 : Int32)
        · skip
          rw [(show (own_g_57_4 p1) = (1 : Int32) from if_pos hc4)]
          refine own_go (fun t k => XS.icmpNo X0.here hx rfl (hb hby d2_57) rfl (teq hc4).2 (XS.iconst X0.here hx rfl (hb hby d2_60) (XS.goto X0.here hx rfl (pc0 := 61) (pc' := 65) rfl (hb hby d2_61) (by decide) (by decide) (XS.istore X0.here hx rfl (hb hby d2_65) rfl (l' := #[.val (.int p1), .val (.long ((p1.toInt64) - (48 : Int64))), .second, .val (.int (0 : Int32)), .val (.int (p1 ||| (32 : Int32))), .val (.int (1 : Int32)), .val (.int (1 : Int32))]) rfl k)))) ?_
          show own_Fin p e below _ (s₁.setTop (mkF m 67 #[.val (.int p1), .val (.long ((p1.toInt64) - (48 : Int64))), .second, .val (.int (0 : Int32)), .val (.int (p1 ||| (32 : Int32))), .val (.int (1 : Int32)), .val (.int (1 : Int32))] []))
          refine own_go (fun t k => XS.iloadN X0.here hx rfl (hb hby d2_67) rfl  k) ?_
          show own_Fin p e below _ (s₁.setTop (mkF m 68 #[.val (.int p1), .val (.long ((p1.toInt64) - (48 : Int64))), .second, .val (.int (0 : Int32)), .val (.int (p1 ||| (32 : Int32))), .val (.int (1 : Int32)), .val (.int (1 : Int32))] [(.int (0 : Int32))]))
          refine own_go (fun t k => XS.ifNo X0.here hx rfl (hb hby d2_68) rfl ((if0 _ _).trans (teq (by decide : (0 : Int32) = (0 : Int32))).2) (XS.iload X0.here hx rfl (hb hby d2_71) rfl  k)) ?_
          show own_Fin p e below _ (s₁.setTop (mkF m 73 #[.val (.int p1), .val (.long ((p1.toInt64) - (48 : Int64))), .second, .val (.int (0 : Int32)), .val (.int (p1 ||| (32 : Int32))), .val (.int (1 : Int32)), .val (.int (1 : Int32))] [(.int (1 : Int32))]))
          refine own_go (fun t k => XS.ifYes X0.here hx rfl (pc0 := 73) (pc' := 81) rfl (hb hby d2_73) rfl ((if0 _ _).trans (feq (by decide : ¬ ((1 : Int32) = (0 : Int32)))).2) (by decide) (by decide) (XS.iconst X0.here hx rfl (hb hby d2_81) (XS.goto X0.here hx rfl (pc0 := 82) (pc' := 86) rfl (hb hby d2_82) (by decide) (by decide) k))) ?_
          show own_Fin p e below _ (s₁.setTop (mkF m 86 #[.val (.int p1), .val (.long ((p1.toInt64) - (48 : Int64))), .second, .val (.int (0 : Int32)), .val (.int (p1 ||| (32 : Int32))), .val (.int (1 : Int32)), .val (.int (1 : Int32))] [(.int (1 : Int32))]))
          exact own_out X0 (fun h => by rw [Bd.returns] at h; cases h) Bd.notSynchronized (fun fs hr => retN X0 hx (t := .boolean) Bd.returns (by simp) (hb hby d2_86) hr) ⟨rfl, N0, e0⟩ (by decide) (by decide)
        · skip
          rw [(show (own_g_57_4 p1) = (1 : Int32) from if_neg hc4)]
          refine own_go (fun t k => XS.icmpYes X0.here hx rfl (pc0 := 57) (pc' := 64) rfl (hb hby d2_57) rfl (feq hc4).2 (by decide) (by decide) (XS.iconst X0.here hx rfl (hb hby d2_64) (XS.istore X0.here hx rfl (hb hby d2_65) rfl (l' := #[.val (.int p1), .val (.long ((p1.toInt64) - (48 : Int64))), .second, .val (.int (0 : Int32)), .val (.int (p1 ||| (32 : Int32))), .val (.int (1 : Int32)), .val (.int (0 : Int32))]) rfl (XS.iloadN X0.here hx rfl (hb hby d2_67) rfl  k)))) ?_
          show own_Fin p e below _ (s₁.setTop (mkF m 68 #[.val (.int p1), .val (.long ((p1.toInt64) - (48 : Int64))), .second, .val (.int (0 : Int32)), .val (.int (p1 ||| (32 : Int32))), .val (.int (1 : Int32)), .val (.int (0 : Int32))] [(.int (0 : Int32))]))
          refine own_go (fun t k => XS.ifNo X0.here hx rfl (hb hby d2_68) rfl ((if0 _ _).trans (teq (by decide : (0 : Int32) = (0 : Int32))).2) (XS.iload X0.here hx rfl (hb hby d2_71) rfl  k)) ?_
          show own_Fin p e below _ (s₁.setTop (mkF m 73 #[.val (.int p1), .val (.long ((p1.toInt64) - (48 : Int64))), .second, .val (.int (0 : Int32)), .val (.int (p1 ||| (32 : Int32))), .val (.int (1 : Int32)), .val (.int (0 : Int32))] [(.int (1 : Int32))]))
          refine own_go (fun t k => XS.ifYes X0.here hx rfl (pc0 := 73) (pc' := 81) rfl (hb hby d2_73) rfl ((if0 _ _).trans (feq (by decide : ¬ ((1 : Int32) = (0 : Int32)))).2) (by decide) (by decide) (XS.iconst X0.here hx rfl (hb hby d2_81) (XS.goto X0.here hx rfl (pc0 := 82) (pc' := 86) rfl (hb hby d2_82) (by decide) (by decide) k))) ?_
          show own_Fin p e below _ (s₁.setTop (mkF m 86 #[.val (.int p1), .val (.long ((p1.toInt64) - (48 : Int64))), .second, .val (.int (0 : Int32)), .val (.int (p1 ||| (32 : Int32))), .val (.int (1 : Int32)), .val (.int (0 : Int32))] [(.int (1 : Int32))]))
          exact own_out X0 (fun h => by rw [Bd.returns] at h; cases h) Bd.notSynchronized (fun fs hr => retN X0 hx (t := .boolean) Bd.returns (by simp) (hb hby d2_86) hr) ⟨rfl, N0, e0⟩ (by decide) (by decide)
  have J2 : own_Fin p e below (own_A s ({ frames := 0, cells := 0, slots := 0, locals := 0 } : Room).cells ({ frames := 0, cells := 0, slots := 0, locals := 0 } : Room).slots (own_P h0 n0 (.int (own_g_57_7 p1)))) (s₁.setTop (mkF m 51 #[.val (.int p1), .val (.long ((p1.toInt64) - (48 : Int64))), .second, .val (.int (1 : Int32)), .val (.int (p1 ||| (32 : Int32))), .unset, .unset] [])) := by
    refine own_go (fun t k => XS.iconst X0.here hx rfl (hb hby d2_51) (XS.istore X0.here hx rfl (hb hby d2_52) rfl (l' := #[.val (.int p1), .val (.long ((p1.toInt64) - (48 : Int64))), .second, .val (.int (1 : Int32)), .val (.int (p1 ||| (32 : Int32))), .val (.int (0 : Int32)), .unset]) rfl (XS.iloadN X0.here hx rfl (hb hby d2_54) rfl  (XS.bipush X0.here hx rfl (hb hby d2_55) k)))) ?_
    show own_Fin p e below _ (s₁.setTop (mkF m 57 #[.val (.int p1), .val (.long ((p1.toInt64) - (48 : Int64))), .second, .val (.int (1 : Int32)), .val (.int (p1 ||| (32 : Int32))), .val (.int (0 : Int32)), .unset] [(.int (45 : Int32)), (.int p1)]))
    by_cases hc5 : p1 = (45 : Int32)
    · skip
      rw [(show (own_g_57_7 p1) = (1 : Int32) from if_pos hc5)]
      refine own_go (fun t k => XS.icmpNo X0.here hx rfl (hb hby d2_57) rfl (teq hc5).2 (XS.iconst X0.here hx rfl (hb hby d2_60) (XS.goto X0.here hx rfl (pc0 := 61) (pc' := 65) rfl (hb hby d2_61) (by decide) (by decide) (XS.istore X0.here hx rfl (hb hby d2_65) rfl (l' := #[.val (.int p1), .val (.long ((p1.toInt64) - (48 : Int64))), .second, .val (.int (1 : Int32)), .val (.int (p1 ||| (32 : Int32))), .val (.int (0 : Int32)), .val (.int (1 : Int32))]) rfl k)))) ?_
      show own_Fin p e below _ (s₁.setTop (mkF m 67 #[.val (.int p1), .val (.long ((p1.toInt64) - (48 : Int64))), .second, .val (.int (1 : Int32)), .val (.int (p1 ||| (32 : Int32))), .val (.int (0 : Int32)), .val (.int (1 : Int32))] []))
      refine own_go (fun t k => XS.iloadN X0.here hx rfl (hb hby d2_67) rfl  k) ?_
      show own_Fin p e below _ (s₁.setTop (mkF m 68 #[.val (.int p1), .val (.long ((p1.toInt64) - (48 : Int64))), .second, .val (.int (1 : Int32)), .val (.int (p1 ||| (32 : Int32))), .val (.int (0 : Int32)), .val (.int (1 : Int32))] [(.int (1 : Int32))]))
      refine own_go (fun t k => XS.ifYes X0.here hx rfl (pc0 := 68) (pc' := 81) rfl (hb hby d2_68) rfl ((if0 _ _).trans (feq (by decide : ¬ ((1 : Int32) = (0 : Int32)))).2) (by decide) (by decide) (XS.iconst X0.here hx rfl (hb hby d2_81) (XS.goto X0.here hx rfl (pc0 := 82) (pc' := 86) rfl (hb hby d2_82) (by decide) (by decide) k))) ?_
      show own_Fin p e below _ (s₁.setTop (mkF m 86 #[.val (.int p1), .val (.long ((p1.toInt64) - (48 : Int64))), .second, .val (.int (1 : Int32)), .val (.int (p1 ||| (32 : Int32))), .val (.int (0 : Int32)), .val (.int (1 : Int32))] [(.int (1 : Int32))]))
      exact own_out X0 (fun h => by rw [Bd.returns] at h; cases h) Bd.notSynchronized (fun fs hr => retN X0 hx (t := .boolean) Bd.returns (by simp) (hb hby d2_86) hr) ⟨rfl, N0, e0⟩ (by decide) (by decide)
    · skip
      rw [(show (own_g_57_7 p1) = (1 : Int32) from if_neg hc5)]
      refine own_go (fun t k => XS.icmpYes X0.here hx rfl (pc0 := 57) (pc' := 64) rfl (hb hby d2_57) rfl (feq hc5).2 (by decide) (by decide) (XS.iconst X0.here hx rfl (hb hby d2_64) (XS.istore X0.here hx rfl (hb hby d2_65) rfl (l' := #[.val (.int p1), .val (.long ((p1.toInt64) - (48 : Int64))), .second, .val (.int (1 : Int32)), .val (.int (p1 ||| (32 : Int32))), .val (.int (0 : Int32)), .val (.int (0 : Int32))]) rfl (XS.iloadN X0.here hx rfl (hb hby d2_67) rfl  k)))) ?_
      show own_Fin p e below _ (s₁.setTop (mkF m 68 #[.val (.int p1), .val (.long ((p1.toInt64) - (48 : Int64))), .second, .val (.int (1 : Int32)), .val (.int (p1 ||| (32 : Int32))), .val (.int (0 : Int32)), .val (.int (0 : Int32))] [(.int (1 : Int32))]))
      refine own_go (fun t k => XS.ifYes X0.here hx rfl (pc0 := 68) (pc' := 81) rfl (hb hby d2_68) rfl ((if0 _ _).trans (feq (by decide : ¬ ((1 : Int32) = (0 : Int32)))).2) (by decide) (by decide) (XS.iconst X0.here hx rfl (hb hby d2_81) (XS.goto X0.here hx rfl (pc0 := 82) (pc' := 86) rfl (hb hby d2_82) (by decide) (by decide) k))) ?_
      show own_Fin p e below _ (s₁.setTop (mkF m 86 #[.val (.int p1), .val (.long ((p1.toInt64) - (48 : Int64))), .second, .val (.int (1 : Int32)), .val (.int (p1 ||| (32 : Int32))), .val (.int (0 : Int32)), .val (.int (0 : Int32))] [(.int (1 : Int32))]))
      exact own_out X0 (fun h => by rw [Bd.returns] at h; cases h) Bd.notSynchronized (fun fs hr => retN X0 hx (t := .boolean) Bd.returns (by simp) (hb hby d2_86) hr) ⟨rfl, N0, e0⟩ (by decide) (by decide)
  show own_Fin p e below _ (s₁.setTop (mkF m 0 #[.val (.int p1), .unset, .unset, .unset, .unset, .unset, .unset] []))
  refine own_go (fun t k => XS.iloadN X0.here hx rfl (hb hby d2_0) rfl  (XS.i2l X0.here hx rfl (hb hby d2_1) rfl k)) ?_
  show own_Fin p e below _ (s₁.setTop (mkF m 2 #[.val (.int p1), .unset, .unset, .unset, .unset, .unset, .unset] [(.long (p1.toInt64))]))
  refine own_go (fun t k => X0.ldc2Long hx hown (mvT hZ hw_8) (g := (mkF m 2 #[.val (.int p1), .unset, .unset, .unset, .unset, .unset, .unset] [(.long (p1.toInt64))])) rfl (hb hby d2_2) _ (XS.lsub X0.here hx rfl (hb hby d2_5) rfl (XS.lstoreN X0.here hx rfl (hb hby d2_6) rfl (l' := #[.val (.int p1), .val (.long ((p1.toInt64) - (48 : Int64))), .second, .unset, .unset, .unset, .unset]) rfl (XS.lloadN X0.here hx rfl (hb hby d2_7) rfl  k)))) ?_
  show own_Fin p e below _ (s₁.setTop (mkF m 8 #[.val (.int p1), .val (.long ((p1.toInt64) - (48 : Int64))), .second, .unset, .unset, .unset, .unset] [(.long ((p1.toInt64) - (48 : Int64)))]))
  refine own_go (fun t k => XS.lconst X0.here hx rfl (hb hby d2_8) (XS.lcmp X0.here hx rfl (hb hby d2_9) rfl k)) ?_
  show own_Fin p e below _ (s₁.setTop (mkF m 10 #[.val (.int p1), .val (.long ((p1.toInt64) - (48 : Int64))), .second, .unset, .unset, .unset, .unset] [(.int (lcmpW ((p1.toInt64) - (48 : Int64)) (0 : Int64)))]))
  by_cases hc6 : ((p1.toInt64) - (48 : Int64)) < (0 : Int64)
  · skip
    rw [(show (own_g_10 p1) = (own_g_37 p1) from if_pos hc6)]
    refine own_go (fun t k => XS.ifYes X0.here hx rfl (pc0 := 10) (pc' := 25) rfl (hb hby d2_10) rfl ((if0 _ _).trans (tlt ((lw_lt _ _).mpr hc6)).1) (by decide) (by decide) k) ?_
    exact J1
  · skip
    rw [(show (own_g_10 p1) = (own_g_18 p1) from if_neg hc6)]
    refine own_go (fun t k => XS.ifNo X0.here hx rfl (hb hby d2_10) rfl ((if0 _ _).trans (flt (fun q => hc6 ((lw_lt _ _).mp q))).1) (XS.lloadN X0.here hx rfl (hb hby d2_13) rfl  k)) ?_
    show own_Fin p e below _ (s₁.setTop (mkF m 14 #[.val (.int p1), .val (.long ((p1.toInt64) - (48 : Int64))), .second, .unset, .unset, .unset, .unset] [(.long ((p1.toInt64) - (48 : Int64)))]))
    refine own_go (fun t k => X0.ldc2Long hx hown (mvT hZ hw_9) (g := (mkF m 14 #[.val (.int p1), .val (.long ((p1.toInt64) - (48 : Int64))), .second, .unset, .unset, .unset, .unset] [(.long ((p1.toInt64) - (48 : Int64)))])) rfl (hb hby d2_14) _ (XS.lcmp X0.here hx rfl (hb hby d2_17) rfl k)) ?_
    show own_Fin p e below _ (s₁.setTop (mkF m 18 #[.val (.int p1), .val (.long ((p1.toInt64) - (48 : Int64))), .second, .unset, .unset, .unset, .unset] [(.int (lcmpW ((p1.toInt64) - (48 : Int64)) (10 : Int64)))]))
    by_cases hc7 : ((p1.toInt64) - (48 : Int64)) < (10 : Int64)
    · skip
      rw [(show (own_g_18 p1) = (own_g_37_6 p1) from if_pos hc7)]
      refine own_go (fun t k => XS.ifNo X0.here hx rfl (hb hby d2_18) rfl ((if0 _ _).trans (tlt ((lw_lt _ _).mpr hc7)).2.1) (XS.iconst X0.here hx rfl (hb hby d2_21) (XS.goto X0.here hx rfl (pc0 := 22) (pc' := 26) rfl (hb hby d2_22) (by decide) (by decide) (XS.istoreN X0.here hx rfl (hb hby d2_26) rfl (l' := #[.val (.int p1), .val (.long ((p1.toInt64) - (48 : Int64))), .second, .val (.int (1 : Int32)), .unset, .unset, .unset]) rfl k)))) ?_
      show own_Fin p e below _ (s₁.setTop (mkF m 27 #[.val (.int p1), .val (.long ((p1.toInt64) - (48 : Int64))), .second, .val (.int (1 : Int32)), .unset, .unset, .unset] []))
      refine own_go (fun t k => XS.iloadN X0.here hx rfl (hb hby d2_27) rfl  (XS.bipush X0.here hx rfl (hb hby d2_28) (XS.ior X0.here hx rfl (hb hby d2_30) rfl (XS.istore X0.here hx rfl (hb hby d2_31) rfl (l' := #[.val (.int p1), .val (.long ((p1.toInt64) - (48 : Int64))), .second, .val (.int (1 : Int32)), .val (.int (p1 ||| (32 : Int32))), .unset, .unset]) rfl k)))) ?_
      show own_Fin p e below _ (s₁.setTop (mkF m 33 #[.val (.int p1), .val (.long ((p1.toInt64) - (48 : Int64))), .second, .val (.int (1 : Int32)), .val (.int (p1 ||| (32 : Int32))), .unset, .unset] []))
      refine own_go (fun t k => XS.iload X0.here hx rfl (hb hby d2_33) rfl  (XS.bipush X0.here hx rfl (hb hby d2_35) k)) ?_
      show own_Fin p e below _ (s₁.setTop (mkF m 37 #[.val (.int p1), .val (.long ((p1.toInt64) - (48 : Int64))), .second, .val (.int (1 : Int32)), .val (.int (p1 ||| (32 : Int32))), .unset, .unset] [(.int (97 : Int32)), (.int (p1 ||| (32 : Int32)))]))
      by_cases hc8 : (p1 ||| (32 : Int32)) < (97 : Int32)
      · skip
        rw [(show (own_g_37_6 p1) = (own_g_57_7 p1) from if_pos hc8)]
        refine own_go (fun t k => XS.icmpYes X0.here hx rfl (pc0 := 37) (pc' := 51) rfl (hb hby d2_37) rfl (tlt hc8).1 (by decide) (by decide) k) ?_
        exact J2
      · skip
        rw [(show (own_g_37_6 p1) = (own_g_44_8 p1) from if_neg hc8)]
        refine own_go (fun t k => XS.icmpNo X0.here hx rfl (hb hby d2_37) rfl (flt hc8).1 (XS.iload X0.here hx rfl (hb hby d2_40) rfl  (XS.bipush X0.here hx rfl (hb hby d2_42) k))) ?_
        show own_Fin p e below _ (s₁.setTop (mkF m 44 #[.val (.int p1), .val (.long ((p1.toInt64) - (48 : Int64))), .second, .val (.int (1 : Int32)), .val (.int (p1 ||| (32 : Int32))), .unset, .unset] [(.int (122 : Int32)), (.int (p1 ||| (32 : Int32)))]))
        by_cases hc9 : (122 : Int32) < (p1 ||| (32 : Int32))
        · skip
          rw [(show (own_g_44_8 p1) = (own_g_57_7 p1) from if_pos hc9)]
          refine own_go (fun t k => XS.icmpYes X0.here hx rfl (pc0 := 44) (pc' := 51) rfl (hb hby d2_44) rfl (tlt hc9).2.2.1 (by decide) (by decide) k) ?_
          exact J2
        · skip
          rw [(show (own_g_44_8 p1) = (own_g_57_9 p1) from if_neg hc9)]
          refine own_go (fun t k => XS.icmpNo X0.here hx rfl (hb hby d2_44) rfl (flt hc9).2.2.1 (XS.iconst X0.here hx rfl (hb hby d2_47) (XS.goto X0.here hx rfl (pc0 := 48) (pc' := 52) rfl (hb hby d2_48) (by decide) (by decide) (XS.istore X0.here hx rfl (hb hby d2_52) rfl (l' := #[.val (.int p1), .val (.long ((p1.toInt64) - (48 : Int64))), .second, .val (.int (1 : Int32)), .val (.int (p1 ||| (32 : Int32))), .val (.int (1 : Int32)), .unset]) rfl k)))) ?_
          show own_Fin p e below _ (s₁.setTop (mkF m 54 #[.val (.int p1), .val (.long ((p1.toInt64) - (48 : Int64))), .second, .val (.int (1 : Int32)), .val (.int (p1 ||| (32 : Int32))), .val (.int (1 : Int32)), .unset] []))
          refine own_go (fun t k => XS.iloadN X0.here hx rfl (hb hby d2_54) rfl  (XS.bipush X0.here hx rfl (hb hby d2_55) k)) ?_
          show own_Fin p e below _ (s₁.setTop (mkF m 57 #[.val (.int p1), .val (.long ((p1.toInt64) - (48 : Int64))), .second, .val (.int (1 : Int32)), .val (.int (p1 ||| (32 : Int32))), .val (.int (1 : Int32)), .unset] [(.int (45 : Int32)), (.int p1)]))
          by_cases hc10 : p1 = (45 : Int32)
          · skip
            rw [(show (own_g_57_9 p1) = (1 : Int32) from if_pos hc10)]
            refine own_go (fun t k => XS.icmpNo X0.here hx rfl (hb hby d2_57) rfl (teq hc10).2 (XS.iconst X0.here hx rfl (hb hby d2_60) (XS.goto X0.here hx rfl (pc0 := 61) (pc' := 65) rfl (hb hby d2_61) (by decide) (by decide) (XS.istore X0.here hx rfl (hb hby d2_65) rfl (l' := #[.val (.int p1), .val (.long ((p1.toInt64) - (48 : Int64))), .second, .val (.int (1 : Int32)), .val (.int (p1 ||| (32 : Int32))), .val (.int (1 : Int32)), .val (.int (1 : Int32))]) rfl k)))) ?_
            show own_Fin p e below _ (s₁.setTop (mkF m 67 #[.val (.int p1), .val (.long ((p1.toInt64) - (48 : Int64))), .second, .val (.int (1 : Int32)), .val (.int (p1 ||| (32 : Int32))), .val (.int (1 : Int32)), .val (.int (1 : Int32))] []))
            refine own_go (fun t k => XS.iloadN X0.here hx rfl (hb hby d2_67) rfl  k) ?_
            show own_Fin p e below _ (s₁.setTop (mkF m 68 #[.val (.int p1), .val (.long ((p1.toInt64) - (48 : Int64))), .second, .val (.int (1 : Int32)), .val (.int (p1 ||| (32 : Int32))), .val (.int (1 : Int32)), .val (.int (1 : Int32))] [(.int (1 : Int32))]))
            refine own_go (fun t k => XS.ifYes X0.here hx rfl (pc0 := 68) (pc' := 81) rfl (hb hby d2_68) rfl ((if0 _ _).trans (feq (by decide : ¬ ((1 : Int32) = (0 : Int32)))).2) (by decide) (by decide) (XS.iconst X0.here hx rfl (hb hby d2_81) (XS.goto X0.here hx rfl (pc0 := 82) (pc' := 86) rfl (hb hby d2_82) (by decide) (by decide) k))) ?_
            show own_Fin p e below _ (s₁.setTop (mkF m 86 #[.val (.int p1), .val (.long ((p1.toInt64) - (48 : Int64))), .second, .val (.int (1 : Int32)), .val (.int (p1 ||| (32 : Int32))), .val (.int (1 : Int32)), .val (.int (1 : Int32))] [(.int (1 : Int32))]))
            exact own_out X0 (fun h => by rw [Bd.returns] at h; cases h) Bd.notSynchronized (fun fs hr => retN X0 hx (t := .boolean) Bd.returns (by simp) (hb hby d2_86) hr) ⟨rfl, N0, e0⟩ (by decide) (by decide)
          · skip
            rw [(show (own_g_57_9 p1) = (1 : Int32) from if_neg hc10)]
            refine own_go (fun t k => XS.icmpYes X0.here hx rfl (pc0 := 57) (pc' := 64) rfl (hb hby d2_57) rfl (feq hc10).2 (by decide) (by decide) (XS.iconst X0.here hx rfl (hb hby d2_64) (XS.istore X0.here hx rfl (hb hby d2_65) rfl (l' := #[.val (.int p1), .val (.long ((p1.toInt64) - (48 : Int64))), .second, .val (.int (1 : Int32)), .val (.int (p1 ||| (32 : Int32))), .val (.int (1 : Int32)), .val (.int (0 : Int32))]) rfl (XS.iloadN X0.here hx rfl (hb hby d2_67) rfl  k)))) ?_
            show own_Fin p e below _ (s₁.setTop (mkF m 68 #[.val (.int p1), .val (.long ((p1.toInt64) - (48 : Int64))), .second, .val (.int (1 : Int32)), .val (.int (p1 ||| (32 : Int32))), .val (.int (1 : Int32)), .val (.int (0 : Int32))] [(.int (1 : Int32))]))
            refine own_go (fun t k => XS.ifYes X0.here hx rfl (pc0 := 68) (pc' := 81) rfl (hb hby d2_68) rfl ((if0 _ _).trans (feq (by decide : ¬ ((1 : Int32) = (0 : Int32)))).2) (by decide) (by decide) (XS.iconst X0.here hx rfl (hb hby d2_81) (XS.goto X0.here hx rfl (pc0 := 82) (pc' := 86) rfl (hb hby d2_82) (by decide) (by decide) k))) ?_
            show own_Fin p e below _ (s₁.setTop (mkF m 86 #[.val (.int p1), .val (.long ((p1.toInt64) - (48 : Int64))), .second, .val (.int (1 : Int32)), .val (.int (p1 ||| (32 : Int32))), .val (.int (1 : Int32)), .val (.int (0 : Int32))] [(.int (1 : Int32))]))
            exact own_out X0 (fun h => by rw [Bd.returns] at h; cases h) Bd.notSynchronized (fun fs hr => retN X0 hx (t := .boolean) Bd.returns (by simp) (hb hby d2_86) hr) ⟨rfl, N0, e0⟩ (by decide) (by decide)
    · skip
      rw [(show (own_g_18 p1) = (own_g_37 p1) from if_neg hc7)]
      refine own_go (fun t k => XS.ifYes X0.here hx rfl (pc0 := 18) (pc' := 25) rfl (hb hby d2_18) rfl ((if0 _ _).trans (flt (fun q => hc7 ((lw_lt _ _).mp q))).2.1) (by decide) (by decide) k) ?_
      exact J1
theorem own_low : ∀ y : Fin 64, (y.1 ||| 32) = if y.1 < 32 then y.1 + 32 else y.1 := by decide
theorem own_orN (x : Nat) : x ||| 32 = if x % 64 < 32 then x + 32 else x := by
  have h1 : (x ||| 32) % 64 = x % 64 ||| 32 := Nat.or_mod_two_pow (n := 6)
  have h2 : (x ||| 32) / 64 = x / 64 ||| 0 := Nat.or_div_two_pow (n := 6)
  rw [Nat.or_zero] at h2
  have h4 := own_low ⟨x % 64, Nat.mod_lt _ (by decide)⟩
  simp only at h4
  split at h4 <;> split <;> omega
theorem own_or32 (c : Int32) : (c ||| (32 : Int32)).toInt = if c.toInt % 64 < 32 then c.toInt + 32 else c.toInt := by
  have e1 : (c ||| (32 : Int32)).toInt = ((c ||| (32 : Int32)).toBitVec).toInt := rfl
  have e2 : c.toInt = c.toBitVec.toInt := rfl
  have e3 : ((32 : Int32).toBitVec).toNat = 32 := by decide
  rw [e1, e2, Int32.toBitVec_or, BitVec.toInt_eq_toNat_cond, BitVec.toInt_eq_toNat_cond, BitVec.toNat_or, e3, own_orN]
  have := c.toBitVec.isLt
  generalize c.toBitVec.toNat = n at *
  split <;> split <;> split <;> omega
theorem own_f_39e (c : Int32) : own_f_39 c = if c.toInt = 45 then (1 : Int32) else (0 : Int32) := by
  have e0 : (45 : Int32).toInt = 45 := rfl
  unfold own_f_39
  simp only [Int32.lt_iff_toInt_lt, Int64.lt_iff_toInt_lt, ← Int32.toInt_inj, e0]
theorem own_f_33e (c : Int32) : own_f_33 c = if 90 < c.toInt then (own_f_39 c) else (1 : Int32) := by
  have e0 : (90 : Int32).toInt = 90 := rfl
  unfold own_f_33
  simp only [Int32.lt_iff_toInt_lt, Int64.lt_iff_toInt_lt, ← Int32.toInt_inj, e0]
theorem own_f_27e (c : Int32) : own_f_27 c = if c.toInt < 65 then (own_f_39 c) else (own_f_33 c) := by
  have e0 : (65 : Int32).toInt = 65 := rfl
  unfold own_f_27
  simp only [Int32.lt_iff_toInt_lt, Int64.lt_iff_toInt_lt, ← Int32.toInt_inj, e0]
theorem own_f_21e (c : Int32) : own_f_21 c = if 122 < c.toInt then (own_f_27 c) else (1 : Int32) := by
  have e0 : (122 : Int32).toInt = 122 := rfl
  unfold own_f_21
  simp only [Int32.lt_iff_toInt_lt, Int64.lt_iff_toInt_lt, ← Int32.toInt_inj, e0]
theorem own_f_15e (c : Int32) : own_f_15 c = if c.toInt < 97 then (own_f_27 c) else (own_f_21 c) := by
  have e0 : (97 : Int32).toInt = 97 := rfl
  unfold own_f_15
  simp only [Int32.lt_iff_toInt_lt, Int64.lt_iff_toInt_lt, ← Int32.toInt_inj, e0]
theorem own_f_9e (c : Int32) : own_f_9 c = if 57 < c.toInt then (own_f_15 c) else (1 : Int32) := by
  have e0 : (57 : Int32).toInt = 57 := rfl
  unfold own_f_9
  simp only [Int32.lt_iff_toInt_lt, Int64.lt_iff_toInt_lt, ← Int32.toInt_inj, e0]
theorem own_f_3e (c : Int32) : own_f_3 c = if c.toInt < 48 then (own_f_15 c) else (own_f_9 c) := by
  have e0 : (48 : Int32).toInt = 48 := rfl
  unfold own_f_3
  simp only [Int32.lt_iff_toInt_lt, Int64.lt_iff_toInt_lt, ← Int32.toInt_inj, e0]
theorem own_g_57e (c : Int32) : own_g_57 c = if c.toInt = 45 then (1 : Int32) else (0 : Int32) := by
  have e0 : (45 : Int32).toInt = 45 := rfl
  unfold own_g_57
  simp only [Int32.lt_iff_toInt_lt, Int64.lt_iff_toInt_lt, ← Int32.toInt_inj, e0]
theorem own_g_57_4e (c : Int32) : own_g_57_4 c = if c.toInt = 45 then (1 : Int32) else (1 : Int32) := by
  have e0 : (45 : Int32).toInt = 45 := rfl
  unfold own_g_57_4
  simp only [Int32.lt_iff_toInt_lt, Int64.lt_iff_toInt_lt, ← Int32.toInt_inj, e0]
theorem own_g_44e (c : Int32) : own_g_44 c = if 122 < (c ||| (32 : Int32)).toInt then (own_g_57 c) else (own_g_57_4 c) := by
  have e0 : (122 : Int32).toInt = 122 := rfl
  have e1 : (32 : Int32).toInt = 32 := rfl
  unfold own_g_44
  simp only [Int32.lt_iff_toInt_lt, Int64.lt_iff_toInt_lt, ← Int32.toInt_inj, e0, e1]
theorem own_g_37e (c : Int32) : own_g_37 c = if (c ||| (32 : Int32)).toInt < 97 then (own_g_57 c) else (own_g_44 c) := by
  have e0 : (32 : Int32).toInt = 32 := rfl
  have e1 : (97 : Int32).toInt = 97 := rfl
  unfold own_g_37
  simp only [Int32.lt_iff_toInt_lt, Int64.lt_iff_toInt_lt, ← Int32.toInt_inj, e0, e1]
theorem own_g_57_7e (c : Int32) : own_g_57_7 c = if c.toInt = 45 then (1 : Int32) else (1 : Int32) := by
  have e0 : (45 : Int32).toInt = 45 := rfl
  unfold own_g_57_7
  simp only [Int32.lt_iff_toInt_lt, Int64.lt_iff_toInt_lt, ← Int32.toInt_inj, e0]
theorem own_g_57_9e (c : Int32) : own_g_57_9 c = if c.toInt = 45 then (1 : Int32) else (1 : Int32) := by
  have e0 : (45 : Int32).toInt = 45 := rfl
  unfold own_g_57_9
  simp only [Int32.lt_iff_toInt_lt, Int64.lt_iff_toInt_lt, ← Int32.toInt_inj, e0]
theorem own_g_44_8e (c : Int32) : own_g_44_8 c = if 122 < (c ||| (32 : Int32)).toInt then (own_g_57_7 c) else (own_g_57_9 c) := by
  have e0 : (122 : Int32).toInt = 122 := rfl
  have e1 : (32 : Int32).toInt = 32 := rfl
  unfold own_g_44_8
  simp only [Int32.lt_iff_toInt_lt, Int64.lt_iff_toInt_lt, ← Int32.toInt_inj, e0, e1]
theorem own_g_37_6e (c : Int32) : own_g_37_6 c = if (c ||| (32 : Int32)).toInt < 97 then (own_g_57_7 c) else (own_g_44_8 c) := by
  have e0 : (32 : Int32).toInt = 32 := rfl
  have e1 : (97 : Int32).toInt = 97 := rfl
  unfold own_g_37_6
  simp only [Int32.lt_iff_toInt_lt, Int64.lt_iff_toInt_lt, ← Int32.toInt_inj, e0, e1]
theorem own_g_18e (c : Int32) : own_g_18 c = if ((c.toInt64) - (48 : Int64)).toInt < 10 then (own_g_37_6 c) else (own_g_37 c) := by
  have e0 : (10 : Int64).toInt = 10 := rfl
  have e1 : (48 : Int64).toInt = 48 := rfl
  unfold own_g_18
  simp only [Int32.lt_iff_toInt_lt, Int64.lt_iff_toInt_lt, ← Int32.toInt_inj, e0, e1]
theorem own_g_10e (c : Int32) : own_g_10 c = if ((c.toInt64) - (48 : Int64)).toInt < 0 then (own_g_37 c) else (own_g_18 c) := by
  have e0 : (0 : Int64).toInt = 0 := rfl
  have e1 : (48 : Int64).toInt = 48 := rfl
  unfold own_g_10
  simp only [Int32.lt_iff_toInt_lt, Int64.lt_iff_toInt_lt, ← Int32.toInt_inj, e0, e1]
theorem own_eq (c : Int32) : own_f_3 c = own_g_10 c := by
  have h32 := own_or32 c
  have hr := rng32 c
  have hs := c_lsub c.toInt64 48
  have hr2 := rng64 (c.toInt64 - 48)
  have e48 : (48 : Int64).toInt = 48 := rfl
  rw [c_i2l, e48] at hs
  have hd : (c.toInt64 - (48 : Int64)).toInt = c.toInt - 48 := by omega
  have h1 : c.toInt % 64 < 32 → (c ||| (32 : Int32)).toInt = c.toInt + 32 := fun q => by rw [h32, if_pos q]
  have h2 : ¬ c.toInt % 64 < 32 → (c ||| (32 : Int32)).toInt = c.toInt := fun q => by rw [h32, if_neg q]
  clear h32 hs hr2
  by_cases h0 : c.toInt < 45
  · rw [own_f_3e, if_pos (by omega), own_f_15e, if_pos (by omega), own_f_27e, if_pos (by omega), own_f_39e, if_neg (by omega), own_g_10e, if_pos (by omega), own_g_37e, if_pos (by omega), own_g_57e, if_neg (by omega)]
  by_cases h1 : c.toInt < 46
  · rw [own_f_3e, if_pos (by omega), own_f_15e, if_pos (by omega), own_f_27e, if_pos (by omega), own_f_39e, if_pos (by omega), own_g_10e, if_pos (by omega), own_g_37e, if_pos (by omega), own_g_57e, if_pos (by omega)]
  by_cases h2 : c.toInt < 48
  · rw [own_f_3e, if_pos (by omega), own_f_15e, if_pos (by omega), own_f_27e, if_pos (by omega), own_f_39e, if_neg (by omega), own_g_10e, if_pos (by omega), own_g_37e, if_pos (by omega), own_g_57e, if_neg (by omega)]
  by_cases h3 : c.toInt < 58
  · rw [own_f_3e, if_neg (by omega), own_f_9e, if_neg (by omega), own_g_10e, if_neg (by omega), own_g_18e, if_pos (by omega), own_g_37_6e, if_pos (by omega), own_g_57_7e, if_neg (by omega)]
  by_cases h4 : c.toInt < 65
  · rw [own_f_3e, if_neg (by omega), own_f_9e, if_pos (by omega), own_f_15e, if_pos (by omega), own_f_27e, if_pos (by omega), own_f_39e, if_neg (by omega), own_g_10e, if_neg (by omega), own_g_18e, if_neg (by omega), own_g_37e, if_pos (by omega), own_g_57e, if_neg (by omega)]
  by_cases h5 : c.toInt < 91
  · rw [own_f_3e, if_neg (by omega), own_f_9e, if_pos (by omega), own_f_15e, if_pos (by omega), own_f_27e, if_neg (by omega), own_f_33e, if_neg (by omega), own_g_10e, if_neg (by omega), own_g_18e, if_neg (by omega), own_g_37e, if_neg (by omega), own_g_44e, if_neg (by omega), own_g_57_4e, if_neg (by omega)]
  by_cases h6 : c.toInt < 96
  · rw [own_f_3e, if_neg (by omega), own_f_9e, if_pos (by omega), own_f_15e, if_pos (by omega), own_f_27e, if_neg (by omega), own_f_33e, if_pos (by omega), own_f_39e, if_neg (by omega), own_g_10e, if_neg (by omega), own_g_18e, if_neg (by omega), own_g_37e, if_neg (by omega), own_g_44e, if_pos (by omega), own_g_57e, if_neg (by omega)]
  by_cases h7 : c.toInt < 97
  · rw [own_f_3e, if_neg (by omega), own_f_9e, if_pos (by omega), own_f_15e, if_pos (by omega), own_f_27e, if_neg (by omega), own_f_33e, if_pos (by omega), own_f_39e, if_neg (by omega), own_g_10e, if_neg (by omega), own_g_18e, if_neg (by omega), own_g_37e, if_pos (by omega), own_g_57e, if_neg (by omega)]
  by_cases h8 : c.toInt < 123
  · rw [own_f_3e, if_neg (by omega), own_f_9e, if_pos (by omega), own_f_15e, if_neg (by omega), own_f_21e, if_neg (by omega), own_g_10e, if_neg (by omega), own_g_18e, if_neg (by omega), own_g_37e, if_neg (by omega), own_g_44e, if_neg (by omega), own_g_57_4e, if_neg (by omega)]
  rw [own_f_3e, if_neg (by omega), own_f_9e, if_pos (by omega), own_f_15e, if_neg (by omega), own_f_21e, if_pos (by omega), own_f_27e, if_neg (by omega), own_f_33e, if_pos (by omega), own_f_39e, if_neg (by omega), own_g_10e, if_neg (by omega), own_g_18e, if_neg (by omega), own_g_37e, if_neg (by omega), own_g_44e, if_pos (by omega), own_g_57e, if_neg (by omega)]

theorem pd_0 : parseMethodDescriptor "(I)Z" = some ⟨[.int], some .boolean⟩ := by decide +kernel
theorem ef_0 (m : MethodId) (x0 : Int32) (x1 : Int32)  : entryFrame m #[(.int x0), (.int x1)] maxLocals = mkF m 0 #[.val (.int x0), .val (.int x1), .unset, .unset, .unset] [] := by first | (simp [entryFrame, mkF, argsToLocals, Value.category, maxLocals]; done) | rfl
def own_q0 (Z : State) (p1 : Int32) (p2 : Int32) (h0 : Heap) (n0 : Nat) (v : Option Value) (h : Heap) (L : List Loc) : Prop := v = some (.int (1 : Int32)) ∧ Fr n0 L
set_option maxRecDepth 65536 in
set_option maxHeartbeats 40000000 in
theorem rm0 (l : Launch) (Z : State) (a0 : Array Value) (hw : ∀ d ∈ tables_1, d.before a0 Z = true) (ws : List Jvm.Cond) (p1 : Int32) (p2 : Int32) (h0 : Heap) (n0 : Nat) (Z0 : n0 ≤ h0.size) :
    MetFree l x (head1 (Jvm.Cond.code x code maxLocals ret :: ws) room_1) (fun a U => a = #[(.int p1), (.int p2)] ∧ Z.Warmed39 U.vm ∧ U.heap = h0) (fun _ _ _ _ _ => True) (fun _ U o U' => ∃ v L, o = .returned v ∧ (own_q0 Z p1 p2 h0 n0) v U'.heap L ∧ FrameEnd U o U' L room_1.cells room_1.slots) := by
  refine MetFree.of_bodySF (plainFor_of_name pn_1) hisR ?_
  intro p e s m args below meth c s₁ Bd hml0 hP hK
  obtain ⟨rfl, hZ, hh⟩ := hP
  have hx := Bd.exec
  have hby := Bd.bytes
  have hml : c.maxLocals = 5 := hml0
  have hown : s.vm.findClass "com/example/honeyguide/honeyguide/document/YamlCursorIsWordCharPinLaw" = some m.cls := findClass_of_methodNamed Bd.named
  have hnm := (name_of_methodNamed Bd.named Bd.method).1
  have X0 : Stand p l e room_1 s m #[(.int p1), (.int p2)] below meth c s₁ [] 0 0 := Stand.of_body Bd
  have e0 : s₁.heap = h0 := by rw [← hh, Bd.state]; rfl
  have N0 := Fr.nil n0
  have hw_0 := hw _ (List.mem_of_getElem? (i := 0) rfl)
  have hw_1 := hw _ (List.mem_of_getElem? (i := 1) rfl)
  have hw_2 := hw _ (List.mem_of_getElem? (i := 2) rfl)
  have hw_3 := hw _ (List.mem_of_getElem? (i := 3) rfl)
  have hw_4 := hw _ (List.mem_of_getElem? (i := 4) rfl)
  have hw_5 := hw _ (List.mem_of_getElem? (i := 5) rfl)
  have hw_6 := hw _ (List.mem_of_getElem? (i := 6) rfl)
  have hw_7 := hw _ (List.mem_of_getElem? (i := 7) rfl)
  show own_Fin p e below (own_A s room_1.cells room_1.slots (own_q0 Z p1 p2 h0 n0)) _
  refine own_go (fun t k => castTop (ef_0 m (p1) (p2)) k) ?_
  show own_Fin p e below _ (s₁.setTop (mkF m 0 #[.val (.int p1), .val (.int p2), .unset, .unset, .unset] []))
  refine own_go (fun t k => XS.iloadN X0.here hx rfl (hb hby at_0) rfl  (XS.sipush X0.here hx rfl (hb hby at_1) (XS.iand X0.here hx rfl (hb hby at_4) rfl (XS.istoreN X0.here hx rfl (hb hby at_5) rfl (l' := #[.val (.int p1), .val (.int p2), .val (.int (p2 &&& (255 : Int32))), .unset, .unset]) rfl k)))) ?_
  show own_Fin p e below _ (s₁.setTop (mkF m 6 #[.val (.int p1), .val (.int p2), .val (.int (p2 &&& (255 : Int32))), .unset, .unset] []))
  refine own_go (fun t k => XS.iloadN X0.here hx rfl (hb hby at_6) rfl  k) ?_
  show own_Fin p e below _ (s₁.setTop (mkF m 7 #[.val (.int p1), .val (.int p2), .val (.int (p2 &&& (255 : Int32))), .unset, .unset] [(.int p1)]))
  obtain ⟨_, _, ⟨T1, L1, k1, n1⟩, -, X1, ⟨Lc1, hQ1, l1, y1, z1⟩, st1⟩ := Jvm.LawKit.callS X0 hx (y := (⟨"com/example/honeyguide/honeyguide/document/YamlCursor", "isWordChar", "(I)Z"⟩ : MethodName)) hown (mvT hZ hw_0) (mvT hZ hw_1) (mvT hZ hw_2) (mvT hZ hw_3) (by decide) (backOf (W := 0) (rm1 l Z a0 hw [] (p1)  h0 n0 Z0 ) hZ hw_3 hw_2 (by decide) (by decide)) (g := (mkF m 7 #[.val (.int p1), .val (.int p2), .val (.int (p2 &&& (255 : Int32))), .unset, .unset] [(.int p1)])) rfl (by rw [hml]; rfl) (argsL := [(.int p1)]) (rest := []) (lenOf pd_0 rfl) rfl (by show 2 * 0 + _ ≤ _; exact Nat.le_of_eq rfl) (hb hby at_7) (fun _ _ => ⟨rfl, e0, (by decide : 0 + 0 ≤ _), (by decide : 0 + 0 ≤ _)⟩)
  dsimp only [Pt.U, Pt.locs, Pt.cells, Pt.slots] at X1 l1 y1 z1 st1 hQ1
  subst l1 y1 z1
  obtain ⟨rfl, N1q, e1⟩ := hQ1
  have N1 := Fr.app N0 N1q
  refine own_go st1 ?_
  show own_Fin p e below _ (T1.setTop (mkF m 10 #[.val (.int p1), .val (.int p2), .val (.int (p2 &&& (255 : Int32))), .unset, .unset] [(.int (own_f_3 p1))]))
  refine own_go (fun t k => XS.iloadN X1.here hx rfl (hb hby at_10) rfl  k) ?_
  show own_Fin p e below _ (T1.setTop (mkF m 11 #[.val (.int p1), .val (.int p2), .val (.int (p2 &&& (255 : Int32))), .unset, .unset] [(.int p1), (.int (own_f_3 p1))]))
  obtain ⟨_, _, ⟨T2, L2, k2, n2⟩, -, X2, ⟨Lc2, hQ2, l2, y2, z2⟩, st2⟩ := Jvm.LawKit.callS X1 hx (y := (⟨"com/example/honeyguide/honeyguide/document/YamlCursorIsWordCharPinLaw", "expected", "(I)Z"⟩ : MethodName)) hown (mvT hZ hw_4) (mvT hZ hw_5) (mvT hZ hw_6) (mvT hZ hw_7) (by decide) (backOf (W := 1) (rm2 l Z a0 hw [] (p1)  h0 n0 Z0 ) hZ hw_7 hw_6 (by decide) (by decide)) (g := (mkF m 11 #[.val (.int p1), .val (.int p2), .val (.int (p2 &&& (255 : Int32))), .unset, .unset] [(.int p1), (.int (own_f_3 p1))])) rfl (by rw [hml]; rfl) (argsL := [(.int p1)]) (rest := [(.int (own_f_3 p1))]) (lenOf pd_0 rfl) rfl (by show 2 * 0 + _ ≤ _; exact Nat.le_of_eq rfl) (hb hby at_11) (fun _ _ => ⟨rfl, e1, (by decide : 0 + 0 ≤ _), (by decide : 0 + 0 ≤ _)⟩)
  dsimp only [Pt.U, Pt.locs, Pt.cells, Pt.slots] at X2 l2 y2 z2 st2 hQ2
  subst l2 y2 z2
  obtain ⟨rfl, N2q, e2⟩ := hQ2
  have N2 := Fr.app N1 N2q
  refine own_go st2 ?_
  show own_Fin p e below _ (T2.setTop (mkF m 14 #[.val (.int p1), .val (.int p2), .val (.int (p2 &&& (255 : Int32))), .unset, .unset] [(.int (own_g_10 p1)), (.int (own_f_3 p1))]))
  refine own_go (fun t k => XS.icmpNo X2.here hx rfl (hb hby at_14) rfl (teq (own_eq _)).2 (XS.iconst X2.here hx rfl (hb hby at_17) (XS.goto X2.here hx rfl (pc0 := 18) (pc' := 22) rfl (hb hby at_18) (by decide) (by decide) (XS.istoreN X2.here hx rfl (hb hby at_22) rfl (l' := #[.val (.int p1), .val (.int p2), .val (.int (p2 &&& (255 : Int32))), .val (.int (1 : Int32)), .unset]) rfl k)))) ?_
  show own_Fin p e below _ (T2.setTop (mkF m 23 #[.val (.int p1), .val (.int p2), .val (.int (p2 &&& (255 : Int32))), .val (.int (1 : Int32)), .unset] []))
  refine own_go (fun t k => XS.iloadN X2.here hx rfl (hb hby at_23) rfl  k) ?_
  show own_Fin p e below _ (T2.setTop (mkF m 24 #[.val (.int p1), .val (.int p2), .val (.int (p2 &&& (255 : Int32))), .val (.int (1 : Int32)), .unset] [(.int (p2 &&& (255 : Int32)))]))
  obtain ⟨_, _, ⟨T3, L3, k3, n3⟩, -, X3, ⟨Lc3, hQ3, l3, y3, z3⟩, st3⟩ := Jvm.LawKit.callS X2 hx (y := (⟨"com/example/honeyguide/honeyguide/document/YamlCursor", "isWordChar", "(I)Z"⟩ : MethodName)) hown (mvT hZ hw_0) (mvT hZ hw_1) (mvT hZ hw_2) (mvT hZ hw_3) (by decide) (backOf (W := 0) (rm1 l Z a0 hw [] ((p2 &&& (255 : Int32)))  h0 n0 Z0 ) hZ hw_3 hw_2 (by decide) (by decide)) (g := (mkF m 24 #[.val (.int p1), .val (.int p2), .val (.int (p2 &&& (255 : Int32))), .val (.int (1 : Int32)), .unset] [(.int (p2 &&& (255 : Int32)))])) rfl (by rw [hml]; rfl) (argsL := [(.int (p2 &&& (255 : Int32)))]) (rest := []) (lenOf pd_0 rfl) rfl (by show 2 * 0 + _ ≤ _; exact Nat.le_of_eq rfl) (hb hby at_24) (fun _ _ => ⟨rfl, e2, (by decide : 0 + 0 ≤ _), (by decide : 0 + 0 ≤ _)⟩)
  dsimp only [Pt.U, Pt.locs, Pt.cells, Pt.slots] at X3 l3 y3 z3 st3 hQ3
  subst l3 y3 z3
  obtain ⟨rfl, N3q, e3⟩ := hQ3
  have N3 := Fr.app N2 N3q
  refine own_go st3 ?_
  show own_Fin p e below _ (T3.setTop (mkF m 27 #[.val (.int p1), .val (.int p2), .val (.int (p2 &&& (255 : Int32))), .val (.int (1 : Int32)), .unset] [(.int (own_f_3 (p2 &&& (255 : Int32))))]))
  refine own_go (fun t k => XS.iloadN X3.here hx rfl (hb hby at_27) rfl  k) ?_
  show own_Fin p e below _ (T3.setTop (mkF m 28 #[.val (.int p1), .val (.int p2), .val (.int (p2 &&& (255 : Int32))), .val (.int (1 : Int32)), .unset] [(.int (p2 &&& (255 : Int32))), (.int (own_f_3 (p2 &&& (255 : Int32))))]))
  obtain ⟨_, _, ⟨T4, L4, k4, n4⟩, -, X4, ⟨Lc4, hQ4, l4, y4, z4⟩, st4⟩ := Jvm.LawKit.callS X3 hx (y := (⟨"com/example/honeyguide/honeyguide/document/YamlCursorIsWordCharPinLaw", "expected", "(I)Z"⟩ : MethodName)) hown (mvT hZ hw_4) (mvT hZ hw_5) (mvT hZ hw_6) (mvT hZ hw_7) (by decide) (backOf (W := 1) (rm2 l Z a0 hw [] ((p2 &&& (255 : Int32)))  h0 n0 Z0 ) hZ hw_7 hw_6 (by decide) (by decide)) (g := (mkF m 28 #[.val (.int p1), .val (.int p2), .val (.int (p2 &&& (255 : Int32))), .val (.int (1 : Int32)), .unset] [(.int (p2 &&& (255 : Int32))), (.int (own_f_3 (p2 &&& (255 : Int32))))])) rfl (by rw [hml]; rfl) (argsL := [(.int (p2 &&& (255 : Int32)))]) (rest := [(.int (own_f_3 (p2 &&& (255 : Int32))))]) (lenOf pd_0 rfl) rfl (by show 2 * 0 + _ ≤ _; exact Nat.le_of_eq rfl) (hb hby at_28) (fun _ _ => ⟨rfl, e3, (by decide : 0 + 0 ≤ _), (by decide : 0 + 0 ≤ _)⟩)
  dsimp only [Pt.U, Pt.locs, Pt.cells, Pt.slots] at X4 l4 y4 z4 st4 hQ4
  subst l4 y4 z4
  obtain ⟨rfl, N4q, e4⟩ := hQ4
  have N4 := Fr.app N3 N4q
  refine own_go st4 ?_
  show own_Fin p e below _ (T4.setTop (mkF m 31 #[.val (.int p1), .val (.int p2), .val (.int (p2 &&& (255 : Int32))), .val (.int (1 : Int32)), .unset] [(.int (own_g_10 (p2 &&& (255 : Int32)))), (.int (own_f_3 (p2 &&& (255 : Int32))))]))
  refine own_go (fun t k => XS.icmpNo X4.here hx rfl (hb hby at_31) rfl (teq (own_eq _)).2 (XS.iconst X4.here hx rfl (hb hby at_34) (XS.goto X4.here hx rfl (pc0 := 35) (pc' := 39) rfl (hb hby at_35) (by decide) (by decide) (XS.istore X4.here hx rfl (hb hby at_39) rfl (l' := #[.val (.int p1), .val (.int p2), .val (.int (p2 &&& (255 : Int32))), .val (.int (1 : Int32)), .val (.int (1 : Int32))]) rfl k)))) ?_
  show own_Fin p e below _ (T4.setTop (mkF m 41 #[.val (.int p1), .val (.int p2), .val (.int (p2 &&& (255 : Int32))), .val (.int (1 : Int32)), .val (.int (1 : Int32))] []))
  refine own_go (fun t k => XS.iloadN X4.here hx rfl (hb hby at_41) rfl  k) ?_
  show own_Fin p e below _ (T4.setTop (mkF m 42 #[.val (.int p1), .val (.int p2), .val (.int (p2 &&& (255 : Int32))), .val (.int (1 : Int32)), .val (.int (1 : Int32))] [(.int (1 : Int32))]))
  refine own_go (fun t k => XS.ifNo X4.here hx rfl (hb hby at_42) rfl ((if0 _ _).trans (feq (by decide : ¬ ((1 : Int32) = (0 : Int32)))).1) (XS.iload X4.here hx rfl (hb hby at_45) rfl  k)) ?_
  show own_Fin p e below _ (T4.setTop (mkF m 47 #[.val (.int p1), .val (.int p2), .val (.int (p2 &&& (255 : Int32))), .val (.int (1 : Int32)), .val (.int (1 : Int32))] [(.int (1 : Int32))]))
  refine own_go (fun t k => XS.ifNo X4.here hx rfl (hb hby at_47) rfl ((if0 _ _).trans (feq (by decide : ¬ ((1 : Int32) = (0 : Int32)))).1) (XS.iconst X4.here hx rfl (hb hby at_50) (XS.goto X4.here hx rfl (pc0 := 51) (pc' := 55) rfl (hb hby at_51) (by decide) (by decide) k))) ?_
  show own_Fin p e below _ (T4.setTop (mkF m 55 #[.val (.int p1), .val (.int p2), .val (.int (p2 &&& (255 : Int32))), .val (.int (1 : Int32)), .val (.int (1 : Int32))] [(.int (1 : Int32))]))
  exact own_out X4 (fun h => by rw [Bd.returns] at h; cases h) Bd.notSynchronized (fun fs hr => retN X4 hx (t := .boolean) Bd.returns (by simp) (hb hby at_55) hr) ⟨rfl, N4⟩ (by decide) (by decide)
set_option maxRecDepth 65536 in
set_option maxHeartbeats 40000000 in
theorem comes_1 {Post : Tables → Env → Array Value → State → Outcome → State → Prop} (hpost : ∀ tb e args s v u, (limb_1_1.after args s (.returned v) u = true ∧ limb_1_2.after args s (.returned v) u = true ∧ True) → FrameEnd s (.returned v) u (Jvm.fieldLocs frame_1_writes args s ++ Jvm.arrayLocs frame_1_arrays args s ++ Jvm.staticLocs frame_1_statics s) 0 0 → Post tb e args s (.returned v) u) :
    ArmFor flags0 classFile x code maxLocals ret World_1 tables_1 room_1 Calls_1 rest_1 Pre_1 Post := by
  intro l hfl _ _ p e ha hc hk s m args below hf hA hF happ hP
  obtain ⟨hcalls, hrest, hpre⟩ := hP
  obtain ⟨-, -, -, hnamed, -, -, -, hat⟩ := (Spec.applies_iff hf).mp happ
  obtain ⟨hg, hn⟩ := and_e (Cond.before_iff.mp (show (Jvm.Cond.and given_1 narrow_1).before args s = true from hpre))
  obtain ⟨g0, r0⟩ := and_e hg
  obtain ⟨g1, r1⟩ := and_e r0
  obtain ⟨w0, w1, rfl⟩ : ∃ w0 w1 : Value, args = #[w0, w1] := by
    have hs : args.size = 2 := by simpa [Cond.value, given_1] using g0
    obtain ⟨L⟩ := args
    match L, hs with
    | [w0, w1], _ => exact ⟨w0, w1, rfl⟩
  have hw := fun d (hd : d ∈ tables_1) => atoms_spec (ws := Jvm.Cond.code x code maxLocals ret :: tables_1) hat d (List.mem_cons_of_mem _ hd)
  have hfit : Fit s := fun {y c} hc i hi => by
    obtain ⟨ha, rfl⟩ := Array.getElem?_eq_some_iff.mp hc
    have q := List.all_eq_true.mp ((Array.all_eq_true_iff_forall_mem.mp hF) _ (Array.getElem_mem ha)) i (List.mem_range.mpr hi)
    simpa [Array.getElem?_eq_getElem hi] using q
  obtain ⟨i0, ei0⟩ := is_v g1
  obtain rfl : w0 = (.int i0) := Option.some.inj ei0
  obtain ⟨i1, ei1⟩ := is_v r1
  obtain rfl : w1 = (.int i1) := Option.some.inj ei1
  obtain ⟨n, o, h1, h2, h3, _, L, rfl, ⟨rfl, N⟩, hq⟩ := rm0 l s _ hw tables_1 i0 i1  s.heap s.heap.size (Nat.le_refl _)  p e ha hc hk s m _ below hf ((Spec.applies_iff_loose hf).mp happ).1 ⟨rfl, State.Warmed39.refl s, rfl⟩ trivial
  refine ⟨n, _, h1, h2, h3, hpost _ _ _ _ _ _ ⟨Cond.after_iff.mpr rfl, Cond.after_iff.mpr (eq_i res_at (Term.int_eval (1)) rfl), trivial⟩ ⟨hq.1, hq.2.1, (hq.2.2.sift fun y hy => Or.inr (N y hy)).mono (by decide) (by decide)⟩⟩
theorem main_1_1 : Claimed_1_1 := comes_1 fun _ _ _ _ _ _ h hF => ⟨h.1, hF⟩
theorem main_1_2 : Claimed_1_2 := comes_1 fun _ _ _ _ _ _ h hF => ⟨h.2.1, hF⟩
end Jvm.Pilot.@@N@@
namespace Jvm.Pilot.@@N@@
open Jvm Jvm.ClassFile Sem Op Lib Jvm.Free Jvm.Stand Jvm.Pilot.@@N@@.Jvm.D
/-! MADE BY PROGRAM (witnessworld.py) out of the Statement's table words and the real class files: 9 classes; the members and pool entries that the words name. The judged class is class 1, her method 2. -/
namespace start1
open Jvm.ClassFile
def u (s : String) : CpInfo := .utf8 (stringToUtf16 s)
/-- a pool by its gaps: so many unusable entries, then the entry; so many at the end -/
def gap : Nat → List CpInfo → List CpInfo
  | 0, r => r
  | n + 1, r => .unusable :: gap n r
def poolList (es : List (Nat × CpInfo)) (last : Nat) : List CpInfo := es.foldr (fun e r => gap e.1 (e.2 :: r)) (gap last [])
def pool (es : List (Nat × CpInfo)) (last : Nat) : Array CpInfo := ⟨poolList es last⟩
def fileOf (pool : Array CpInfo) (this : Nat) (attrs : Array Attribute := #[]) (ms : Array MethodInfo := #[]) (fl : Nat := 33) (sup : Nat := 0) (ifs : Array Nat := #[]) (fds : Array FieldInfo := #[]) : ClassFile where
  minorVersion := 0
  majorVersion := 65
  constantPool := pool
  accessFlags := fl
  thisClass := this
  superClass := sup
  interfaces := ifs
  fields := fds
  methods := ms
  attributes := attrs
def plain (name : String) (sup : Option ClassId) : Class where
  name := name
  kind := .ordinary
  loader := none
  accessFlags := 33
  super := sup
  interfaces := #[]
  cf := none
  fields := #[]
  methods := #[]
  instanceTypes := #[]
  staticTypes := #[]
  resolved := #[]
  callSites := []
  init := .initialized
  statics := none
  mirror := none

def pool0 : Array CpInfo := pool [(5, u "<init>"), (0, u "()V"), (1, .class_ 10), (1, u "java/lang/Object")] 113

def k0m0 : Method := { name := "<init>", desc := "()V", sig := { parameters := [], returnType := none }, accessFlags := 1, code := none }
/-- java/lang/Object -/
def k0 : Class := { plain "java/lang/Object" none with
  accessFlags := 33
  interfaces := #[]
  cf := some (fileOf pool0 8 #[] #[{ accessFlags := 1, nameIndex := 5, descriptorIndex := 6, attributes := #[] }] 33 0 #[] #[])
  fields := #[]
  methods := #[k0m0]
  instanceTypes := #[]
  staticTypes := #[]
  resolved := Array.replicate 124 none
  statics := none }

def pool1 : Array CpInfo := pool [(2, .class_ 4), (1, u "java/lang/Object"), (0, u "<init>"), (0, u "()V"), (0, .long 48), (1, .long 10), (1, .methodref 12 13), (0, .class_ 14), (0, .nameAndType 15 16), (0, u "com/example/honeyguide/honeyguide/document/YamlCursor"), (0, u "isWordChar"), (0, u "(I)Z"), (0, .methodref 18 19), (0, .class_ 20), (0, .nameAndType 21 16), (0, u "com/example/honeyguide/honeyguide/document/YamlCursorIsWordCharPinLaw"), (0, u "expected"), (3, u "law"), (0, u "(II)Z")] 2

def k1m0 : Method := { name := "<init>", desc := "()V", sig := { parameters := [], returnType := none }, accessFlags := 2, code := none }
def k1c1 : Code := { maxStack := 4, maxLocals := 7, code := method_2_code, exceptionTable := #[], attributes := #[] }
def k1m1 : Method := { name := "expected", desc := "(I)Z", sig := { parameters := [.int], returnType := some .boolean }, accessFlags := 10, code := some k1c1 }
def k1c2 : Code := { maxStack := 2, maxLocals := 5, code := code, exceptionTable := #[], attributes := #[] }
def k1m2 : Method := { name := "law", desc := "(II)Z", sig := { parameters := [.int, .int], returnType := some .boolean }, accessFlags := 9, code := some k1c2 }
/-- com/example/honeyguide/honeyguide/document/YamlCursorIsWordCharPinLaw -/
def k1 : Class := { plain "com/example/honeyguide/honeyguide/document/YamlCursorIsWordCharPinLaw" (some 0) with
  accessFlags := 49
  interfaces := #[]
  cf := some (fileOf pool1 18 #[] #[{ accessFlags := 2, nameIndex := 5, descriptorIndex := 6, attributes := #[] }, { accessFlags := 10, nameIndex := 21, descriptorIndex := 16, attributes := #[] }, { accessFlags := 9, nameIndex := 25, descriptorIndex := 26, attributes := #[] }] 49 2 #[] #[])
  fields := #[]
  methods := #[k1m0, k1m1, k1m2]
  instanceTypes := #[]
  staticTypes := #[]
  resolved := Array.replicate 29 none
  statics := none }

def pool2 : Array CpInfo := pool [(2, .class_ 4), (1, u "java/lang/Object"), (3, .class_ 10), (1, u "com/example/honeyguide/honeyguide/document/YamlCursor"), (0, u "source"), (0, u "Lcom/example/honeyguide/honeyguide/document/SourceText;"), (2, u "position"), (0, u "I"), (2, u "attempt"), (0, u "Z"), (1, .class_ 24), (1, u "com/example/honeyguide/honeyguide/document/YamlCursor$Attempt"), (32, u "(I)Z"), (74, u "FAILED_ATTEMPT"), (0, u "Lcom/example/honeyguide/honeyguide/document/SyntaxException;"), (60, u "END"), (24, u "isWordChar")] 30

def k2c0 : Code := { maxStack := 2, maxLocals := 1, code := prog_23_method_39_code, exceptionTable := #[], attributes := #[] }
def k2m0 : Method := { name := "isWordChar", desc := "(I)Z", sig := { parameters := [.int], returnType := some .boolean }, accessFlags := 8, code := some k2c0 }
/-- com/example/honeyguide/honeyguide/document/YamlCursor -/
def k2 : Class := { plain "com/example/honeyguide/honeyguide/document/YamlCursor" (some 0) with
  accessFlags := 32
  interfaces := #[]
  cf := some (fileOf pool2 8 #[.nestMembers #[22]] #[{ accessFlags := 8, nameIndex := 219, descriptorIndex := 57, attributes := #[] }] 32 2 #[] #[{ accessFlags := 24, nameIndex := 194, descriptorIndex := 16, attributes := #[] }, { accessFlags := 26, nameIndex := 132, descriptorIndex := 133, attributes := #[] }, { accessFlags := 18, nameIndex := 11, descriptorIndex := 12, attributes := #[] }, { accessFlags := 2, nameIndex := 15, descriptorIndex := 16, attributes := #[] }, { accessFlags := 2, nameIndex := 19, descriptorIndex := 20, attributes := #[] }])
  fields := #[{ name := "END", type := .int, accessFlags := 24, slot := 0, constantValue := 0 }, { name := "FAILED_ATTEMPT", type := (.object "com/example/honeyguide/honeyguide/document/SyntaxException"), accessFlags := 26, slot := 1, constantValue := 0 }, { name := "source", type := (.object "com/example/honeyguide/honeyguide/document/SourceText"), accessFlags := 18, slot := 0, constantValue := 0 }, { name := "position", type := .int, accessFlags := 2, slot := 1, constantValue := 0 }, { name := "attempt", type := .boolean, accessFlags := 2, slot := 2, constantValue := 0 }]
  methods := #[k2m0]
  instanceTypes := #[(.object "com/example/honeyguide/honeyguide/document/SourceText"), .int, .boolean]
  staticTypes := #[.int, (.object "com/example/honeyguide/honeyguide/document/SyntaxException")]
  resolved := Array.replicate 250 none
  statics := none }

def pool3 : Array CpInfo := pool [(1, u "java/lang/Cloneable"), (0, .class_ 1), (0, u "java/lang/Object"), (0, .class_ 3)] 3

/-- java/lang/Cloneable -/
def k3 : Class := { plain "java/lang/Cloneable" (some 0) with
  accessFlags := 1537
  interfaces := #[]
  cf := some (fileOf pool3 2 #[] #[] 1537 4 #[] #[])
  fields := #[]
  methods := #[]
  instanceTypes := #[]
  staticTypes := #[]
  resolved := Array.replicate 8 none
  statics := none }

def pool4 : Array CpInfo := pool [(1, u "java/io/Serializable"), (0, .class_ 1), (0, u "java/lang/Object"), (0, .class_ 3)] 3

/-- java/io/Serializable -/
def k4 : Class := { plain "java/io/Serializable" (some 0) with
  accessFlags := 1537
  interfaces := #[]
  cf := some (fileOf pool4 2 #[] #[] 1537 4 #[] #[])
  fields := #[]
  methods := #[]
  instanceTypes := #[]
  staticTypes := #[]
  resolved := Array.replicate 8 none
  statics := none }

/-- the primitive byte -/
def k5 : Class := { plain "byte" none with kind := .primitive 'B', accessFlags := 0x411 }
/-- [B -/
def k6 : Class := { plain "[B" (some 0) with kind := .array 5 .byte, interfaces := #[3, 4], accessFlags := 1041 }

/-- the primitive int -/
def k7 : Class := { plain "int" none with kind := .primitive 'I', accessFlags := 0x411 }
/-- [I -/
def k8 : Class := { plain "[I" (some 0) with kind := .array 7 .int, interfaces := #[3, 4], accessFlags := 1041 }

def heap : Heap := #[]
def classes : Array Class := #[k0, k1, k2, k3, k4, k5, k6, k7, k8]
def interned : List (Array UInt16 × Addr) := []
def slotsUsed : Nat := 0
def theMethod : MethodId := ⟨1, 2⟩
def args0 : Array Value := #[.int 5, .int 6]
def aboutOver (below : List Frame) : State where
  vm := { classes := classes, interned := interned.toArray }
  heap := heap
  slotsUsed := slotsUsed
  threads := #[{ frames := .invoking theMethod args0 :: below }]
def below0 : List Frame := [.native { method := ⟨0, 0⟩, args := #[] }]
def about1 : State := aboutOver below0
def p0 : Program := .bare "" "" ""
def e0 : Env := launch0.env 0 0 0
theorem w_frames : about1.frames = Frame.invoking theMethod args0 :: below0 := rfl
set_option maxRecDepth 65536 in
theorem w_args : argsFit about1.vm theMethod args0 = true := by decide +kernel
set_option maxRecDepth 65536 in
theorem w_heap : heapFits about1 = true := by decide +kernel
set_option maxRecDepth 65536 in
theorem w_runnable : about1.curStatus? = some .runnable := by decide +kernel
set_option maxRecDepth 65536 in
theorem w_alone : about1.alone = true := by decide +kernel
set_option maxRecDepth 65536 in
theorem w_named : about1.methodNamed? x = some theMethod := by decide +kernel
set_option maxRecDepth 65536 in
theorem w_hears : about1.hears theMethod below0 = true := by decide +kernel
set_option maxRecDepth 65536 in
theorem w_ripe : about1.ripe theMethod args0 below0 = true := by decide +kernel
theorem w_running : about1.status = .running := rfl
set_option maxRecDepth 65536 in
theorem w_room : about1.hasRoom e0.platform room_1 = true :=
  launch0.hasRoom_least _ room_1 (by decide +kernel) (by decide +kernel) (by decide +kernel) (by decide +kernel) (by decide +kernel) (by decide +kernel)
theorem allAtoms_all (ts : List Jvm.Cond) (a : Array Jvm.Value) (st : Jvm.State) : (allAtoms ts).before a st = ts.all (fun c => c.before a st) := by
  induction ts with
  | nil => rfl
  | cons c t ih =>
    show (Jvm.Cond.and c (allAtoms t)).before a st = _
    rw [Jvm.Cond.before_and, ih, List.all_cons]
def words1 : List Jvm.Cond := Jvm.Cond.code x code maxLocals ret :: tables_1
/-- a 'code' word, met by the world's own term for the bytes: nothing is compared byte by byte -/
theorem code_word {y : MethodName} {bytes : ByteArray} {mx : Nat} {rt : Option FieldType} {a : Array Value} {s : State} {m : MethodId} {meth : Method} {c : Code} (h1 : s.methodNamed? y = some m) (h2 : s.vm.method? m = some meth) (h3 : meth.code = some c) (h4 : c.code = bytes)
    (h5 : (c.maxLocals == mx && c.exceptionTable.isEmpty && decide (c.maxStack ≤ mostOperands) && decide (meth.sig.returnType = rt) && !meth.locks && decide (parseMethodDescriptor y.desc = some meth.sig)) = true) : (Jvm.Cond.code y bytes mx rt).before a s = true := by
  simp only [Bool.and_eq_true, beq_iff_eq, Bool.not_eq_true', decide_eq_true_eq] at h5
  obtain ⟨⟨⟨⟨⟨g1, g2⟩, g3⟩, g4⟩, g5⟩, g6⟩ := h5
  simp [Cond.before, Cond.holds, Cond.value, h1, h2, h3, h4, g1, g2, g3, g4, g5, g6]
def isCode : Jvm.Cond → Bool
  | .code _ _ _ _ => true
  | _ => false
theorem all_split {L : List Jvm.Cond} {P : Jvm.Cond → Bool} (h1 : L.all (fun c => isCode c || P c) = true) (h2 : ∀ c ∈ L.filter isCode, P c = true) : L.all P = true := by
  refine List.all_eq_true.mpr fun c hc => ?_
  have h := List.all_eq_true.mp h1 c hc
  rcases Bool.eq_false_or_eq_true (isCode c) with hi | hi
  · exact h2 c (List.mem_filter.mpr ⟨hc, hi⟩)
  · simpa [hi] using h
set_option maxRecDepth 65536 in
theorem w_c0 : (Jvm.Cond.code x code maxLocals ret).before args0 about1 = true := code_word (m := ⟨1, 2⟩) (meth := k1m2) (c := k1c2) (by decide +kernel) rfl rfl rfl (by decide +kernel)
set_option maxRecDepth 65536 in
theorem w_c1 : (Jvm.Cond.code ({ cls := "com/example/honeyguide/honeyguide/document/YamlCursor", name := "isWordChar", desc := "(I)Z" } : Jvm.MethodName) prog_23_method_39_code (1 : Nat) (Option.some Jvm.ClassFile.FieldType.boolean)).before args0 about1 = true := code_word (m := ⟨2, 0⟩) (meth := k2m0) (c := k2c0) (by decide +kernel) rfl rfl rfl (by decide +kernel)
set_option maxRecDepth 65536 in
theorem w_c2 : (Jvm.Cond.code ({ cls := "com/example/honeyguide/honeyguide/document/YamlCursorIsWordCharPinLaw", name := "expected", desc := "(I)Z" } : Jvm.MethodName) method_2_code (7 : Nat) (Option.some Jvm.ClassFile.FieldType.boolean)).before args0 about1 = true := code_word (m := ⟨1, 1⟩) (meth := k1m1) (c := k1c1) (by decide +kernel) rfl rfl rfl (by decide +kernel)
def codes1 : List Jvm.Cond := [Jvm.Cond.code x code maxLocals ret, Jvm.Cond.code ({ cls := "com/example/honeyguide/honeyguide/document/YamlCursor", name := "isWordChar", desc := "(I)Z" } : Jvm.MethodName) prog_23_method_39_code (1 : Nat) (Option.some Jvm.ClassFile.FieldType.boolean), Jvm.Cond.code ({ cls := "com/example/honeyguide/honeyguide/document/YamlCursorIsWordCharPinLaw", name := "expected", desc := "(I)Z" } : Jvm.MethodName) method_2_code (7 : Nat) (Option.some Jvm.ClassFile.FieldType.boolean)]
set_option maxRecDepth 65536 in
theorem codes_eq : words1.filter isCode = codes1 := rfl
theorem w_codes : ∀ c ∈ words1.filter isCode, c.before args0 about1 = true := by
  rw [codes_eq]
  intro c hc
  simp only [codes1, List.mem_cons, List.not_mem_nil, or_false] at hc
  rcases hc with rfl | rfl | rfl
  · exact w_c0
  · exact w_c1
  · exact w_c2
set_option maxRecDepth 65536 in
theorem w_t1 : words1.all (fun c => isCode c || c.before args0 about1) = true := by decide +kernel
theorem w_tables : (allAtoms (Jvm.Cond.code x code maxLocals ret :: tables_1)).before args0 about1 = true := by
  rw [allAtoms_all]
  show words1.all (fun c => c.before args0 about1) = true
  refine all_split ?_ w_codes
  rw [w_t1]
set_option maxRecDepth 65536 in
theorem w_case : (Jvm.Cond.and given_1 narrow_1).before args0 about1 = true := by decide +kernel
theorem w_applies : (headSpec (Jvm.Cond.code x code maxLocals ret :: tables_1) room_1).applies x e0.platform about1 = true :=
  (Spec.applies_iff w_frames).mpr ⟨w_running, w_runnable, w_alone, w_named, w_hears, w_ripe, w_room, w_tables⟩
theorem atStart : AtStart classFile x code maxLocals ret World_1 tables_1 room_1 Calls_1 rest_1 Pre_1 launch0 p0 e0 about1 theMethod args0 below0 :=
  ⟨lists_1, trivial, launch0.admits_env _ _ _, launch0.least_env, fairChoices_fair.cas, fairChoices_fair.clock, w_frames, w_args, w_heap, w_applies, trivial, trivial, w_case⟩
end start1
theorem witness_1 : WitnessClaimed_1 := ⟨start1.p0, start1.e0, start1.about1, start1.theMethod, start1.args0, start1.below0, start1.atStart⟩
end Jvm.Pilot.@@N@@
