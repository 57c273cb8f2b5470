import JvmDerived
import JvmDerived.Pilot.@@N@@Statement
import JvmDerived.Pilot.@@N@@Code
set_option linter.unusedVariables false
set_option linter.unusedSimpArgs false
namespace Jvm.RoadKit
open Sem ClassFile Op Lib Jvm.Stand Jvm.Free Jvm.LawKit
section New
variable {p : Program} {l : Launch} {e : Env} {R : Room} {s : State} {m : MethodId} {args : Array Value} {below : List Frame} {meth : Method} {c : Code} {T : State} {locs : List Loc} {cells slots : Nat}
theorem retI (X : Stand p l e R s m args below meth c T locs cells slots) (hx : p.tables.exec = Jvm.exec) {pc : Nat} {Ls : Array Slot} {z : Int32} {rest : List Value} (hret : meth.sig.returnType = some .int) (hd : decode c.code pc = .ok (.ireturn, 1)) {fs : List Frame}
    (hl : ∀ (f : JFrame) (acts : List Action), f.method = m → f.locked = none → f.entered = [] → (doReturn e (T.setTop f) acts (some (.int z))).1 = T.setFrames fs) : Steps p.tables e below (T.setTop (mkF m pc Ls (.int z :: rest))) (T.setFrames fs) := by
  have hm' : T.vm.method? m = some meth := X.method'
  have hn : narrow .int (.int z) = .int z := rfl
  show Steps p.tables e below (T.setTop { method := m, pc := pc, locals := Ls, stack := _ :: rest, locked := none }) _
  jvm_step X.here [X.here.top, hx, hd, hm', hret, hn]
  first | (intro acts; rw [hl _ acts rfl rfl rfl]) | rw [hl _ _ rfl rfl rfl]
  exact Steps.refl _
/-- from the state S the run comes to an end at which A holds -/
def own_Fin (p : Program) (e : Env) (below : List Frame) (A : State → Outcome → Prop) (S : State) : Prop := ∃ s₂ o, Steps p.tables e below S s₂ ∧ s₂.status = .running ∧ Ended s₂ below o ∧ A s₂ o
theorem own_go {A : State → Outcome → Prop} {S S' : State} (k : ∀ t, Steps p.tables e below S' t → Steps p.tables e below S t) (h : own_Fin p e below A S') : own_Fin p e below A S := by
  obtain ⟨t, o, h1, h2⟩ := h; exact ⟨t, o, k t h1, h2⟩
/-- what a walk leaves: Q of the value, the heap and the written places -/
def own_A (s : State) (C S : Nat) (Q : Option Value → Heap → List Loc → Prop) : State → Outcome → Prop := fun U' o => ∃ v L, o = .returned v ∧ Q v U'.heap L ∧ FrameEnd s o U' L C S
/-- a body that writes nothing: its value, the heap as it was -/
def own_P (h0 : Heap) (n0 : Nat) (w : Value) (v : Option Value) (h : Heap) (L : List Loc) : Prop := v = some w ∧ Fr n0 L ∧ h = h0
theorem own_out (X : Stand p l e R s m args below meth c T locs cells slots) {v : Option Value} {Q : Option Value → Heap → List Loc → Prop} {C S : Nat} {g : JFrame}
    (hv : meth.sig.returnType = none → v = none) (hlocks : meth.locks = false)
    (st : ∀ fs, (∀ (f : JFrame) (acts : List Action), f.method = m → f.locked = none → f.entered = [] → (doReturn e (T.setTop f) acts v).1 = T.setFrames fs) → Steps p.tables e below (T.setTop g) (T.setFrames fs))
    (hQ : Q v T.heap locs) (hc : cells ≤ C) (hs : slots ≤ S) : own_Fin p e below (own_A s C S Q) (T.setTop g) := by
  obtain ⟨fs, hr, hrun, hended, hW, hsame⟩ := X.leave (v := v) hv hlocks
  exact ⟨_, _, st fs hr, hrun, hended, _, _, rfl, hQ, ⟨_, rfl⟩, hW, hsame.mono hc hs⟩
end New
end Jvm.RoadKit
namespace Jvm.Pilot.@@N@@
open Jvm Jvm.ClassFile Sem Op Lib Jvm.Free Jvm.Stand Jvm.LawKit Jvm.RoadKit Bundle Jvm.Pilot.@@N@@.Jvm.D
def own_St (Z : State) (h : Heap) (A : Nat → Addr) : Prop := Sta Z h "com/example/sound_verdict/soundverdict/Axis" "CHILD" "Lcom/example/sound_verdict/soundverdict/Axis;" (.ref (A 0)) ∧ Sta Z h "com/example/sound_verdict/soundverdict/Axis" "DESCENDANT" "Lcom/example/sound_verdict/soundverdict/Axis;" (.ref (A 1)) ∧ Sta Z h "com/example/sound_verdict/soundverdict/Axis" "ATTRIBUTE" "Lcom/example/sound_verdict/soundverdict/Axis;" (.ref (A 2)) ∧ Sta Z h "com/example/sound_verdict/soundverdict/Axis" "NAMESPACE" "Lcom/example/sound_verdict/soundverdict/Axis;" (.ref (A 3)) ∧ Sta Z h "com/example/sound_verdict/soundverdict/Axis" "SELF" "Lcom/example/sound_verdict/soundverdict/Axis;" (.ref (A 4)) ∧ Sta Z h "com/example/sound_verdict/soundverdict/Axis" "DESCENDANT_OR_SELF" "Lcom/example/sound_verdict/soundverdict/Axis;" (.ref (A 5)) ∧ Sta Z h "com/example/sound_verdict/soundverdict/Axis" "FOLLOWING_SIBLING" "Lcom/example/sound_verdict/soundverdict/Axis;" (.ref (A 6)) ∧ Sta Z h "com/example/sound_verdict/soundverdict/Axis" "FOLLOWING_SIBLING_OR_SELF" "Lcom/example/sound_verdict/soundverdict/Axis;" (.ref (A 7)) ∧ Sta Z h "com/example/sound_verdict/soundverdict/Axis" "FOLLOWING" "Lcom/example/sound_verdict/soundverdict/Axis;" (.ref (A 8)) ∧ Sta Z h "com/example/sound_verdict/soundverdict/Axis" "FOLLOWING_OR_SELF" "Lcom/example/sound_verdict/soundverdict/Axis;" (.ref (A 9)) ∧ Sta Z h "com/example/sound_verdict/soundverdict/Axis" "PARENT" "Lcom/example/sound_verdict/soundverdict/Axis;" (.ref (A 10)) ∧ Sta Z h "com/example/sound_verdict/soundverdict/Axis" "ANCESTOR" "Lcom/example/sound_verdict/soundverdict/Axis;" (.ref (A 11)) ∧ Sta Z h "com/example/sound_verdict/soundverdict/Axis" "ANCESTOR_OR_SELF" "Lcom/example/sound_verdict/soundverdict/Axis;" (.ref (A 12)) ∧ Sta Z h "com/example/sound_verdict/soundverdict/Axis" "PRECEDING_SIBLING" "Lcom/example/sound_verdict/soundverdict/Axis;" (.ref (A 13)) ∧ Sta Z h "com/example/sound_verdict/soundverdict/Axis" "PRECEDING_SIBLING_OR_SELF" "Lcom/example/sound_verdict/soundverdict/Axis;" (.ref (A 14)) ∧ Sta Z h "com/example/sound_verdict/soundverdict/Axis" "PRECEDING" "Lcom/example/sound_verdict/soundverdict/Axis;" (.ref (A 15)) ∧ Sta Z h "com/example/sound_verdict/soundverdict/Axis" "PRECEDING_OR_SELF" "Lcom/example/sound_verdict/soundverdict/Axis;" (.ref (A 16)) ∧ Sta Z h "com/example/sound_verdict/soundverdict/Axis" "DESCENDANT_ATTRIBUTE" "Lcom/example/sound_verdict/soundverdict/Axis;" (.ref (A 17))
theorem d3_0 : decode method_3_code 0 = .ok (.iload_n 0, 1) := by decide +kernel
theorem d3_1 : decode method_3_code 1 = .ok (.ifCond .ne 5, 3) := by decide +kernel
theorem d3_4 : decode method_3_code 4 = .ok (.iconst 1, 1) := by decide +kernel
theorem d3_5 : decode method_3_code 5 = .ok (.ireturn, 1) := by decide +kernel
theorem d3_6 : decode method_3_code 6 = .ok (.iload_n 0, 1) := by decide +kernel
theorem d3_7 : decode method_3_code 7 = .ok (.iconst 2, 1) := by decide +kernel
theorem d3_8 : decode method_3_code 8 = .ok (.if_icmp .ne 5, 3) := by decide +kernel
theorem d3_11 : decode method_3_code 11 = .ok (.iconst 1, 1) := by decide +kernel
theorem d3_12 : decode method_3_code 12 = .ok (.ireturn, 1) := by decide +kernel
theorem d3_13 : decode method_3_code 13 = .ok (.iload_n 0, 1) := by decide +kernel
theorem d3_14 : decode method_3_code 14 = .ok (.iconst 3, 1) := by decide +kernel
theorem d3_15 : decode method_3_code 15 = .ok (.if_icmp .ne 5, 3) := by decide +kernel
theorem d3_18 : decode method_3_code 18 = .ok (.iconst 1, 1) := by decide +kernel
theorem d3_19 : decode method_3_code 19 = .ok (.ireturn, 1) := by decide +kernel
theorem d3_20 : decode method_3_code 20 = .ok (.iload_n 0, 1) := by decide +kernel
theorem d3_21 : decode method_3_code 21 = .ok (.iconst 4, 1) := by decide +kernel
theorem d3_22 : decode method_3_code 22 = .ok (.if_icmp .ne 5, 3) := by decide +kernel
theorem d3_25 : decode method_3_code 25 = .ok (.iconst 1, 1) := by decide +kernel
theorem d3_26 : decode method_3_code 26 = .ok (.ireturn, 1) := by decide +kernel
theorem d3_27 : decode method_3_code 27 = .ok (.iconst 0, 1) := by decide +kernel
theorem d3_28 : decode method_3_code 28 = .ok (.ireturn, 1) := by decide +kernel
theorem pn_0 : plainName "com/example/sound_verdict/soundverdict/AxisIsDisjointPinLaw" = true := by first | (simp [plainName, overriddenIn]; done) | decide +kernel
theorem ef_3 (m : MethodId) (x0 : Int32)  : entryFrame m #[(.int x0)] 1 = mkF m 0 #[.val (.int x0)] [] := by first | (simp [entryFrame, mkF, argsToLocals, Value.category]; done) | rfl
def own_ex_22 (p1 : Int32) : Int32 := if p1 = (4 : Int32) then (1 : Int32) else (0 : Int32)
def own_ex_15 (p1 : Int32) : Int32 := if p1 = (3 : Int32) then (1 : Int32) else (own_ex_22 p1)
def own_ex_8 (p1 : Int32) : Int32 := if p1 = (2 : Int32) then (1 : Int32) else (own_ex_15 p1)
def own_ex_1 (p1 : Int32) : Int32 := if p1 = (0 : Int32) then (1 : Int32) else (own_ex_8 p1)
set_option maxRecDepth 65536 in
set_option maxHeartbeats 40000000 in
theorem rm3 (l : Launch) (Z : State) (a0 : Array Value) (hw : ∀ d ∈ tables_1, d.before a0 Z = true) (ws : List Jvm.Cond) (p1 : Int32) (h0 : Heap) (n0 : Nat) (Z0 : n0 ≤ h0.size) :
    MetFree l (⟨"com/example/sound_verdict/soundverdict/AxisIsDisjointPinLaw", "expectedDisjoint", "(I)Z"⟩ : MethodName) (head1 (Jvm.Cond.code (⟨"com/example/sound_verdict/soundverdict/AxisIsDisjointPinLaw", "expectedDisjoint", "(I)Z"⟩ : MethodName) method_3_code 1 (some .boolean) :: ws) ({ frames := 0, cells := 0, slots := 0, locals := 0 } : Room)) (fun a U => a = #[(.int p1)] ∧ Z.Warmed39 U.vm ∧ U.heap = h0) (fun _ _ _ _ _ => True) (fun _ U o U' => ∃ v L, o = .returned v ∧ (own_P h0 n0 (.int (own_ex_1 p1))) v U'.heap L ∧ FrameEnd U o U' L ({ frames := 0, cells := 0, slots := 0, locals := 0 } : Room).cells ({ frames := 0, cells := 0, slots := 0, locals := 0 } : Room).slots) := by
  refine MetFree.of_bodySF (plainFor_of_name pn_0) hisR ?_
  intro p e s m args below meth c s₁ Bd hml0 hP hK
  obtain ⟨rfl, hZ, hh⟩ := hP
  have hx := Bd.exec
  have hby := Bd.bytes
  have hml : c.maxLocals = 1 := hml0
  have hown : s.vm.findClass "com/example/sound_verdict/soundverdict/AxisIsDisjointPinLaw" = some m.cls := findClass_of_methodNamed Bd.named
  have hnm := (name_of_methodNamed Bd.named Bd.method).1
  have X0 : Stand p l e ({ frames := 0, cells := 0, slots := 0, locals := 0 } : Room) s m #[(.int p1)] below meth c s₁ [] 0 0 := Stand.of_body Bd
  have e0 : s₁.heap = h0 := by rw [← hh, Bd.state]; rfl
  have N0 := Fr.nil n0
  show own_Fin p e below (own_A s ({ frames := 0, cells := 0, slots := 0, locals := 0 } : Room).cells ({ frames := 0, cells := 0, slots := 0, locals := 0 } : Room).slots (own_P h0 n0 (.int (own_ex_1 p1)))) _
  refine own_go (fun t k => castTop (ef_3 m (p1)) k) ?_
  show own_Fin p e below _ (s₁.setTop (mkF m 0 #[.val (.int p1)] []))
  refine own_go (fun t k => XS.iloadN X0.here hx rfl (hb hby d3_0) rfl  k) ?_
  show own_Fin p e below _ (s₁.setTop (mkF m 1 #[.val (.int p1)] [(.int p1)]))
  by_cases hc1 : p1 = (0 : Int32)
  · skip
    rw [(show (own_ex_1 p1) = (1 : Int32) from if_pos hc1)]
    refine own_go (fun t k => XS.ifNo X0.here hx rfl (hb hby d3_1) rfl ((if0 _ _).trans (teq hc1).2) (XS.iconst X0.here hx rfl (hb hby d3_4) k)) ?_
    show own_Fin p e below _ (s₁.setTop (mkF m 5 #[.val (.int p1)] [(.int (1 : Int32))]))
    exact own_out X0 (fun h => by rw [Bd.returns] at h; cases h) Bd.notSynchronized (fun fs hr => retN X0 hx (t := .boolean) Bd.returns (by simp) (hb hby d3_5) hr) ⟨rfl, N0, e0⟩ (by decide) (by decide)
  · skip
    rw [(show (own_ex_1 p1) = (own_ex_8 p1) from if_neg hc1)]
    refine own_go (fun t k => XS.ifYes X0.here hx rfl (pc0 := 1) (pc' := 6) rfl (hb hby d3_1) rfl ((if0 _ _).trans (feq hc1).2) (by decide) (by decide) (XS.iloadN X0.here hx rfl (hb hby d3_6) rfl  (XS.iconst X0.here hx rfl (hb hby d3_7) k))) ?_
    show own_Fin p e below _ (s₁.setTop (mkF m 8 #[.val (.int p1)] [(.int (2 : Int32)), (.int p1)]))
    by_cases hc2 : p1 = (2 : Int32)
    · skip
      rw [(show (own_ex_8 p1) = (1 : Int32) from if_pos hc2)]
      refine own_go (fun t k => XS.icmpNo X0.here hx rfl (hb hby d3_8) rfl (teq hc2).2 (XS.iconst X0.here hx rfl (hb hby d3_11) k)) ?_
      show own_Fin p e below _ (s₁.setTop (mkF m 12 #[.val (.int p1)] [(.int (1 : Int32))]))
      exact own_out X0 (fun h => by rw [Bd.returns] at h; cases h) Bd.notSynchronized (fun fs hr => retN X0 hx (t := .boolean) Bd.returns (by simp) (hb hby d3_12) hr) ⟨rfl, N0, e0⟩ (by decide) (by decide)
    · skip
      rw [(show (own_ex_8 p1) = (own_ex_15 p1) from if_neg hc2)]
      refine own_go (fun t k => XS.icmpYes X0.here hx rfl (pc0 := 8) (pc' := 13) rfl (hb hby d3_8) rfl (feq hc2).2 (by decide) (by decide) (XS.iloadN X0.here hx rfl (hb hby d3_13) rfl  (XS.iconst X0.here hx rfl (hb hby d3_14) k))) ?_
      show own_Fin p e below _ (s₁.setTop (mkF m 15 #[.val (.int p1)] [(.int (3 : Int32)), (.int p1)]))
      by_cases hc3 : p1 = (3 : Int32)
      · skip
        rw [(show (own_ex_15 p1) = (1 : Int32) from if_pos hc3)]
        refine own_go (fun t k => XS.icmpNo X0.here hx rfl (hb hby d3_15) rfl (teq hc3).2 (XS.iconst X0.here hx rfl (hb hby d3_18) k)) ?_
        show own_Fin p e below _ (s₁.setTop (mkF m 19 #[.val (.int p1)] [(.int (1 : Int32))]))
        exact own_out X0 (fun h => by rw [Bd.returns] at h; cases h) Bd.notSynchronized (fun fs hr => retN X0 hx (t := .boolean) Bd.returns (by simp) (hb hby d3_19) hr) ⟨rfl, N0, e0⟩ (by decide) (by decide)
      · skip
        rw [(show (own_ex_15 p1) = (own_ex_22 p1) from if_neg hc3)]
        refine own_go (fun t k => XS.icmpYes X0.here hx rfl (pc0 := 15) (pc' := 20) rfl (hb hby d3_15) rfl (feq hc3).2 (by decide) (by decide) (XS.iloadN X0.here hx rfl (hb hby d3_20) rfl  (XS.iconst X0.here hx rfl (hb hby d3_21) k))) ?_
        show own_Fin p e below _ (s₁.setTop (mkF m 22 #[.val (.int p1)] [(.int (4 : Int32)), (.int p1)]))
        by_cases hc4 : p1 = (4 : Int32)
        · skip
          rw [(show (own_ex_22 p1) = (1 : Int32) from if_pos hc4)]
          refine own_go (fun t k => XS.icmpNo X0.here hx rfl (hb hby d3_22) rfl (teq hc4).2 (XS.iconst X0.here hx rfl (hb hby d3_25) k)) ?_
          show own_Fin p e below _ (s₁.setTop (mkF m 26 #[.val (.int p1)] [(.int (1 : Int32))]))
          exact own_out X0 (fun h => by rw [Bd.returns] at h; cases h) Bd.notSynchronized (fun fs hr => retN X0 hx (t := .boolean) Bd.returns (by simp) (hb hby d3_26) hr) ⟨rfl, N0, e0⟩ (by decide) (by decide)
        · skip
          rw [(show (own_ex_22 p1) = (0 : Int32) from if_neg hc4)]
          refine own_go (fun t k => XS.icmpYes X0.here hx rfl (pc0 := 22) (pc' := 27) rfl (hb hby d3_22) rfl (feq hc4).2 (by decide) (by decide) (XS.iconst X0.here hx rfl (hb hby d3_27) k)) ?_
          show own_Fin p e below _ (s₁.setTop (mkF m 28 #[.val (.int p1)] [(.int (0 : Int32))]))
          exact own_out X0 (fun h => by rw [Bd.returns] at h; cases h) Bd.notSynchronized (fun fs hr => retN X0 hx (t := .boolean) Bd.returns (by simp) (hb hby d3_28) hr) ⟨rfl, N0, e0⟩ (by decide) (by decide)
theorem d1_0 : decode method_2_code 0 = .ok (.iload_n 0, 1) := by decide +kernel
theorem d1_1 : decode method_2_code 1 = .ok (.ifCond .ne 7, 3) := by decide +kernel
theorem d1_4 : decode method_2_code 4 = .ok (.getstatic 7, 3) := by decide +kernel
theorem d1_7 : decode method_2_code 7 = .ok (.areturn, 1) := by decide +kernel
theorem d1_8 : decode method_2_code 8 = .ok (.iload_n 0, 1) := by decide +kernel
theorem d1_9 : decode method_2_code 9 = .ok (.iconst 1, 1) := by decide +kernel
theorem d1_10 : decode method_2_code 10 = .ok (.if_icmp .ne 7, 3) := by decide +kernel
theorem d1_13 : decode method_2_code 13 = .ok (.getstatic 13, 3) := by decide +kernel
theorem d1_16 : decode method_2_code 16 = .ok (.areturn, 1) := by decide +kernel
theorem d1_17 : decode method_2_code 17 = .ok (.iload_n 0, 1) := by decide +kernel
theorem d1_18 : decode method_2_code 18 = .ok (.iconst 2, 1) := by decide +kernel
theorem d1_19 : decode method_2_code 19 = .ok (.if_icmp .ne 7, 3) := by decide +kernel
theorem d1_22 : decode method_2_code 22 = .ok (.getstatic 16, 3) := by decide +kernel
theorem d1_25 : decode method_2_code 25 = .ok (.areturn, 1) := by decide +kernel
theorem d1_26 : decode method_2_code 26 = .ok (.iload_n 0, 1) := by decide +kernel
theorem d1_27 : decode method_2_code 27 = .ok (.iconst 3, 1) := by decide +kernel
theorem d1_28 : decode method_2_code 28 = .ok (.if_icmp .ne 7, 3) := by decide +kernel
theorem d1_31 : decode method_2_code 31 = .ok (.getstatic 19, 3) := by decide +kernel
theorem d1_34 : decode method_2_code 34 = .ok (.areturn, 1) := by decide +kernel
theorem d1_35 : decode method_2_code 35 = .ok (.iload_n 0, 1) := by decide +kernel
theorem d1_36 : decode method_2_code 36 = .ok (.iconst 4, 1) := by decide +kernel
theorem d1_37 : decode method_2_code 37 = .ok (.if_icmp .ne 7, 3) := by decide +kernel
theorem d1_40 : decode method_2_code 40 = .ok (.getstatic 22, 3) := by decide +kernel
theorem d1_43 : decode method_2_code 43 = .ok (.areturn, 1) := by decide +kernel
theorem d1_44 : decode method_2_code 44 = .ok (.iload_n 0, 1) := by decide +kernel
theorem d1_45 : decode method_2_code 45 = .ok (.iconst 5, 1) := by decide +kernel
theorem d1_46 : decode method_2_code 46 = .ok (.if_icmp .ne 7, 3) := by decide +kernel
theorem d1_49 : decode method_2_code 49 = .ok (.getstatic 25, 3) := by decide +kernel
theorem d1_52 : decode method_2_code 52 = .ok (.areturn, 1) := by decide +kernel
theorem d1_53 : decode method_2_code 53 = .ok (.iload_n 0, 1) := by decide +kernel
theorem d1_54 : decode method_2_code 54 = .ok (.bipush 6, 2) := by decide +kernel
theorem d1_56 : decode method_2_code 56 = .ok (.if_icmp .ne 7, 3) := by decide +kernel
theorem d1_59 : decode method_2_code 59 = .ok (.getstatic 28, 3) := by decide +kernel
theorem d1_62 : decode method_2_code 62 = .ok (.areturn, 1) := by decide +kernel
theorem d1_63 : decode method_2_code 63 = .ok (.iload_n 0, 1) := by decide +kernel
theorem d1_64 : decode method_2_code 64 = .ok (.bipush 7, 2) := by decide +kernel
theorem d1_66 : decode method_2_code 66 = .ok (.if_icmp .ne 7, 3) := by decide +kernel
theorem d1_69 : decode method_2_code 69 = .ok (.getstatic 31, 3) := by decide +kernel
theorem d1_72 : decode method_2_code 72 = .ok (.areturn, 1) := by decide +kernel
theorem d1_73 : decode method_2_code 73 = .ok (.iload_n 0, 1) := by decide +kernel
theorem d1_74 : decode method_2_code 74 = .ok (.bipush 8, 2) := by decide +kernel
theorem d1_76 : decode method_2_code 76 = .ok (.if_icmp .ne 7, 3) := by decide +kernel
theorem d1_79 : decode method_2_code 79 = .ok (.getstatic 34, 3) := by decide +kernel
theorem d1_82 : decode method_2_code 82 = .ok (.areturn, 1) := by decide +kernel
theorem d1_83 : decode method_2_code 83 = .ok (.iload_n 0, 1) := by decide +kernel
theorem d1_84 : decode method_2_code 84 = .ok (.bipush 9, 2) := by decide +kernel
theorem d1_86 : decode method_2_code 86 = .ok (.if_icmp .ne 7, 3) := by decide +kernel
theorem d1_89 : decode method_2_code 89 = .ok (.getstatic 37, 3) := by decide +kernel
theorem d1_92 : decode method_2_code 92 = .ok (.areturn, 1) := by decide +kernel
theorem d1_93 : decode method_2_code 93 = .ok (.iload_n 0, 1) := by decide +kernel
theorem d1_94 : decode method_2_code 94 = .ok (.bipush 10, 2) := by decide +kernel
theorem d1_96 : decode method_2_code 96 = .ok (.if_icmp .ne 7, 3) := by decide +kernel
theorem d1_99 : decode method_2_code 99 = .ok (.getstatic 40, 3) := by decide +kernel
theorem d1_102 : decode method_2_code 102 = .ok (.areturn, 1) := by decide +kernel
theorem d1_103 : decode method_2_code 103 = .ok (.iload_n 0, 1) := by decide +kernel
theorem d1_104 : decode method_2_code 104 = .ok (.bipush 11, 2) := by decide +kernel
theorem d1_106 : decode method_2_code 106 = .ok (.if_icmp .ne 7, 3) := by decide +kernel
theorem d1_109 : decode method_2_code 109 = .ok (.getstatic 43, 3) := by decide +kernel
theorem d1_112 : decode method_2_code 112 = .ok (.areturn, 1) := by decide +kernel
theorem d1_113 : decode method_2_code 113 = .ok (.iload_n 0, 1) := by decide +kernel
theorem d1_114 : decode method_2_code 114 = .ok (.bipush 12, 2) := by decide +kernel
theorem d1_116 : decode method_2_code 116 = .ok (.if_icmp .ne 7, 3) := by decide +kernel
theorem d1_119 : decode method_2_code 119 = .ok (.getstatic 46, 3) := by decide +kernel
theorem d1_122 : decode method_2_code 122 = .ok (.areturn, 1) := by decide +kernel
theorem d1_123 : decode method_2_code 123 = .ok (.iload_n 0, 1) := by decide +kernel
theorem d1_124 : decode method_2_code 124 = .ok (.bipush 13, 2) := by decide +kernel
theorem d1_126 : decode method_2_code 126 = .ok (.if_icmp .ne 7, 3) := by decide +kernel
theorem d1_129 : decode method_2_code 129 = .ok (.getstatic 49, 3) := by decide +kernel
theorem d1_132 : decode method_2_code 132 = .ok (.areturn, 1) := by decide +kernel
theorem d1_133 : decode method_2_code 133 = .ok (.iload_n 0, 1) := by decide +kernel
theorem d1_134 : decode method_2_code 134 = .ok (.bipush 14, 2) := by decide +kernel
theorem d1_136 : decode method_2_code 136 = .ok (.if_icmp .ne 7, 3) := by decide +kernel
theorem d1_139 : decode method_2_code 139 = .ok (.getstatic 52, 3) := by decide +kernel
theorem d1_142 : decode method_2_code 142 = .ok (.areturn, 1) := by decide +kernel
theorem d1_143 : decode method_2_code 143 = .ok (.iload_n 0, 1) := by decide +kernel
theorem d1_144 : decode method_2_code 144 = .ok (.bipush 15, 2) := by decide +kernel
theorem d1_146 : decode method_2_code 146 = .ok (.if_icmp .ne 7, 3) := by decide +kernel
theorem d1_149 : decode method_2_code 149 = .ok (.getstatic 55, 3) := by decide +kernel
theorem d1_152 : decode method_2_code 152 = .ok (.areturn, 1) := by decide +kernel
theorem d1_153 : decode method_2_code 153 = .ok (.iload_n 0, 1) := by decide +kernel
theorem d1_154 : decode method_2_code 154 = .ok (.bipush 16, 2) := by decide +kernel
theorem d1_156 : decode method_2_code 156 = .ok (.if_icmp .ne 7, 3) := by decide +kernel
theorem d1_159 : decode method_2_code 159 = .ok (.getstatic 58, 3) := by decide +kernel
theorem d1_162 : decode method_2_code 162 = .ok (.areturn, 1) := by decide +kernel
theorem d1_163 : decode method_2_code 163 = .ok (.getstatic 61, 3) := by decide +kernel
theorem d1_166 : decode method_2_code 166 = .ok (.areturn, 1) := by decide +kernel
theorem ef_1 (m : MethodId) (x0 : Int32)  : entryFrame m #[(.int x0)] 1 = mkF m 0 #[.val (.int x0)] [] := by first | (simp [entryFrame, mkF, argsToLocals, Value.category]; done) | rfl
def own_pk_156 (p1 : Int32) (A : Nat → Addr) : Addr := if p1 = (16 : Int32) then (A 16) else (A 17)
def own_pk_146 (p1 : Int32) (A : Nat → Addr) : Addr := if p1 = (15 : Int32) then (A 15) else (own_pk_156 p1 A)
def own_pk_136 (p1 : Int32) (A : Nat → Addr) : Addr := if p1 = (14 : Int32) then (A 14) else (own_pk_146 p1 A)
def own_pk_126 (p1 : Int32) (A : Nat → Addr) : Addr := if p1 = (13 : Int32) then (A 13) else (own_pk_136 p1 A)
def own_pk_116 (p1 : Int32) (A : Nat → Addr) : Addr := if p1 = (12 : Int32) then (A 12) else (own_pk_126 p1 A)
def own_pk_106 (p1 : Int32) (A : Nat → Addr) : Addr := if p1 = (11 : Int32) then (A 11) else (own_pk_116 p1 A)
def own_pk_96 (p1 : Int32) (A : Nat → Addr) : Addr := if p1 = (10 : Int32) then (A 10) else (own_pk_106 p1 A)
def own_pk_86 (p1 : Int32) (A : Nat → Addr) : Addr := if p1 = (9 : Int32) then (A 9) else (own_pk_96 p1 A)
def own_pk_76 (p1 : Int32) (A : Nat → Addr) : Addr := if p1 = (8 : Int32) then (A 8) else (own_pk_86 p1 A)
def own_pk_66 (p1 : Int32) (A : Nat → Addr) : Addr := if p1 = (7 : Int32) then (A 7) else (own_pk_76 p1 A)
def own_pk_56 (p1 : Int32) (A : Nat → Addr) : Addr := if p1 = (6 : Int32) then (A 6) else (own_pk_66 p1 A)
def own_pk_46 (p1 : Int32) (A : Nat → Addr) : Addr := if p1 = (5 : Int32) then (A 5) else (own_pk_56 p1 A)
def own_pk_37 (p1 : Int32) (A : Nat → Addr) : Addr := if p1 = (4 : Int32) then (A 4) else (own_pk_46 p1 A)
def own_pk_28 (p1 : Int32) (A : Nat → Addr) : Addr := if p1 = (3 : Int32) then (A 3) else (own_pk_37 p1 A)
def own_pk_19 (p1 : Int32) (A : Nat → Addr) : Addr := if p1 = (2 : Int32) then (A 2) else (own_pk_28 p1 A)
def own_pk_10 (p1 : Int32) (A : Nat → Addr) : Addr := if p1 = (1 : Int32) then (A 1) else (own_pk_19 p1 A)
def own_pk_1 (p1 : Int32) (A : Nat → Addr) : Addr := if p1 = (0 : Int32) then (A 0) else (own_pk_10 p1 A)
set_option maxRecDepth 65536 in
set_option maxHeartbeats 40000000 in
theorem rm1 (l : Launch) (Z : State) (a0 : Array Value) (hw : ∀ d ∈ tables_1, d.before a0 Z = true) (ws : List Jvm.Cond) (p1 : Int32) (A : Nat → Addr) (h0 : Heap) (n0 : Nat) (Z0 : n0 ≤ h0.size) (HS : own_St Z h0 A) :
    MetFree l (⟨"com/example/sound_verdict/soundverdict/AxisIsDisjointPinLaw", "pick", "(I)Lcom/example/sound_verdict/soundverdict/Axis;"⟩ : MethodName) (head1 (Jvm.Cond.code (⟨"com/example/sound_verdict/soundverdict/AxisIsDisjointPinLaw", "pick", "(I)Lcom/example/sound_verdict/soundverdict/Axis;"⟩ : MethodName) method_2_code 1 (some (.object "com/example/sound_verdict/soundverdict/Axis")) :: ws) ({ frames := 0, cells := 0, slots := 0, locals := 0 } : Room)) (fun a U => a = #[(.int p1)] ∧ Z.Warmed39 U.vm ∧ U.heap = h0) (fun _ _ _ _ _ => True) (fun _ U o U' => ∃ v L, o = .returned v ∧ (own_P h0 n0 (.ref (own_pk_1 p1 A))) v U'.heap L ∧ FrameEnd U o U' L ({ frames := 0, cells := 0, slots := 0, locals := 0 } : Room).cells ({ frames := 0, cells := 0, slots := 0, locals := 0 } : Room).slots) := by
  refine MetFree.of_bodySF (plainFor_of_name pn_0) hisR ?_
  intro p e s m args below meth c s₁ Bd hml0 hP hK
  obtain ⟨rfl, hZ, hh⟩ := hP
  have hx := Bd.exec
  have hby := Bd.bytes
  have hml : c.maxLocals = 1 := hml0
  have hown : s.vm.findClass "com/example/sound_verdict/soundverdict/AxisIsDisjointPinLaw" = some m.cls := findClass_of_methodNamed Bd.named
  have hnm := (name_of_methodNamed Bd.named Bd.method).1
  have X0 : Stand p l e ({ frames := 0, cells := 0, slots := 0, locals := 0 } : Room) s m #[(.int p1)] below meth c s₁ [] 0 0 := Stand.of_body Bd
  have e0 : s₁.heap = h0 := by rw [← hh, Bd.state]; rfl
  have N0 := Fr.nil n0
  have hw_5 := hw _ (List.mem_of_getElem? (i := 5) rfl)
  have hw_24 := hw _ (List.mem_of_getElem? (i := 24) rfl)
  have hw_29 := hw _ (List.mem_of_getElem? (i := 29) rfl)
  have hw_30 := hw _ (List.mem_of_getElem? (i := 30) rfl)
  have hw_34 := hw _ (List.mem_of_getElem? (i := 34) rfl)
  have hw_36 := hw _ (List.mem_of_getElem? (i := 36) rfl)
  have hw_38 := hw _ (List.mem_of_getElem? (i := 38) rfl)
  have hw_39 := hw _ (List.mem_of_getElem? (i := 39) rfl)
  have hw_41 := hw _ (List.mem_of_getElem? (i := 41) rfl)
  have hw_43 := hw _ (List.mem_of_getElem? (i := 43) rfl)
  have hw_45 := hw _ (List.mem_of_getElem? (i := 45) rfl)
  have hw_47 := hw _ (List.mem_of_getElem? (i := 47) rfl)
  have hw_49 := hw _ (List.mem_of_getElem? (i := 49) rfl)
  have hw_51 := hw _ (List.mem_of_getElem? (i := 51) rfl)
  have hw_53 := hw _ (List.mem_of_getElem? (i := 53) rfl)
  have hw_55 := hw _ (List.mem_of_getElem? (i := 55) rfl)
  have hw_57 := hw _ (List.mem_of_getElem? (i := 57) rfl)
  have hw_59 := hw _ (List.mem_of_getElem? (i := 59) rfl)
  show own_Fin p e below (own_A s ({ frames := 0, cells := 0, slots := 0, locals := 0 } : Room).cells ({ frames := 0, cells := 0, slots := 0, locals := 0 } : Room).slots (own_P h0 n0 (.ref (own_pk_1 p1 A)))) _
  refine own_go (fun t k => castTop (ef_1 m (p1)) k) ?_
  show own_Fin p e below _ (s₁.setTop (mkF m 0 #[.val (.int p1)] []))
  refine own_go (fun t k => XS.iloadN X0.here hx rfl (hb hby d1_0) rfl  k) ?_
  show own_Fin p e below _ (s₁.setTop (mkF m 1 #[.val (.int p1)] [(.int p1)]))
  by_cases hc1 : p1 = (0 : Int32)
  · skip
    rw [(show (own_pk_1 p1 A) = (A 0) from if_pos hc1)]
    refine own_go (fun t k => XS.ifNo X0.here hx rfl (hb hby d1_1) rfl ((if0 _ _).trans (teq hc1).2) k) ?_
    show own_Fin p e below _ (s₁.setTop (mkF m 4 #[.val (.int p1)] []))
    obtain ⟨T2, X2, e2, st2⟩ := getS2 X0 hx hZ hown (host := "") (Or.inl hw_5) Via.refl e0 HS.1 (g := (mkF m 4 #[.val (.int p1)] [])) rfl (hb hby d1_4)
    refine own_go st2 ?_
    show own_Fin p e below _ (T2.setTop (mkF m 7 #[.val (.int p1)] [(.ref (A 0))]))
    exact own_out X2 (fun h => by rw [Bd.returns] at h; cases h) Bd.notSynchronized (fun fs hr => retOut X2 hx Bd.returns rfl (Or.inr (Or.inr (Or.inr (Or.inr ⟨rfl, rfl, rfl⟩)))) (hb hby d1_7) hr) ⟨rfl, N0, e2⟩ (by decide) (by decide)
  · skip
    rw [(show (own_pk_1 p1 A) = (own_pk_10 p1 A) from if_neg hc1)]
    refine own_go (fun t k => XS.ifYes X0.here hx rfl (pc0 := 1) (pc' := 8) rfl (hb hby d1_1) rfl ((if0 _ _).trans (feq hc1).2) (by decide) (by decide) (XS.iloadN X0.here hx rfl (hb hby d1_8) rfl  (XS.iconst X0.here hx rfl (hb hby d1_9) k))) ?_
    show own_Fin p e below _ (s₁.setTop (mkF m 10 #[.val (.int p1)] [(.int (1 : Int32)), (.int p1)]))
    by_cases hc3 : p1 = (1 : Int32)
    · skip
      rw [(show (own_pk_10 p1 A) = (A 1) from if_pos hc3)]
      refine own_go (fun t k => XS.icmpNo X0.here hx rfl (hb hby d1_10) rfl (teq hc3).2 k) ?_
      show own_Fin p e below _ (s₁.setTop (mkF m 13 #[.val (.int p1)] []))
      obtain ⟨T4, X4, e4, st4⟩ := getS2 X0 hx hZ hown (host := "") (Or.inl hw_30) Via.refl e0 HS.2.1 (g := (mkF m 13 #[.val (.int p1)] [])) rfl (hb hby d1_13)
      refine own_go st4 ?_
      show own_Fin p e below _ (T4.setTop (mkF m 16 #[.val (.int p1)] [(.ref (A 1))]))
      exact own_out X4 (fun h => by rw [Bd.returns] at h; cases h) Bd.notSynchronized (fun fs hr => retOut X4 hx Bd.returns rfl (Or.inr (Or.inr (Or.inr (Or.inr ⟨rfl, rfl, rfl⟩)))) (hb hby d1_16) hr) ⟨rfl, N0, e4⟩ (by decide) (by decide)
    · skip
      rw [(show (own_pk_10 p1 A) = (own_pk_19 p1 A) from if_neg hc3)]
      refine own_go (fun t k => XS.icmpYes X0.here hx rfl (pc0 := 10) (pc' := 17) rfl (hb hby d1_10) rfl (feq hc3).2 (by decide) (by decide) (XS.iloadN X0.here hx rfl (hb hby d1_17) rfl  (XS.iconst X0.here hx rfl (hb hby d1_18) k))) ?_
      show own_Fin p e below _ (s₁.setTop (mkF m 19 #[.val (.int p1)] [(.int (2 : Int32)), (.int p1)]))
      by_cases hc5 : p1 = (2 : Int32)
      · skip
        rw [(show (own_pk_19 p1 A) = (A 2) from if_pos hc5)]
        refine own_go (fun t k => XS.icmpNo X0.here hx rfl (hb hby d1_19) rfl (teq hc5).2 k) ?_
        show own_Fin p e below _ (s₁.setTop (mkF m 22 #[.val (.int p1)] []))
        obtain ⟨T6, X6, e6, st6⟩ := getS2 X0 hx hZ hown (host := "") (Or.inl hw_29) Via.refl e0 HS.2.2.1 (g := (mkF m 22 #[.val (.int p1)] [])) rfl (hb hby d1_22)
        refine own_go st6 ?_
        show own_Fin p e below _ (T6.setTop (mkF m 25 #[.val (.int p1)] [(.ref (A 2))]))
        exact own_out X6 (fun h => by rw [Bd.returns] at h; cases h) Bd.notSynchronized (fun fs hr => retOut X6 hx Bd.returns rfl (Or.inr (Or.inr (Or.inr (Or.inr ⟨rfl, rfl, rfl⟩)))) (hb hby d1_25) hr) ⟨rfl, N0, e6⟩ (by decide) (by decide)
      · skip
        rw [(show (own_pk_19 p1 A) = (own_pk_28 p1 A) from if_neg hc5)]
        refine own_go (fun t k => XS.icmpYes X0.here hx rfl (pc0 := 19) (pc' := 26) rfl (hb hby d1_19) rfl (feq hc5).2 (by decide) (by decide) (XS.iloadN X0.here hx rfl (hb hby d1_26) rfl  (XS.iconst X0.here hx rfl (hb hby d1_27) k))) ?_
        show own_Fin p e below _ (s₁.setTop (mkF m 28 #[.val (.int p1)] [(.int (3 : Int32)), (.int p1)]))
        by_cases hc7 : p1 = (3 : Int32)
        · skip
          rw [(show (own_pk_28 p1 A) = (A 3) from if_pos hc7)]
          refine own_go (fun t k => XS.icmpNo X0.here hx rfl (hb hby d1_28) rfl (teq hc7).2 k) ?_
          show own_Fin p e below _ (s₁.setTop (mkF m 31 #[.val (.int p1)] []))
          obtain ⟨T8, X8, e8, st8⟩ := getS2 X0 hx hZ hown (host := "") (Or.inl hw_24) Via.refl e0 HS.2.2.2.1 (g := (mkF m 31 #[.val (.int p1)] [])) rfl (hb hby d1_31)
          refine own_go st8 ?_
          show own_Fin p e below _ (T8.setTop (mkF m 34 #[.val (.int p1)] [(.ref (A 3))]))
          exact own_out X8 (fun h => by rw [Bd.returns] at h; cases h) Bd.notSynchronized (fun fs hr => retOut X8 hx Bd.returns rfl (Or.inr (Or.inr (Or.inr (Or.inr ⟨rfl, rfl, rfl⟩)))) (hb hby d1_34) hr) ⟨rfl, N0, e8⟩ (by decide) (by decide)
        · skip
          rw [(show (own_pk_28 p1 A) = (own_pk_37 p1 A) from if_neg hc7)]
          refine own_go (fun t k => XS.icmpYes X0.here hx rfl (pc0 := 28) (pc' := 35) rfl (hb hby d1_28) rfl (feq hc7).2 (by decide) (by decide) (XS.iloadN X0.here hx rfl (hb hby d1_35) rfl  (XS.iconst X0.here hx rfl (hb hby d1_36) k))) ?_
          show own_Fin p e below _ (s₁.setTop (mkF m 37 #[.val (.int p1)] [(.int (4 : Int32)), (.int p1)]))
          by_cases hc9 : p1 = (4 : Int32)
          · skip
            rw [(show (own_pk_37 p1 A) = (A 4) from if_pos hc9)]
            refine own_go (fun t k => XS.icmpNo X0.here hx rfl (hb hby d1_37) rfl (teq hc9).2 k) ?_
            show own_Fin p e below _ (s₁.setTop (mkF m 40 #[.val (.int p1)] []))
            obtain ⟨T10, X10, e10, st10⟩ := getS2 X0 hx hZ hown (host := "") (Or.inl hw_38) Via.refl e0 HS.2.2.2.2.1 (g := (mkF m 40 #[.val (.int p1)] [])) rfl (hb hby d1_40)
            refine own_go st10 ?_
            show own_Fin p e below _ (T10.setTop (mkF m 43 #[.val (.int p1)] [(.ref (A 4))]))
            exact own_out X10 (fun h => by rw [Bd.returns] at h; cases h) Bd.notSynchronized (fun fs hr => retOut X10 hx Bd.returns rfl (Or.inr (Or.inr (Or.inr (Or.inr ⟨rfl, rfl, rfl⟩)))) (hb hby d1_43) hr) ⟨rfl, N0, e10⟩ (by decide) (by decide)
          · skip
            rw [(show (own_pk_37 p1 A) = (own_pk_46 p1 A) from if_neg hc9)]
            refine own_go (fun t k => XS.icmpYes X0.here hx rfl (pc0 := 37) (pc' := 44) rfl (hb hby d1_37) rfl (feq hc9).2 (by decide) (by decide) (XS.iloadN X0.here hx rfl (hb hby d1_44) rfl  (XS.iconst X0.here hx rfl (hb hby d1_45) k))) ?_
            show own_Fin p e below _ (s₁.setTop (mkF m 46 #[.val (.int p1)] [(.int (5 : Int32)), (.int p1)]))
            by_cases hc11 : p1 = (5 : Int32)
            · skip
              rw [(show (own_pk_46 p1 A) = (A 5) from if_pos hc11)]
              refine own_go (fun t k => XS.icmpNo X0.here hx rfl (hb hby d1_46) rfl (teq hc11).2 k) ?_
              show own_Fin p e below _ (s₁.setTop (mkF m 49 #[.val (.int p1)] []))
              obtain ⟨T12, X12, e12, st12⟩ := getS2 X0 hx hZ hown (host := "") (Or.inl hw_57) Via.refl e0 HS.2.2.2.2.2.1 (g := (mkF m 49 #[.val (.int p1)] [])) rfl (hb hby d1_49)
              refine own_go st12 ?_
              show own_Fin p e below _ (T12.setTop (mkF m 52 #[.val (.int p1)] [(.ref (A 5))]))
              exact own_out X12 (fun h => by rw [Bd.returns] at h; cases h) Bd.notSynchronized (fun fs hr => retOut X12 hx Bd.returns rfl (Or.inr (Or.inr (Or.inr (Or.inr ⟨rfl, rfl, rfl⟩)))) (hb hby d1_52) hr) ⟨rfl, N0, e12⟩ (by decide) (by decide)
            · skip
              rw [(show (own_pk_46 p1 A) = (own_pk_56 p1 A) from if_neg hc11)]
              refine own_go (fun t k => XS.icmpYes X0.here hx rfl (pc0 := 46) (pc' := 53) rfl (hb hby d1_46) rfl (feq hc11).2 (by decide) (by decide) (XS.iloadN X0.here hx rfl (hb hby d1_53) rfl  (XS.bipush X0.here hx rfl (hb hby d1_54) k))) ?_
              show own_Fin p e below _ (s₁.setTop (mkF m 56 #[.val (.int p1)] [(.int (6 : Int32)), (.int p1)]))
              by_cases hc13 : p1 = (6 : Int32)
              · skip
                rw [(show (own_pk_56 p1 A) = (A 6) from if_pos hc13)]
                refine own_go (fun t k => XS.icmpNo X0.here hx rfl (hb hby d1_56) rfl (teq hc13).2 k) ?_
                show own_Fin p e below _ (s₁.setTop (mkF m 59 #[.val (.int p1)] []))
                obtain ⟨T14, X14, e14, st14⟩ := getS2 X0 hx hZ hown (host := "") (Or.inl hw_51) Via.refl e0 HS.2.2.2.2.2.2.1 (g := (mkF m 59 #[.val (.int p1)] [])) rfl (hb hby d1_59)
                refine own_go st14 ?_
                show own_Fin p e below _ (T14.setTop (mkF m 62 #[.val (.int p1)] [(.ref (A 6))]))
                exact own_out X14 (fun h => by rw [Bd.returns] at h; cases h) Bd.notSynchronized (fun fs hr => retOut X14 hx Bd.returns rfl (Or.inr (Or.inr (Or.inr (Or.inr ⟨rfl, rfl, rfl⟩)))) (hb hby d1_62) hr) ⟨rfl, N0, e14⟩ (by decide) (by decide)
              · skip
                rw [(show (own_pk_56 p1 A) = (own_pk_66 p1 A) from if_neg hc13)]
                refine own_go (fun t k => XS.icmpYes X0.here hx rfl (pc0 := 56) (pc' := 63) rfl (hb hby d1_56) rfl (feq hc13).2 (by decide) (by decide) (XS.iloadN X0.here hx rfl (hb hby d1_63) rfl  (XS.bipush X0.here hx rfl (hb hby d1_64) k))) ?_
                show own_Fin p e below _ (s₁.setTop (mkF m 66 #[.val (.int p1)] [(.int (7 : Int32)), (.int p1)]))
                by_cases hc15 : p1 = (7 : Int32)
                · skip
                  rw [(show (own_pk_66 p1 A) = (A 7) from if_pos hc15)]
                  refine own_go (fun t k => XS.icmpNo X0.here hx rfl (hb hby d1_66) rfl (teq hc15).2 k) ?_
                  show own_Fin p e below _ (s₁.setTop (mkF m 69 #[.val (.int p1)] []))
                  obtain ⟨T16, X16, e16, st16⟩ := getS2 X0 hx hZ hown (host := "") (Or.inl hw_34) Via.refl e0 HS.2.2.2.2.2.2.2.1 (g := (mkF m 69 #[.val (.int p1)] [])) rfl (hb hby d1_69)
                  refine own_go st16 ?_
                  show own_Fin p e below _ (T16.setTop (mkF m 72 #[.val (.int p1)] [(.ref (A 7))]))
                  exact own_out X16 (fun h => by rw [Bd.returns] at h; cases h) Bd.notSynchronized (fun fs hr => retOut X16 hx Bd.returns rfl (Or.inr (Or.inr (Or.inr (Or.inr ⟨rfl, rfl, rfl⟩)))) (hb hby d1_72) hr) ⟨rfl, N0, e16⟩ (by decide) (by decide)
                · skip
                  rw [(show (own_pk_66 p1 A) = (own_pk_76 p1 A) from if_neg hc15)]
                  refine own_go (fun t k => XS.icmpYes X0.here hx rfl (pc0 := 66) (pc' := 73) rfl (hb hby d1_66) rfl (feq hc15).2 (by decide) (by decide) (XS.iloadN X0.here hx rfl (hb hby d1_73) rfl  (XS.bipush X0.here hx rfl (hb hby d1_74) k))) ?_
                  show own_Fin p e below _ (s₁.setTop (mkF m 76 #[.val (.int p1)] [(.int (8 : Int32)), (.int p1)]))
                  by_cases hc17 : p1 = (8 : Int32)
                  · skip
                    rw [(show (own_pk_76 p1 A) = (A 8) from if_pos hc17)]
                    refine own_go (fun t k => XS.icmpNo X0.here hx rfl (hb hby d1_76) rfl (teq hc17).2 k) ?_
                    show own_Fin p e below _ (s₁.setTop (mkF m 79 #[.val (.int p1)] []))
                    obtain ⟨T18, X18, e18, st18⟩ := getS2 X0 hx hZ hown (host := "") (Or.inl hw_39) Via.refl e0 HS.2.2.2.2.2.2.2.2.1 (g := (mkF m 79 #[.val (.int p1)] [])) rfl (hb hby d1_79)
                    refine own_go st18 ?_
                    show own_Fin p e below _ (T18.setTop (mkF m 82 #[.val (.int p1)] [(.ref (A 8))]))
                    exact own_out X18 (fun h => by rw [Bd.returns] at h; cases h) Bd.notSynchronized (fun fs hr => retOut X18 hx Bd.returns rfl (Or.inr (Or.inr (Or.inr (Or.inr ⟨rfl, rfl, rfl⟩)))) (hb hby d1_82) hr) ⟨rfl, N0, e18⟩ (by decide) (by decide)
                  · skip
                    rw [(show (own_pk_76 p1 A) = (own_pk_86 p1 A) from if_neg hc17)]
                    refine own_go (fun t k => XS.icmpYes X0.here hx rfl (pc0 := 76) (pc' := 83) rfl (hb hby d1_76) rfl (feq hc17).2 (by decide) (by decide) (XS.iloadN X0.here hx rfl (hb hby d1_83) rfl  (XS.bipush X0.here hx rfl (hb hby d1_84) k))) ?_
                    show own_Fin p e below _ (s₁.setTop (mkF m 86 #[.val (.int p1)] [(.int (9 : Int32)), (.int p1)]))
                    by_cases hc19 : p1 = (9 : Int32)
                    · skip
                      rw [(show (own_pk_86 p1 A) = (A 9) from if_pos hc19)]
                      refine own_go (fun t k => XS.icmpNo X0.here hx rfl (hb hby d1_86) rfl (teq hc19).2 k) ?_
                      show own_Fin p e below _ (s₁.setTop (mkF m 89 #[.val (.int p1)] []))
                      obtain ⟨T20, X20, e20, st20⟩ := getS2 X0 hx hZ hown (host := "") (Or.inl hw_59) Via.refl e0 HS.2.2.2.2.2.2.2.2.2.1 (g := (mkF m 89 #[.val (.int p1)] [])) rfl (hb hby d1_89)
                      refine own_go st20 ?_
                      show own_Fin p e below _ (T20.setTop (mkF m 92 #[.val (.int p1)] [(.ref (A 9))]))
                      exact own_out X20 (fun h => by rw [Bd.returns] at h; cases h) Bd.notSynchronized (fun fs hr => retOut X20 hx Bd.returns rfl (Or.inr (Or.inr (Or.inr (Or.inr ⟨rfl, rfl, rfl⟩)))) (hb hby d1_92) hr) ⟨rfl, N0, e20⟩ (by decide) (by decide)
                    · skip
                      rw [(show (own_pk_86 p1 A) = (own_pk_96 p1 A) from if_neg hc19)]
                      refine own_go (fun t k => XS.icmpYes X0.here hx rfl (pc0 := 86) (pc' := 93) rfl (hb hby d1_86) rfl (feq hc19).2 (by decide) (by decide) (XS.iloadN X0.here hx rfl (hb hby d1_93) rfl  (XS.bipush X0.here hx rfl (hb hby d1_94) k))) ?_
                      show own_Fin p e below _ (s₁.setTop (mkF m 96 #[.val (.int p1)] [(.int (10 : Int32)), (.int p1)]))
                      by_cases hc21 : p1 = (10 : Int32)
                      · skip
                        rw [(show (own_pk_96 p1 A) = (A 10) from if_pos hc21)]
                        refine own_go (fun t k => XS.icmpNo X0.here hx rfl (hb hby d1_96) rfl (teq hc21).2 k) ?_
                        show own_Fin p e below _ (s₁.setTop (mkF m 99 #[.val (.int p1)] []))
                        obtain ⟨T22, X22, e22, st22⟩ := getS2 X0 hx hZ hown (host := "") (Or.inl hw_47) Via.refl e0 HS.2.2.2.2.2.2.2.2.2.2.1 (g := (mkF m 99 #[.val (.int p1)] [])) rfl (hb hby d1_99)
                        refine own_go st22 ?_
                        show own_Fin p e below _ (T22.setTop (mkF m 102 #[.val (.int p1)] [(.ref (A 10))]))
                        exact own_out X22 (fun h => by rw [Bd.returns] at h; cases h) Bd.notSynchronized (fun fs hr => retOut X22 hx Bd.returns rfl (Or.inr (Or.inr (Or.inr (Or.inr ⟨rfl, rfl, rfl⟩)))) (hb hby d1_102) hr) ⟨rfl, N0, e22⟩ (by decide) (by decide)
                      · skip
                        rw [(show (own_pk_96 p1 A) = (own_pk_106 p1 A) from if_neg hc21)]
                        refine own_go (fun t k => XS.icmpYes X0.here hx rfl (pc0 := 96) (pc' := 103) rfl (hb hby d1_96) rfl (feq hc21).2 (by decide) (by decide) (XS.iloadN X0.here hx rfl (hb hby d1_103) rfl  (XS.bipush X0.here hx rfl (hb hby d1_104) k))) ?_
                        show own_Fin p e below _ (s₁.setTop (mkF m 106 #[.val (.int p1)] [(.int (11 : Int32)), (.int p1)]))
                        by_cases hc23 : p1 = (11 : Int32)
                        · skip
                          rw [(show (own_pk_106 p1 A) = (A 11) from if_pos hc23)]
                          refine own_go (fun t k => XS.icmpNo X0.here hx rfl (hb hby d1_106) rfl (teq hc23).2 k) ?_
                          show own_Fin p e below _ (s₁.setTop (mkF m 109 #[.val (.int p1)] []))
                          obtain ⟨T24, X24, e24, st24⟩ := getS2 X0 hx hZ hown (host := "") (Or.inl hw_36) Via.refl e0 HS.2.2.2.2.2.2.2.2.2.2.2.1 (g := (mkF m 109 #[.val (.int p1)] [])) rfl (hb hby d1_109)
                          refine own_go st24 ?_
                          show own_Fin p e below _ (T24.setTop (mkF m 112 #[.val (.int p1)] [(.ref (A 11))]))
                          exact own_out X24 (fun h => by rw [Bd.returns] at h; cases h) Bd.notSynchronized (fun fs hr => retOut X24 hx Bd.returns rfl (Or.inr (Or.inr (Or.inr (Or.inr ⟨rfl, rfl, rfl⟩)))) (hb hby d1_112) hr) ⟨rfl, N0, e24⟩ (by decide) (by decide)
                        · skip
                          rw [(show (own_pk_106 p1 A) = (own_pk_116 p1 A) from if_neg hc23)]
                          refine own_go (fun t k => XS.icmpYes X0.here hx rfl (pc0 := 106) (pc' := 113) rfl (hb hby d1_106) rfl (feq hc23).2 (by decide) (by decide) (XS.iloadN X0.here hx rfl (hb hby d1_113) rfl  (XS.bipush X0.here hx rfl (hb hby d1_114) k))) ?_
                          show own_Fin p e below _ (s₁.setTop (mkF m 116 #[.val (.int p1)] [(.int (12 : Int32)), (.int p1)]))
                          by_cases hc25 : p1 = (12 : Int32)
                          · skip
                            rw [(show (own_pk_116 p1 A) = (A 12) from if_pos hc25)]
                            refine own_go (fun t k => XS.icmpNo X0.here hx rfl (hb hby d1_116) rfl (teq hc25).2 k) ?_
                            show own_Fin p e below _ (s₁.setTop (mkF m 119 #[.val (.int p1)] []))
                            obtain ⟨T26, X26, e26, st26⟩ := getS2 X0 hx hZ hown (host := "") (Or.inl hw_41) Via.refl e0 HS.2.2.2.2.2.2.2.2.2.2.2.2.1 (g := (mkF m 119 #[.val (.int p1)] [])) rfl (hb hby d1_119)
                            refine own_go st26 ?_
                            show own_Fin p e below _ (T26.setTop (mkF m 122 #[.val (.int p1)] [(.ref (A 12))]))
                            exact own_out X26 (fun h => by rw [Bd.returns] at h; cases h) Bd.notSynchronized (fun fs hr => retOut X26 hx Bd.returns rfl (Or.inr (Or.inr (Or.inr (Or.inr ⟨rfl, rfl, rfl⟩)))) (hb hby d1_122) hr) ⟨rfl, N0, e26⟩ (by decide) (by decide)
                          · skip
                            rw [(show (own_pk_116 p1 A) = (own_pk_126 p1 A) from if_neg hc25)]
                            refine own_go (fun t k => XS.icmpYes X0.here hx rfl (pc0 := 116) (pc' := 123) rfl (hb hby d1_116) rfl (feq hc25).2 (by decide) (by decide) (XS.iloadN X0.here hx rfl (hb hby d1_123) rfl  (XS.bipush X0.here hx rfl (hb hby d1_124) k))) ?_
                            show own_Fin p e below _ (s₁.setTop (mkF m 126 #[.val (.int p1)] [(.int (13 : Int32)), (.int p1)]))
                            by_cases hc27 : p1 = (13 : Int32)
                            · skip
                              rw [(show (own_pk_126 p1 A) = (A 13) from if_pos hc27)]
                              refine own_go (fun t k => XS.icmpNo X0.here hx rfl (hb hby d1_126) rfl (teq hc27).2 k) ?_
                              show own_Fin p e below _ (s₁.setTop (mkF m 129 #[.val (.int p1)] []))
                              obtain ⟨T28, X28, e28, st28⟩ := getS2 X0 hx hZ hown (host := "") (Or.inl hw_49) Via.refl e0 HS.2.2.2.2.2.2.2.2.2.2.2.2.2.1 (g := (mkF m 129 #[.val (.int p1)] [])) rfl (hb hby d1_129)
                              refine own_go st28 ?_
                              show own_Fin p e below _ (T28.setTop (mkF m 132 #[.val (.int p1)] [(.ref (A 13))]))
                              exact own_out X28 (fun h => by rw [Bd.returns] at h; cases h) Bd.notSynchronized (fun fs hr => retOut X28 hx Bd.returns rfl (Or.inr (Or.inr (Or.inr (Or.inr ⟨rfl, rfl, rfl⟩)))) (hb hby d1_132) hr) ⟨rfl, N0, e28⟩ (by decide) (by decide)
                            · skip
                              rw [(show (own_pk_126 p1 A) = (own_pk_136 p1 A) from if_neg hc27)]
                              refine own_go (fun t k => XS.icmpYes X0.here hx rfl (pc0 := 126) (pc' := 133) rfl (hb hby d1_126) rfl (feq hc27).2 (by decide) (by decide) (XS.iloadN X0.here hx rfl (hb hby d1_133) rfl  (XS.bipush X0.here hx rfl (hb hby d1_134) k))) ?_
                              show own_Fin p e below _ (s₁.setTop (mkF m 136 #[.val (.int p1)] [(.int (14 : Int32)), (.int p1)]))
                              by_cases hc29 : p1 = (14 : Int32)
                              · skip
                                rw [(show (own_pk_136 p1 A) = (A 14) from if_pos hc29)]
                                refine own_go (fun t k => XS.icmpNo X0.here hx rfl (hb hby d1_136) rfl (teq hc29).2 k) ?_
                                show own_Fin p e below _ (s₁.setTop (mkF m 139 #[.val (.int p1)] []))
                                obtain ⟨T30, X30, e30, st30⟩ := getS2 X0 hx hZ hown (host := "") (Or.inl hw_55) Via.refl e0 HS.2.2.2.2.2.2.2.2.2.2.2.2.2.2.1 (g := (mkF m 139 #[.val (.int p1)] [])) rfl (hb hby d1_139)
                                refine own_go st30 ?_
                                show own_Fin p e below _ (T30.setTop (mkF m 142 #[.val (.int p1)] [(.ref (A 14))]))
                                exact own_out X30 (fun h => by rw [Bd.returns] at h; cases h) Bd.notSynchronized (fun fs hr => retOut X30 hx Bd.returns rfl (Or.inr (Or.inr (Or.inr (Or.inr ⟨rfl, rfl, rfl⟩)))) (hb hby d1_142) hr) ⟨rfl, N0, e30⟩ (by decide) (by decide)
                              · skip
                                rw [(show (own_pk_136 p1 A) = (own_pk_146 p1 A) from if_neg hc29)]
                                refine own_go (fun t k => XS.icmpYes X0.here hx rfl (pc0 := 136) (pc' := 143) rfl (hb hby d1_136) rfl (feq hc29).2 (by decide) (by decide) (XS.iloadN X0.here hx rfl (hb hby d1_143) rfl  (XS.bipush X0.here hx rfl (hb hby d1_144) k))) ?_
                                show own_Fin p e below _ (s₁.setTop (mkF m 146 #[.val (.int p1)] [(.int (15 : Int32)), (.int p1)]))
                                by_cases hc31 : p1 = (15 : Int32)
                                · skip
                                  rw [(show (own_pk_146 p1 A) = (A 15) from if_pos hc31)]
                                  refine own_go (fun t k => XS.icmpNo X0.here hx rfl (hb hby d1_146) rfl (teq hc31).2 k) ?_
                                  show own_Fin p e below _ (s₁.setTop (mkF m 149 #[.val (.int p1)] []))
                                  obtain ⟨T32, X32, e32, st32⟩ := getS2 X0 hx hZ hown (host := "") (Or.inl hw_45) Via.refl e0 HS.2.2.2.2.2.2.2.2.2.2.2.2.2.2.2.1 (g := (mkF m 149 #[.val (.int p1)] [])) rfl (hb hby d1_149)
                                  refine own_go st32 ?_
                                  show own_Fin p e below _ (T32.setTop (mkF m 152 #[.val (.int p1)] [(.ref (A 15))]))
                                  exact own_out X32 (fun h => by rw [Bd.returns] at h; cases h) Bd.notSynchronized (fun fs hr => retOut X32 hx Bd.returns rfl (Or.inr (Or.inr (Or.inr (Or.inr ⟨rfl, rfl, rfl⟩)))) (hb hby d1_152) hr) ⟨rfl, N0, e32⟩ (by decide) (by decide)
                                · skip
                                  rw [(show (own_pk_146 p1 A) = (own_pk_156 p1 A) from if_neg hc31)]
                                  refine own_go (fun t k => XS.icmpYes X0.here hx rfl (pc0 := 146) (pc' := 153) rfl (hb hby d1_146) rfl (feq hc31).2 (by decide) (by decide) (XS.iloadN X0.here hx rfl (hb hby d1_153) rfl  (XS.bipush X0.here hx rfl (hb hby d1_154) k))) ?_
                                  show own_Fin p e below _ (s₁.setTop (mkF m 156 #[.val (.int p1)] [(.int (16 : Int32)), (.int p1)]))
                                  by_cases hc33 : p1 = (16 : Int32)
                                  · skip
                                    rw [(show (own_pk_156 p1 A) = (A 16) from if_pos hc33)]
                                    refine own_go (fun t k => XS.icmpNo X0.here hx rfl (hb hby d1_156) rfl (teq hc33).2 k) ?_
                                    show own_Fin p e below _ (s₁.setTop (mkF m 159 #[.val (.int p1)] []))
                                    obtain ⟨T34, X34, e34, st34⟩ := getS2 X0 hx hZ hown (host := "") (Or.inl hw_43) Via.refl e0 HS.2.2.2.2.2.2.2.2.2.2.2.2.2.2.2.2.1 (g := (mkF m 159 #[.val (.int p1)] [])) rfl (hb hby d1_159)
                                    refine own_go st34 ?_
                                    show own_Fin p e below _ (T34.setTop (mkF m 162 #[.val (.int p1)] [(.ref (A 16))]))
                                    exact own_out X34 (fun h => by rw [Bd.returns] at h; cases h) Bd.notSynchronized (fun fs hr => retOut X34 hx Bd.returns rfl (Or.inr (Or.inr (Or.inr (Or.inr ⟨rfl, rfl, rfl⟩)))) (hb hby d1_162) hr) ⟨rfl, N0, e34⟩ (by decide) (by decide)
                                  · skip
                                    rw [(show (own_pk_156 p1 A) = (A 17) from if_neg hc33)]
                                    refine own_go (fun t k => XS.icmpYes X0.here hx rfl (pc0 := 156) (pc' := 163) rfl (hb hby d1_156) rfl (feq hc33).2 (by decide) (by decide) k) ?_
                                    show own_Fin p e below _ (s₁.setTop (mkF m 163 #[.val (.int p1)] []))
                                    obtain ⟨T35, X35, e35, st35⟩ := getS2 X0 hx hZ hown (host := "") (Or.inl hw_53) Via.refl e0 HS.2.2.2.2.2.2.2.2.2.2.2.2.2.2.2.2.2 (g := (mkF m 163 #[.val (.int p1)] [])) rfl (hb hby d1_163)
                                    refine own_go st35 ?_
                                    show own_Fin p e below _ (T35.setTop (mkF m 166 #[.val (.int p1)] [(.ref (A 17))]))
                                    exact own_out X35 (fun h => by rw [Bd.returns] at h; cases h) Bd.notSynchronized (fun fs hr => retOut X35 hx Bd.returns rfl (Or.inr (Or.inr (Or.inr (Or.inr ⟨rfl, rfl, rfl⟩)))) (hb hby d1_166) hr) ⟨rfl, N0, e35⟩ (by decide) (by decide)
theorem d2_0 : decode prog_13_method_9_code 0 = .ok (.aload_n 0, 1) := by decide +kernel
theorem d2_1 : decode prog_13_method_9_code 1 = .ok (.getstatic 3, 3) := by decide +kernel
theorem d2_4 : decode prog_13_method_9_code 4 = .ok (.if_acmp .eq 24, 3) := by decide +kernel
theorem d2_7 : decode prog_13_method_9_code 7 = .ok (.aload_n 0, 1) := by decide +kernel
theorem d2_8 : decode prog_13_method_9_code 8 = .ok (.getstatic 10, 3) := by decide +kernel
theorem d2_11 : decode prog_13_method_9_code 11 = .ok (.if_acmp .eq 17, 3) := by decide +kernel
theorem d2_14 : decode prog_13_method_9_code 14 = .ok (.aload_n 0, 1) := by decide +kernel
theorem d2_15 : decode prog_13_method_9_code 15 = .ok (.getstatic 13, 3) := by decide +kernel
theorem d2_18 : decode prog_13_method_9_code 18 = .ok (.if_acmp .eq 10, 3) := by decide +kernel
theorem d2_21 : decode prog_13_method_9_code 21 = .ok (.aload_n 0, 1) := by decide +kernel
theorem d2_22 : decode prog_13_method_9_code 22 = .ok (.getstatic 16, 3) := by decide +kernel
theorem d2_25 : decode prog_13_method_9_code 25 = .ok (.if_acmp .ne 7, 3) := by decide +kernel
theorem d2_28 : decode prog_13_method_9_code 28 = .ok (.iconst 1, 1) := by decide +kernel
theorem d2_29 : decode prog_13_method_9_code 29 = .ok (.goto 4, 3) := by decide +kernel
theorem d2_32 : decode prog_13_method_9_code 32 = .ok (.iconst 0, 1) := by decide +kernel
theorem d2_33 : decode prog_13_method_9_code 33 = .ok (.ireturn, 1) := by decide +kernel
theorem pn_1 : plainName "com/example/sound_verdict/soundverdict/Axis" = true := by first | (simp [plainName, overriddenIn]; done) | decide +kernel
theorem ef_2 (m : MethodId) (x0 : Addr)  : entryFrame m #[(.ref x0)] 1 = mkF m 0 #[.val (.ref x0)] [] := by first | (simp [entryFrame, mkF, argsToLocals, Value.category]; done) | rfl
def own_dj_25 (a1 : Addr) (A : Nat → Addr) : Int32 := if a1 = (A 4) then (1 : Int32) else (0 : Int32)
def own_dj_18 (a1 : Addr) (A : Nat → Addr) : Int32 := if a1 = (A 3) then (1 : Int32) else (own_dj_25 a1 A)
def own_dj_11 (a1 : Addr) (A : Nat → Addr) : Int32 := if a1 = (A 2) then (1 : Int32) else (own_dj_18 a1 A)
def own_dj_4 (a1 : Addr) (A : Nat → Addr) : Int32 := if a1 = (A 0) then (1 : Int32) else (own_dj_11 a1 A)
set_option maxRecDepth 65536 in
set_option maxHeartbeats 40000000 in
theorem rm2 (l : Launch) (Z : State) (a0 : Array Value) (hw : ∀ d ∈ tables_1, d.before a0 Z = true) (ws : List Jvm.Cond) (a1 : Addr) (A : Nat → Addr) (h0 : Heap) (n0 : Nat) (Z0 : n0 ≤ h0.size) (HS : own_St Z h0 A) :
    MetFree l (⟨"com/example/sound_verdict/soundverdict/Axis", "isDisjoint", "()Z"⟩ : MethodName) (head1 (Jvm.Cond.code (⟨"com/example/sound_verdict/soundverdict/Axis", "isDisjoint", "()Z"⟩ : MethodName) prog_13_method_9_code 1 (some .boolean) :: ws) ({ frames := 0, cells := 0, slots := 0, locals := 0 } : Room)) (fun a U => a = #[(.ref a1)] ∧ Z.Warmed39 U.vm ∧ U.heap = h0) (fun _ _ _ _ _ => True) (fun _ U o U' => ∃ v L, o = .returned v ∧ (own_P h0 n0 (.int (own_dj_4 a1 A))) v U'.heap L ∧ FrameEnd U o U' L ({ frames := 0, cells := 0, slots := 0, locals := 0 } : Room).cells ({ frames := 0, cells := 0, slots := 0, locals := 0 } : Room).slots) := by
  refine MetFree.of_bodySF (plainFor_of_name pn_1) hisR ?_
  intro p e s m args below meth c s₁ Bd hml0 hP hK
  obtain ⟨rfl, hZ, hh⟩ := hP
  have hx := Bd.exec
  have hby := Bd.bytes
  have hml : c.maxLocals = 1 := hml0
  have hown : s.vm.findClass "com/example/sound_verdict/soundverdict/Axis" = some m.cls := findClass_of_methodNamed Bd.named
  have hnm := (name_of_methodNamed Bd.named Bd.method).1
  have X0 : Stand p l e ({ frames := 0, cells := 0, slots := 0, locals := 0 } : Room) s m #[(.ref a1)] below meth c s₁ [] 0 0 := Stand.of_body Bd
  have e0 : s₁.heap = h0 := by rw [← hh, Bd.state]; rfl
  have N0 := Fr.nil n0
  have hw_13 := hw _ (List.mem_of_getElem? (i := 13) rfl)
  have hw_26 := hw _ (List.mem_of_getElem? (i := 26) rfl)
  have hw_28 := hw _ (List.mem_of_getElem? (i := 28) rfl)
  have hw_32 := hw _ (List.mem_of_getElem? (i := 32) rfl)
  show own_Fin p e below (own_A s ({ frames := 0, cells := 0, slots := 0, locals := 0 } : Room).cells ({ frames := 0, cells := 0, slots := 0, locals := 0 } : Room).slots (own_P h0 n0 (.int (own_dj_4 a1 A)))) _
  refine own_go (fun t k => castTop (ef_2 m (a1)) k) ?_
  show own_Fin p e below _ (s₁.setTop (mkF m 0 #[.val (.ref a1)] []))
  refine own_go (fun t k => XS.aloadN X0.here hx rfl (hb hby d2_0) rfl rfl  k) ?_
  show own_Fin p e below _ (s₁.setTop (mkF m 1 #[.val (.ref a1)] [(.ref a1)]))
  obtain ⟨T1, X1, e1, st1⟩ := getS2 X0 hx hZ hown (host := "") (Or.inl hw_13) Via.refl e0 HS.1 (g := (mkF m 1 #[.val (.ref a1)] [(.ref a1)])) rfl (hb hby d2_1)
  refine own_go st1 ?_
  show own_Fin p e below _ (T1.setTop (mkF m 4 #[.val (.ref a1)] [(.ref (A 0)), (.ref a1)]))
  by_cases hc2 : a1 = (A 0)
  · skip
    rw [(show (own_dj_4 a1 A) = (1 : Int32) from if_pos hc2)]
    refine own_go (fun t k => Jvm.RoadKit.acmp (g := (mkF m 4 #[.val (.ref a1)] [(.ref (A 0)), (.ref a1)])) X1 hx rfl rfl rfl (pc0 := 4) (pc' := 28) (same := true) rfl (hb hby d2_4) rfl (decide_eq_true (congrArg Value.ref hc2)) (by decide) (by decide) (XS.iconst X1.here hx rfl (hb hby d2_28) (XS.goto X1.here hx rfl (pc0 := 29) (pc' := 33) rfl (hb hby d2_29) (by decide) (by decide) k))) ?_
    show own_Fin p e below _ (T1.setTop (mkF m 33 #[.val (.ref a1)] [(.int (1 : Int32))]))
    exact own_out X1 (fun h => by rw [Bd.returns] at h; cases h) Bd.notSynchronized (fun fs hr => retN X1 hx (t := .boolean) Bd.returns (by simp) (hb hby d2_33) hr) ⟨rfl, N0, e1⟩ (by decide) (by decide)
  · skip
    rw [(show (own_dj_4 a1 A) = (own_dj_11 a1 A) from if_neg hc2)]
    refine own_go (fun t k => Jvm.RoadKit.acmp (g := (mkF m 4 #[.val (.ref a1)] [(.ref (A 0)), (.ref a1)])) X1 hx rfl rfl rfl (pc0 := 4) (pc' := 7) (same := false) rfl (hb hby d2_4) rfl (decide_eq_false fun q => hc2 (Value.ref.inj q)) (by decide) (by decide) (XS.aloadN X1.here hx rfl (hb hby d2_7) rfl rfl  k)) ?_
    show own_Fin p e below _ (T1.setTop (mkF m 8 #[.val (.ref a1)] [(.ref a1)]))
    obtain ⟨T3, X3, e3, st3⟩ := getS2 X1 hx hZ hown (host := "") (Or.inl hw_26) Via.refl e1 HS.2.2.1 (g := (mkF m 8 #[.val (.ref a1)] [(.ref a1)])) rfl (hb hby d2_8)
    refine own_go st3 ?_
    show own_Fin p e below _ (T3.setTop (mkF m 11 #[.val (.ref a1)] [(.ref (A 2)), (.ref a1)]))
    by_cases hc4 : a1 = (A 2)
    · skip
      rw [(show (own_dj_11 a1 A) = (1 : Int32) from if_pos hc4)]
      refine own_go (fun t k => Jvm.RoadKit.acmp (g := (mkF m 11 #[.val (.ref a1)] [(.ref (A 2)), (.ref a1)])) X3 hx rfl rfl rfl (pc0 := 11) (pc' := 28) (same := true) rfl (hb hby d2_11) rfl (decide_eq_true (congrArg Value.ref hc4)) (by decide) (by decide) (XS.iconst X3.here hx rfl (hb hby d2_28) (XS.goto X3.here hx rfl (pc0 := 29) (pc' := 33) rfl (hb hby d2_29) (by decide) (by decide) k))) ?_
      show own_Fin p e below _ (T3.setTop (mkF m 33 #[.val (.ref a1)] [(.int (1 : Int32))]))
      exact own_out X3 (fun h => by rw [Bd.returns] at h; cases h) Bd.notSynchronized (fun fs hr => retN X3 hx (t := .boolean) Bd.returns (by simp) (hb hby d2_33) hr) ⟨rfl, N0, e3⟩ (by decide) (by decide)
    · skip
      rw [(show (own_dj_11 a1 A) = (own_dj_18 a1 A) from if_neg hc4)]
      refine own_go (fun t k => Jvm.RoadKit.acmp (g := (mkF m 11 #[.val (.ref a1)] [(.ref (A 2)), (.ref a1)])) X3 hx rfl rfl rfl (pc0 := 11) (pc' := 14) (same := false) rfl (hb hby d2_11) rfl (decide_eq_false fun q => hc4 (Value.ref.inj q)) (by decide) (by decide) (XS.aloadN X3.here hx rfl (hb hby d2_14) rfl rfl  k)) ?_
      show own_Fin p e below _ (T3.setTop (mkF m 15 #[.val (.ref a1)] [(.ref a1)]))
      obtain ⟨T5, X5, e5, st5⟩ := getS2 X3 hx hZ hown (host := "") (Or.inl hw_28) Via.refl e3 HS.2.2.2.1 (g := (mkF m 15 #[.val (.ref a1)] [(.ref a1)])) rfl (hb hby d2_15)
      refine own_go st5 ?_
      show own_Fin p e below _ (T5.setTop (mkF m 18 #[.val (.ref a1)] [(.ref (A 3)), (.ref a1)]))
      by_cases hc6 : a1 = (A 3)
      · skip
        rw [(show (own_dj_18 a1 A) = (1 : Int32) from if_pos hc6)]
        refine own_go (fun t k => Jvm.RoadKit.acmp (g := (mkF m 18 #[.val (.ref a1)] [(.ref (A 3)), (.ref a1)])) X5 hx rfl rfl rfl (pc0 := 18) (pc' := 28) (same := true) rfl (hb hby d2_18) rfl (decide_eq_true (congrArg Value.ref hc6)) (by decide) (by decide) (XS.iconst X5.here hx rfl (hb hby d2_28) (XS.goto X5.here hx rfl (pc0 := 29) (pc' := 33) rfl (hb hby d2_29) (by decide) (by decide) k))) ?_
        show own_Fin p e below _ (T5.setTop (mkF m 33 #[.val (.ref a1)] [(.int (1 : Int32))]))
        exact own_out X5 (fun h => by rw [Bd.returns] at h; cases h) Bd.notSynchronized (fun fs hr => retN X5 hx (t := .boolean) Bd.returns (by simp) (hb hby d2_33) hr) ⟨rfl, N0, e5⟩ (by decide) (by decide)
      · skip
        rw [(show (own_dj_18 a1 A) = (own_dj_25 a1 A) from if_neg hc6)]
        refine own_go (fun t k => Jvm.RoadKit.acmp (g := (mkF m 18 #[.val (.ref a1)] [(.ref (A 3)), (.ref a1)])) X5 hx rfl rfl rfl (pc0 := 18) (pc' := 21) (same := false) rfl (hb hby d2_18) rfl (decide_eq_false fun q => hc6 (Value.ref.inj q)) (by decide) (by decide) (XS.aloadN X5.here hx rfl (hb hby d2_21) rfl rfl  k)) ?_
        show own_Fin p e below _ (T5.setTop (mkF m 22 #[.val (.ref a1)] [(.ref a1)]))
        obtain ⟨T7, X7, e7, st7⟩ := getS2 X5 hx hZ hown (host := "") (Or.inl hw_32) Via.refl e5 HS.2.2.2.2.1 (g := (mkF m 22 #[.val (.ref a1)] [(.ref a1)])) rfl (hb hby d2_22)
        refine own_go st7 ?_
        show own_Fin p e below _ (T7.setTop (mkF m 25 #[.val (.ref a1)] [(.ref (A 4)), (.ref a1)]))
        by_cases hc8 : a1 = (A 4)
        · skip
          rw [(show (own_dj_25 a1 A) = (1 : Int32) from if_pos hc8)]
          refine own_go (fun t k => Jvm.RoadKit.acmp (g := (mkF m 25 #[.val (.ref a1)] [(.ref (A 4)), (.ref a1)])) X7 hx rfl rfl rfl (pc0 := 25) (pc' := 28) (same := true) rfl (hb hby d2_25) rfl (decide_eq_true (congrArg Value.ref hc8)) (by decide) (by decide) (XS.iconst X7.here hx rfl (hb hby d2_28) (XS.goto X7.here hx rfl (pc0 := 29) (pc' := 33) rfl (hb hby d2_29) (by decide) (by decide) k))) ?_
          show own_Fin p e below _ (T7.setTop (mkF m 33 #[.val (.ref a1)] [(.int (1 : Int32))]))
          exact own_out X7 (fun h => by rw [Bd.returns] at h; cases h) Bd.notSynchronized (fun fs hr => retN X7 hx (t := .boolean) Bd.returns (by simp) (hb hby d2_33) hr) ⟨rfl, N0, e7⟩ (by decide) (by decide)
        · skip
          rw [(show (own_dj_25 a1 A) = (0 : Int32) from if_neg hc8)]
          refine own_go (fun t k => Jvm.RoadKit.acmp (g := (mkF m 25 #[.val (.ref a1)] [(.ref (A 4)), (.ref a1)])) X7 hx rfl rfl rfl (pc0 := 25) (pc' := 32) (same := false) rfl (hb hby d2_25) rfl (decide_eq_false fun q => hc8 (Value.ref.inj q)) (by decide) (by decide) (XS.iconst X7.here hx rfl (hb hby d2_32) k)) ?_
          show own_Fin p e below _ (T7.setTop (mkF m 33 #[.val (.ref a1)] [(.int (0 : Int32))]))
          exact own_out X7 (fun h => by rw [Bd.returns] at h; cases h) Bd.notSynchronized (fun fs hr => retN X7 hx (t := .boolean) Bd.returns (by simp) (hb hby d2_33) hr) ⟨rfl, N0, e7⟩ (by decide) (by decide)
theorem d4_0 : decode prog_13_method_10_code 0 = .ok (.aload_n 0, 1) := by decide +kernel
theorem d4_1 : decode prog_13_method_10_code 1 = .ok (.getfield 89, 3) := by decide +kernel
theorem d4_4 : decode prog_13_method_10_code 4 = .ok (.ireturn, 1) := by decide +kernel
theorem ef_4 (m : MethodId) (x0 : Addr)  : entryFrame m #[(.ref x0)] 1 = mkF m 0 #[.val (.ref x0)] [] := by first | (simp [entryFrame, mkF, argsToLocals, Value.category]; done) | rfl
set_option maxRecDepth 65536 in
set_option maxHeartbeats 40000000 in
theorem rm4 (l : Launch) (Z : State) (a0 : Array Value) (hw : ∀ d ∈ tables_1, d.before a0 Z = true) (ws : List Jvm.Cond) (a1 : Addr) (w1 : Int32) (h0 : Heap) (n0 : Nat) (Z0 : n0 ≤ h0.size) (F_1 : Fld Z h0 a1 "com/example/sound_verdict/soundverdict/Axis" "reverse" "Z" (.int w1)) :
    MetFree l (⟨"com/example/sound_verdict/soundverdict/Axis", "isReverse", "()Z"⟩ : MethodName) (head1 (Jvm.Cond.code (⟨"com/example/sound_verdict/soundverdict/Axis", "isReverse", "()Z"⟩ : MethodName) prog_13_method_10_code 1 (some .boolean) :: ws) ({ frames := 0, cells := 0, slots := 0, locals := 0 } : Room)) (fun a U => a = #[(.ref a1)] ∧ Z.Warmed39 U.vm ∧ U.heap = h0) (fun _ _ _ _ _ => True) (fun _ U o U' => ∃ v L, o = .returned v ∧ (own_P h0 n0 (.int (nar .boolean w1))) v U'.heap L ∧ FrameEnd U o U' L ({ frames := 0, cells := 0, slots := 0, locals := 0 } : Room).cells ({ frames := 0, cells := 0, slots := 0, locals := 0 } : Room).slots) := by
  refine MetFree.of_bodySF (plainFor_of_name pn_1) hisR ?_
  intro p e s m args below meth c s₁ Bd hml0 hP hK
  obtain ⟨rfl, hZ, hh⟩ := hP
  have hx := Bd.exec
  have hby := Bd.bytes
  have hml : c.maxLocals = 1 := hml0
  have hown : s.vm.findClass "com/example/sound_verdict/soundverdict/Axis" = some m.cls := findClass_of_methodNamed Bd.named
  have hnm := (name_of_methodNamed Bd.named Bd.method).1
  have X0 : Stand p l e ({ frames := 0, cells := 0, slots := 0, locals := 0 } : Room) s m #[(.ref a1)] below meth c s₁ [] 0 0 := Stand.of_body Bd
  have e0 : s₁.heap = h0 := by rw [← hh, Bd.state]; rfl
  have N0 := Fr.nil n0
  have hw_22 := hw _ (List.mem_of_getElem? (i := 22) rfl)
  show own_Fin p e below (own_A s ({ frames := 0, cells := 0, slots := 0, locals := 0 } : Room).cells ({ frames := 0, cells := 0, slots := 0, locals := 0 } : Room).slots (own_P h0 n0 (.int (nar .boolean w1)))) _
  refine own_go (fun t k => castTop (ef_4 m (a1)) k) ?_
  show own_Fin p e below _ (s₁.setTop (mkF m 0 #[.val (.ref a1)] []))
  refine own_go (fun t k => XS.aloadN X0.here hx rfl (hb hby d4_0) rfl rfl  k) ?_
  show own_Fin p e below _ (s₁.setTop (mkF m 1 #[.val (.ref a1)] [(.ref a1)]))
  obtain ⟨T1, X1, e1, st1⟩ := getF X0 hx hZ hown (host := "") (Or.inl hw_22) Via.refl e0 F_1 (g := (mkF m 1 #[.val (.ref a1)] [(.ref a1)])) rfl rfl (hb hby d4_1)
  refine own_go st1 ?_
  show own_Fin p e below _ (T1.setTop (mkF m 4 #[.val (.ref a1)] [(.int w1)]))
  exact own_out X1 (fun h => by rw [Bd.returns] at h; cases h) Bd.notSynchronized (fun fs hr => retN X1 hx (t := .boolean) Bd.returns (by simp) (hb hby d4_4) hr) ⟨rfl, N0, e1⟩ (by decide) (by decide)
theorem own_fldI {s : State} {args : Array Value} {t : Term} {C n d : String} {k : Int32} {a : Addr} (ht : t.eval args s none [] s = some (.ref a)) (h : (Jvm.Cond.eq (.field t C n d) (.int k)).value args s none s [] = some true) : Fld s s.heap a C n d (.int k) := by
  refine Fld.start ?_
  obtain ⟨x, y, h1, h2, h3, h4⟩ := cmp_v (Or.inl h)
  rw [fld_at ht] at h1
  have e2 : y = .int k := (Option.some.inj h2).symm
  subst e2
  obtain ⟨z, rfl⟩ := (h4 : ∃ z, x = .int z)
  have h5 : (Jvm.Cond.eq (.field t C n d) (.int k)).value args s none s [] = some (decide (z = k)) := by
    simp only [Jvm.Cond.value, Term.eval, ht]
    simp [h1]
  rw [h5] at h
  have h6 : z = k := by simpa using h
  rw [h1, h6]
theorem own_fldN {s : State} {args : Array Value} {t : Term} {C n d : String} {a : Addr} (ht : t.eval args s none [] s = some (.ref a)) (h : (Jvm.Cond.eq (.field t C n d) .null).value args s none s [] = some true) : Fld s s.heap a C n d .null := Fld.start (by rw [← fld_at ht]; exact null_v h)
theorem own_fldR {s : State} {args : Array Value} {t : Term} {C n d : String} {a b : Addr} (ht : t.eval args s none [] s = some (.ref a)) (h : (Term.field t C n d).eval args s none [] s = some (.ref b)) : Fld s s.heap a C n d (.ref b) := Fld.start (by rw [← fld_at ht]; exact h)

def own_rv (k : Nat) : Int32 := if 10 ≤ k ∧ k ≤ 16 then (1 : Int32) else (0 : Int32)
def own_four (k : Nat) : Bool := k == 0 || k == 2 || k == 3 || k == 4
theorem own_inj {j k : Nat} (hj : j < 18) (hk : k < 18) (h : j.toInt32 = k.toInt32) : j = k := by
  have q : ∀ a b : Fin 18, a.1.toInt32 = b.1.toInt32 → a = b := by decide +kernel
  exact congrArg Fin.val (q ⟨j, hj⟩ ⟨k, hk⟩ h)
theorem own_rg (p1 : Int32) : ∃ k, k < 18 ∧ ((p1 &&& (2147483647 : Int32)) % (18 : Int32)) = k.toInt32 := by
  have a := c_mask p1 2147483647 31 (by decide) (by decide)
  have b := (c_irem (p1 &&& (2147483647 : Int32)) 18 18 rfl).1 (by omega)
  have e0 : (0 : Int32).toInt = 0 := rfl
  have h0 : ¬ ((p1 &&& (2147483647 : Int32)) % (18 : Int32)) < 0 := by rw [Int32.lt_iff_toInt_lt]; omega
  have n := nat_of h0
  exact ⟨_, by omega, (back32 h0).1.symm⟩
theorem own_pkA {A : Nat → Addr} : ∀ k, k < 18 → own_pk_1 k.toInt32 A = A k := fun k hk => match k, hk with
  | 0, _ => rfl
  | 1, _ => rfl
  | 2, _ => rfl
  | 3, _ => rfl
  | 4, _ => rfl
  | 5, _ => rfl
  | 6, _ => rfl
  | 7, _ => rfl
  | 8, _ => rfl
  | 9, _ => rfl
  | 10, _ => rfl
  | 11, _ => rfl
  | 12, _ => rfl
  | 13, _ => rfl
  | 14, _ => rfl
  | 15, _ => rfl
  | 16, _ => rfl
  | 17, _ => rfl
  | k + 18, hk => absurd hk (by omega)
theorem own_back {k : Nat} (hk : k < 18) : (k.toInt32).toNatClampNeg = k := by
  have q : ∀ a : Fin 18, (a.1.toInt32).toNatClampNeg = a.1 := by decide +kernel
  exact q ⟨k, hk⟩
theorem own_Ex {Z : State} {h0 : Heap} {A : Nat → Addr} {i : Int32} (h : ∃ k, k < 18 ∧ i = k.toInt32) (HE : ∀ k, k < 18 → Exa Z h0 (A k) "com/example/sound_verdict/soundverdict/Axis") : Exa Z h0 (own_pk_1 i A) "com/example/sound_verdict/soundverdict/Axis" := by
  obtain ⟨k, hk, rfl⟩ := h
  rw [own_pkA k hk]; exact HE k hk
theorem own_Fx {Z : State} {h0 : Heap} {A : Nat → Addr} {i : Int32} (h : ∃ k, k < 18 ∧ i = k.toInt32) (HF : ∀ k, k < 18 → Fld Z h0 (A k) "com/example/sound_verdict/soundverdict/Axis" "reverse" "Z" (.int (own_rv k))) : Fld Z h0 (own_pk_1 i A) "com/example/sound_verdict/soundverdict/Axis" "reverse" "Z" (.int (own_rv (i).toNatClampNeg)) := by
  obtain ⟨k, hk, rfl⟩ := h
  rw [own_pkA k hk, own_back hk]; exact HF k hk
theorem own_djv {A : Nat → Addr} (HN : ∀ j k, j < 18 → k < 18 → j ≠ k → A j ≠ A k) (k : Nat) (hk : k < 18) : own_dj_4 (A k) A = if own_four k then (1 : Int32) else (0 : Int32) := by
  by_cases q0 : k = 0
  · subst q0; exact if_pos rfl
  rw [(show own_dj_4 (A k) A = own_dj_11 (A k) A from if_neg (HN k 0 hk (by decide) q0))]
  by_cases q2 : k = 2
  · subst q2; exact if_pos rfl
  rw [(show own_dj_11 (A k) A = own_dj_18 (A k) A from if_neg (HN k 2 hk (by decide) q2))]
  by_cases q3 : k = 3
  · subst q3; exact if_pos rfl
  rw [(show own_dj_18 (A k) A = own_dj_25 (A k) A from if_neg (HN k 3 hk (by decide) q3))]
  by_cases q4 : k = 4
  · subst q4; exact if_pos rfl
  rw [(show own_dj_25 (A k) A = (0 : Int32) from if_neg (HN k 4 hk (by decide) q4))]
  have : own_four k = false := by simp [own_four, q0, q2, q3, q4]
  rw [this]; rfl
theorem own_exv (k : Nat) (hk : k < 18) : own_ex_1 k.toInt32 = if own_four k then (1 : Int32) else (0 : Int32) := by
  have q : ∀ a : Fin 18, own_ex_1 a.1.toInt32 = if own_four a.1 then (1 : Int32) else (0 : Int32) := by decide +kernel
  exact q ⟨k, hk⟩
theorem own_same {A : Nat → Addr} {i : Int32} (h : ∃ k, k < 18 ∧ i = k.toInt32) (HN : ∀ j k, j < 18 → k < 18 → j ≠ k → A j ≠ A k) : own_dj_4 (own_pk_1 i A) A = own_ex_1 i := by
  obtain ⟨k, hk, rfl⟩ := h
  rw [own_pkA k hk, own_djv HN k hk, own_exv k hk]
theorem own_norev {A : Nat → Addr} {i : Int32} (h : ∃ k, k < 18 ∧ i = k.toInt32) (HN : ∀ j k, j < 18 → k < 18 → j ≠ k → A j ≠ A k) (h1 : ¬ own_dj_4 (own_pk_1 i A) A = (0 : Int32)) : nar .boolean (own_rv (i).toNatClampNeg) = (0 : Int32) := by
  obtain ⟨k, hk, rfl⟩ := h
  rw [own_pkA k hk, own_djv HN k hk] at h1
  rw [own_back hk]
  have q : ∀ a : Fin 18, own_four a.1 = true → nar .boolean (own_rv a.1) = (0 : Int32) := by decide +kernel
  refine q ⟨k, hk⟩ ?_
  cases hf : own_four k
  · rw [hf] at h1; exact absurd rfl h1
  · rfl

theorem pd_0 : parseMethodDescriptor "(I)Lcom/example/sound_verdict/soundverdict/Axis;" = some ⟨[.int], some (.object "com/example/sound_verdict/soundverdict/Axis")⟩ := by decide +kernel
theorem pd_1 : parseMethodDescriptor "()Z" = some ⟨[], some .boolean⟩ := by decide +kernel
theorem pd_2 : parseMethodDescriptor "(I)Z" = some ⟨[.int], some .boolean⟩ := by decide +kernel
theorem ef_0 (m : MethodId) (x0 : Int32)  : entryFrame m #[(.int x0)] maxLocals = mkF m 0 #[.val (.int x0), .unset, .unset, .unset, .unset] [] := by first | (simp [entryFrame, mkF, argsToLocals, Value.category, maxLocals]; done) | rfl
def own_q0 (Z : State) (p1 : Int32) (A : Nat → Addr) (h0 : Heap) (n0 : Nat) (v : Option Value) (h : Heap) (L : List Loc) : Prop := v = some (.int (1 : Int32)) ∧ Fr n0 L
set_option maxRecDepth 65536 in
set_option maxHeartbeats 40000000 in
theorem rm0 (l : Launch) (Z : State) (a0 : Array Value) (hw : ∀ d ∈ tables_1, d.before a0 Z = true) (ws : List Jvm.Cond) (p1 : Int32) (A : Nat → Addr) (h0 : Heap) (n0 : Nat) (Z0 : n0 ≤ h0.size) (HS : own_St Z h0 A) (HE : ∀ k, k < 18 → Exa Z h0 (A k) "com/example/sound_verdict/soundverdict/Axis") (HF : ∀ k, k < 18 → Fld Z h0 (A k) "com/example/sound_verdict/soundverdict/Axis" "reverse" "Z" (.int (own_rv k))) (HN : ∀ j k, j < 18 → k < 18 → j ≠ k → A j ≠ A k) :
    MetFree l x (head1 (Jvm.Cond.code x code maxLocals ret :: ws) room_1) (fun a U => a = #[(.int p1)] ∧ Z.Warmed39 U.vm ∧ U.heap = h0) (fun _ _ _ _ _ => True) (fun _ U o U' => ∃ v L, o = .returned v ∧ (own_q0 Z p1 A h0 n0) v U'.heap L ∧ FrameEnd U o U' L room_1.cells room_1.slots) := by
  refine MetFree.of_bodySF (plainFor_of_name pn_0) hisR ?_
  intro p e s m args below meth c s₁ Bd hml0 hP hK
  obtain ⟨rfl, hZ, hh⟩ := hP
  have hx := Bd.exec
  have hby := Bd.bytes
  have hml : c.maxLocals = 5 := hml0
  have hown : s.vm.findClass "com/example/sound_verdict/soundverdict/AxisIsDisjointPinLaw" = some m.cls := findClass_of_methodNamed Bd.named
  have hnm := (name_of_methodNamed Bd.named Bd.method).1
  have X0 : Stand p l e room_1 s m #[(.int p1)] below meth c s₁ [] 0 0 := Stand.of_body Bd
  have e0 : s₁.heap = h0 := by rw [← hh, Bd.state]; rfl
  have N0 := Fr.nil n0
  have hw_0 := hw _ (List.mem_of_getElem? (i := 0) rfl)
  have hw_1 := hw _ (List.mem_of_getElem? (i := 1) rfl)
  have hw_2 := hw _ (List.mem_of_getElem? (i := 2) rfl)
  have hw_3 := hw _ (List.mem_of_getElem? (i := 3) rfl)
  have hw_4 := hw _ (List.mem_of_getElem? (i := 4) rfl)
  have hw_6 := hw _ (List.mem_of_getElem? (i := 6) rfl)
  have hw_8 := hw _ (List.mem_of_getElem? (i := 8) rfl)
  have hw_9 := hw _ (List.mem_of_getElem? (i := 9) rfl)
  have hw_10 := hw _ (List.mem_of_getElem? (i := 10) rfl)
  have hw_11 := hw _ (List.mem_of_getElem? (i := 11) rfl)
  have hw_12 := hw _ (List.mem_of_getElem? (i := 12) rfl)
  have hw_14 := hw _ (List.mem_of_getElem? (i := 14) rfl)
  have hw_15 := hw _ (List.mem_of_getElem? (i := 15) rfl)
  have hw_16 := hw _ (List.mem_of_getElem? (i := 16) rfl)
  have hw_17 := hw _ (List.mem_of_getElem? (i := 17) rfl)
  have hw_18 := hw _ (List.mem_of_getElem? (i := 18) rfl)
  have hw_19 := hw _ (List.mem_of_getElem? (i := 19) rfl)
  have hw_20 := hw _ (List.mem_of_getElem? (i := 20) rfl)
  have hw_21 := hw _ (List.mem_of_getElem? (i := 21) rfl)
  show own_Fin p e below (own_A s room_1.cells room_1.slots (own_q0 Z p1 A h0 n0)) _
  refine own_go (fun t k => castTop (ef_0 m (p1)) k) ?_
  show own_Fin p e below _ (s₁.setTop (mkF m 0 #[.val (.int p1), .unset, .unset, .unset, .unset] []))
  refine own_go (fun t k => XS.iloadN X0.here hx rfl (hb hby at_0) rfl  k) ?_
  show own_Fin p e below _ (s₁.setTop (mkF m 1 #[.val (.int p1), .unset, .unset, .unset, .unset] [(.int p1)]))
  refine own_go (fun t k => X0.ldcInt hx hown (mvT hZ hw_0) (g := (mkF m 1 #[.val (.int p1), .unset, .unset, .unset, .unset] [(.int p1)])) rfl (hb hby at_1) _ (XS.iand X0.here hx rfl (hb hby at_3) rfl (XS.bipush X0.here hx rfl (hb hby at_4) (iremM X0 hx rfl (hb hby at_6) rfl (by decide) k)))) ?_
  show own_Fin p e below _ (s₁.setTop (mkF m 7 #[.val (.int p1), .unset, .unset, .unset, .unset] [(.int ((p1 &&& (2147483647 : Int32)) % (18 : Int32)))]))
  refine own_go (fun t k => XS.istoreN X0.here hx rfl (hb hby at_7) rfl (l' := #[.val (.int p1), .val (.int ((p1 &&& (2147483647 : Int32)) % (18 : Int32))), .unset, .unset, .unset]) rfl (XS.iloadN X0.here hx rfl (hb hby at_8) rfl  k)) ?_
  show own_Fin p e below _ (s₁.setTop (mkF m 9 #[.val (.int p1), .val (.int ((p1 &&& (2147483647 : Int32)) % (18 : Int32))), .unset, .unset, .unset] [(.int ((p1 &&& (2147483647 : Int32)) % (18 : Int32)))]))
  obtain ⟨_, _, ⟨T1, L1, k1, n1⟩, -, X1, ⟨Lc1, hQ1, l1, y1, z1⟩, st1⟩ := Jvm.LawKit.callS X0 hx (y := (⟨"com/example/sound_verdict/soundverdict/AxisIsDisjointPinLaw", "pick", "(I)Lcom/example/sound_verdict/soundverdict/Axis;"⟩ : MethodName)) hown (mvT hZ hw_1) (mvT hZ hw_2) (mvT hZ hw_3) (mvT hZ hw_4) (by decide) (backOf (W := 0) (rm1 l Z a0 hw [] (((p1 &&& (2147483647 : Int32)) % (18 : Int32))) A h0 n0 Z0 HS) hZ hw_4 hw_3 (by decide) (by decide)) (g := (mkF m 9 #[.val (.int p1), .val (.int ((p1 &&& (2147483647 : Int32)) % (18 : Int32))), .unset, .unset, .unset] [(.int ((p1 &&& (2147483647 : Int32)) % (18 : Int32)))])) rfl (by rw [hml]; rfl) (argsL := [(.int ((p1 &&& (2147483647 : Int32)) % (18 : Int32)))]) (rest := []) (lenOf pd_0 rfl) rfl (by show 2 * 0 + _ ≤ _; exact Nat.le_of_eq rfl) (hb hby at_9) (fun _ _ => ⟨rfl, e0, (by decide : 0 + 0 ≤ _), (by decide : 0 + 0 ≤ _)⟩)
  dsimp only [Pt.U, Pt.locs, Pt.cells, Pt.slots] at X1 l1 y1 z1 st1 hQ1
  subst l1 y1 z1
  obtain ⟨rfl, N1q, e1⟩ := hQ1
  have N1 := Fr.app N0 N1q
  refine own_go st1 ?_
  show own_Fin p e below _ (T1.setTop (mkF m 12 #[.val (.int p1), .val (.int ((p1 &&& (2147483647 : Int32)) % (18 : Int32))), .unset, .unset, .unset] [(.ref (own_pk_1 ((p1 &&& (2147483647 : Int32)) % (18 : Int32)) A))]))
  have E_x := own_Ex (own_rg p1) HE
  have F_x := own_Fx (own_rg p1) HF
  refine own_go (fun t k => XS.astoreN X1.here hx rfl (hb hby at_12) rfl rfl (l' := #[.val (.int p1), .val (.int ((p1 &&& (2147483647 : Int32)) % (18 : Int32))), .val (.ref (own_pk_1 ((p1 &&& (2147483647 : Int32)) % (18 : Int32)) A)), .unset, .unset]) rfl (XS.aloadN X1.here hx rfl (hb hby at_13) rfl rfl  k)) ?_
  show own_Fin p e below _ (T1.setTop (mkF m 14 #[.val (.int p1), .val (.int ((p1 &&& (2147483647 : Int32)) % (18 : Int32))), .val (.ref (own_pk_1 ((p1 &&& (2147483647 : Int32)) % (18 : Int32)) A)), .unset, .unset] [(.ref (own_pk_1 ((p1 &&& (2147483647 : Int32)) % (18 : Int32)) A))]))
  obtain ⟨cq2, kq2, q2a, q2b, q2c⟩ := isOf hZ e1 E_x
  obtain ⟨_, _, ⟨T2, L2, k2, n2⟩, -, X2, ⟨Lc2, hQ2, l2, y2, z2⟩, st2⟩ := X1.virtualBack hx (y := (⟨"com/example/sound_verdict/soundverdict/Axis", "isDisjoint", "()Z"⟩ : MethodName)) (z := (⟨"com/example/sound_verdict/soundverdict/Axis", "isDisjoint", "()Z"⟩ : MethodName)) hown (mvT hZ hw_8) (mvT hZ hw_9) (notFace_of_selects (args := #[]) (mvT hZ hw_11)) (mvT hZ hw_11) (mvT hZ hw_10) (by decide) (backOf (W := 0) (rm2 l Z a0 hw [] ((own_pk_1 ((p1 &&& (2147483647 : Int32)) % (18 : Int32)) A)) A h0 n0 Z0 HS) hZ hw_12 hw_6 (by decide) (by decide)) q2a q2c (g := (mkF m 14 #[.val (.int p1), .val (.int ((p1 &&& (2147483647 : Int32)) % (18 : Int32))), .val (.ref (own_pk_1 ((p1 &&& (2147483647 : Int32)) % (18 : Int32)) A)), .unset, .unset] [(.ref (own_pk_1 ((p1 &&& (2147483647 : Int32)) % (18 : Int32)) A))])) rfl (by rw [hml]; rfl) (Steps.refl _) (argsL := []) (rest := []) (lenOf pd_1 rfl) rfl (by show 2 * 0 + _ ≤ _; exact Nat.le_of_eq rfl) (hb hby at_14) (fun _ _ => ⟨rfl, e1, (by decide : 0 + 0 ≤ _), (by decide : 0 + 0 ≤ _)⟩)
  dsimp only [Pt.U, Pt.locs, Pt.cells, Pt.slots] at X2 l2 y2 z2 st2 hQ2
  subst l2 y2 z2
  obtain ⟨rfl, N2q, e2⟩ := hQ2
  have N2 := Fr.app N1 N2q
  refine own_go (fun t k => st2.trans k) ?_
  show own_Fin p e below _ (T2.setTop (mkF m 17 #[.val (.int p1), .val (.int ((p1 &&& (2147483647 : Int32)) % (18 : Int32))), .val (.ref (own_pk_1 ((p1 &&& (2147483647 : Int32)) % (18 : Int32)) A)), .unset, .unset] [(.int (own_dj_4 (own_pk_1 ((p1 &&& (2147483647 : Int32)) % (18 : Int32)) A) A))]))
  refine own_go (fun t k => XS.istoreN X2.here hx rfl (hb hby at_17) rfl (l' := #[.val (.int p1), .val (.int ((p1 &&& (2147483647 : Int32)) % (18 : Int32))), .val (.ref (own_pk_1 ((p1 &&& (2147483647 : Int32)) % (18 : Int32)) A)), .val (.int (own_dj_4 (own_pk_1 ((p1 &&& (2147483647 : Int32)) % (18 : Int32)) A) A)), .unset]) rfl (XS.iloadN X2.here hx rfl (hb hby at_18) rfl  k)) ?_
  show own_Fin p e below _ (T2.setTop (mkF m 19 #[.val (.int p1), .val (.int ((p1 &&& (2147483647 : Int32)) % (18 : Int32))), .val (.ref (own_pk_1 ((p1 &&& (2147483647 : Int32)) % (18 : Int32)) A)), .val (.int (own_dj_4 (own_pk_1 ((p1 &&& (2147483647 : Int32)) % (18 : Int32)) A) A)), .unset] [(.int ((p1 &&& (2147483647 : Int32)) % (18 : Int32)))]))
  obtain ⟨_, _, ⟨T3, L3, k3, n3⟩, -, X3, ⟨Lc3, hQ3, l3, y3, z3⟩, st3⟩ := Jvm.LawKit.callS X2 hx (y := (⟨"com/example/sound_verdict/soundverdict/AxisIsDisjointPinLaw", "expectedDisjoint", "(I)Z"⟩ : MethodName)) hown (mvT hZ hw_14) (mvT hZ hw_15) (mvT hZ hw_3) (mvT hZ hw_16) (by decide) (backOf (W := 0) (rm3 l Z a0 hw [] (((p1 &&& (2147483647 : Int32)) % (18 : Int32)))  h0 n0 Z0 ) hZ hw_16 hw_3 (by decide) (by decide)) (g := (mkF m 19 #[.val (.int p1), .val (.int ((p1 &&& (2147483647 : Int32)) % (18 : Int32))), .val (.ref (own_pk_1 ((p1 &&& (2147483647 : Int32)) % (18 : Int32)) A)), .val (.int (own_dj_4 (own_pk_1 ((p1 &&& (2147483647 : Int32)) % (18 : Int32)) A) A)), .unset] [(.int ((p1 &&& (2147483647 : Int32)) % (18 : Int32)))])) rfl (by rw [hml]; rfl) (argsL := [(.int ((p1 &&& (2147483647 : Int32)) % (18 : Int32)))]) (rest := []) (lenOf pd_2 rfl) rfl (by show 2 * 0 + _ ≤ _; exact Nat.le_of_eq rfl) (hb hby at_19) (fun _ _ => ⟨rfl, e2, (by decide : 0 + 0 ≤ _), (by decide : 0 + 0 ≤ _)⟩)
  dsimp only [Pt.U, Pt.locs, Pt.cells, Pt.slots] at X3 l3 y3 z3 st3 hQ3
  subst l3 y3 z3
  obtain ⟨rfl, N3q, e3⟩ := hQ3
  have N3 := Fr.app N2 N3q
  refine own_go st3 ?_
  show own_Fin p e below _ (T3.setTop (mkF m 22 #[.val (.int p1), .val (.int ((p1 &&& (2147483647 : Int32)) % (18 : Int32))), .val (.ref (own_pk_1 ((p1 &&& (2147483647 : Int32)) % (18 : Int32)) A)), .val (.int (own_dj_4 (own_pk_1 ((p1 &&& (2147483647 : Int32)) % (18 : Int32)) A) A)), .unset] [(.int (own_ex_1 ((p1 &&& (2147483647 : Int32)) % (18 : Int32))))]))
  refine own_go (fun t k => XS.istore X3.here hx rfl (hb hby at_22) rfl (l' := #[.val (.int p1), .val (.int ((p1 &&& (2147483647 : Int32)) % (18 : Int32))), .val (.ref (own_pk_1 ((p1 &&& (2147483647 : Int32)) % (18 : Int32)) A)), .val (.int (own_dj_4 (own_pk_1 ((p1 &&& (2147483647 : Int32)) % (18 : Int32)) A) A)), .val (.int (own_ex_1 ((p1 &&& (2147483647 : Int32)) % (18 : Int32))))]) rfl (XS.iloadN X3.here hx rfl (hb hby at_24) rfl  (XS.iload X3.here hx rfl (hb hby at_25) rfl  k))) ?_
  show own_Fin p e below _ (T3.setTop (mkF m 27 #[.val (.int p1), .val (.int ((p1 &&& (2147483647 : Int32)) % (18 : Int32))), .val (.ref (own_pk_1 ((p1 &&& (2147483647 : Int32)) % (18 : Int32)) A)), .val (.int (own_dj_4 (own_pk_1 ((p1 &&& (2147483647 : Int32)) % (18 : Int32)) A) A)), .val (.int (own_ex_1 ((p1 &&& (2147483647 : Int32)) % (18 : Int32))))] [(.int (own_ex_1 ((p1 &&& (2147483647 : Int32)) % (18 : Int32)))), (.int (own_dj_4 (own_pk_1 ((p1 &&& (2147483647 : Int32)) % (18 : Int32)) A) A))]))
  refine own_go (fun t k => XS.icmpYes X3.here hx rfl (pc0 := 27) (pc' := 32) rfl (hb hby at_27) rfl (teq (own_same (own_rg p1) HN)).1 (by decide) (by decide) (XS.iloadN X3.here hx rfl (hb hby at_32) rfl  k)) ?_
  show own_Fin p e below _ (T3.setTop (mkF m 33 #[.val (.int p1), .val (.int ((p1 &&& (2147483647 : Int32)) % (18 : Int32))), .val (.ref (own_pk_1 ((p1 &&& (2147483647 : Int32)) % (18 : Int32)) A)), .val (.int (own_dj_4 (own_pk_1 ((p1 &&& (2147483647 : Int32)) % (18 : Int32)) A) A)), .val (.int (own_ex_1 ((p1 &&& (2147483647 : Int32)) % (18 : Int32))))] [(.int (own_dj_4 (own_pk_1 ((p1 &&& (2147483647 : Int32)) % (18 : Int32)) A) A))]))
  by_cases hc4 : (own_dj_4 (own_pk_1 ((p1 &&& (2147483647 : Int32)) % (18 : Int32)) A) A) = (0 : Int32)
  · skip
    refine own_go (fun t k => XS.ifYes X3.here hx rfl (pc0 := 33) (pc' := 45) rfl (hb hby at_33) rfl ((if0 _ _).trans (teq hc4).1) (by decide) (by decide) (XS.iconst X3.here hx rfl (hb hby at_45) k)) ?_
    show own_Fin p e below _ (T3.setTop (mkF m 46 #[.val (.int p1), .val (.int ((p1 &&& (2147483647 : Int32)) % (18 : Int32))), .val (.ref (own_pk_1 ((p1 &&& (2147483647 : Int32)) % (18 : Int32)) A)), .val (.int (own_dj_4 (own_pk_1 ((p1 &&& (2147483647 : Int32)) % (18 : Int32)) A) A)), .val (.int (own_ex_1 ((p1 &&& (2147483647 : Int32)) % (18 : Int32))))] [(.int (1 : Int32))]))
    exact own_out X3 (fun h => by rw [Bd.returns] at h; cases h) Bd.notSynchronized (fun fs hr => retN X3 hx (t := .boolean) Bd.returns (by simp) (hb hby at_46) hr) ⟨rfl, N3⟩ (by decide) (by decide)
  · skip
    refine own_go (fun t k => XS.ifNo X3.here hx rfl (hb hby at_33) rfl ((if0 _ _).trans (feq hc4).1) (XS.aloadN X3.here hx rfl (hb hby at_36) rfl rfl  k)) ?_
    show own_Fin p e below _ (T3.setTop (mkF m 37 #[.val (.int p1), .val (.int ((p1 &&& (2147483647 : Int32)) % (18 : Int32))), .val (.ref (own_pk_1 ((p1 &&& (2147483647 : Int32)) % (18 : Int32)) A)), .val (.int (own_dj_4 (own_pk_1 ((p1 &&& (2147483647 : Int32)) % (18 : Int32)) A) A)), .val (.int (own_ex_1 ((p1 &&& (2147483647 : Int32)) % (18 : Int32))))] [(.ref (own_pk_1 ((p1 &&& (2147483647 : Int32)) % (18 : Int32)) A))]))
    obtain ⟨cq5, kq5, q5a, q5b, q5c⟩ := isOf hZ e3 E_x
    obtain ⟨_, _, ⟨T5, L5, k5, n5⟩, -, X5, ⟨Lc5, hQ5, l5, y5, z5⟩, st5⟩ := X3.virtualBack hx (y := (⟨"com/example/sound_verdict/soundverdict/Axis", "isReverse", "()Z"⟩ : MethodName)) (z := (⟨"com/example/sound_verdict/soundverdict/Axis", "isReverse", "()Z"⟩ : MethodName)) hown (mvT hZ hw_17) (mvT hZ hw_18) (notFace_of_selects (args := #[]) (mvT hZ hw_20)) (mvT hZ hw_20) (mvT hZ hw_19) (by decide) (backOf (W := 0) (rm4 l Z a0 hw [] ((own_pk_1 ((p1 &&& (2147483647 : Int32)) % (18 : Int32)) A)) (own_rv (((p1 &&& (2147483647 : Int32)) % (18 : Int32))).toNatClampNeg) h0 n0 Z0 F_x) hZ hw_21 hw_6 (by decide) (by decide)) q5a q5c (g := (mkF m 37 #[.val (.int p1), .val (.int ((p1 &&& (2147483647 : Int32)) % (18 : Int32))), .val (.ref (own_pk_1 ((p1 &&& (2147483647 : Int32)) % (18 : Int32)) A)), .val (.int (own_dj_4 (own_pk_1 ((p1 &&& (2147483647 : Int32)) % (18 : Int32)) A) A)), .val (.int (own_ex_1 ((p1 &&& (2147483647 : Int32)) % (18 : Int32))))] [(.ref (own_pk_1 ((p1 &&& (2147483647 : Int32)) % (18 : Int32)) A))])) rfl (by rw [hml]; rfl) (Steps.refl _) (argsL := []) (rest := []) (lenOf pd_1 rfl) rfl (by show 2 * 0 + _ ≤ _; exact Nat.le_of_eq rfl) (hb hby at_37) (fun _ _ => ⟨rfl, e3, (by decide : 0 + 0 ≤ _), (by decide : 0 + 0 ≤ _)⟩)
    dsimp only [Pt.U, Pt.locs, Pt.cells, Pt.slots] at X5 l5 y5 z5 st5 hQ5
    subst l5 y5 z5
    obtain ⟨rfl, N5q, e5⟩ := hQ5
    have N5 := Fr.app N3 N5q
    refine own_go (fun t k => st5.trans k) ?_
    show own_Fin p e below _ (T5.setTop (mkF m 40 #[.val (.int p1), .val (.int ((p1 &&& (2147483647 : Int32)) % (18 : Int32))), .val (.ref (own_pk_1 ((p1 &&& (2147483647 : Int32)) % (18 : Int32)) A)), .val (.int (own_dj_4 (own_pk_1 ((p1 &&& (2147483647 : Int32)) % (18 : Int32)) A) A)), .val (.int (own_ex_1 ((p1 &&& (2147483647 : Int32)) % (18 : Int32))))] [(.int (nar .boolean (own_rv (((p1 &&& (2147483647 : Int32)) % (18 : Int32))).toNatClampNeg)))]))
    refine own_go (fun t k => XS.ifYes X5.here hx rfl (pc0 := 40) (pc' := 45) rfl (hb hby at_40) rfl ((if0 _ _).trans (teq (own_norev (own_rg p1) HN hc4)).1) (by decide) (by decide) (XS.iconst X5.here hx rfl (hb hby at_45) k)) ?_
    show own_Fin p e below _ (T5.setTop (mkF m 46 #[.val (.int p1), .val (.int ((p1 &&& (2147483647 : Int32)) % (18 : Int32))), .val (.ref (own_pk_1 ((p1 &&& (2147483647 : Int32)) % (18 : Int32)) A)), .val (.int (own_dj_4 (own_pk_1 ((p1 &&& (2147483647 : Int32)) % (18 : Int32)) A) A)), .val (.int (own_ex_1 ((p1 &&& (2147483647 : Int32)) % (18 : Int32))))] [(.int (1 : Int32))]))
    exact own_out X5 (fun h => by rw [Bd.returns] at h; cases h) Bd.notSynchronized (fun fs hr => retN X5 hx (t := .boolean) Bd.returns (by simp) (hb hby at_46) hr) ⟨rfl, N5⟩ (by decide) (by decide)
set_option maxRecDepth 65536 in
set_option maxHeartbeats 40000000 in
theorem comes_1 {Post : Tables → Env → Array Value → State → Outcome → State → Prop} (hpost : ∀ tb e args s v u, (limb_1_1.after args s (.returned v) u = true ∧ limb_1_2.after args s (.returned v) u = true ∧ True) → FrameEnd s (.returned v) u (Jvm.fieldLocs frame_1_writes args s ++ Jvm.arrayLocs frame_1_arrays args s ++ Jvm.staticLocs frame_1_statics s) 0 0 → Post tb e args s (.returned v) u) :
    ArmFor flags0 classFile x code maxLocals ret World_1 tables_1 room_1 Calls_1 rest_1 Pre_1 Post := by
  intro l hfl _ _ p e ha hc hk s m args below hf hA hF happ hP
  obtain ⟨hcalls, hrest, hpre⟩ := hP
  obtain ⟨-, -, -, hnamed, -, -, -, hat⟩ := (Spec.applies_iff hf).mp happ
  obtain ⟨hg, hn⟩ := and_e (Cond.before_iff.mp (show (Jvm.Cond.and given_1 narrow_1).before args s = true from hpre))
  obtain ⟨g0, r0⟩ := and_e hg
  obtain ⟨w0, rfl⟩ : ∃ w0 : Value, args = #[w0] := by
    have hs : args.size = 1 := by simpa [Cond.value, given_1] using g0
    obtain ⟨L⟩ := args
    match L, hs with
    | [w0], _ => exact ⟨w0, rfl⟩
  have hw := fun d (hd : d ∈ tables_1) => atoms_spec (ws := Jvm.Cond.code x code maxLocals ret :: tables_1) hat d (List.mem_cons_of_mem _ hd)
  have hfit : Fit s := fun {y c} hc i hi => by
    obtain ⟨ha, rfl⟩ := Array.getElem?_eq_some_iff.mp hc
    have q := List.all_eq_true.mp ((Array.all_eq_true_iff_forall_mem.mp hF) _ (Array.getElem_mem ha)) i (List.mem_range.mpr hi)
    simpa [Array.getElem?_eq_getElem hi] using q
  obtain ⟨i0, ei0⟩ := is_v r0
  obtain rfl : w0 = (.int i0) := Option.some.inj ei0
  obtain ⟨n0, m0⟩ := and_e hn
  obtain ⟨n1, m1⟩ := and_e m0
  obtain ⟨n2, m2⟩ := and_e m1
  obtain ⟨n3, m3⟩ := and_e m2
  obtain ⟨n4, m4⟩ := and_e m3
  obtain ⟨n5, m5⟩ := and_e m4
  obtain ⟨n6, m6⟩ := and_e m5
  obtain ⟨n7, m7⟩ := and_e m6
  obtain ⟨n8, m8⟩ := and_e m7
  obtain ⟨n9, m9⟩ := and_e m8
  obtain ⟨n10, m10⟩ := and_e m9
  obtain ⟨n11, m11⟩ := and_e m10
  obtain ⟨n12, m12⟩ := and_e m11
  obtain ⟨n13, m13⟩ := and_e m12
  obtain ⟨n14, m14⟩ := and_e m13
  obtain ⟨n15, m15⟩ := and_e m14
  obtain ⟨n16, m16⟩ := and_e m15
  obtain ⟨n17, m17⟩ := and_e m16
  obtain ⟨n18, m18⟩ := and_e m17
  obtain ⟨n19, m19⟩ := and_e m18
  obtain ⟨n20, m20⟩ := and_e m19
  obtain ⟨n21, m21⟩ := and_e m20
  obtain ⟨n22, m22⟩ := and_e m21
  obtain ⟨n23, m23⟩ := and_e m22
  obtain ⟨n24, m24⟩ := and_e m23
  obtain ⟨n25, m25⟩ := and_e m24
  obtain ⟨n26, m26⟩ := and_e m25
  obtain ⟨n27, m27⟩ := and_e m26
  obtain ⟨n28, m28⟩ := and_e m27
  obtain ⟨n29, m29⟩ := and_e m28
  obtain ⟨n30, m30⟩ := and_e m29
  obtain ⟨n31, m31⟩ := and_e m30
  obtain ⟨n32, m32⟩ := and_e m31
  obtain ⟨n33, m33⟩ := and_e m32
  obtain ⟨n34, m34⟩ := and_e m33
  obtain ⟨n35, m35⟩ := and_e m34
  obtain ⟨n36, m36⟩ := and_e m35
  obtain ⟨n37, m37⟩ := and_e m36
  obtain ⟨n38, m38⟩ := and_e m37
  obtain ⟨n39, m39⟩ := and_e m38
  obtain ⟨n40, m40⟩ := and_e m39
  obtain ⟨n41, m41⟩ := and_e m40
  obtain ⟨n42, m42⟩ := and_e m41
  obtain ⟨n43, m43⟩ := and_e m42
  obtain ⟨n44, m44⟩ := and_e m43
  obtain ⟨n45, m45⟩ := and_e m44
  obtain ⟨n46, m46⟩ := and_e m45
  obtain ⟨n47, m47⟩ := and_e m46
  obtain ⟨n48, m48⟩ := and_e m47
  obtain ⟨n49, m49⟩ := and_e m48
  obtain ⟨n50, m50⟩ := and_e m49
  obtain ⟨n51, m51⟩ := and_e m50
  obtain ⟨n52, m52⟩ := and_e m51
  obtain ⟨a0, v0⟩ := exa_v n0
  obtain ⟨a1, v1⟩ := exa_v n9
  obtain ⟨a2, v2⟩ := exa_v n5
  obtain ⟨a3, v3⟩ := exa_v n2
  obtain ⟨a4, v4⟩ := exa_v n11
  obtain ⟨a5, v5⟩ := exa_v n36
  obtain ⟨a6, v6⟩ := exa_v n30
  obtain ⟨a7, v7⟩ := exa_v n13
  obtain ⟨a8, v8⟩ := exa_v n18
  obtain ⟨a9, v9⟩ := exa_v n38
  obtain ⟨a10, v10⟩ := exa_v n26
  obtain ⟨a11, v11⟩ := exa_v n15
  obtain ⟨a12, v12⟩ := exa_v n20
  obtain ⟨a13, v13⟩ := exa_v n28
  obtain ⟨a14, v14⟩ := exa_v n34
  obtain ⟨a15, v15⟩ := exa_v n24
  obtain ⟨a16, v16⟩ := exa_v n22
  obtain ⟨a17, v17⟩ := exa_v n32
  let A : Nat → Addr := fun k => [a0, a1, a2, a3, a4, a5, a6, a7, a8, a9, a10, a11, a12, a13, a14, a15, a16, a17].getD k 0
  have HS : own_St s s.heap A := ⟨Sta.start v0 (Or.inr ⟨(hw _ (List.mem_of_getElem? (i := 6) rfl)), (hw _ (List.mem_of_getElem? (i := 7) rfl))⟩), Sta.start v1 (Or.inr ⟨(hw _ (List.mem_of_getElem? (i := 6) rfl)), (hw _ (List.mem_of_getElem? (i := 31) rfl))⟩), Sta.start v2 (Or.inr ⟨(hw _ (List.mem_of_getElem? (i := 6) rfl)), (hw _ (List.mem_of_getElem? (i := 27) rfl))⟩), Sta.start v3 (Or.inr ⟨(hw _ (List.mem_of_getElem? (i := 6) rfl)), (hw _ (List.mem_of_getElem? (i := 25) rfl))⟩), Sta.start v4 (Or.inr ⟨(hw _ (List.mem_of_getElem? (i := 6) rfl)), (hw _ (List.mem_of_getElem? (i := 33) rfl))⟩), Sta.start v5 (Or.inr ⟨(hw _ (List.mem_of_getElem? (i := 6) rfl)), (hw _ (List.mem_of_getElem? (i := 58) rfl))⟩), Sta.start v6 (Or.inr ⟨(hw _ (List.mem_of_getElem? (i := 6) rfl)), (hw _ (List.mem_of_getElem? (i := 52) rfl))⟩), Sta.start v7 (Or.inr ⟨(hw _ (List.mem_of_getElem? (i := 6) rfl)), (hw _ (List.mem_of_getElem? (i := 35) rfl))⟩), Sta.start v8 (Or.inr ⟨(hw _ (List.mem_of_getElem? (i := 6) rfl)), (hw _ (List.mem_of_getElem? (i := 40) rfl))⟩), Sta.start v9 (Or.inr ⟨(hw _ (List.mem_of_getElem? (i := 6) rfl)), (hw _ (List.mem_of_getElem? (i := 60) rfl))⟩), Sta.start v10 (Or.inr ⟨(hw _ (List.mem_of_getElem? (i := 6) rfl)), (hw _ (List.mem_of_getElem? (i := 48) rfl))⟩), Sta.start v11 (Or.inr ⟨(hw _ (List.mem_of_getElem? (i := 6) rfl)), (hw _ (List.mem_of_getElem? (i := 37) rfl))⟩), Sta.start v12 (Or.inr ⟨(hw _ (List.mem_of_getElem? (i := 6) rfl)), (hw _ (List.mem_of_getElem? (i := 42) rfl))⟩), Sta.start v13 (Or.inr ⟨(hw _ (List.mem_of_getElem? (i := 6) rfl)), (hw _ (List.mem_of_getElem? (i := 50) rfl))⟩), Sta.start v14 (Or.inr ⟨(hw _ (List.mem_of_getElem? (i := 6) rfl)), (hw _ (List.mem_of_getElem? (i := 56) rfl))⟩), Sta.start v15 (Or.inr ⟨(hw _ (List.mem_of_getElem? (i := 6) rfl)), (hw _ (List.mem_of_getElem? (i := 46) rfl))⟩), Sta.start v16 (Or.inr ⟨(hw _ (List.mem_of_getElem? (i := 6) rfl)), (hw _ (List.mem_of_getElem? (i := 44) rfl))⟩), Sta.start v17 (Or.inr ⟨(hw _ (List.mem_of_getElem? (i := 6) rfl)), (hw _ (List.mem_of_getElem? (i := 54) rfl))⟩)⟩
  have HE : ∀ k, k < 18 → Exa s s.heap (A k) "com/example/sound_verdict/soundverdict/Axis" := fun k hk => match k, hk with
    | 0, _ => Exa.start v0 n0
    | 1, _ => Exa.start v1 n9
    | 2, _ => Exa.start v2 n5
    | 3, _ => Exa.start v3 n2
    | 4, _ => Exa.start v4 n11
    | 5, _ => Exa.start v5 n36
    | 6, _ => Exa.start v6 n30
    | 7, _ => Exa.start v7 n13
    | 8, _ => Exa.start v8 n18
    | 9, _ => Exa.start v9 n38
    | 10, _ => Exa.start v10 n26
    | 11, _ => Exa.start v11 n15
    | 12, _ => Exa.start v12 n20
    | 13, _ => Exa.start v13 n28
    | 14, _ => Exa.start v14 n34
    | 15, _ => Exa.start v15 n24
    | 16, _ => Exa.start v16 n22
    | 17, _ => Exa.start v17 n32
    | k + 18, hk => absurd hk (by omega)
  have HF : ∀ k, k < 18 → Fld s s.heap (A k) "com/example/sound_verdict/soundverdict/Axis" "reverse" "Z" (.int (own_rv k)) := fun k hk => match k, hk with
    | 0, _ => own_fldI v0 n1
    | 1, _ => own_fldI v1 n40
    | 2, _ => own_fldI v2 n8
    | 3, _ => own_fldI v3 n7
    | 4, _ => own_fldI v4 n17
    | 5, _ => own_fldI v5 n52
    | 6, _ => own_fldI v6 n49
    | 7, _ => own_fldI v7 n41
    | 8, _ => own_fldI v8 n43
    | 9, _ => own_fldI v9 m52
    | 10, _ => own_fldI v10 n47
    | 11, _ => own_fldI v11 n42
    | 12, _ => own_fldI v12 n44
    | 13, _ => own_fldI v13 n48
    | 14, _ => own_fldI v14 n51
    | 15, _ => own_fldI v15 n46
    | 16, _ => own_fldI v16 n45
    | 17, _ => own_fldI v17 n50
    | k + 18, hk => absurd hk (by omega)
  have HO : ∀ k, k < 18 → Fld s s.heap (A k) "java/lang/Enum" "ordinal" "I" (.int (k.toInt32)) := fun k hk => match k, hk with
    | 0, _ => own_fldI v0 n4
    | 1, _ => own_fldI v1 n10
    | 2, _ => own_fldI v2 n6
    | 3, _ => own_fldI v3 n3
    | 4, _ => own_fldI v4 n12
    | 5, _ => own_fldI v5 n37
    | 6, _ => own_fldI v6 n31
    | 7, _ => own_fldI v7 n14
    | 8, _ => own_fldI v8 n19
    | 9, _ => own_fldI v9 n39
    | 10, _ => own_fldI v10 n27
    | 11, _ => own_fldI v11 n16
    | 12, _ => own_fldI v12 n21
    | 13, _ => own_fldI v13 n29
    | 14, _ => own_fldI v14 n35
    | 15, _ => own_fldI v15 n25
    | 16, _ => own_fldI v16 n23
    | 17, _ => own_fldI v17 n33
    | k + 18, hk => absurd hk (by omega)
  have HN : ∀ j k, j < 18 → k < 18 → j ≠ k → A j ≠ A k := fun j k hj hk hn => Fld.ne (HO j hj) (HO k hk) (fun q => hn (own_inj hj hk (Value.int.inj q)))
  obtain ⟨n, o, h1, h2, h3, _, L, rfl, ⟨rfl, N⟩, hq⟩ := rm0 l s _ hw tables_1 i0 A s.heap s.heap.size (Nat.le_refl _) HS HE HF HN p e ha hc hk s m _ below hf ((Spec.applies_iff_loose hf).mp happ).1 ⟨rfl, State.Warmed39.refl s, rfl⟩ trivial
  refine ⟨n, _, h1, h2, h3, hpost _ _ _ _ _ _ ⟨Cond.after_iff.mpr rfl, Cond.after_iff.mpr (eq_i res_at (Term.int_eval (1)) rfl), trivial⟩ ⟨hq.1, hq.2.1, (hq.2.2.sift fun y hy => Or.inr (N y hy)).mono (by decide) (by decide)⟩⟩
theorem main_1_1 : Claimed_1_1 := comes_1 fun _ _ _ _ _ _ h hF => ⟨h.1, hF⟩
theorem main_1_2 : Claimed_1_2 := comes_1 fun _ _ _ _ _ _ h hF => ⟨h.2.1, hF⟩
end Jvm.Pilot.@@N@@
namespace Jvm.Pilot.@@N@@
open Jvm Jvm.ClassFile Sem Op Lib Jvm.Free Jvm.Stand Jvm.Pilot.@@N@@.Jvm.D
/-! MADE BY PROGRAM (witnessworld.py) out of the Statement's table words and the real class files: 12 classes; the members and pool entries that the words name. The judged class is class 1, her method 3. -/
namespace start1
open Jvm.ClassFile
def u (s : String) : CpInfo := .utf8 (stringToUtf16 s)
/-- a pool by its gaps: so many unusable entries, then the entry; so many at the end -/
def gap : Nat → List CpInfo → List CpInfo
  | 0, r => r
  | n + 1, r => .unusable :: gap n r
def poolList (es : List (Nat × CpInfo)) (last : Nat) : List CpInfo := es.foldr (fun e r => gap e.1 (e.2 :: r)) (gap last [])
def pool (es : List (Nat × CpInfo)) (last : Nat) : Array CpInfo := ⟨poolList es last⟩
def fileOf (pool : Array CpInfo) (this : Nat) (attrs : Array Attribute := #[]) (ms : Array MethodInfo := #[]) (fl : Nat := 33) (sup : Nat := 0) (ifs : Array Nat := #[]) (fds : Array FieldInfo := #[]) : ClassFile where
  minorVersion := 0
  majorVersion := 65
  constantPool := pool
  accessFlags := fl
  thisClass := this
  superClass := sup
  interfaces := ifs
  fields := fds
  methods := ms
  attributes := attrs
def plain (name : String) (sup : Option ClassId) : Class where
  name := name
  kind := .ordinary
  loader := none
  accessFlags := 33
  super := sup
  interfaces := #[]
  cf := none
  fields := #[]
  methods := #[]
  instanceTypes := #[]
  staticTypes := #[]
  resolved := #[]
  callSites := []
  init := .initialized
  statics := none
  mirror := none

def pool0 : Array CpInfo := pool [(5, u "<init>"), (0, u "()V"), (1, .class_ 10), (1, u "java/lang/Object")] 113

def k0m0 : Method := { name := "<init>", desc := "()V", sig := { parameters := [], returnType := none }, accessFlags := 1, code := none }
/-- java/lang/Object -/
def k0 : Class := { plain "java/lang/Object" none with
  accessFlags := 33
  interfaces := #[]
  cf := some (fileOf pool0 8 #[] #[{ accessFlags := 1, nameIndex := 5, descriptorIndex := 6, attributes := #[] }] 33 0 #[] #[])
  fields := #[]
  methods := #[k0m0]
  instanceTypes := #[]
  staticTypes := #[]
  resolved := Array.replicate 124 none
  statics := none }

def pool1 : Array CpInfo := pool [(2, .class_ 4), (1, u "java/lang/Object"), (0, u "<init>"), (0, u "()V"), (0, .fieldref 8 9), (0, .class_ 10), (0, .nameAndType 11 12), (0, u "com/example/sound_verdict/soundverdict/Axis"), (0, u "CHILD"), (0, u "Lcom/example/sound_verdict/soundverdict/Axis;"), (0, .fieldref 8 14), (0, .nameAndType 15 12), (0, u "DESCENDANT"), (0, .fieldref 8 17), (0, .nameAndType 18 12), (0, u "ATTRIBUTE"), (0, .fieldref 8 20), (0, .nameAndType 21 12), (0, u "NAMESPACE"), (0, .fieldref 8 23), (0, .nameAndType 24 12), (0, u "SELF"), (0, .fieldref 8 26), (0, .nameAndType 27 12), (0, u "DESCENDANT_OR_SELF"), (0, .fieldref 8 29), (0, .nameAndType 30 12), (0, u "FOLLOWING_SIBLING"), (0, .fieldref 8 32), (0, .nameAndType 33 12), (0, u "FOLLOWING_SIBLING_OR_SELF"), (0, .fieldref 8 35), (0, .nameAndType 36 12), (0, u "FOLLOWING"), (0, .fieldref 8 38), (0, .nameAndType 39 12), (0, u "FOLLOWING_OR_SELF"), (0, .fieldref 8 41), (0, .nameAndType 42 12), (0, u "PARENT"), (0, .fieldref 8 44), (0, .nameAndType 45 12), (0, u "ANCESTOR"), (0, .fieldref 8 47), (0, .nameAndType 48 12), (0, u "ANCESTOR_OR_SELF"), (0, .fieldref 8 50), (0, .nameAndType 51 12), (0, u "PRECEDING_SIBLING"), (0, .fieldref 8 53), (0, .nameAndType 54 12), (0, u "PRECEDING_SIBLING_OR_SELF"), (0, .fieldref 8 56), (0, .nameAndType 57 12), (0, u "PRECEDING"), (0, .fieldref 8 59), (0, .nameAndType 60 12), (0, u "PRECEDING_OR_SELF"), (0, .fieldref 8 62), (0, .nameAndType 63 12), (0, u "DESCENDANT_ATTRIBUTE"), (0, .integer 2147483647), (0, .methodref 66 67), (0, .class_ 68), (0, .nameAndType 69 70), (0, u "com/example/sound_verdict/soundverdict/AxisIsDisjointPinLaw"), (0, u "pick"), (0, u "(I)Lcom/example/sound_verdict/soundverdict/Axis;"), (0, .methodref 8 72), (0, .nameAndType 73 74), (0, u "isDisjoint"), (0, u "()Z"), (0, .methodref 66 76), (0, .nameAndType 77 78), (0, u "expectedDisjoint"), (0, u "(I)Z"), (0, .methodref 8 80), (0, .nameAndType 81 74), (0, u "isReverse"), (3, u "law")] 2

def k1m0 : Method := { name := "<init>", desc := "()V", sig := { parameters := [], returnType := none }, accessFlags := 2, code := none }
def k1c1 : Code := { maxStack := 2, maxLocals := 1, code := method_2_code, exceptionTable := #[], attributes := #[] }
def k1m1 : Method := { name := "pick", desc := "(I)Lcom/example/sound_verdict/soundverdict/Axis;", sig := { parameters := [.int], returnType := some (.object "com/example/sound_verdict/soundverdict/Axis") }, accessFlags := 10, code := some k1c1 }
def k1c2 : Code := { maxStack := 2, maxLocals := 1, code := method_3_code, exceptionTable := #[], attributes := #[] }
def k1m2 : Method := { name := "expectedDisjoint", desc := "(I)Z", sig := { parameters := [.int], returnType := some .boolean }, accessFlags := 10, code := some k1c2 }
def k1c3 : Code := { maxStack := 2, maxLocals := 5, code := code, exceptionTable := #[], attributes := #[] }
def k1m3 : Method := { name := "law", desc := "(I)Z", sig := { parameters := [.int], returnType := some .boolean }, accessFlags := 9, code := some k1c3 }
/-- com/example/sound_verdict/soundverdict/AxisIsDisjointPinLaw -/
def k1 : Class := { plain "com/example/sound_verdict/soundverdict/AxisIsDisjointPinLaw" (some 0) with
  accessFlags := 49
  interfaces := #[]
  cf := some (fileOf pool1 66 #[] #[{ accessFlags := 2, nameIndex := 5, descriptorIndex := 6, attributes := #[] }, { accessFlags := 10, nameIndex := 69, descriptorIndex := 70, attributes := #[] }, { accessFlags := 10, nameIndex := 77, descriptorIndex := 78, attributes := #[] }, { accessFlags := 9, nameIndex := 85, descriptorIndex := 78, attributes := #[] }] 49 2 #[] #[])
  fields := #[]
  methods := #[k1m0, k1m1, k1m2, k1m3]
  instanceTypes := #[]
  staticTypes := #[]
  resolved := Array.replicate 88 none
  statics := none }

def pool2 : Array CpInfo := pool [(1, .class_ 2), (0, u "java/lang/constant/Constable"), (0, .class_ 4), (0, u "java/lang/Object")] 6

/-- java/lang/constant/Constable -/
def k2 : Class := { plain "java/lang/constant/Constable" (some 0) with
  accessFlags := 1537
  interfaces := #[]
  cf := some (fileOf pool2 1 #[] #[] 1537 3 #[] #[])
  fields := #[]
  methods := #[]
  instanceTypes := #[]
  staticTypes := #[]
  resolved := Array.replicate 11 none
  statics := none }

def pool3 : Array CpInfo := pool [(1, .class_ 2), (0, u "java/lang/Comparable"), (0, .class_ 4), (0, u "java/lang/Object")] 7

/-- java/lang/Comparable -/
def k3 : Class := { plain "java/lang/Comparable" (some 0) with
  accessFlags := 1537
  interfaces := #[]
  cf := some (fileOf pool3 1 #[] #[] 1537 3 #[] #[])
  fields := #[]
  methods := #[]
  instanceTypes := #[]
  staticTypes := #[]
  resolved := Array.replicate 12 none
  statics := none }

def pool4 : Array CpInfo := pool [(1, .class_ 2), (0, u "java/io/Serializable"), (0, .class_ 4), (0, u "java/lang/Object")] 2

/-- java/io/Serializable -/
def k4 : Class := { plain "java/io/Serializable" (some 0) with
  accessFlags := 1537
  interfaces := #[]
  cf := some (fileOf pool4 1 #[] #[] 1537 3 #[] #[])
  fields := #[]
  methods := #[]
  instanceTypes := #[]
  staticTypes := #[]
  resolved := Array.replicate 7 none
  statics := none }

def pool5 : Array CpInfo := pool [(2, .class_ 4), (1, u "java/lang/Enum"), (0, u "name"), (0, u "Ljava/lang/String;"), (2, u "ordinal"), (0, u "I"), (1, .class_ 14), (1, u "java/lang/Object"), (4, u "hash"), (86, .class_ 108), (1, u "java/lang/Enum$EnumDesc"), (2, .class_ 112), (0, u "java/lang/constant/Constable"), (0, .class_ 114), (0, u "java/lang/Comparable"), (0, .class_ 116), (0, u "java/io/Serializable")] 87

/-- java/lang/Enum -/
def k5 : Class := { plain "java/lang/Enum" (some 0) with
  accessFlags := 1057
  interfaces := #[2, 3, 4]
  cf := some (fileOf pool5 2 #[.nestMembers #[106]] #[] 1057 12 #[111, 113, 115] #[{ accessFlags := 18, nameIndex := 5, descriptorIndex := 6, attributes := #[] }, { accessFlags := 18, nameIndex := 9, descriptorIndex := 10, attributes := #[] }, { accessFlags := 2, nameIndex := 19, descriptorIndex := 10, attributes := #[] }])
  fields := #[{ name := "name", type := (.object "java/lang/String"), accessFlags := 18, slot := 0, constantValue := 0 }, { name := "ordinal", type := .int, accessFlags := 18, slot := 1, constantValue := 0 }, { name := "hash", type := .int, accessFlags := 2, slot := 2, constantValue := 0 }]
  methods := #[]
  instanceTypes := #[(.object "java/lang/String"), .int, .int]
  staticTypes := #[]
  resolved := Array.replicate 204 none
  statics := none }

def pool6 : Array CpInfo := pool [(1, .class_ 2), (0, u "com/example/sound_verdict/soundverdict/Axis"), (0, .fieldref 1 4), (0, .nameAndType 5 6), (0, u "CHILD"), (0, u "Lcom/example/sound_verdict/soundverdict/Axis;"), (2, u "DESCENDANT"), (0, .fieldref 1 11), (0, .nameAndType 12 6), (0, u "ATTRIBUTE"), (0, .fieldref 1 14), (0, .nameAndType 15 6), (0, u "NAMESPACE"), (0, .fieldref 1 17), (0, .nameAndType 18 6), (0, u "SELF"), (2, u "DESCENDANT_OR_SELF"), (2, u "FOLLOWING_SIBLING"), (2, u "FOLLOWING_SIBLING_OR_SELF"), (2, u "FOLLOWING"), (2, u "FOLLOWING_OR_SELF"), (2, u "PARENT"), (2, u "ANCESTOR"), (2, u "ANCESTOR_OR_SELF"), (2, u "PRECEDING_SIBLING"), (2, u "PRECEDING_SIBLING_OR_SELF"), (2, u "PRECEDING"), (2, u "PRECEDING_OR_SELF"), (2, u "DESCENDANT_ATTRIBUTE"), (2, u "$VALUES"), (0, u "[Lcom/example/sound_verdict/soundverdict/Axis;"), (6, .class_ 70), (1, u "java/lang/Enum"), (8, u "axisName"), (0, u "Ljava/lang/String;"), (2, u "walk"), (0, u "Lcom/example/sound_verdict/soundverdict/Axis$Walk;"), (2, u "orSelf"), (0, u "Z"), (0, .fieldref 1 90), (0, .nameAndType 91 88), (0, u "reverse"), (8, u "ruleSets"), (0, u "Ljava/util/Set;"), (47, u "NO_NUMBERS"), (0, u "[I"), (19, .class_ 172), (1, u "com/example/sound_verdict/soundverdict/Axis$Walk"), (18, .class_ 192), (0, u "com/example/sound_verdict/soundverdict/Axis$RangeNodes"), (20, .class_ 214), (0, u "com/example/sound_verdict/soundverdict/Axis$NodeBefore"), (8, .class_ 225), (1, u "com/example/sound_verdict/soundverdict/Axis$ChainNodes"), (20, .class_ 248), (1, u "com/example/sound_verdict/soundverdict/Axis$Reach"), (72, u "()Z"), (175, u "isDisjoint"), (0, u "isReverse"), (32, .class_ 532), (0, u "com/example/sound_verdict/soundverdict/Axis$ChainNodes$Link")] 61

def k6c0 : Code := { maxStack := 2, maxLocals := 1, code := prog_13_method_9_code, exceptionTable := #[], attributes := #[] }
def k6m0 : Method := { name := "isDisjoint", desc := "()Z", sig := { parameters := [], returnType := some .boolean }, accessFlags := 0, code := some k6c0 }
def k6c1 : Code := { maxStack := 1, maxLocals := 1, code := prog_13_method_10_code, exceptionTable := #[], attributes := #[] }
def k6m1 : Method := { name := "isReverse", desc := "()Z", sig := { parameters := [], returnType := some .boolean }, accessFlags := 0, code := some k6c1 }
/-- com/example/sound_verdict/soundverdict/Axis -/
def k6 : Class := { plain "com/example/sound_verdict/soundverdict/Axis" (some 5) with
  accessFlags := 16432
  interfaces := #[]
  cf := some (fileOf pool6 1 #[.nestMembers #[223, 531, 213, 191, 246, 170]] #[{ accessFlags := 0, nameIndex := 497, descriptorIndex := 321, attributes := #[] }, { accessFlags := 0, nameIndex := 498, descriptorIndex := 321, attributes := #[] }] 16432 68 #[] #[{ accessFlags := 16409, nameIndex := 5, descriptorIndex := 6, attributes := #[] }, { accessFlags := 16409, nameIndex := 9, descriptorIndex := 6, attributes := #[] }, { accessFlags := 16409, nameIndex := 12, descriptorIndex := 6, attributes := #[] }, { accessFlags := 16409, nameIndex := 15, descriptorIndex := 6, attributes := #[] }, { accessFlags := 16409, nameIndex := 18, descriptorIndex := 6, attributes := #[] }, { accessFlags := 16409, nameIndex := 21, descriptorIndex := 6, attributes := #[] }, { accessFlags := 16409, nameIndex := 24, descriptorIndex := 6, attributes := #[] }, { accessFlags := 16409, nameIndex := 27, descriptorIndex := 6, attributes := #[] }, { accessFlags := 16409, nameIndex := 30, descriptorIndex := 6, attributes := #[] }, { accessFlags := 16409, nameIndex := 33, descriptorIndex := 6, attributes := #[] }, { accessFlags := 16409, nameIndex := 36, descriptorIndex := 6, attributes := #[] }, { accessFlags := 16409, nameIndex := 39, descriptorIndex := 6, attributes := #[] }, { accessFlags := 16409, nameIndex := 42, descriptorIndex := 6, attributes := #[] }, { accessFlags := 16409, nameIndex := 45, descriptorIndex := 6, attributes := #[] }, { accessFlags := 16409, nameIndex := 48, descriptorIndex := 6, attributes := #[] }, { accessFlags := 16409, nameIndex := 51, descriptorIndex := 6, attributes := #[] }, { accessFlags := 16409, nameIndex := 54, descriptorIndex := 6, attributes := #[] }, { accessFlags := 16409, nameIndex := 57, descriptorIndex := 6, attributes := #[] }, { accessFlags := 26, nameIndex := 149, descriptorIndex := 150, attributes := #[] }, { accessFlags := 18, nameIndex := 79, descriptorIndex := 80, attributes := #[] }, { accessFlags := 18, nameIndex := 83, descriptorIndex := 84, attributes := #[] }, { accessFlags := 18, nameIndex := 87, descriptorIndex := 88, attributes := #[] }, { accessFlags := 18, nameIndex := 91, descriptorIndex := 88, attributes := #[] }, { accessFlags := 18, nameIndex := 100, descriptorIndex := 101, attributes := #[] }, { accessFlags := 4122, nameIndex := 60, descriptorIndex := 61, attributes := #[] }])
  fields := #[{ name := "CHILD", type := (.object "com/example/sound_verdict/soundverdict/Axis"), accessFlags := 16409, slot := 0, constantValue := 0 }, { name := "DESCENDANT", type := (.object "com/example/sound_verdict/soundverdict/Axis"), accessFlags := 16409, slot := 1, constantValue := 0 }, { name := "ATTRIBUTE", type := (.object "com/example/sound_verdict/soundverdict/Axis"), accessFlags := 16409, slot := 2, constantValue := 0 }, { name := "NAMESPACE", type := (.object "com/example/sound_verdict/soundverdict/Axis"), accessFlags := 16409, slot := 3, constantValue := 0 }, { name := "SELF", type := (.object "com/example/sound_verdict/soundverdict/Axis"), accessFlags := 16409, slot := 4, constantValue := 0 }, { name := "DESCENDANT_OR_SELF", type := (.object "com/example/sound_verdict/soundverdict/Axis"), accessFlags := 16409, slot := 5, constantValue := 0 }, { name := "FOLLOWING_SIBLING", type := (.object "com/example/sound_verdict/soundverdict/Axis"), accessFlags := 16409, slot := 6, constantValue := 0 }, { name := "FOLLOWING_SIBLING_OR_SELF", type := (.object "com/example/sound_verdict/soundverdict/Axis"), accessFlags := 16409, slot := 7, constantValue := 0 }, { name := "FOLLOWING", type := (.object "com/example/sound_verdict/soundverdict/Axis"), accessFlags := 16409, slot := 8, constantValue := 0 }, { name := "FOLLOWING_OR_SELF", type := (.object "com/example/sound_verdict/soundverdict/Axis"), accessFlags := 16409, slot := 9, constantValue := 0 }, { name := "PARENT", type := (.object "com/example/sound_verdict/soundverdict/Axis"), accessFlags := 16409, slot := 10, constantValue := 0 }, { name := "ANCESTOR", type := (.object "com/example/sound_verdict/soundverdict/Axis"), accessFlags := 16409, slot := 11, constantValue := 0 }, { name := "ANCESTOR_OR_SELF", type := (.object "com/example/sound_verdict/soundverdict/Axis"), accessFlags := 16409, slot := 12, constantValue := 0 }, { name := "PRECEDING_SIBLING", type := (.object "com/example/sound_verdict/soundverdict/Axis"), accessFlags := 16409, slot := 13, constantValue := 0 }, { name := "PRECEDING_SIBLING_OR_SELF", type := (.object "com/example/sound_verdict/soundverdict/Axis"), accessFlags := 16409, slot := 14, constantValue := 0 }, { name := "PRECEDING", type := (.object "com/example/sound_verdict/soundverdict/Axis"), accessFlags := 16409, slot := 15, constantValue := 0 }, { name := "PRECEDING_OR_SELF", type := (.object "com/example/sound_verdict/soundverdict/Axis"), accessFlags := 16409, slot := 16, constantValue := 0 }, { name := "DESCENDANT_ATTRIBUTE", type := (.object "com/example/sound_verdict/soundverdict/Axis"), accessFlags := 16409, slot := 17, constantValue := 0 }, { name := "NO_NUMBERS", type := (.array .int), accessFlags := 26, slot := 18, constantValue := 0 }, { name := "axisName", type := (.object "java/lang/String"), accessFlags := 18, slot := 3, constantValue := 0 }, { name := "walk", type := (.object "com/example/sound_verdict/soundverdict/Axis$Walk"), accessFlags := 18, slot := 4, constantValue := 0 }, { name := "orSelf", type := .boolean, accessFlags := 18, slot := 5, constantValue := 0 }, { name := "reverse", type := .boolean, accessFlags := 18, slot := 6, constantValue := 0 }, { name := "ruleSets", type := (.object "java/util/Set"), accessFlags := 18, slot := 7, constantValue := 0 }, { name := "$VALUES", type := (.array (.object "com/example/sound_verdict/soundverdict/Axis")), accessFlags := 4122, slot := 19, constantValue := 0 }]
  methods := #[k6m0, k6m1]
  instanceTypes := #[(.object "java/lang/String"), .int, .int, (.object "java/lang/String"), (.object "com/example/sound_verdict/soundverdict/Axis$Walk"), .boolean, .boolean, (.object "java/util/Set")]
  staticTypes := #[(.object "com/example/sound_verdict/soundverdict/Axis"), (.object "com/example/sound_verdict/soundverdict/Axis"), (.object "com/example/sound_verdict/soundverdict/Axis"), (.object "com/example/sound_verdict/soundverdict/Axis"), (.object "com/example/sound_verdict/soundverdict/Axis"), (.object "com/example/sound_verdict/soundverdict/Axis"), (.object "com/example/sound_verdict/soundverdict/Axis"), (.object "com/example/sound_verdict/soundverdict/Axis"), (.object "com/example/sound_verdict/soundverdict/Axis"), (.object "com/example/sound_verdict/soundverdict/Axis"), (.object "com/example/sound_verdict/soundverdict/Axis"), (.object "com/example/sound_verdict/soundverdict/Axis"), (.object "com/example/sound_verdict/soundverdict/Axis"), (.object "com/example/sound_verdict/soundverdict/Axis"), (.object "com/example/sound_verdict/soundverdict/Axis"), (.object "com/example/sound_verdict/soundverdict/Axis"), (.object "com/example/sound_verdict/soundverdict/Axis"), (.object "com/example/sound_verdict/soundverdict/Axis"), (.array .int), (.array (.object "com/example/sound_verdict/soundverdict/Axis"))]
  resolved := Array.replicate 594 none
  statics := some 0 }

def pool7 : Array CpInfo := pool [(1, u "java/lang/Cloneable"), (0, .class_ 1), (0, u "java/lang/Object"), (0, .class_ 3)] 3

/-- java/lang/Cloneable -/
def k7 : Class := { plain "java/lang/Cloneable" (some 0) with
  accessFlags := 1537
  interfaces := #[]
  cf := some (fileOf pool7 2 #[] #[] 1537 4 #[] #[])
  fields := #[]
  methods := #[]
  instanceTypes := #[]
  staticTypes := #[]
  resolved := Array.replicate 8 none
  statics := none }

/-- the primitive byte -/
def k8 : Class := { plain "byte" none with kind := .primitive 'B', accessFlags := 0x411 }
/-- [B -/
def k9 : Class := { plain "[B" (some 0) with kind := .array 8 .byte, interfaces := #[7, 4], accessFlags := 1041 }

/-- the primitive int -/
def k10 : Class := { plain "int" none with kind := .primitive 'I', accessFlags := 0x411 }
/-- [I -/
def k11 : Class := { plain "[I" (some 0) with kind := .array 10 .int, interfaces := #[7, 4], accessFlags := 1041 }

def heap : Heap := #[{ cls := 6, slots := #[.ref 1, .ref 2, .ref 3, .ref 4, .ref 5, .ref 6, .ref 7, .ref 8, .ref 9, .ref 10, .ref 11, .ref 12, .ref 13, .ref 14, .ref 15, .ref 16, .ref 17, .ref 18, .null, .null], vm := .statics 6 },
  { cls := 6, slots := #[.null, .int 0, .int 0, .null, .null, .int 0, .int 0, .null], vm := .none },
  { cls := 6, slots := #[.null, .int 1, .int 0, .null, .null, .int 0, .int 0, .null], vm := .none },
  { cls := 6, slots := #[.null, .int 2, .int 0, .null, .null, .int 0, .int 0, .null], vm := .none },
  { cls := 6, slots := #[.null, .int 3, .int 0, .null, .null, .int 0, .int 0, .null], vm := .none },
  { cls := 6, slots := #[.null, .int 4, .int 0, .null, .null, .int 0, .int 0, .null], vm := .none },
  { cls := 6, slots := #[.null, .int 5, .int 0, .null, .null, .int 0, .int 0, .null], vm := .none },
  { cls := 6, slots := #[.null, .int 6, .int 0, .null, .null, .int 0, .int 0, .null], vm := .none },
  { cls := 6, slots := #[.null, .int 7, .int 0, .null, .null, .int 0, .int 0, .null], vm := .none },
  { cls := 6, slots := #[.null, .int 8, .int 0, .null, .null, .int 0, .int 0, .null], vm := .none },
  { cls := 6, slots := #[.null, .int 9, .int 0, .null, .null, .int 0, .int 0, .null], vm := .none },
  { cls := 6, slots := #[.null, .int 10, .int 0, .null, .null, .int 0, .int 1, .null], vm := .none },
  { cls := 6, slots := #[.null, .int 11, .int 0, .null, .null, .int 0, .int 1, .null], vm := .none },
  { cls := 6, slots := #[.null, .int 12, .int 0, .null, .null, .int 0, .int 1, .null], vm := .none },
  { cls := 6, slots := #[.null, .int 13, .int 0, .null, .null, .int 0, .int 1, .null], vm := .none },
  { cls := 6, slots := #[.null, .int 14, .int 0, .null, .null, .int 0, .int 1, .null], vm := .none },
  { cls := 6, slots := #[.null, .int 15, .int 0, .null, .null, .int 0, .int 1, .null], vm := .none },
  { cls := 6, slots := #[.null, .int 16, .int 0, .null, .null, .int 0, .int 1, .null], vm := .none },
  { cls := 6, slots := #[.null, .int 17, .int 0, .null, .null, .int 0, .int 0, .null], vm := .none }]
def classes : Array Class := #[k0, k1, k2, k3, k4, k5, k6, k7, k8, k9, k10, k11]
def interned : List (Array UInt16 × Addr) := []
def slotsUsed : Nat := 164
def theMethod : MethodId := ⟨1, 3⟩
def args0 : Array Value := #[.int 5]
def aboutOver (below : List Frame) : State where
  vm := { classes := classes, interned := interned.toArray }
  heap := heap
  slotsUsed := slotsUsed
  threads := #[{ frames := .invoking theMethod args0 :: below }]
def below0 : List Frame := [.native { method := ⟨0, 0⟩, args := #[] }]
def about1 : State := aboutOver below0
def p0 : Program := .bare "" "" ""
def e0 : Env := launch0.env 0 0 0
theorem w_frames : about1.frames = Frame.invoking theMethod args0 :: below0 := rfl
set_option maxRecDepth 65536 in
theorem w_args : argsFit about1.vm theMethod args0 = true := by decide +kernel
set_option maxRecDepth 65536 in
theorem w_heap : heapFits about1 = true := by decide +kernel
set_option maxRecDepth 65536 in
theorem w_runnable : about1.curStatus? = some .runnable := by decide +kernel
set_option maxRecDepth 65536 in
theorem w_alone : about1.alone = true := by decide +kernel
set_option maxRecDepth 65536 in
theorem w_named : about1.methodNamed? x = some theMethod := by decide +kernel
set_option maxRecDepth 65536 in
theorem w_hears : about1.hears theMethod below0 = true := by decide +kernel
set_option maxRecDepth 65536 in
theorem w_ripe : about1.ripe theMethod args0 below0 = true := by decide +kernel
theorem w_running : about1.status = .running := rfl
set_option maxRecDepth 65536 in
theorem w_room : about1.hasRoom e0.platform room_1 = true :=
  launch0.hasRoom_least _ room_1 (by decide +kernel) (by decide +kernel) (by decide +kernel) (by decide +kernel) (by decide +kernel) (by decide +kernel)
theorem allAtoms_all (ts : List Jvm.Cond) (a : Array Jvm.Value) (st : Jvm.State) : (allAtoms ts).before a st = ts.all (fun c => c.before a st) := by
  induction ts with
  | nil => rfl
  | cons c t ih =>
    show (Jvm.Cond.and c (allAtoms t)).before a st = _
    rw [Jvm.Cond.before_and, ih, List.all_cons]
def words1 : List Jvm.Cond := Jvm.Cond.code x code maxLocals ret :: tables_1
/-- a 'code' word, met by the world's own term for the bytes: nothing is compared byte by byte -/
theorem code_word {y : MethodName} {bytes : ByteArray} {mx : Nat} {rt : Option FieldType} {a : Array Value} {s : State} {m : MethodId} {meth : Method} {c : Code} (h1 : s.methodNamed? y = some m) (h2 : s.vm.method? m = some meth) (h3 : meth.code = some c) (h4 : c.code = bytes)
    (h5 : (c.maxLocals == mx && c.exceptionTable.isEmpty && decide (c.maxStack ≤ mostOperands) && decide (meth.sig.returnType = rt) && !meth.locks && decide (parseMethodDescriptor y.desc = some meth.sig)) = true) : (Jvm.Cond.code y bytes mx rt).before a s = true := by
  simp only [Bool.and_eq_true, beq_iff_eq, Bool.not_eq_true', decide_eq_true_eq] at h5
  obtain ⟨⟨⟨⟨⟨g1, g2⟩, g3⟩, g4⟩, g5⟩, g6⟩ := h5
  simp [Cond.before, Cond.holds, Cond.value, h1, h2, h3, h4, g1, g2, g3, g4, g5, g6]
def isCode : Jvm.Cond → Bool
  | .code _ _ _ _ => true
  | _ => false
theorem all_split {L : List Jvm.Cond} {P : Jvm.Cond → Bool} (h1 : L.all (fun c => isCode c || P c) = true) (h2 : ∀ c ∈ L.filter isCode, P c = true) : L.all P = true := by
  refine List.all_eq_true.mpr fun c hc => ?_
  have h := List.all_eq_true.mp h1 c hc
  rcases Bool.eq_false_or_eq_true (isCode c) with hi | hi
  · exact h2 c (List.mem_filter.mpr ⟨hc, hi⟩)
  · simpa [hi] using h
set_option maxRecDepth 65536 in
theorem w_c0 : (Jvm.Cond.code x code maxLocals ret).before args0 about1 = true := code_word (m := ⟨1, 3⟩) (meth := k1m3) (c := k1c3) (by decide +kernel) rfl rfl rfl (by decide +kernel)
set_option maxRecDepth 65536 in
theorem w_c1 : (Jvm.Cond.code ({ cls := "com/example/sound_verdict/soundverdict/AxisIsDisjointPinLaw", name := "pick", desc := "(I)Lcom/example/sound_verdict/soundverdict/Axis;" } : Jvm.MethodName) method_2_code (1 : Nat) (Option.some (Jvm.ClassFile.FieldType.object "com/example/sound_verdict/soundverdict/Axis"))).before args0 about1 = true := code_word (m := ⟨1, 1⟩) (meth := k1m1) (c := k1c1) (by decide +kernel) rfl rfl rfl (by decide +kernel)
set_option maxRecDepth 65536 in
theorem w_c2 : (Jvm.Cond.code ({ cls := "com/example/sound_verdict/soundverdict/Axis", name := "isDisjoint", desc := "()Z" } : Jvm.MethodName) prog_13_method_9_code (1 : Nat) (Option.some Jvm.ClassFile.FieldType.boolean)).before args0 about1 = true := code_word (m := ⟨6, 0⟩) (meth := k6m0) (c := k6c0) (by decide +kernel) rfl rfl rfl (by decide +kernel)
set_option maxRecDepth 65536 in
theorem w_c3 : (Jvm.Cond.code ({ cls := "com/example/sound_verdict/soundverdict/AxisIsDisjointPinLaw", name := "expectedDisjoint", desc := "(I)Z" } : Jvm.MethodName) method_3_code (1 : Nat) (Option.some Jvm.ClassFile.FieldType.boolean)).before args0 about1 = true := code_word (m := ⟨1, 2⟩) (meth := k1m2) (c := k1c2) (by decide +kernel) rfl rfl rfl (by decide +kernel)
set_option maxRecDepth 65536 in
theorem w_c4 : (Jvm.Cond.code ({ cls := "com/example/sound_verdict/soundverdict/Axis", name := "isReverse", desc := "()Z" } : Jvm.MethodName) prog_13_method_10_code (1 : Nat) (Option.some Jvm.ClassFile.FieldType.boolean)).before args0 about1 = true := code_word (m := ⟨6, 1⟩) (meth := k6m1) (c := k6c1) (by decide +kernel) rfl rfl rfl (by decide +kernel)
def codes1 : List Jvm.Cond := [Jvm.Cond.code x code maxLocals ret, Jvm.Cond.code ({ cls := "com/example/sound_verdict/soundverdict/AxisIsDisjointPinLaw", name := "pick", desc := "(I)Lcom/example/sound_verdict/soundverdict/Axis;" } : Jvm.MethodName) method_2_code (1 : Nat) (Option.some (Jvm.ClassFile.FieldType.object "com/example/sound_verdict/soundverdict/Axis")), Jvm.Cond.code ({ cls := "com/example/sound_verdict/soundverdict/Axis", name := "isDisjoint", desc := "()Z" } : Jvm.MethodName) prog_13_method_9_code (1 : Nat) (Option.some Jvm.ClassFile.FieldType.boolean), Jvm.Cond.code ({ cls := "com/example/sound_verdict/soundverdict/AxisIsDisjointPinLaw", name := "expectedDisjoint", desc := "(I)Z" } : Jvm.MethodName) method_3_code (1 : Nat) (Option.some Jvm.ClassFile.FieldType.boolean), Jvm.Cond.code ({ cls := "com/example/sound_verdict/soundverdict/Axis", name := "isReverse", desc := "()Z" } : Jvm.MethodName) prog_13_method_10_code (1 : Nat) (Option.some Jvm.ClassFile.FieldType.boolean)]
set_option maxRecDepth 65536 in
theorem codes_eq : words1.filter isCode = codes1 := rfl
theorem w_codes : ∀ c ∈ words1.filter isCode, c.before args0 about1 = true := by
  rw [codes_eq]
  intro c hc
  simp only [codes1, List.mem_cons, List.not_mem_nil, or_false] at hc
  rcases hc with rfl | rfl | rfl | rfl | rfl
  · exact w_c0
  · exact w_c1
  · exact w_c2
  · exact w_c3
  · exact w_c4
set_option maxRecDepth 65536 in
theorem w_t1 : (words1.take 24).all (fun c => isCode c || c.before args0 about1) = true := by decide +kernel
set_option maxRecDepth 65536 in
theorem w_t2 : ((words1.drop 24).take 24).all (fun c => isCode c || c.before args0 about1) = true := by decide +kernel
set_option maxRecDepth 65536 in
theorem w_t3 : ((words1.drop 24).drop 24).all (fun c => isCode c || c.before args0 about1) = true := by decide +kernel
theorem w_tables : (allAtoms (Jvm.Cond.code x code maxLocals ret :: tables_1)).before args0 about1 = true := by
  rw [allAtoms_all]
  show words1.all (fun c => c.before args0 about1) = true
  refine all_split ?_ w_codes
  rw [← List.take_append_drop 24 words1, List.all_append, w_t1, ← List.take_append_drop 24 (words1.drop 24), List.all_append, w_t2, w_t3]
  rfl
set_option maxRecDepth 65536 in
theorem w_case : (Jvm.Cond.and given_1 narrow_1).before args0 about1 = true := by decide +kernel
theorem w_applies : (headSpec (Jvm.Cond.code x code maxLocals ret :: tables_1) room_1).applies x e0.platform about1 = true :=
  (Spec.applies_iff w_frames).mpr ⟨w_running, w_runnable, w_alone, w_named, w_hears, w_ripe, w_room, w_tables⟩
theorem atStart : AtStart classFile x code maxLocals ret World_1 tables_1 room_1 Calls_1 rest_1 Pre_1 launch0 p0 e0 about1 theMethod args0 below0 :=
  ⟨lists_1, trivial, launch0.admits_env _ _ _, launch0.least_env, fairChoices_fair.cas, fairChoices_fair.clock, w_frames, w_args, w_heap, w_applies, trivial, trivial, w_case⟩
end start1
theorem witness_1 : WitnessClaimed_1 := ⟨start1.p0, start1.e0, start1.about1, start1.theMethod, start1.args0, start1.below0, start1.atStart⟩
end Jvm.Pilot.@@N@@
