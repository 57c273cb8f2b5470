import JvmDerived
import JvmDerived.Pilot.@@N@@Statement
import JvmDerived.Pilot.@@N@@Code
set_option linter.unusedVariables false
set_option linter.unusedSimpArgs false
namespace Jvm.RoadKit
open Sem ClassFile Op Lib Jvm.Stand Jvm.Free Jvm.LawKit
section New
variable {p : Program} {l : Launch} {e : Env} {R : Room} {s : State} {m : MethodId} {args : Array Value} {below : List Frame} {meth : Method} {c : Code} {T : State} {locs : List Loc} {cells slots : Nat}
theorem retI (X : Stand p l e R s m args below meth c T locs cells slots) (hx : p.tables.exec = Jvm.exec) {pc : Nat} {Ls : Array Slot} {z : Int32} {rest : List Value} (hret : meth.sig.returnType = some .int) (hd : decode c.code pc = .ok (.ireturn, 1)) {fs : List Frame}
    (hl : ∀ (f : JFrame) (acts : List Action), f.method = m → f.locked = none → f.entered = [] → (doReturn e (T.setTop f) acts (some (.int z))).1 = T.setFrames fs) : Steps p.tables e below (T.setTop (mkF m pc Ls (.int z :: rest))) (T.setFrames fs) := by
  have hm' : T.vm.method? m = some meth := X.method'
  have hn : narrow .int (.int z) = .int z := rfl
  show Steps p.tables e below (T.setTop { method := m, pc := pc, locals := Ls, stack := _ :: rest, locked := none }) _
  jvm_step X.here [X.here.top, hx, hd, hm', hret, hn]
  first | (intro acts; rw [hl _ acts rfl rfl rfl]) | rw [hl _ _ rfl rfl rfl]
  exact Steps.refl _
/-- from the state S the run comes to an end at which A holds -/
def own_Fin (p : Program) (e : Env) (below : List Frame) (A : State → Outcome → Prop) (S : State) : Prop := ∃ s₂ o, Steps p.tables e below S s₂ ∧ s₂.status = .running ∧ Ended s₂ below o ∧ A s₂ o
theorem own_go {A : State → Outcome → Prop} {S S' : State} (k : ∀ t, Steps p.tables e below S' t → Steps p.tables e below S t) (h : own_Fin p e below A S') : own_Fin p e below A S := by
  obtain ⟨t, o, h1, h2⟩ := h; exact ⟨t, o, k t h1, h2⟩
/-- what a walk leaves: Q of the value, the heap and the written places -/
def own_A (s : State) (C S : Nat) (Q : Option Value → Heap → List Loc → Prop) : State → Outcome → Prop := fun U' o => ∃ v L, o = .returned v ∧ Q v U'.heap L ∧ FrameEnd s o U' L C S
/-- a body that writes nothing: its value, the heap as it was -/
def own_P (h0 : Heap) (n0 : Nat) (w : Value) (v : Option Value) (h : Heap) (L : List Loc) : Prop := v = some w ∧ Fr n0 L ∧ h = h0
theorem own_out (X : Stand p l e R s m args below meth c T locs cells slots) {v : Option Value} {Q : Option Value → Heap → List Loc → Prop} {C S : Nat} {g : JFrame}
    (hv : meth.sig.returnType = none → v = none) (hlocks : meth.locks = false)
    (st : ∀ fs, (∀ (f : JFrame) (acts : List Action), f.method = m → f.locked = none → f.entered = [] → (doReturn e (T.setTop f) acts v).1 = T.setFrames fs) → Steps p.tables e below (T.setTop g) (T.setFrames fs))
    (hQ : Q v T.heap locs) (hc : cells ≤ C) (hs : slots ≤ S) : own_Fin p e below (own_A s C S Q) (T.setTop g) := by
  obtain ⟨fs, hr, hrun, hended, hW, hsame⟩ := X.leave (v := v) hv hlocks
  exact ⟨_, _, st fs hr, hrun, hended, _, _, rfl, hQ, ⟨_, rfl⟩, hW, hsame.mono hc hs⟩
end New
end Jvm.RoadKit
namespace Jvm.Pilot.@@N@@
open Jvm Jvm.ClassFile Sem Op Lib Jvm.Free Jvm.Stand Jvm.LawKit Jvm.RoadKit Bundle Jvm.Pilot.@@N@@.Jvm.D
theorem d1_0 : decode prog_23_method_36_code 0 = .ok (.iload_n 0, 1) := by decide +kernel
theorem d1_1 : decode prog_23_method_36_code 1 = .ok (.bipush 44, 2) := by decide +kernel
theorem d1_3 : decode prog_23_method_36_code 3 = .ok (.if_icmp .eq 27, 3) := by decide +kernel
theorem d1_6 : decode prog_23_method_36_code 6 = .ok (.iload_n 0, 1) := by decide +kernel
theorem d1_7 : decode prog_23_method_36_code 7 = .ok (.bipush 91, 2) := by decide +kernel
theorem d1_9 : decode prog_23_method_36_code 9 = .ok (.if_icmp .eq 21, 3) := by decide +kernel
theorem d1_12 : decode prog_23_method_36_code 12 = .ok (.iload_n 0, 1) := by decide +kernel
theorem d1_13 : decode prog_23_method_36_code 13 = .ok (.bipush 93, 2) := by decide +kernel
theorem d1_15 : decode prog_23_method_36_code 15 = .ok (.if_icmp .eq 15, 3) := by decide +kernel
theorem d1_18 : decode prog_23_method_36_code 18 = .ok (.iload_n 0, 1) := by decide +kernel
theorem d1_19 : decode prog_23_method_36_code 19 = .ok (.bipush 123, 2) := by decide +kernel
theorem d1_21 : decode prog_23_method_36_code 21 = .ok (.if_icmp .eq 9, 3) := by decide +kernel
theorem d1_24 : decode prog_23_method_36_code 24 = .ok (.iload_n 0, 1) := by decide +kernel
theorem d1_25 : decode prog_23_method_36_code 25 = .ok (.bipush 125, 2) := by decide +kernel
theorem d1_27 : decode prog_23_method_36_code 27 = .ok (.if_icmp .ne 7, 3) := by decide +kernel
theorem d1_30 : decode prog_23_method_36_code 30 = .ok (.iconst 1, 1) := by decide +kernel
theorem d1_31 : decode prog_23_method_36_code 31 = .ok (.goto 4, 3) := by decide +kernel
theorem d1_34 : decode prog_23_method_36_code 34 = .ok (.iconst 0, 1) := by decide +kernel
theorem d1_35 : decode prog_23_method_36_code 35 = .ok (.ireturn, 1) := by decide +kernel
theorem pn_0 : plainName "com/example/honeyguide/honeyguide/document/YamlCursor" = true := by first | (simp [plainName, overriddenIn]; done) | decide +kernel
theorem ef_1 (m : MethodId) (x0 : Int32)  : entryFrame m #[(.int x0)] 1 = mkF m 0 #[.val (.int x0)] [] := by first | (simp [entryFrame, mkF, argsToLocals, Value.category]; done) | rfl
def own_f_27 (p1 : Int32) : Int32 := if p1 = (125 : Int32) then (1 : Int32) else (0 : Int32)
def own_f_21 (p1 : Int32) : Int32 := if p1 = (123 : Int32) then (1 : Int32) else (own_f_27 p1)
def own_f_15 (p1 : Int32) : Int32 := if p1 = (93 : Int32) then (1 : Int32) else (own_f_21 p1)
def own_f_9 (p1 : Int32) : Int32 := if p1 = (91 : Int32) then (1 : Int32) else (own_f_15 p1)
def own_f_3 (p1 : Int32) : Int32 := if p1 = (44 : Int32) then (1 : Int32) else (own_f_9 p1)
set_option maxRecDepth 65536 in
set_option maxHeartbeats 40000000 in
theorem rm1 (l : Launch) (Z : State) (a0 : Array Value) (hw : ∀ d ∈ tables_1, d.before a0 Z = true) (ws : List Jvm.Cond) (p1 : Int32) (h0 : Heap) (n0 : Nat) (Z0 : n0 ≤ h0.size) :
    MetFree l (⟨"com/example/honeyguide/honeyguide/document/YamlCursor", "isFlowIndicator", "(I)Z"⟩ : MethodName) (head1 (Jvm.Cond.code (⟨"com/example/honeyguide/honeyguide/document/YamlCursor", "isFlowIndicator", "(I)Z"⟩ : MethodName) prog_23_method_36_code 1 (some .boolean) :: ws) ({ frames := 0, cells := 0, slots := 0, locals := 0 } : Room)) (fun a U => a = #[(.int p1)] ∧ Z.Warmed39 U.vm ∧ U.heap = h0) (fun _ _ _ _ _ => True) (fun _ U o U' => ∃ v L, o = .returned v ∧ (own_P h0 n0 (.int (own_f_3 p1))) v U'.heap L ∧ FrameEnd U o U' L ({ frames := 0, cells := 0, slots := 0, locals := 0 } : Room).cells ({ frames := 0, cells := 0, slots := 0, locals := 0 } : Room).slots) := by
  refine MetFree.of_bodySF (plainFor_of_name pn_0) hisR ?_
  intro p e s m args below meth c s₁ Bd hml0 hP hK
  obtain ⟨rfl, hZ, hh⟩ := hP
  have hx := Bd.exec
  have hby := Bd.bytes
  have hml : c.maxLocals = 1 := hml0
  have hown : s.vm.findClass "com/example/honeyguide/honeyguide/document/YamlCursor" = some m.cls := findClass_of_methodNamed Bd.named
  have hnm := (name_of_methodNamed Bd.named Bd.method).1
  have X0 : Stand p l e ({ frames := 0, cells := 0, slots := 0, locals := 0 } : Room) s m #[(.int p1)] below meth c s₁ [] 0 0 := Stand.of_body Bd
  have e0 : s₁.heap = h0 := by rw [← hh, Bd.state]; rfl
  have N0 := Fr.nil n0
  show own_Fin p e below (own_A s ({ frames := 0, cells := 0, slots := 0, locals := 0 } : Room).cells ({ frames := 0, cells := 0, slots := 0, locals := 0 } : Room).slots (own_P h0 n0 (.int (own_f_3 p1)))) _
  refine own_go (fun t k => castTop (ef_1 m (p1)) k) ?_
  show own_Fin p e below _ (s₁.setTop (mkF m 0 #[.val (.int p1)] []))
  refine own_go (fun t k => XS.iloadN X0.here hx rfl (hb hby d1_0) rfl  (XS.bipush X0.here hx rfl (hb hby d1_1) k)) ?_
  show own_Fin p e below _ (s₁.setTop (mkF m 3 #[.val (.int p1)] [(.int (44 : Int32)), (.int p1)]))
  by_cases hc1 : p1 = (44 : Int32)
  · skip
    rw [(show (own_f_3 p1) = (1 : Int32) from if_pos hc1)]
    refine own_go (fun t k => XS.icmpYes X0.here hx rfl (pc0 := 3) (pc' := 30) rfl (hb hby d1_3) rfl (teq hc1).1 (by decide) (by decide) (XS.iconst X0.here hx rfl (hb hby d1_30) (XS.goto X0.here hx rfl (pc0 := 31) (pc' := 35) rfl (hb hby d1_31) (by decide) (by decide) k))) ?_
    show own_Fin p e below _ (s₁.setTop (mkF m 35 #[.val (.int p1)] [(.int (1 : Int32))]))
    exact own_out X0 (fun h => by rw [Bd.returns] at h; cases h) Bd.notSynchronized (fun fs hr => retN X0 hx (t := .boolean) Bd.returns (by simp) (hb hby d1_35) hr) ⟨rfl, N0, e0⟩ (by decide) (by decide)
  · skip
    rw [(show (own_f_3 p1) = (own_f_9 p1) from if_neg hc1)]
    refine own_go (fun t k => XS.icmpNo X0.here hx rfl (hb hby d1_3) rfl (feq hc1).1 (XS.iloadN X0.here hx rfl (hb hby d1_6) rfl  (XS.bipush X0.here hx rfl (hb hby d1_7) k))) ?_
    show own_Fin p e below _ (s₁.setTop (mkF m 9 #[.val (.int p1)] [(.int (91 : Int32)), (.int p1)]))
    by_cases hc2 : p1 = (91 : Int32)
    · skip
      rw [(show (own_f_9 p1) = (1 : Int32) from if_pos hc2)]
      refine own_go (fun t k => XS.icmpYes X0.here hx rfl (pc0 := 9) (pc' := 30) rfl (hb hby d1_9) rfl (teq hc2).1 (by decide) (by decide) (XS.iconst X0.here hx rfl (hb hby d1_30) (XS.goto X0.here hx rfl (pc0 := 31) (pc' := 35) rfl (hb hby d1_31) (by decide) (by decide) k))) ?_
      show own_Fin p e below _ (s₁.setTop (mkF m 35 #[.val (.int p1)] [(.int (1 : Int32))]))
      exact own_out X0 (fun h => by rw [Bd.returns] at h; cases h) Bd.notSynchronized (fun fs hr => retN X0 hx (t := .boolean) Bd.returns (by simp) (hb hby d1_35) hr) ⟨rfl, N0, e0⟩ (by decide) (by decide)
    · skip
      rw [(show (own_f_9 p1) = (own_f_15 p1) from if_neg hc2)]
      refine own_go (fun t k => XS.icmpNo X0.here hx rfl (hb hby d1_9) rfl (feq hc2).1 (XS.iloadN X0.here hx rfl (hb hby d1_12) rfl  (XS.bipush X0.here hx rfl (hb hby d1_13) k))) ?_
      show own_Fin p e below _ (s₁.setTop (mkF m 15 #[.val (.int p1)] [(.int (93 : Int32)), (.int p1)]))
      by_cases hc3 : p1 = (93 : Int32)
      · skip
        rw [(show (own_f_15 p1) = (1 : Int32) from if_pos hc3)]
        refine own_go (fun t k => XS.icmpYes X0.here hx rfl (pc0 := 15) (pc' := 30) rfl (hb hby d1_15) rfl (teq hc3).1 (by decide) (by decide) (XS.iconst X0.here hx rfl (hb hby d1_30) (XS.goto X0.here hx rfl (pc0 := 31) (pc' := 35) rfl (hb hby d1_31) (by decide) (by decide) k))) ?_
        show own_Fin p e below _ (s₁.setTop (mkF m 35 #[.val (.int p1)] [(.int (1 : Int32))]))
        exact own_out X0 (fun h => by rw [Bd.returns] at h; cases h) Bd.notSynchronized (fun fs hr => retN X0 hx (t := .boolean) Bd.returns (by simp) (hb hby d1_35) hr) ⟨rfl, N0, e0⟩ (by decide) (by decide)
      · skip
        rw [(show (own_f_15 p1) = (own_f_21 p1) from if_neg hc3)]
        refine own_go (fun t k => XS.icmpNo X0.here hx rfl (hb hby d1_15) rfl (feq hc3).1 (XS.iloadN X0.here hx rfl (hb hby d1_18) rfl  (XS.bipush X0.here hx rfl (hb hby d1_19) k))) ?_
        show own_Fin p e below _ (s₁.setTop (mkF m 21 #[.val (.int p1)] [(.int (123 : Int32)), (.int p1)]))
        by_cases hc4 : p1 = (123 : Int32)
        · skip
          rw [(show (own_f_21 p1) = (1 : Int32) from if_pos hc4)]
          refine own_go (fun t k => XS.icmpYes X0.here hx rfl (pc0 := 21) (pc' := 30) rfl (hb hby d1_21) rfl (teq hc4).1 (by decide) (by decide) (XS.iconst X0.here hx rfl (hb hby d1_30) (XS.goto X0.here hx rfl (pc0 := 31) (pc' := 35) rfl (hb hby d1_31) (by decide) (by decide) k))) ?_
          show own_Fin p e below _ (s₁.setTop (mkF m 35 #[.val (.int p1)] [(.int (1 : Int32))]))
          exact own_out X0 (fun h => by rw [Bd.returns] at h; cases h) Bd.notSynchronized (fun fs hr => retN X0 hx (t := .boolean) Bd.returns (by simp) (hb hby d1_35) hr) ⟨rfl, N0, e0⟩ (by decide) (by decide)
        · skip
          rw [(show (own_f_21 p1) = (own_f_27 p1) from if_neg hc4)]
          refine own_go (fun t k => XS.icmpNo X0.here hx rfl (hb hby d1_21) rfl (feq hc4).1 (XS.iloadN X0.here hx rfl (hb hby d1_24) rfl  (XS.bipush X0.here hx rfl (hb hby d1_25) k))) ?_
          show own_Fin p e below _ (s₁.setTop (mkF m 27 #[.val (.int p1)] [(.int (125 : Int32)), (.int p1)]))
          by_cases hc5 : p1 = (125 : Int32)
          · skip
            rw [(show (own_f_27 p1) = (1 : Int32) from if_pos hc5)]
            refine own_go (fun t k => XS.icmpNo X0.here hx rfl (hb hby d1_27) rfl (teq hc5).2 (XS.iconst X0.here hx rfl (hb hby d1_30) (XS.goto X0.here hx rfl (pc0 := 31) (pc' := 35) rfl (hb hby d1_31) (by decide) (by decide) k))) ?_
            show own_Fin p e below _ (s₁.setTop (mkF m 35 #[.val (.int p1)] [(.int (1 : Int32))]))
            exact own_out X0 (fun h => by rw [Bd.returns] at h; cases h) Bd.notSynchronized (fun fs hr => retN X0 hx (t := .boolean) Bd.returns (by simp) (hb hby d1_35) hr) ⟨rfl, N0, e0⟩ (by decide) (by decide)
          · skip
            rw [(show (own_f_27 p1) = (0 : Int32) from if_neg hc5)]
            refine own_go (fun t k => XS.icmpYes X0.here hx rfl (pc0 := 27) (pc' := 34) rfl (hb hby d1_27) rfl (feq hc5).2 (by decide) (by decide) (XS.iconst X0.here hx rfl (hb hby d1_34) k)) ?_
            show own_Fin p e below _ (s₁.setTop (mkF m 35 #[.val (.int p1)] [(.int (0 : Int32))]))
            exact own_out X0 (fun h => by rw [Bd.returns] at h; cases h) Bd.notSynchronized (fun fs hr => retN X0 hx (t := .boolean) Bd.returns (by simp) (hb hby d1_35) hr) ⟨rfl, N0, e0⟩ (by decide) (by decide)
theorem d2_0 : decode method_2_code 0 = .ok (.iload_n 0, 1) := by decide +kernel
theorem d2_1 : decode method_2_code 1 = .ok (.ifCond .lt 27, 3) := by decide +kernel
theorem d2_4 : decode method_2_code 4 = .ok (.iload_n 0, 1) := by decide +kernel
theorem d2_5 : decode method_2_code 5 = .ok (.bipush 64, 2) := by decide +kernel
theorem d2_7 : decode method_2_code 7 = .ok (.if_icmp .ge 21, 3) := by decide +kernel
theorem d2_10 : decode method_2_code 10 = .ok (.ldc2_w 9, 3) := by decide +kernel
theorem d2_13 : decode method_2_code 13 = .ok (.iload_n 0, 1) := by decide +kernel
theorem d2_14 : decode method_2_code 14 = .ok (.lushr, 1) := by decide +kernel
theorem d2_15 : decode method_2_code 15 = .ok (.lconst 1, 1) := by decide +kernel
theorem d2_16 : decode method_2_code 16 = .ok (.land, 1) := by decide +kernel
theorem d2_17 : decode method_2_code 17 = .ok (.lconst 0, 1) := by decide +kernel
theorem d2_18 : decode method_2_code 18 = .ok (.lcmp, 1) := by decide +kernel
theorem d2_19 : decode method_2_code 19 = .ok (.ifCond .eq 7, 3) := by decide +kernel
theorem d2_22 : decode method_2_code 22 = .ok (.iconst 1, 1) := by decide +kernel
theorem d2_23 : decode method_2_code 23 = .ok (.goto 4, 3) := by decide +kernel
theorem d2_26 : decode method_2_code 26 = .ok (.iconst 0, 1) := by decide +kernel
theorem d2_27 : decode method_2_code 27 = .ok (.ireturn, 1) := by decide +kernel
theorem d2_28 : decode method_2_code 28 = .ok (.iload_n 0, 1) := by decide +kernel
theorem d2_29 : decode method_2_code 29 = .ok (.bipush 64, 2) := by decide +kernel
theorem d2_31 : decode method_2_code 31 = .ok (.if_icmp .lt 31, 3) := by decide +kernel
theorem d2_34 : decode method_2_code 34 = .ok (.iload_n 0, 1) := by decide +kernel
theorem d2_35 : decode method_2_code 35 = .ok (.sipush 128, 3) := by decide +kernel
theorem d2_38 : decode method_2_code 38 = .ok (.if_icmp .ge 24, 3) := by decide +kernel
theorem d2_41 : decode method_2_code 41 = .ok (.ldc2_w 11, 3) := by decide +kernel
theorem d2_44 : decode method_2_code 44 = .ok (.iload_n 0, 1) := by decide +kernel
theorem d2_45 : decode method_2_code 45 = .ok (.bipush 64, 2) := by decide +kernel
theorem d2_47 : decode method_2_code 47 = .ok (.isub, 1) := by decide +kernel
theorem d2_48 : decode method_2_code 48 = .ok (.lushr, 1) := by decide +kernel
theorem d2_49 : decode method_2_code 49 = .ok (.lconst 1, 1) := by decide +kernel
theorem d2_50 : decode method_2_code 50 = .ok (.land, 1) := by decide +kernel
theorem d2_51 : decode method_2_code 51 = .ok (.lconst 0, 1) := by decide +kernel
theorem d2_52 : decode method_2_code 52 = .ok (.lcmp, 1) := by decide +kernel
theorem d2_53 : decode method_2_code 53 = .ok (.ifCond .eq 7, 3) := by decide +kernel
theorem d2_56 : decode method_2_code 56 = .ok (.iconst 1, 1) := by decide +kernel
theorem d2_57 : decode method_2_code 57 = .ok (.goto 4, 3) := by decide +kernel
theorem d2_60 : decode method_2_code 60 = .ok (.iconst 0, 1) := by decide +kernel
theorem d2_61 : decode method_2_code 61 = .ok (.ireturn, 1) := by decide +kernel
theorem d2_62 : decode method_2_code 62 = .ok (.iconst 0, 1) := by decide +kernel
theorem d2_63 : decode method_2_code 63 = .ok (.ireturn, 1) := by decide +kernel
theorem pn_1 : plainName "com/example/honeyguide/honeyguide/document/YamlCursorIsFlowIndicatorPinLaw" = true := by first | (simp [plainName, overriddenIn]; done) | decide +kernel
theorem ef_2 (m : MethodId) (x0 : Int32)  : entryFrame m #[(.int x0)] 1 = mkF m 0 #[.val (.int x0)] [] := by first | (simp [entryFrame, mkF, argsToLocals, Value.category]; done) | rfl
def own_g_53 (p1 : Int32) : Int32 := if ((((2882303762188206080 : Int64).toUInt64 >>> ((p1 - (64 : Int32)) &&& 0x3f).toInt64.toUInt64).toInt64) &&& (1 : Int64)) = (0 : Int64) then (0 : Int32) else (1 : Int32)
def own_g_38 (p1 : Int32) : Int32 := if p1 < (128 : Int32) then (own_g_53 p1) else (0 : Int32)
def own_g_31 (p1 : Int32) : Int32 := if p1 < (64 : Int32) then (0 : Int32) else (own_g_38 p1)
def own_g_19 (p1 : Int32) : Int32 := if ((((17592186044416 : Int64).toUInt64 >>> (p1 &&& 0x3f).toInt64.toUInt64).toInt64) &&& (1 : Int64)) = (0 : Int64) then (0 : Int32) else (1 : Int32)
def own_g_7 (p1 : Int32) : Int32 := if p1 < (64 : Int32) then (own_g_19 p1) else (own_g_31 p1)
def own_g_1 (p1 : Int32) : Int32 := if p1 < (0 : Int32) then (own_g_31 p1) else (own_g_7 p1)
set_option maxRecDepth 65536 in
set_option maxHeartbeats 40000000 in
theorem rm2 (l : Launch) (Z : State) (a0 : Array Value) (hw : ∀ d ∈ tables_1, d.before a0 Z = true) (ws : List Jvm.Cond) (p1 : Int32) (h0 : Heap) (n0 : Nat) (Z0 : n0 ≤ h0.size) :
    MetFree l (⟨"com/example/honeyguide/honeyguide/document/YamlCursorIsFlowIndicatorPinLaw", "expected", "(I)Z"⟩ : MethodName) (head1 (Jvm.Cond.code (⟨"com/example/honeyguide/honeyguide/document/YamlCursorIsFlowIndicatorPinLaw", "expected", "(I)Z"⟩ : MethodName) method_2_code 1 (some .boolean) :: ws) ({ frames := 0, cells := 0, slots := 0, locals := 0 } : Room)) (fun a U => a = #[(.int p1)] ∧ Z.Warmed39 U.vm ∧ U.heap = h0) (fun _ _ _ _ _ => True) (fun _ U o U' => ∃ v L, o = .returned v ∧ (own_P h0 n0 (.int (own_g_1 p1))) v U'.heap L ∧ FrameEnd U o U' L ({ frames := 0, cells := 0, slots := 0, locals := 0 } : Room).cells ({ frames := 0, cells := 0, slots := 0, locals := 0 } : Room).slots) := by
  refine MetFree.of_bodySF (plainFor_of_name pn_1) hisR ?_
  intro p e s m args below meth c s₁ Bd hml0 hP hK
  obtain ⟨rfl, hZ, hh⟩ := hP
  have hx := Bd.exec
  have hby := Bd.bytes
  have hml : c.maxLocals = 1 := hml0
  have hown : s.vm.findClass "com/example/honeyguide/honeyguide/document/YamlCursorIsFlowIndicatorPinLaw" = some m.cls := findClass_of_methodNamed Bd.named
  have hnm := (name_of_methodNamed Bd.named Bd.method).1
  have X0 : Stand p l e ({ frames := 0, cells := 0, slots := 0, locals := 0 } : Room) s m #[(.int p1)] below meth c s₁ [] 0 0 := Stand.of_body Bd
  have e0 : s₁.heap = h0 := by rw [← hh, Bd.state]; rfl
  have N0 := Fr.nil n0
  have hw_10 := hw _ (List.mem_of_getElem? (i := 10) rfl)
  have hw_11 := hw _ (List.mem_of_getElem? (i := 11) rfl)
  show own_Fin p e below (own_A s ({ frames := 0, cells := 0, slots := 0, locals := 0 } : Room).cells ({ frames := 0, cells := 0, slots := 0, locals := 0 } : Room).slots (own_P h0 n0 (.int (own_g_1 p1)))) _
  refine own_go (fun t k => castTop (ef_2 m (p1)) k) ?_
  have J0 : own_Fin p e below (own_A s ({ frames := 0, cells := 0, slots := 0, locals := 0 } : Room).cells ({ frames := 0, cells := 0, slots := 0, locals := 0 } : Room).slots (own_P h0 n0 (.int (own_g_31 p1)))) (s₁.setTop (mkF m 28 #[.val (.int p1)] [])) := by
    refine own_go (fun t k => XS.iloadN X0.here hx rfl (hb hby d2_28) rfl  (XS.bipush X0.here hx rfl (hb hby d2_29) k)) ?_
    show own_Fin p e below _ (s₁.setTop (mkF m 31 #[.val (.int p1)] [(.int (64 : Int32)), (.int p1)]))
    by_cases hc1 : p1 < (64 : Int32)
    · skip
      rw [(show (own_g_31 p1) = (0 : Int32) from if_pos hc1)]
      refine own_go (fun t k => XS.icmpYes X0.here hx rfl (pc0 := 31) (pc' := 62) rfl (hb hby d2_31) rfl (tlt hc1).1 (by decide) (by decide) (XS.iconst X0.here hx rfl (hb hby d2_62) k)) ?_
      show own_Fin p e below _ (s₁.setTop (mkF m 63 #[.val (.int p1)] [(.int (0 : Int32))]))
      exact own_out X0 (fun h => by rw [Bd.returns] at h; cases h) Bd.notSynchronized (fun fs hr => retN X0 hx (t := .boolean) Bd.returns (by simp) (hb hby d2_63) hr) ⟨rfl, N0, e0⟩ (by decide) (by decide)
    · skip
      rw [(show (own_g_31 p1) = (own_g_38 p1) from if_neg hc1)]
      refine own_go (fun t k => XS.icmpNo X0.here hx rfl (hb hby d2_31) rfl (flt hc1).1 (XS.iloadN X0.here hx rfl (hb hby d2_34) rfl  (XS.sipush X0.here hx rfl (hb hby d2_35) k))) ?_
      show own_Fin p e below _ (s₁.setTop (mkF m 38 #[.val (.int p1)] [(.int (128 : Int32)), (.int p1)]))
      by_cases hc2 : p1 < (128 : Int32)
      · skip
        rw [(show (own_g_38 p1) = (own_g_53 p1) from if_pos hc2)]
        refine own_go (fun t k => XS.icmpNo X0.here hx rfl (hb hby d2_38) rfl (tlt hc2).2.1 k) ?_
        show own_Fin p e below _ (s₁.setTop (mkF m 41 #[.val (.int p1)] []))
        refine own_go (fun t k => X0.ldc2Long hx hown (mvT hZ hw_11) (g := (mkF m 41 #[.val (.int p1)] [])) rfl (hb hby d2_41) _ (XS.iloadN X0.here hx rfl (hb hby d2_44) rfl  (XS.bipush X0.here hx rfl (hb hby d2_45) (XS.isub X0.here hx rfl (hb hby d2_47) rfl k)))) ?_
        show own_Fin p e below _ (s₁.setTop (mkF m 48 #[.val (.int p1)] [(.int (p1 - (64 : Int32))), (.long (2882303762188206080 : Int64))]))
        refine own_go (fun t k => XS.lushr X0.here hx rfl (hb hby d2_48) rfl (XS.lconst X0.here hx rfl (hb hby d2_49) (XS.land X0.here hx rfl (hb hby d2_50) rfl (XS.lconst X0.here hx rfl (hb hby d2_51) k)))) ?_
        show own_Fin p e below _ (s₁.setTop (mkF m 52 #[.val (.int p1)] [(.long (0 : Int64)), (.long ((((2882303762188206080 : Int64).toUInt64 >>> ((p1 - (64 : Int32)) &&& 0x3f).toInt64.toUInt64).toInt64) &&& (1 : Int64)))]))
        refine own_go (fun t k => XS.lcmp X0.here hx rfl (hb hby d2_52) rfl k) ?_
        show own_Fin p e below _ (s₁.setTop (mkF m 53 #[.val (.int p1)] [(.int (lcmpW ((((2882303762188206080 : Int64).toUInt64 >>> ((p1 - (64 : Int32)) &&& 0x3f).toInt64.toUInt64).toInt64) &&& (1 : Int64)) (0 : Int64)))]))
        by_cases hc3 : ((((2882303762188206080 : Int64).toUInt64 >>> ((p1 - (64 : Int32)) &&& 0x3f).toInt64.toUInt64).toInt64) &&& (1 : Int64)) = (0 : Int64)
        · skip
          rw [(show (own_g_53 p1) = (0 : Int32) from if_pos hc3)]
          refine own_go (fun t k => XS.ifYes X0.here hx rfl (pc0 := 53) (pc' := 60) rfl (hb hby d2_53) rfl ((if0 _ _).trans (teq ((lw_eq _ _).mpr hc3)).1) (by decide) (by decide) (XS.iconst X0.here hx rfl (hb hby d2_60) k)) ?_
          show own_Fin p e below _ (s₁.setTop (mkF m 61 #[.val (.int p1)] [(.int (0 : Int32))]))
          exact own_out X0 (fun h => by rw [Bd.returns] at h; cases h) Bd.notSynchronized (fun fs hr => retN X0 hx (t := .boolean) Bd.returns (by simp) (hb hby d2_61) hr) ⟨rfl, N0, e0⟩ (by decide) (by decide)
        · skip
          rw [(show (own_g_53 p1) = (1 : Int32) from if_neg hc3)]
          refine own_go (fun t k => XS.ifNo X0.here hx rfl (hb hby d2_53) rfl ((if0 _ _).trans (feq (fun q => hc3 ((lw_eq _ _).mp q))).1) (XS.iconst X0.here hx rfl (hb hby d2_56) (XS.goto X0.here hx rfl (pc0 := 57) (pc' := 61) rfl (hb hby d2_57) (by decide) (by decide) k))) ?_
          show own_Fin p e below _ (s₁.setTop (mkF m 61 #[.val (.int p1)] [(.int (1 : Int32))]))
          exact own_out X0 (fun h => by rw [Bd.returns] at h; cases h) Bd.notSynchronized (fun fs hr => retN X0 hx (t := .boolean) Bd.returns (by simp) (hb hby d2_61) hr) ⟨rfl, N0, e0⟩ (by decide) (by decide)
      · skip
        rw [(show (own_g_38 p1) = (0 : Int32) from if_neg hc2)]
        refine own_go (fun t k => XS.icmpYes X0.here hx rfl (pc0 := 38) (pc' := 62) rfl (hb hby d2_38) rfl (flt hc2).2.1 (by decide) (by decide) (XS.iconst X0.here hx rfl (hb hby d2_62) k)) ?_
        show own_Fin p e below _ (s₁.setTop (mkF m 63 #[.val (.int p1)] [(.int (0 : Int32))]))
        exact own_out X0 (fun h => by rw [Bd.returns] at h; cases h) Bd.notSynchronized (fun fs hr => retN X0 hx (t := .boolean) Bd.returns (by simp) (hb hby d2_63) hr) ⟨rfl, N0, e0⟩ (by decide) (by decide)
  show own_Fin p e below _ (s₁.setTop (mkF m 0 #[.val (.int p1)] []))
  refine own_go (fun t k => XS.iloadN X0.here hx rfl (hb hby d2_0) rfl  k) ?_
  show own_Fin p e below _ (s₁.setTop (mkF m 1 #[.val (.int p1)] [(.int p1)]))
  by_cases hc4 : p1 < (0 : Int32)
  · skip
    rw [(show (own_g_1 p1) = (own_g_31 p1) from if_pos hc4)]
    refine own_go (fun t k => XS.ifYes X0.here hx rfl (pc0 := 1) (pc' := 28) rfl (hb hby d2_1) rfl ((if0 _ _).trans (tlt hc4).1) (by decide) (by decide) k) ?_
    exact J0
  · skip
    rw [(show (own_g_1 p1) = (own_g_7 p1) from if_neg hc4)]
    refine own_go (fun t k => XS.ifNo X0.here hx rfl (hb hby d2_1) rfl ((if0 _ _).trans (flt hc4).1) (XS.iloadN X0.here hx rfl (hb hby d2_4) rfl  (XS.bipush X0.here hx rfl (hb hby d2_5) k))) ?_
    show own_Fin p e below _ (s₁.setTop (mkF m 7 #[.val (.int p1)] [(.int (64 : Int32)), (.int p1)]))
    by_cases hc5 : p1 < (64 : Int32)
    · skip
      rw [(show (own_g_7 p1) = (own_g_19 p1) from if_pos hc5)]
      refine own_go (fun t k => XS.icmpNo X0.here hx rfl (hb hby d2_7) rfl (tlt hc5).2.1 k) ?_
      show own_Fin p e below _ (s₁.setTop (mkF m 10 #[.val (.int p1)] []))
      refine own_go (fun t k => X0.ldc2Long hx hown (mvT hZ hw_10) (g := (mkF m 10 #[.val (.int p1)] [])) rfl (hb hby d2_10) _ (XS.iloadN X0.here hx rfl (hb hby d2_13) rfl  (XS.lushr X0.here hx rfl (hb hby d2_14) rfl (XS.lconst X0.here hx rfl (hb hby d2_15) k)))) ?_
      show own_Fin p e below _ (s₁.setTop (mkF m 16 #[.val (.int p1)] [(.long (1 : Int64)), (.long (((17592186044416 : Int64).toUInt64 >>> (p1 &&& 0x3f).toInt64.toUInt64).toInt64))]))
      refine own_go (fun t k => XS.land X0.here hx rfl (hb hby d2_16) rfl (XS.lconst X0.here hx rfl (hb hby d2_17) (XS.lcmp X0.here hx rfl (hb hby d2_18) rfl k))) ?_
      show own_Fin p e below _ (s₁.setTop (mkF m 19 #[.val (.int p1)] [(.int (lcmpW ((((17592186044416 : Int64).toUInt64 >>> (p1 &&& 0x3f).toInt64.toUInt64).toInt64) &&& (1 : Int64)) (0 : Int64)))]))
      by_cases hc6 : ((((17592186044416 : Int64).toUInt64 >>> (p1 &&& 0x3f).toInt64.toUInt64).toInt64) &&& (1 : Int64)) = (0 : Int64)
      · skip
        rw [(show (own_g_19 p1) = (0 : Int32) from if_pos hc6)]
        refine own_go (fun t k => XS.ifYes X0.here hx rfl (pc0 := 19) (pc' := 26) rfl (hb hby d2_19) rfl ((if0 _ _).trans (teq ((lw_eq _ _).mpr hc6)).1) (by decide) (by decide) (XS.iconst X0.here hx rfl (hb hby d2_26) k)) ?_
        show own_Fin p e below _ (s₁.setTop (mkF m 27 #[.val (.int p1)] [(.int (0 : Int32))]))
        exact own_out X0 (fun h => by rw [Bd.returns] at h; cases h) Bd.notSynchronized (fun fs hr => retN X0 hx (t := .boolean) Bd.returns (by simp) (hb hby d2_27) hr) ⟨rfl, N0, e0⟩ (by decide) (by decide)
      · skip
        rw [(show (own_g_19 p1) = (1 : Int32) from if_neg hc6)]
        refine own_go (fun t k => XS.ifNo X0.here hx rfl (hb hby d2_19) rfl ((if0 _ _).trans (feq (fun q => hc6 ((lw_eq _ _).mp q))).1) (XS.iconst X0.here hx rfl (hb hby d2_22) (XS.goto X0.here hx rfl (pc0 := 23) (pc' := 27) rfl (hb hby d2_23) (by decide) (by decide) k))) ?_
        show own_Fin p e below _ (s₁.setTop (mkF m 27 #[.val (.int p1)] [(.int (1 : Int32))]))
        exact own_out X0 (fun h => by rw [Bd.returns] at h; cases h) Bd.notSynchronized (fun fs hr => retN X0 hx (t := .boolean) Bd.returns (by simp) (hb hby d2_27) hr) ⟨rfl, N0, e0⟩ (by decide) (by decide)
    · skip
      rw [(show (own_g_7 p1) = (own_g_31 p1) from if_neg hc5)]
      refine own_go (fun t k => XS.icmpYes X0.here hx rfl (pc0 := 7) (pc' := 28) rfl (hb hby d2_7) rfl (flt hc5).2.1 (by decide) (by decide) k) ?_
      exact J0
theorem own_ints (vs : List Int32) (k : Nat) : ∃ z : Int32, (vs.map Value.int).getD k (.int (0 : Int32)) = .int z := ⟨vs.getD k 0, by simp only [List.getD_eq_getElem?_getD, List.getElem?_map]; cases vs[k]? <;> rfl⟩
theorem own_idx (p : Int32) : ¬ ((p &&& (2147483647 : Int32)) % (5 : Int32)) < 0 ∧ ((p &&& (2147483647 : Int32)) % (5 : Int32)) < (5 : Int32) := by
  have a := c_mask p 2147483647 31 (by decide) (by decide)
  have b := (c_irem (p &&& (2147483647 : Int32)) 5 5 rfl).1 (by omega)
  have e0 : (0 : Int32).toInt = 0 := rfl
  have e5 : (5 : Int32).toInt = 5 := rfl
  simp only [Int32.lt_iff_toInt_lt]
  omega
theorem own_eqN : ∀ k : Fin 128, own_f_3 (k.1.toInt32) = own_g_1 (k.1.toInt32) := by decide +kernel
theorem own_f0 (c : Int32) (h : c.toInt < 0 ∨ 128 ≤ c.toInt) : own_f_3 c = (0 : Int32) := by
  have n : ∀ k : Int32, (0 ≤ k.toInt ∧ k.toInt < 128) → ¬ c = k := fun k hk q => by rw [q] at h; omega
  rw [(show own_f_3 c = own_f_9 c from if_neg (n 44 (by decide))), (show own_f_9 c = own_f_15 c from if_neg (n 91 (by decide))), (show own_f_15 c = own_f_21 c from if_neg (n 93 (by decide))), (show own_f_21 c = own_f_27 c from if_neg (n 123 (by decide)))]
  exact if_neg (n 125 (by decide))
theorem own_eq (c : Int32) : own_f_3 c = own_g_1 c := by
  have e0 : (0 : Int32).toInt = 0 := rfl
  have e64 : (64 : Int32).toInt = 64 := rfl
  have e128 : (128 : Int32).toInt = 128 := rfl
  by_cases h0 : c < (0 : Int32)
  · have h64 : c < (64 : Int32) := by rw [Int32.lt_iff_toInt_lt] at h0 ⊢; omega
    rw [own_f0 c (by rw [Int32.lt_iff_toInt_lt] at h0; omega), (show own_g_1 c = own_g_31 c from if_pos h0)]
    exact (if_pos h64).symm
  · by_cases h1 : c < (128 : Int32)
    · rw [Int32.lt_iff_toInt_lt] at h1
      have hn := nat_of h0
      have := own_eqN ⟨c.toNatClampNeg, by omega⟩
      simp only [(back32 h0).1] at this
      exact this
    · have h64 : ¬ c < (64 : Int32) := by rw [Int32.lt_iff_toInt_lt] at h1 ⊢; omega
      rw [own_f0 c (by rw [Int32.lt_iff_toInt_lt] at h1; omega), (show own_g_1 c = own_g_7 c from if_neg h0), (show own_g_7 c = own_g_31 c from if_neg h64), (show own_g_31 c = own_g_38 c from if_neg h64)]
      exact (if_neg h1).symm

theorem pd_0 : parseMethodDescriptor "(I)Z" = some ⟨[.int], some .boolean⟩ := by decide +kernel
theorem ef_0 (m : MethodId) (x0 : Int32) (x1 : Int32)  : entryFrame m #[(.int x0), (.int x1)] maxLocals = mkF m 0 #[.val (.int x0), .val (.int x1), .unset, .unset, .unset, .unset] [] := by first | (simp [entryFrame, mkF, argsToLocals, Value.category, maxLocals]; done) | rfl
def own_q0 (Z : State) (p1 : Int32) (p2 : Int32) (h0 : Heap) (n0 : Nat) (v : Option Value) (h : Heap) (L : List Loc) : Prop := v = some (.int (1 : Int32)) ∧ Fr n0 L
set_option maxRecDepth 65536 in
set_option maxHeartbeats 40000000 in
theorem rm0 (l : Launch) (Z : State) (a0 : Array Value) (hw : ∀ d ∈ tables_1, d.before a0 Z = true) (ws : List Jvm.Cond) (p1 : Int32) (p2 : Int32) (h0 : Heap) (n0 : Nat) (Z0 : n0 ≤ h0.size) :
    MetFree l x (head1 (Jvm.Cond.code x code maxLocals ret :: ws) room_1) (fun a U => a = #[(.int p1), (.int p2)] ∧ Z.Warmed39 U.vm ∧ U.heap = h0) (fun _ _ _ _ _ => True) (fun _ U o U' => ∃ v L, o = .returned v ∧ (own_q0 Z p1 p2 h0 n0) v U'.heap L ∧ FrameEnd U o U' L room_1.cells room_1.slots) := by
  refine MetFree.of_bodySF (plainFor_of_name pn_1) hisR ?_
  intro p e s m args below meth c s₁ Bd hml0 hP hK
  obtain ⟨rfl, hZ, hh⟩ := hP
  have hx := Bd.exec
  have hby := Bd.bytes
  have hml : c.maxLocals = 6 := hml0
  have hown : s.vm.findClass "com/example/honeyguide/honeyguide/document/YamlCursorIsFlowIndicatorPinLaw" = some m.cls := findClass_of_methodNamed Bd.named
  have hnm := (name_of_methodNamed Bd.named Bd.method).1
  have X0 : Stand p l e room_1 s m #[(.int p1), (.int p2)] below meth c s₁ [] 0 0 := Stand.of_body Bd
  have e0 : s₁.heap = h0 := by rw [← hh, Bd.state]; rfl
  have N0 := Fr.nil n0
  have hw_0 := hw _ (List.mem_of_getElem? (i := 0) rfl)
  have hw_1 := hw _ (List.mem_of_getElem? (i := 1) rfl)
  have hw_2 := hw _ (List.mem_of_getElem? (i := 2) rfl)
  have hw_3 := hw _ (List.mem_of_getElem? (i := 3) rfl)
  have hw_4 := hw _ (List.mem_of_getElem? (i := 4) rfl)
  have hw_5 := hw _ (List.mem_of_getElem? (i := 5) rfl)
  have hw_6 := hw _ (List.mem_of_getElem? (i := 6) rfl)
  have hw_7 := hw _ (List.mem_of_getElem? (i := 7) rfl)
  have hw_8 := hw _ (List.mem_of_getElem? (i := 8) rfl)
  have hw_9 := hw _ (List.mem_of_getElem? (i := 9) rfl)
  have hw_12 := hw _ (List.mem_of_getElem? (i := 12) rfl)
  show own_Fin p e below (own_A s room_1.cells room_1.slots (own_q0 Z p1 p2 h0 n0)) _
  refine own_go (fun t k => castTop (ef_0 m (p1) (p2)) k) ?_
  show own_Fin p e below _ (s₁.setTop (mkF m 0 #[.val (.int p1), .val (.int p2), .unset, .unset, .unset, .unset] []))
  refine own_go (fun t k => XS.iconst X0.here hx rfl (hb hby at_0) k) ?_
  show own_Fin p e below _ (s₁.setTop (mkF m 1 #[.val (.int p1), .val (.int p2), .unset, .unset, .unset, .unset] [(.int (5 : Int32))]))
  obtain ⟨T1, h1, k1, X1, e1, E1, A1, st1⟩ := newP (aty := .int) X0 hx hZ hw_0 e0 (g := (mkF m 1 #[.val (.int p1), .val (.int p2), .unset, .unset, .unset, .unset] [(.int (5 : Int32))])) rfl (hb hby at_1) rfl (by decide) (cap := 5) (by decide) (by decide) (by decide) (by decide)
  obtain ⟨b1, g1⟩ : ∃ z, z = h0.size := ⟨_, rfl⟩
  rw [← g1] at A1 st1
  have g_b1 : n0 ≤ b1 := Nat.le_trans Z0 (Nat.le_of_eq g1.symm)
  have Zh2 : n0 ≤ h1.size := Nat.le_trans Z0 E1.1
  have V1 : Arv Z h1 b1 k1 .int (5 : Int32) [(.int (0 : Int32)), (.int (0 : Int32)), (.int (0 : Int32)), (.int (0 : Int32)), (.int (0 : Int32))] (.int (0 : Int32)) := (Arv.new A1 (by decide)).pad (pad_rep [] (.int (0 : Int32)) 5)
  refine own_go st1 ?_
  show own_Fin p e below _ (T1.setTop (mkF m 3 #[.val (.int p1), .val (.int p2), .unset, .unset, .unset, .unset] [(.ref b1)]))
  refine own_go (fun t k => XS.dup X1.here hx rfl (hb hby at_3) rfl rfl (XS.iconst X1.here hx rfl (hb hby at_4) (XS.bipush X1.here hx rfl (hb hby at_5) k))) ?_
  show own_Fin p e below _ (T1.setTop (mkF m 7 #[.val (.int p1), .val (.int p2), .unset, .unset, .unset, .unset] [(.int (44 : Int32)), (.int (0 : Int32)), (.ref b1), (.ref b1)]))
  obtain ⟨cl3, Ar3, q3, S3, M3, H3, G3⟩ := V1
  have hin3 : ¬ ((0 : Int32) < 0 ∨ cl3.slots.size ≤ ((0 : Int32)).toNatClampNeg) := inb_of S3 ⟨by decide, by decide⟩
  obtain ⟨T3, h3, X3, e3, W3, st3⟩ := stI X1 hx hZ e1 Ar3 (j := (0 : Int32)) hin3 (g := (mkF m 7 #[.val (.int p1), .val (.int p2), .unset, .unset, .unset, .unset] [(.int (44 : Int32)), (.int (0 : Int32)), (.ref b1), (.ref b1)])) rfl rfl (hb hby at_7)
  have V3 := Arv.set Ar3 q3 S3 M3 H3 G3 rfl W3 0 rfl (Nat.le_of_ble_eq_true rfl)
  have f5 : Arv Z h3 b1 k1 .int (5 : Int32) [(.int (44 : Int32)), (.int (0 : Int32)), (.int (0 : Int32)), (.int (0 : Int32)), (.int (0 : Int32))] (.int (0 : Int32)) := V3
  have Zh6 : n0 ≤ h3.size := Nat.le_trans Zh2 (Nat.le_of_eq W3.size.symm)
  have N3 := Fr.snoc X3 N0 g_b1
  refine own_go st3 ?_
  show own_Fin p e below _ (T3.setTop (mkF m 8 #[.val (.int p1), .val (.int p2), .unset, .unset, .unset, .unset] [(.ref b1)]))
  refine own_go (fun t k => XS.dup X3.here hx rfl (hb hby at_8) rfl rfl (XS.iconst X3.here hx rfl (hb hby at_9) (XS.bipush X3.here hx rfl (hb hby at_10) k))) ?_
  show own_Fin p e below _ (T3.setTop (mkF m 12 #[.val (.int p1), .val (.int p2), .unset, .unset, .unset, .unset] [(.int (91 : Int32)), (.int (1 : Int32)), (.ref b1), (.ref b1)]))
  obtain ⟨cl7, Ar7, q7, S7, M7, H7, G7⟩ := f5
  have hin7 : ¬ ((1 : Int32) < 0 ∨ cl7.slots.size ≤ ((1 : Int32)).toNatClampNeg) := inb_of S7 ⟨by decide, by decide⟩
  obtain ⟨T7, h7, X7, e7, W7, st7⟩ := stI X3 hx hZ e3 Ar7 (j := (1 : Int32)) hin7 (g := (mkF m 12 #[.val (.int p1), .val (.int p2), .unset, .unset, .unset, .unset] [(.int (91 : Int32)), (.int (1 : Int32)), (.ref b1), (.ref b1)])) rfl rfl (hb hby at_12)
  have V7 := Arv.set Ar7 q7 S7 M7 H7 G7 rfl W7 1 rfl (Nat.le_of_ble_eq_true rfl)
  have f9 : Arv Z h7 b1 k1 .int (5 : Int32) [(.int (44 : Int32)), (.int (91 : Int32)), (.int (0 : Int32)), (.int (0 : Int32)), (.int (0 : Int32))] (.int (0 : Int32)) := V7
  have Zh10 : n0 ≤ h7.size := Nat.le_trans Zh6 (Nat.le_of_eq W7.size.symm)
  have N7 := Fr.snoc X7 N3 g_b1
  refine own_go st7 ?_
  show own_Fin p e below _ (T7.setTop (mkF m 13 #[.val (.int p1), .val (.int p2), .unset, .unset, .unset, .unset] [(.ref b1)]))
  refine own_go (fun t k => XS.dup X7.here hx rfl (hb hby at_13) rfl rfl (XS.iconst X7.here hx rfl (hb hby at_14) (XS.bipush X7.here hx rfl (hb hby at_15) k))) ?_
  show own_Fin p e below _ (T7.setTop (mkF m 17 #[.val (.int p1), .val (.int p2), .unset, .unset, .unset, .unset] [(.int (93 : Int32)), (.int (2 : Int32)), (.ref b1), (.ref b1)]))
  obtain ⟨cl11, Ar11, q11, S11, M11, H11, G11⟩ := f9
  have hin11 : ¬ ((2 : Int32) < 0 ∨ cl11.slots.size ≤ ((2 : Int32)).toNatClampNeg) := inb_of S11 ⟨by decide, by decide⟩
  obtain ⟨T11, h11, X11, e11, W11, st11⟩ := stI X7 hx hZ e7 Ar11 (j := (2 : Int32)) hin11 (g := (mkF m 17 #[.val (.int p1), .val (.int p2), .unset, .unset, .unset, .unset] [(.int (93 : Int32)), (.int (2 : Int32)), (.ref b1), (.ref b1)])) rfl rfl (hb hby at_17)
  have V11 := Arv.set Ar11 q11 S11 M11 H11 G11 rfl W11 2 rfl (Nat.le_of_ble_eq_true rfl)
  have f13 : Arv Z h11 b1 k1 .int (5 : Int32) [(.int (44 : Int32)), (.int (91 : Int32)), (.int (93 : Int32)), (.int (0 : Int32)), (.int (0 : Int32))] (.int (0 : Int32)) := V11
  have Zh14 : n0 ≤ h11.size := Nat.le_trans Zh10 (Nat.le_of_eq W11.size.symm)
  have N11 := Fr.snoc X11 N7 g_b1
  refine own_go st11 ?_
  show own_Fin p e below _ (T11.setTop (mkF m 18 #[.val (.int p1), .val (.int p2), .unset, .unset, .unset, .unset] [(.ref b1)]))
  refine own_go (fun t k => XS.dup X11.here hx rfl (hb hby at_18) rfl rfl (XS.iconst X11.here hx rfl (hb hby at_19) (XS.bipush X11.here hx rfl (hb hby at_20) k))) ?_
  show own_Fin p e below _ (T11.setTop (mkF m 22 #[.val (.int p1), .val (.int p2), .unset, .unset, .unset, .unset] [(.int (123 : Int32)), (.int (3 : Int32)), (.ref b1), (.ref b1)]))
  obtain ⟨cl15, Ar15, q15, S15, M15, H15, G15⟩ := f13
  have hin15 : ¬ ((3 : Int32) < 0 ∨ cl15.slots.size ≤ ((3 : Int32)).toNatClampNeg) := inb_of S15 ⟨by decide, by decide⟩
  obtain ⟨T15, h15, X15, e15, W15, st15⟩ := stI X11 hx hZ e11 Ar15 (j := (3 : Int32)) hin15 (g := (mkF m 22 #[.val (.int p1), .val (.int p2), .unset, .unset, .unset, .unset] [(.int (123 : Int32)), (.int (3 : Int32)), (.ref b1), (.ref b1)])) rfl rfl (hb hby at_22)
  have V15 := Arv.set Ar15 q15 S15 M15 H15 G15 rfl W15 3 rfl (Nat.le_of_ble_eq_true rfl)
  have f17 : Arv Z h15 b1 k1 .int (5 : Int32) [(.int (44 : Int32)), (.int (91 : Int32)), (.int (93 : Int32)), (.int (123 : Int32)), (.int (0 : Int32))] (.int (0 : Int32)) := V15
  have Zh18 : n0 ≤ h15.size := Nat.le_trans Zh14 (Nat.le_of_eq W15.size.symm)
  have N15 := Fr.snoc X15 N11 g_b1
  refine own_go st15 ?_
  show own_Fin p e below _ (T15.setTop (mkF m 23 #[.val (.int p1), .val (.int p2), .unset, .unset, .unset, .unset] [(.ref b1)]))
  refine own_go (fun t k => XS.dup X15.here hx rfl (hb hby at_23) rfl rfl (XS.iconst X15.here hx rfl (hb hby at_24) (XS.bipush X15.here hx rfl (hb hby at_25) k))) ?_
  show own_Fin p e below _ (T15.setTop (mkF m 27 #[.val (.int p1), .val (.int p2), .unset, .unset, .unset, .unset] [(.int (125 : Int32)), (.int (4 : Int32)), (.ref b1), (.ref b1)]))
  obtain ⟨cl19, Ar19, q19, S19, M19, H19, G19⟩ := f17
  have hin19 : ¬ ((4 : Int32) < 0 ∨ cl19.slots.size ≤ ((4 : Int32)).toNatClampNeg) := inb_of S19 ⟨by decide, by decide⟩
  obtain ⟨T19, h19, X19, e19, W19, st19⟩ := stI X15 hx hZ e15 Ar19 (j := (4 : Int32)) hin19 (g := (mkF m 27 #[.val (.int p1), .val (.int p2), .unset, .unset, .unset, .unset] [(.int (125 : Int32)), (.int (4 : Int32)), (.ref b1), (.ref b1)])) rfl rfl (hb hby at_27)
  have V19 := Arv.set Ar19 q19 S19 M19 H19 G19 rfl W19 4 rfl (Nat.le_of_ble_eq_true rfl)
  have f21 : Arv Z h19 b1 k1 .int (5 : Int32) [(.int (44 : Int32)), (.int (91 : Int32)), (.int (93 : Int32)), (.int (123 : Int32)), (.int (125 : Int32))] (.int (0 : Int32)) := V19
  have Zh22 : n0 ≤ h19.size := Nat.le_trans Zh18 (Nat.le_of_eq W19.size.symm)
  have N19 := Fr.snoc X19 N15 g_b1
  refine own_go st19 ?_
  show own_Fin p e below _ (T19.setTop (mkF m 28 #[.val (.int p1), .val (.int p2), .unset, .unset, .unset, .unset] [(.ref b1)]))
  refine own_go (fun t k => XS.astoreN X19.here hx rfl (hb hby at_28) rfl rfl (l' := #[.val (.int p1), .val (.int p2), .val (.ref b1), .unset, .unset, .unset]) rfl (XS.aloadN X19.here hx rfl (hb hby at_29) rfl rfl  (XS.iloadN X19.here hx rfl (hb hby at_30) rfl  k))) ?_
  show own_Fin p e below _ (T19.setTop (mkF m 31 #[.val (.int p1), .val (.int p2), .val (.ref b1), .unset, .unset, .unset] [(.int p1), (.ref b1)]))
  refine own_go (fun t k => X19.ldcInt hx hown (mvT hZ hw_1) (g := (mkF m 31 #[.val (.int p1), .val (.int p2), .val (.ref b1), .unset, .unset, .unset] [(.int p1), (.ref b1)])) rfl (hb hby at_31) _ (XS.iand X19.here hx rfl (hb hby at_33) rfl (XS.iconst X19.here hx rfl (hb hby at_34) (iremM X19 hx rfl (hb hby at_35) rfl (by decide) k)))) ?_
  show own_Fin p e below _ (T19.setTop (mkF m 36 #[.val (.int p1), .val (.int p2), .val (.ref b1), .unset, .unset, .unset] [(.int ((p1 &&& (2147483647 : Int32)) % (5 : Int32))), (.ref b1)]))
  obtain ⟨cl23, Ar23, q23, S23, M23, H23, G23⟩ := f21
  have hin23 : ¬ (((p1 &&& (2147483647 : Int32)) % (5 : Int32)) < 0 ∨ cl23.slots.size ≤ (((p1 &&& (2147483647 : Int32)) % (5 : Int32))).toNatClampNeg) := inb_of S23 (own_idx _)
  obtain ⟨z23, hz23⟩ := own_ints [(44 : Int32), (91 : Int32), (93 : Int32), (123 : Int32), (125 : Int32)] (((p1 &&& (2147483647 : Int32)) % (5 : Int32))).toNatClampNeg
  have hat23 : cl23.slots[(((p1 &&& (2147483647 : Int32)) % (5 : Int32))).toNatClampNeg]? = some (.int z23) := H23.at hin23 hz23
  refine own_go (fun t k => X19.iaload hx (j := ((p1 &&& (2147483647 : Int32)) % (5 : Int32))) (v := (.int z23)) (by rw [e19]; exact Ar23.1) (State.isArrayOf_alike hZ.alike Ar23.2.1) Ar23.2.2 hin23 hat23 (g := (mkF m 36 #[.val (.int p1), .val (.int p2), .val (.ref b1), .unset, .unset, .unset] [(.int ((p1 &&& (2147483647 : Int32)) % (5 : Int32))), (.ref b1)])) rfl rfl (hb hby at_36) _ (XS.istoreN X19.here hx rfl (hb hby at_37) rfl (l' := #[.val (.int p1), .val (.int p2), .val (.ref b1), .val (.int z23), .unset, .unset]) rfl (XS.iloadN X19.here hx rfl (hb hby at_38) rfl  (XS.bipush X19.here hx rfl (hb hby at_39) k)))) ?_
  show own_Fin p e below _ (T19.setTop (mkF m 41 #[.val (.int p1), .val (.int p2), .val (.ref b1), .val (.int z23), .unset, .unset] [(.int (7 : Int32)), (.int p2)]))
  refine own_go (fun t k => XS.iand X19.here hx rfl (hb hby at_41) rfl (XS.istore X19.here hx rfl (hb hby at_42) rfl (l' := #[.val (.int p1), .val (.int p2), .val (.ref b1), .val (.int z23), .val (.int (p2 &&& (7 : Int32))), .unset]) rfl k)) ?_
  show own_Fin p e below _ (T19.setTop (mkF m 44 #[.val (.int p1), .val (.int p2), .val (.ref b1), .val (.int z23), .val (.int (p2 &&& (7 : Int32))), .unset] []))
  have Jn24 : ∀ (y : Int32), own_Fin p e below (own_A s room_1.cells room_1.slots (own_q0 Z p1 p2 h0 n0)) (T19.setTop (mkF m 157 #[.val (.int p1), .val (.int p2), .val (.ref b1), .val (.int z23), .val (.int (p2 &&& (7 : Int32))), .val (.int y)] [])) := by
    intro y
    refine own_go (fun t k => XS.iload X19.here hx rfl (hb hby at_157) rfl  k) ?_
    show own_Fin p e below _ (T19.setTop (mkF m 159 #[.val (.int p1), .val (.int p2), .val (.ref b1), .val (.int z23), .val (.int (p2 &&& (7 : Int32))), .val (.int y)] [(.int y)]))
    obtain ⟨_, _, ⟨T25, L25, k25, n25⟩, -, X25, ⟨Lc25, hQ25, l25, y25, z25⟩, st25⟩ := Jvm.LawKit.callS X19 hx (y := (⟨"com/example/honeyguide/honeyguide/document/YamlCursor", "isFlowIndicator", "(I)Z"⟩ : MethodName)) hown (mvT hZ hw_2) (mvT hZ hw_3) (mvT hZ hw_4) (mvT hZ hw_5) (by decide) (backOf (W := 0) (rm1 l Z a0 hw [] (y)  h19 n0 Zh22 ) hZ hw_5 hw_4 (by decide) (by decide)) (g := (mkF m 159 #[.val (.int p1), .val (.int p2), .val (.ref b1), .val (.int z23), .val (.int (p2 &&& (7 : Int32))), .val (.int y)] [(.int y)])) rfl (by rw [hml]; rfl) (argsL := [(.int y)]) (rest := []) (lenOf pd_0 rfl) rfl (by show 2 * 0 + _ ≤ _; exact Nat.le_of_eq rfl) (hb hby at_159) (fun _ _ => ⟨rfl, e19, (by decide : 1 + 0 ≤ _), (by decide : 5 + 0 ≤ _)⟩)
    dsimp only [Pt.U, Pt.locs, Pt.cells, Pt.slots] at X25 l25 y25 z25 st25 hQ25
    subst l25 y25 z25
    obtain ⟨rfl, N25q, e25⟩ := hQ25
    have N25 := Fr.app N19 N25q
    refine own_go st25 ?_
    show own_Fin p e below _ (T25.setTop (mkF m 162 #[.val (.int p1), .val (.int p2), .val (.ref b1), .val (.int z23), .val (.int (p2 &&& (7 : Int32))), .val (.int y)] [(.int (own_f_3 y))]))
    refine own_go (fun t k => XS.iload X25.here hx rfl (hb hby at_162) rfl  k) ?_
    show own_Fin p e below _ (T25.setTop (mkF m 164 #[.val (.int p1), .val (.int p2), .val (.ref b1), .val (.int z23), .val (.int (p2 &&& (7 : Int32))), .val (.int y)] [(.int y), (.int (own_f_3 y))]))
    obtain ⟨_, _, ⟨T26, L26, k26, n26⟩, -, X26, ⟨Lc26, hQ26, l26, y26, z26⟩, st26⟩ := Jvm.LawKit.callS X25 hx (y := (⟨"com/example/honeyguide/honeyguide/document/YamlCursorIsFlowIndicatorPinLaw", "expected", "(I)Z"⟩ : MethodName)) hown (mvT hZ hw_6) (mvT hZ hw_7) (mvT hZ hw_8) (mvT hZ hw_9) (by decide) (backOf (W := 1) (rm2 l Z a0 hw [] (y)  h19 n0 Zh22 ) hZ hw_9 hw_8 (by decide) (by decide)) (g := (mkF m 164 #[.val (.int p1), .val (.int p2), .val (.ref b1), .val (.int z23), .val (.int (p2 &&& (7 : Int32))), .val (.int y)] [(.int y), (.int (own_f_3 y))])) rfl (by rw [hml]; rfl) (argsL := [(.int y)]) (rest := [(.int (own_f_3 y))]) (lenOf pd_0 rfl) rfl (by show 2 * 0 + _ ≤ _; exact Nat.le_of_eq rfl) (hb hby at_164) (fun _ _ => ⟨rfl, e25, (by decide : 1 + 0 ≤ _), (by decide : 5 + 0 ≤ _)⟩)
    dsimp only [Pt.U, Pt.locs, Pt.cells, Pt.slots] at X26 l26 y26 z26 st26 hQ26
    subst l26 y26 z26
    obtain ⟨rfl, N26q, e26⟩ := hQ26
    have N26 := Fr.app N25 N26q
    refine own_go st26 ?_
    show own_Fin p e below _ (T26.setTop (mkF m 167 #[.val (.int p1), .val (.int p2), .val (.ref b1), .val (.int z23), .val (.int (p2 &&& (7 : Int32))), .val (.int y)] [(.int (own_g_1 y)), (.int (own_f_3 y))]))
    refine own_go (fun t k => XS.icmpNo X26.here hx rfl (hb hby at_167) rfl (teq (own_eq _)).2 (XS.iconst X26.here hx rfl (hb hby at_170) (XS.goto X26.here hx rfl (pc0 := 171) (pc' := 175) rfl (hb hby at_171) (by decide) (by decide) k))) ?_
    show own_Fin p e below _ (T26.setTop (mkF m 175 #[.val (.int p1), .val (.int p2), .val (.ref b1), .val (.int z23), .val (.int (p2 &&& (7 : Int32))), .val (.int y)] [(.int (1 : Int32))]))
    exact own_out X26 (fun h => by rw [Bd.returns] at h; cases h) Bd.notSynchronized (fun fs hr => retN X26 hx (t := .boolean) Bd.returns (by simp) (hb hby at_175) hr) ⟨rfl, N26⟩ (by decide) (by decide)
  refine own_go (fun t k => XS.iload X19.here hx rfl (hb hby at_44) rfl  k) ?_
  show own_Fin p e below _ (T19.setTop (mkF m 46 #[.val (.int p1), .val (.int p2), .val (.ref b1), .val (.int z23), .val (.int (p2 &&& (7 : Int32))), .unset] [(.int (p2 &&& (7 : Int32)))]))
  by_cases hc27 : (p2 &&& (7 : Int32)) = (0 : Int32)
  · skip
    refine own_go (fun t k => XS.ifNo X19.here hx rfl (hb hby at_46) rfl ((if0 _ _).trans (teq hc27).2) (XS.iloadN X19.here hx rfl (hb hby at_49) rfl  (XS.istore X19.here hx rfl (hb hby at_50) rfl (l' := #[.val (.int p1), .val (.int p2), .val (.ref b1), .val (.int z23), .val (.int (p2 &&& (7 : Int32))), .val (.int p1)]) rfl (XS.goto X19.here hx rfl (pc0 := 52) (pc' := 157) rfl (hb hby at_52) (by decide) (by decide) k)))) ?_
    show own_Fin p e below _ (T19.setTop (mkF m 157 #[.val (.int p1), .val (.int p2), .val (.ref b1), .val (.int z23), .val (.int (p2 &&& (7 : Int32))), .val (.int p1)] []))
    exact Jn24 (p1)
  · skip
    refine own_go (fun t k => XS.ifYes X19.here hx rfl (pc0 := 46) (pc' := 55) rfl (hb hby at_46) rfl ((if0 _ _).trans (feq hc27).2) (by decide) (by decide) (XS.iload X19.here hx rfl (hb hby at_55) rfl  (XS.iconst X19.here hx rfl (hb hby at_57) k))) ?_
    show own_Fin p e below _ (T19.setTop (mkF m 58 #[.val (.int p1), .val (.int p2), .val (.ref b1), .val (.int z23), .val (.int (p2 &&& (7 : Int32))), .unset] [(.int (1 : Int32)), (.int (p2 &&& (7 : Int32)))]))
    by_cases hc28 : (p2 &&& (7 : Int32)) = (1 : Int32)
    · skip
      refine own_go (fun t k => XS.icmpNo X19.here hx rfl (hb hby at_58) rfl (teq hc28).2 (XS.iloadN X19.here hx rfl (hb hby at_61) rfl  (XS.bipush X19.here hx rfl (hb hby at_62) (XS.iand X19.here hx rfl (hb hby at_64) rfl k)))) ?_
      show own_Fin p e below _ (T19.setTop (mkF m 65 #[.val (.int p1), .val (.int p2), .val (.ref b1), .val (.int z23), .val (.int (p2 &&& (7 : Int32))), .unset] [(.int (p1 &&& (127 : Int32)))]))
      refine own_go (fun t k => XS.istore X19.here hx rfl (hb hby at_65) rfl (l' := #[.val (.int p1), .val (.int p2), .val (.ref b1), .val (.int z23), .val (.int (p2 &&& (7 : Int32))), .val (.int (p1 &&& (127 : Int32)))]) rfl (XS.goto X19.here hx rfl (pc0 := 67) (pc' := 157) rfl (hb hby at_67) (by decide) (by decide) k)) ?_
      exact Jn24 ((p1 &&& (127 : Int32)))
    · skip
      refine own_go (fun t k => XS.icmpYes X19.here hx rfl (pc0 := 58) (pc' := 70) rfl (hb hby at_58) rfl (feq hc28).2 (by decide) (by decide) (XS.iload X19.here hx rfl (hb hby at_70) rfl  (XS.iconst X19.here hx rfl (hb hby at_72) k))) ?_
      show own_Fin p e below _ (T19.setTop (mkF m 73 #[.val (.int p1), .val (.int p2), .val (.ref b1), .val (.int z23), .val (.int (p2 &&& (7 : Int32))), .unset] [(.int (2 : Int32)), (.int (p2 &&& (7 : Int32)))]))
      by_cases hc29 : (p2 &&& (7 : Int32)) = (2 : Int32)
      · skip
        refine own_go (fun t k => XS.icmpNo X19.here hx rfl (hb hby at_73) rfl (teq hc29).2 (XS.iloadN X19.here hx rfl (hb hby at_76) rfl  (XS.sipush X19.here hx rfl (hb hby at_77) (XS.iand X19.here hx rfl (hb hby at_80) rfl k)))) ?_
        show own_Fin p e below _ (T19.setTop (mkF m 81 #[.val (.int p1), .val (.int p2), .val (.ref b1), .val (.int z23), .val (.int (p2 &&& (7 : Int32))), .unset] [(.int (p1 &&& (255 : Int32)))]))
        refine own_go (fun t k => XS.istore X19.here hx rfl (hb hby at_81) rfl (l' := #[.val (.int p1), .val (.int p2), .val (.ref b1), .val (.int z23), .val (.int (p2 &&& (7 : Int32))), .val (.int (p1 &&& (255 : Int32)))]) rfl (XS.goto X19.here hx rfl (pc0 := 83) (pc' := 157) rfl (hb hby at_83) (by decide) (by decide) k)) ?_
        exact Jn24 ((p1 &&& (255 : Int32)))
      · skip
        refine own_go (fun t k => XS.icmpYes X19.here hx rfl (pc0 := 73) (pc' := 86) rfl (hb hby at_73) rfl (feq hc29).2 (by decide) (by decide) (XS.iload X19.here hx rfl (hb hby at_86) rfl  (XS.iconst X19.here hx rfl (hb hby at_88) k))) ?_
        show own_Fin p e below _ (T19.setTop (mkF m 89 #[.val (.int p1), .val (.int p2), .val (.ref b1), .val (.int z23), .val (.int (p2 &&& (7 : Int32))), .unset] [(.int (3 : Int32)), (.int (p2 &&& (7 : Int32)))]))
        by_cases hc30 : (p2 &&& (7 : Int32)) = (3 : Int32)
        · skip
          refine own_go (fun t k => XS.icmpNo X19.here hx rfl (hb hby at_89) rfl (teq hc30).2 (XS.iloadN X19.here hx rfl (hb hby at_92) rfl  (XS.istore X19.here hx rfl (hb hby at_93) rfl (l' := #[.val (.int p1), .val (.int p2), .val (.ref b1), .val (.int z23), .val (.int (p2 &&& (7 : Int32))), .val (.int z23)]) rfl (XS.goto X19.here hx rfl (pc0 := 95) (pc' := 157) rfl (hb hby at_95) (by decide) (by decide) k)))) ?_
          show own_Fin p e below _ (T19.setTop (mkF m 157 #[.val (.int p1), .val (.int p2), .val (.ref b1), .val (.int z23), .val (.int (p2 &&& (7 : Int32))), .val (.int z23)] []))
          exact Jn24 (z23)
        · skip
          refine own_go (fun t k => XS.icmpYes X19.here hx rfl (pc0 := 89) (pc' := 98) rfl (hb hby at_89) rfl (feq hc30).2 (by decide) (by decide) (XS.iload X19.here hx rfl (hb hby at_98) rfl  (XS.iconst X19.here hx rfl (hb hby at_100) k))) ?_
          show own_Fin p e below _ (T19.setTop (mkF m 101 #[.val (.int p1), .val (.int p2), .val (.ref b1), .val (.int z23), .val (.int (p2 &&& (7 : Int32))), .unset] [(.int (4 : Int32)), (.int (p2 &&& (7 : Int32)))]))
          by_cases hc31 : (p2 &&& (7 : Int32)) = (4 : Int32)
          · skip
            refine own_go (fun t k => XS.icmpNo X19.here hx rfl (hb hby at_101) rfl (teq hc31).2 (XS.iloadN X19.here hx rfl (hb hby at_104) rfl  (XS.iconst X19.here hx rfl (hb hby at_105) (XS.iadd X19.here hx rfl (hb hby at_106) rfl k)))) ?_
            show own_Fin p e below _ (T19.setTop (mkF m 107 #[.val (.int p1), .val (.int p2), .val (.ref b1), .val (.int z23), .val (.int (p2 &&& (7 : Int32))), .unset] [(.int (z23 + (1 : Int32)))]))
            refine own_go (fun t k => XS.iloadN X19.here hx rfl (hb hby at_107) rfl  (XS.bipush X19.here hx rfl (hb hby at_108) (XS.iushr X19.here hx rfl (hb hby at_110) rfl (XS.iconst X19.here hx rfl (hb hby at_111) k)))) ?_
            show own_Fin p e below _ (T19.setTop (mkF m 112 #[.val (.int p1), .val (.int p2), .val (.ref b1), .val (.int z23), .val (.int (p2 &&& (7 : Int32))), .unset] [(.int (1 : Int32)), (.int ((p1.toUInt32 >>> ((8 : Int32) &&& 31).toUInt32).toInt32)), (.int (z23 + (1 : Int32)))]))
            refine own_go (fun t k => XS.iand X19.here hx rfl (hb hby at_112) rfl (XS.iconst X19.here hx rfl (hb hby at_113) (XS.imul X19.here hx rfl (hb hby at_114) rfl (XS.isub X19.here hx rfl (hb hby at_115) rfl k)))) ?_
            show own_Fin p e below _ (T19.setTop (mkF m 116 #[.val (.int p1), .val (.int p2), .val (.ref b1), .val (.int z23), .val (.int (p2 &&& (7 : Int32))), .unset] [(.int ((z23 + (1 : Int32)) - ((((p1.toUInt32 >>> ((8 : Int32) &&& 31).toUInt32).toInt32) &&& (1 : Int32)) * (2 : Int32))))]))
            refine own_go (fun t k => XS.istore X19.here hx rfl (hb hby at_116) rfl (l' := #[.val (.int p1), .val (.int p2), .val (.ref b1), .val (.int z23), .val (.int (p2 &&& (7 : Int32))), .val (.int ((z23 + (1 : Int32)) - ((((p1.toUInt32 >>> ((8 : Int32) &&& 31).toUInt32).toInt32) &&& (1 : Int32)) * (2 : Int32))))]) rfl (XS.goto X19.here hx rfl (pc0 := 118) (pc' := 157) rfl (hb hby at_118) (by decide) (by decide) k)) ?_
            exact Jn24 (((z23 + (1 : Int32)) - ((((p1.toUInt32 >>> ((8 : Int32) &&& 31).toUInt32).toInt32) &&& (1 : Int32)) * (2 : Int32))))
          · skip
            refine own_go (fun t k => XS.icmpYes X19.here hx rfl (pc0 := 101) (pc' := 121) rfl (hb hby at_101) rfl (feq hc31).2 (by decide) (by decide) (XS.iload X19.here hx rfl (hb hby at_121) rfl  (XS.iconst X19.here hx rfl (hb hby at_123) k))) ?_
            show own_Fin p e below _ (T19.setTop (mkF m 124 #[.val (.int p1), .val (.int p2), .val (.ref b1), .val (.int z23), .val (.int (p2 &&& (7 : Int32))), .unset] [(.int (5 : Int32)), (.int (p2 &&& (7 : Int32)))]))
            by_cases hc32 : (p2 &&& (7 : Int32)) = (5 : Int32)
            · skip
              refine own_go (fun t k => XS.icmpNo X19.here hx rfl (hb hby at_124) rfl (teq hc32).2 (XS.iloadN X19.here hx rfl (hb hby at_127) rfl  (XS.bipush X19.here hx rfl (hb hby at_128) (XS.iand X19.here hx rfl (hb hby at_130) rfl k)))) ?_
              show own_Fin p e below _ (T19.setTop (mkF m 131 #[.val (.int p1), .val (.int p2), .val (.ref b1), .val (.int z23), .val (.int (p2 &&& (7 : Int32))), .unset] [(.int (p1 &&& (-128 : Int32)))]))
              refine own_go (fun t k => XS.iloadN X19.here hx rfl (hb hby at_131) rfl  (XS.ior X19.here hx rfl (hb hby at_132) rfl (XS.istore X19.here hx rfl (hb hby at_133) rfl (l' := #[.val (.int p1), .val (.int p2), .val (.ref b1), .val (.int z23), .val (.int (p2 &&& (7 : Int32))), .val (.int ((p1 &&& (-128 : Int32)) ||| z23))]) rfl (XS.goto X19.here hx rfl (pc0 := 135) (pc' := 157) rfl (hb hby at_135) (by decide) (by decide) k)))) ?_
              show own_Fin p e below _ (T19.setTop (mkF m 157 #[.val (.int p1), .val (.int p2), .val (.ref b1), .val (.int z23), .val (.int (p2 &&& (7 : Int32))), .val (.int ((p1 &&& (-128 : Int32)) ||| z23))] []))
              exact Jn24 (((p1 &&& (-128 : Int32)) ||| z23))
            · skip
              refine own_go (fun t k => XS.icmpYes X19.here hx rfl (pc0 := 124) (pc' := 138) rfl (hb hby at_124) rfl (feq hc32).2 (by decide) (by decide) (XS.iload X19.here hx rfl (hb hby at_138) rfl  (XS.bipush X19.here hx rfl (hb hby at_140) k))) ?_
              show own_Fin p e below _ (T19.setTop (mkF m 142 #[.val (.int p1), .val (.int p2), .val (.ref b1), .val (.int z23), .val (.int (p2 &&& (7 : Int32))), .unset] [(.int (6 : Int32)), (.int (p2 &&& (7 : Int32)))]))
              by_cases hc33 : (p2 &&& (7 : Int32)) = (6 : Int32)
              · skip
                refine own_go (fun t k => XS.icmpNo X19.here hx rfl (hb hby at_142) rfl (teq hc33).2 (XS.iconst X19.here hx rfl (hb hby at_145) (XS.istore X19.here hx rfl (hb hby at_146) rfl (l' := #[.val (.int p1), .val (.int p2), .val (.ref b1), .val (.int z23), .val (.int (p2 &&& (7 : Int32))), .val (.int (-1 : Int32))]) rfl (XS.goto X19.here hx rfl (pc0 := 148) (pc' := 157) rfl (hb hby at_148) (by decide) (by decide) k)))) ?_
                show own_Fin p e below _ (T19.setTop (mkF m 157 #[.val (.int p1), .val (.int p2), .val (.ref b1), .val (.int z23), .val (.int (p2 &&& (7 : Int32))), .val (.int (-1 : Int32))] []))
                exact Jn24 ((-1 : Int32))
              · skip
                refine own_go (fun t k => XS.icmpYes X19.here hx rfl (pc0 := 142) (pc' := 151) rfl (hb hby at_142) rfl (feq hc33).2 (by decide) (by decide) (XS.iloadN X19.here hx rfl (hb hby at_151) rfl  k)) ?_
                show own_Fin p e below _ (T19.setTop (mkF m 152 #[.val (.int p1), .val (.int p2), .val (.ref b1), .val (.int z23), .val (.int (p2 &&& (7 : Int32))), .unset] [(.int p1)]))
                refine own_go (fun t k => X19.ldcInt hx hown (mvT hZ hw_12) (g := (mkF m 152 #[.val (.int p1), .val (.int p2), .val (.ref b1), .val (.int z23), .val (.int (p2 &&& (7 : Int32))), .unset] [(.int p1)])) rfl (hb hby at_152) _ (XS.ior X19.here hx rfl (hb hby at_154) rfl (XS.istore X19.here hx rfl (hb hby at_155) rfl (l' := #[.val (.int p1), .val (.int p2), .val (.ref b1), .val (.int z23), .val (.int (p2 &&& (7 : Int32))), .val (.int (p1 ||| (-2147483648 : Int32)))]) rfl k))) ?_
                exact Jn24 ((p1 ||| (-2147483648 : Int32)))
set_option maxRecDepth 65536 in
set_option maxHeartbeats 40000000 in
theorem comes_1 {Post : Tables → Env → Array Value → State → Outcome → State → Prop} (hpost : ∀ tb e args s v u, (limb_1_1.after args s (.returned v) u = true ∧ limb_1_2.after args s (.returned v) u = true ∧ True) → FrameEnd s (.returned v) u (Jvm.fieldLocs frame_1_writes args s ++ Jvm.arrayLocs frame_1_arrays args s ++ Jvm.staticLocs frame_1_statics s) 16 128 → Post tb e args s (.returned v) u) :
    ArmFor flags0 classFile x code maxLocals ret World_1 tables_1 room_1 Calls_1 rest_1 Pre_1 Post := by
  intro l hfl _ _ p e ha hc hk s m args below hf hA hF happ hP
  obtain ⟨hcalls, hrest, hpre⟩ := hP
  obtain ⟨-, -, -, hnamed, -, -, -, hat⟩ := (Spec.applies_iff hf).mp happ
  obtain ⟨hg, hn⟩ := and_e (Cond.before_iff.mp (show (Jvm.Cond.and given_1 narrow_1).before args s = true from hpre))
  obtain ⟨g0, r0⟩ := and_e hg
  obtain ⟨g1, r1⟩ := and_e r0
  obtain ⟨w0, w1, rfl⟩ : ∃ w0 w1 : Value, args = #[w0, w1] := by
    have hs : args.size = 2 := by simpa [Cond.value, given_1] using g0
    obtain ⟨L⟩ := args
    match L, hs with
    | [w0, w1], _ => exact ⟨w0, w1, rfl⟩
  have hw := fun d (hd : d ∈ tables_1) => atoms_spec (ws := Jvm.Cond.code x code maxLocals ret :: tables_1) hat d (List.mem_cons_of_mem _ hd)
  have hfit : Fit s := fun {y c} hc i hi => by
    obtain ⟨ha, rfl⟩ := Array.getElem?_eq_some_iff.mp hc
    have q := List.all_eq_true.mp ((Array.all_eq_true_iff_forall_mem.mp hF) _ (Array.getElem_mem ha)) i (List.mem_range.mpr hi)
    simpa [Array.getElem?_eq_getElem hi] using q
  obtain ⟨i0, ei0⟩ := is_v g1
  obtain rfl : w0 = (.int i0) := Option.some.inj ei0
  obtain ⟨i1, ei1⟩ := is_v r1
  obtain rfl : w1 = (.int i1) := Option.some.inj ei1
  obtain ⟨n, o, h1, h2, h3, _, L, rfl, ⟨rfl, N⟩, hq⟩ := rm0 l s _ hw tables_1 i0 i1  s.heap s.heap.size (Nat.le_refl _)  p e ha hc hk s m _ below hf ((Spec.applies_iff_loose hf).mp happ).1 ⟨rfl, State.Warmed39.refl s, rfl⟩ trivial
  refine ⟨n, _, h1, h2, h3, hpost _ _ _ _ _ _ ⟨Cond.after_iff.mpr rfl, Cond.after_iff.mpr (eq_i res_at (Term.int_eval (1)) rfl), trivial⟩ ⟨hq.1, hq.2.1, (hq.2.2.sift fun y hy => Or.inr (N y hy)).mono (by decide) (by decide)⟩⟩
theorem main_1_1 : Claimed_1_1 := comes_1 fun _ _ _ _ _ _ h hF => ⟨h.1, hF⟩
theorem main_1_2 : Claimed_1_2 := comes_1 fun _ _ _ _ _ _ h hF => ⟨h.2.1, hF⟩
end Jvm.Pilot.@@N@@
namespace Jvm.Pilot.@@N@@
open Jvm Jvm.ClassFile Sem Op Lib Jvm.Free Jvm.Stand Jvm.Pilot.@@N@@.Jvm.D
/-! MADE BY PROGRAM (witnessworld.py) out of the Statement's table words and the real class files: 9 classes; the members and pool entries that the words name. The judged class is class 1, her method 2. -/
namespace start1
open Jvm.ClassFile
def u (s : String) : CpInfo := .utf8 (stringToUtf16 s)
/-- a pool by its gaps: so many unusable entries, then the entry; so many at the end -/
def gap : Nat → List CpInfo → List CpInfo
  | 0, r => r
  | n + 1, r => .unusable :: gap n r
def poolList (es : List (Nat × CpInfo)) (last : Nat) : List CpInfo := es.foldr (fun e r => gap e.1 (e.2 :: r)) (gap last [])
def pool (es : List (Nat × CpInfo)) (last : Nat) : Array CpInfo := ⟨poolList es last⟩
def fileOf (pool : Array CpInfo) (this : Nat) (attrs : Array Attribute := #[]) (ms : Array MethodInfo := #[]) (fl : Nat := 33) (sup : Nat := 0) (ifs : Array Nat := #[]) (fds : Array FieldInfo := #[]) : ClassFile where
  minorVersion := 0
  majorVersion := 65
  constantPool := pool
  accessFlags := fl
  thisClass := this
  superClass := sup
  interfaces := ifs
  fields := fds
  methods := ms
  attributes := attrs
def plain (name : String) (sup : Option ClassId) : Class where
  name := name
  kind := .ordinary
  loader := none
  accessFlags := 33
  super := sup
  interfaces := #[]
  cf := none
  fields := #[]
  methods := #[]
  instanceTypes := #[]
  staticTypes := #[]
  resolved := #[]
  callSites := []
  init := .initialized
  statics := none
  mirror := none

def pool0 : Array CpInfo := pool [(5, u "<init>"), (0, u "()V"), (1, .class_ 10), (1, u "java/lang/Object")] 113

def k0m0 : Method := { name := "<init>", desc := "()V", sig := { parameters := [], returnType := none }, accessFlags := 1, code := none }
/-- java/lang/Object -/
def k0 : Class := { plain "java/lang/Object" none with
  accessFlags := 33
  interfaces := #[]
  cf := some (fileOf pool0 8 #[] #[{ accessFlags := 1, nameIndex := 5, descriptorIndex := 6, attributes := #[] }] 33 0 #[] #[])
  fields := #[]
  methods := #[k0m0]
  instanceTypes := #[]
  staticTypes := #[]
  resolved := Array.replicate 124 none
  statics := none }

def pool1 : Array CpInfo := pool [(2, .class_ 4), (1, u "java/lang/Object"), (0, u "<init>"), (0, u "()V"), (0, .class_ 8), (0, u "com/example/honeyguide/honeyguide/document/YamlCursorIsFlowIndicatorPinLaw"), (0, .long 17592186044416), (1, .long 2882303762188206080), (1, .integer 2147483647), (0, .integer 2147483648), (0, .methodref 16 17), (0, .class_ 18), (0, .nameAndType 19 20), (0, u "com/example/honeyguide/honeyguide/document/YamlCursor"), (0, u "isFlowIndicator"), (0, u "(I)Z"), (0, .methodref 7 22), (0, .nameAndType 23 20), (0, u "expected"), (0, u "LO"), (0, u "J"), (1, u "HI"), (3, u "law"), (0, u "(II)Z")] 4

def k1m0 : Method := { name := "<init>", desc := "()V", sig := { parameters := [], returnType := none }, accessFlags := 1, code := none }
def k1c1 : Code := { maxStack := 4, maxLocals := 1, code := method_2_code, exceptionTable := #[], attributes := #[] }
def k1m1 : Method := { name := "expected", desc := "(I)Z", sig := { parameters := [.int], returnType := some .boolean }, accessFlags := 10, code := some k1c1 }
def k1c2 : Code := { maxStack := 4, maxLocals := 6, code := code, exceptionTable := #[], attributes := #[] }
def k1m2 : Method := { name := "law", desc := "(II)Z", sig := { parameters := [.int, .int], returnType := some .boolean }, accessFlags := 9, code := some k1c2 }
/-- com/example/honeyguide/honeyguide/document/YamlCursorIsFlowIndicatorPinLaw -/
def k1 : Class := { plain "com/example/honeyguide/honeyguide/document/YamlCursorIsFlowIndicatorPinLaw" (some 0) with
  accessFlags := 49
  interfaces := #[]
  cf := some (fileOf pool1 7 #[] #[{ accessFlags := 1, nameIndex := 5, descriptorIndex := 6, attributes := #[] }, { accessFlags := 10, nameIndex := 23, descriptorIndex := 20, attributes := #[] }, { accessFlags := 9, nameIndex := 31, descriptorIndex := 32, attributes := #[] }] 49 2 #[] #[{ accessFlags := 26, nameIndex := 24, descriptorIndex := 25, attributes := #[] }, { accessFlags := 26, nameIndex := 27, descriptorIndex := 25, attributes := #[] }])
  fields := #[{ name := "LO", type := .long, accessFlags := 26, slot := 0, constantValue := 0 }, { name := "HI", type := .long, accessFlags := 26, slot := 1, constantValue := 0 }]
  methods := #[k1m0, k1m1, k1m2]
  instanceTypes := #[]
  staticTypes := #[.long, .long]
  resolved := Array.replicate 37 none
  statics := none }

def pool2 : Array CpInfo := pool [(2, .class_ 4), (1, u "java/lang/Object"), (3, .class_ 10), (1, u "com/example/honeyguide/honeyguide/document/YamlCursor"), (0, u "source"), (0, u "Lcom/example/honeyguide/honeyguide/document/SourceText;"), (2, u "position"), (0, u "I"), (2, u "attempt"), (0, u "Z"), (1, .class_ 24), (1, u "com/example/honeyguide/honeyguide/document/YamlCursor$Attempt"), (32, u "(I)Z"), (74, u "FAILED_ATTEMPT"), (0, u "Lcom/example/honeyguide/honeyguide/document/SyntaxException;"), (49, u "isFlowIndicator"), (10, u "END")] 55

def k2c0 : Code := { maxStack := 2, maxLocals := 1, code := prog_23_method_36_code, exceptionTable := #[], attributes := #[] }
def k2m0 : Method := { name := "isFlowIndicator", desc := "(I)Z", sig := { parameters := [.int], returnType := some .boolean }, accessFlags := 8, code := some k2c0 }
/-- com/example/honeyguide/honeyguide/document/YamlCursor -/
def k2 : Class := { plain "com/example/honeyguide/honeyguide/document/YamlCursor" (some 0) with
  accessFlags := 32
  interfaces := #[]
  cf := some (fileOf pool2 8 #[.nestMembers #[22]] #[{ accessFlags := 8, nameIndex := 183, descriptorIndex := 57, attributes := #[] }] 32 2 #[] #[{ accessFlags := 24, nameIndex := 194, descriptorIndex := 16, attributes := #[] }, { accessFlags := 26, nameIndex := 132, descriptorIndex := 133, attributes := #[] }, { accessFlags := 18, nameIndex := 11, descriptorIndex := 12, attributes := #[] }, { accessFlags := 2, nameIndex := 15, descriptorIndex := 16, attributes := #[] }, { accessFlags := 2, nameIndex := 19, descriptorIndex := 20, attributes := #[] }])
  fields := #[{ name := "END", type := .int, accessFlags := 24, slot := 0, constantValue := 0 }, { name := "FAILED_ATTEMPT", type := (.object "com/example/honeyguide/honeyguide/document/SyntaxException"), accessFlags := 26, slot := 1, constantValue := 0 }, { name := "source", type := (.object "com/example/honeyguide/honeyguide/document/SourceText"), accessFlags := 18, slot := 0, constantValue := 0 }, { name := "position", type := .int, accessFlags := 2, slot := 1, constantValue := 0 }, { name := "attempt", type := .boolean, accessFlags := 2, slot := 2, constantValue := 0 }]
  methods := #[k2m0]
  instanceTypes := #[(.object "com/example/honeyguide/honeyguide/document/SourceText"), .int, .boolean]
  staticTypes := #[.int, (.object "com/example/honeyguide/honeyguide/document/SyntaxException")]
  resolved := Array.replicate 250 none
  statics := none }

def pool3 : Array CpInfo := pool [(1, u "java/lang/Cloneable"), (0, .class_ 1), (0, u "java/lang/Object"), (0, .class_ 3)] 3

/-- java/lang/Cloneable -/
def k3 : Class := { plain "java/lang/Cloneable" (some 0) with
  accessFlags := 1537
  interfaces := #[]
  cf := some (fileOf pool3 2 #[] #[] 1537 4 #[] #[])
  fields := #[]
  methods := #[]
  instanceTypes := #[]
  staticTypes := #[]
  resolved := Array.replicate 8 none
  statics := none }

def pool4 : Array CpInfo := pool [(1, u "java/io/Serializable"), (0, .class_ 1), (0, u "java/lang/Object"), (0, .class_ 3)] 3

/-- java/io/Serializable -/
def k4 : Class := { plain "java/io/Serializable" (some 0) with
  accessFlags := 1537
  interfaces := #[]
  cf := some (fileOf pool4 2 #[] #[] 1537 4 #[] #[])
  fields := #[]
  methods := #[]
  instanceTypes := #[]
  staticTypes := #[]
  resolved := Array.replicate 8 none
  statics := none }

/-- the primitive byte -/
def k5 : Class := { plain "byte" none with kind := .primitive 'B', accessFlags := 0x411 }
/-- [B -/
def k6 : Class := { plain "[B" (some 0) with kind := .array 5 .byte, interfaces := #[3, 4], accessFlags := 1041 }

/-- the primitive int -/
def k7 : Class := { plain "int" none with kind := .primitive 'I', accessFlags := 0x411 }
/-- [I -/
def k8 : Class := { plain "[I" (some 0) with kind := .array 7 .int, interfaces := #[3, 4], accessFlags := 1041 }

def heap : Heap := #[]
def classes : Array Class := #[k0, k1, k2, k3, k4, k5, k6, k7, k8]
def interned : List (Array UInt16 × Addr) := []
def slotsUsed : Nat := 0
def theMethod : MethodId := ⟨1, 2⟩
def args0 : Array Value := #[.int 5, .int 6]
def aboutOver (below : List Frame) : State where
  vm := { classes := classes, interned := interned.toArray }
  heap := heap
  slotsUsed := slotsUsed
  threads := #[{ frames := .invoking theMethod args0 :: below }]
def below0 : List Frame := [.native { method := ⟨0, 0⟩, args := #[] }]
def about1 : State := aboutOver below0
def p0 : Program := .bare "" "" ""
def e0 : Env := launch0.env 0 0 0
theorem w_frames : about1.frames = Frame.invoking theMethod args0 :: below0 := rfl
set_option maxRecDepth 65536 in
theorem w_args : argsFit about1.vm theMethod args0 = true := by decide +kernel
set_option maxRecDepth 65536 in
theorem w_heap : heapFits about1 = true := by decide +kernel
set_option maxRecDepth 65536 in
theorem w_runnable : about1.curStatus? = some .runnable := by decide +kernel
set_option maxRecDepth 65536 in
theorem w_alone : about1.alone = true := by decide +kernel
set_option maxRecDepth 65536 in
theorem w_named : about1.methodNamed? x = some theMethod := by decide +kernel
set_option maxRecDepth 65536 in
theorem w_hears : about1.hears theMethod below0 = true := by decide +kernel
set_option maxRecDepth 65536 in
theorem w_ripe : about1.ripe theMethod args0 below0 = true := by decide +kernel
theorem w_running : about1.status = .running := rfl
set_option maxRecDepth 65536 in
theorem w_room : about1.hasRoom e0.platform room_1 = true :=
  launch0.hasRoom_least _ room_1 (by decide +kernel) (by decide +kernel) (by decide +kernel) (by decide +kernel) (by decide +kernel) (by decide +kernel)
theorem allAtoms_all (ts : List Jvm.Cond) (a : Array Jvm.Value) (st : Jvm.State) : (allAtoms ts).before a st = ts.all (fun c => c.before a st) := by
  induction ts with
  | nil => rfl
  | cons c t ih =>
    show (Jvm.Cond.and c (allAtoms t)).before a st = _
    rw [Jvm.Cond.before_and, ih, List.all_cons]
def words1 : List Jvm.Cond := Jvm.Cond.code x code maxLocals ret :: tables_1
/-- a 'code' word, met by the world's own term for the bytes: nothing is compared byte by byte -/
theorem code_word {y : MethodName} {bytes : ByteArray} {mx : Nat} {rt : Option FieldType} {a : Array Value} {s : State} {m : MethodId} {meth : Method} {c : Code} (h1 : s.methodNamed? y = some m) (h2 : s.vm.method? m = some meth) (h3 : meth.code = some c) (h4 : c.code = bytes)
    (h5 : (c.maxLocals == mx && c.exceptionTable.isEmpty && decide (c.maxStack ≤ mostOperands) && decide (meth.sig.returnType = rt) && !meth.locks && decide (parseMethodDescriptor y.desc = some meth.sig)) = true) : (Jvm.Cond.code y bytes mx rt).before a s = true := by
  simp only [Bool.and_eq_true, beq_iff_eq, Bool.not_eq_true', decide_eq_true_eq] at h5
  obtain ⟨⟨⟨⟨⟨g1, g2⟩, g3⟩, g4⟩, g5⟩, g6⟩ := h5
  simp [Cond.before, Cond.holds, Cond.value, h1, h2, h3, h4, g1, g2, g3, g4, g5, g6]
def isCode : Jvm.Cond → Bool
  | .code _ _ _ _ => true
  | _ => false
theorem all_split {L : List Jvm.Cond} {P : Jvm.Cond → Bool} (h1 : L.all (fun c => isCode c || P c) = true) (h2 : ∀ c ∈ L.filter isCode, P c = true) : L.all P = true := by
  refine List.all_eq_true.mpr fun c hc => ?_
  have h := List.all_eq_true.mp h1 c hc
  rcases Bool.eq_false_or_eq_true (isCode c) with hi | hi
  · exact h2 c (List.mem_filter.mpr ⟨hc, hi⟩)
  · simpa [hi] using h
set_option maxRecDepth 65536 in
theorem w_c0 : (Jvm.Cond.code x code maxLocals ret).before args0 about1 = true := code_word (m := ⟨1, 2⟩) (meth := k1m2) (c := k1c2) (by decide +kernel) rfl rfl rfl (by decide +kernel)
set_option maxRecDepth 65536 in
theorem w_c1 : (Jvm.Cond.code ({ cls := "com/example/honeyguide/honeyguide/document/YamlCursor", name := "isFlowIndicator", desc := "(I)Z" } : Jvm.MethodName) prog_23_method_36_code (1 : Nat) (Option.some Jvm.ClassFile.FieldType.boolean)).before args0 about1 = true := code_word (m := ⟨2, 0⟩) (meth := k2m0) (c := k2c0) (by decide +kernel) rfl rfl rfl (by decide +kernel)
set_option maxRecDepth 65536 in
theorem w_c2 : (Jvm.Cond.code ({ cls := "com/example/honeyguide/honeyguide/document/YamlCursorIsFlowIndicatorPinLaw", name := "expected", desc := "(I)Z" } : Jvm.MethodName) method_2_code (1 : Nat) (Option.some Jvm.ClassFile.FieldType.boolean)).before args0 about1 = true := code_word (m := ⟨1, 1⟩) (meth := k1m1) (c := k1c1) (by decide +kernel) rfl rfl rfl (by decide +kernel)
def codes1 : List Jvm.Cond := [Jvm.Cond.code x code maxLocals ret, Jvm.Cond.code ({ cls := "com/example/honeyguide/honeyguide/document/YamlCursor", name := "isFlowIndicator", desc := "(I)Z" } : Jvm.MethodName) prog_23_method_36_code (1 : Nat) (Option.some Jvm.ClassFile.FieldType.boolean), Jvm.Cond.code ({ cls := "com/example/honeyguide/honeyguide/document/YamlCursorIsFlowIndicatorPinLaw", name := "expected", desc := "(I)Z" } : Jvm.MethodName) method_2_code (1 : Nat) (Option.some Jvm.ClassFile.FieldType.boolean)]
set_option maxRecDepth 65536 in
theorem codes_eq : words1.filter isCode = codes1 := rfl
theorem w_codes : ∀ c ∈ words1.filter isCode, c.before args0 about1 = true := by
  rw [codes_eq]
  intro c hc
  simp only [codes1, List.mem_cons, List.not_mem_nil, or_false] at hc
  rcases hc with rfl | rfl | rfl
  · exact w_c0
  · exact w_c1
  · exact w_c2
set_option maxRecDepth 65536 in
theorem w_t1 : words1.all (fun c => isCode c || c.before args0 about1) = true := by decide +kernel
theorem w_tables : (allAtoms (Jvm.Cond.code x code maxLocals ret :: tables_1)).before args0 about1 = true := by
  rw [allAtoms_all]
  show words1.all (fun c => c.before args0 about1) = true
  refine all_split ?_ w_codes
  rw [w_t1]
set_option maxRecDepth 65536 in
theorem w_case : (Jvm.Cond.and given_1 narrow_1).before args0 about1 = true := by decide +kernel
theorem w_applies : (headSpec (Jvm.Cond.code x code maxLocals ret :: tables_1) room_1).applies x e0.platform about1 = true :=
  (Spec.applies_iff w_frames).mpr ⟨w_running, w_runnable, w_alone, w_named, w_hears, w_ripe, w_room, w_tables⟩
theorem atStart : AtStart classFile x code maxLocals ret World_1 tables_1 room_1 Calls_1 rest_1 Pre_1 launch0 p0 e0 about1 theMethod args0 below0 :=
  ⟨lists_1, trivial, launch0.admits_env _ _ _, launch0.least_env, fairChoices_fair.cas, fairChoices_fair.clock, w_frames, w_args, w_heap, w_applies, trivial, trivial, w_case⟩
end start1
theorem witness_1 : WitnessClaimed_1 := ⟨start1.p0, start1.e0, start1.about1, start1.theMethod, start1.args0, start1.below0, start1.atStart⟩
end Jvm.Pilot.@@N@@
