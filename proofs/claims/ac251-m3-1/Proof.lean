import JvmDerived
import JvmDerived.Pilot.@@N@@Statement
import JvmDerived.Pilot.@@N@@Code
set_option linter.unusedVariables false
set_option linter.unusedSimpArgs false
namespace Jvm.RoadKit
open Sem ClassFile Op Lib Jvm.Stand Jvm.Free Jvm.LawKit
section New
variable {p : Program} {l : Launch} {e : Env} {R : Room} {s : State} {m : MethodId} {args : Array Value} {below : List Frame} {meth : Method} {c : Code} {T : State} {locs : List Loc} {cells slots : Nat}
theorem retI (X : Stand p l e R s m args below meth c T locs cells slots) (hx : p.tables.exec = Jvm.exec) {pc : Nat} {Ls : Array Slot} {z : Int32} {rest : List Value} (hret : meth.sig.returnType = some .int) (hd : decode c.code pc = .ok (.ireturn, 1)) {fs : List Frame}
    (hl : ∀ (f : JFrame) (acts : List Action), f.method = m → f.locked = none → f.entered = [] → (doReturn e (T.setTop f) acts (some (.int z))).1 = T.setFrames fs) : Steps p.tables e below (T.setTop (mkF m pc Ls (.int z :: rest))) (T.setFrames fs) := by
  have hm' : T.vm.method? m = some meth := X.method'
  have hn : narrow .int (.int z) = .int z := rfl
  show Steps p.tables e below (T.setTop { method := m, pc := pc, locals := Ls, stack := _ :: rest, locked := none }) _
  jvm_step X.here [X.here.top, hx, hd, hm', hret, hn]
  first | (intro acts; rw [hl _ acts rfl rfl rfl]) | rw [hl _ _ rfl rfl rfl]
  exact Steps.refl _
/-- from the state S the run comes to an end at which A holds -/
def own_Fin (p : Program) (e : Env) (below : List Frame) (A : State → Outcome → Prop) (S : State) : Prop := ∃ s₂ o, Steps p.tables e below S s₂ ∧ s₂.status = .running ∧ Ended s₂ below o ∧ A s₂ o
theorem own_go {A : State → Outcome → Prop} {S S' : State} (k : ∀ t, Steps p.tables e below S' t → Steps p.tables e below S t) (h : own_Fin p e below A S') : own_Fin p e below A S := by
  obtain ⟨t, o, h1, h2⟩ := h; exact ⟨t, o, k t h1, h2⟩
/-- what a walk leaves: Q of the value, the heap and the written places -/
def own_A (s : State) (C S : Nat) (Q : Option Value → Heap → List Loc → Prop) : State → Outcome → Prop := fun U' o => ∃ v L, o = .returned v ∧ Q v U'.heap L ∧ FrameEnd s o U' L C S
/-- a body that writes nothing: its value, the heap as it was -/
def own_P (h0 : Heap) (n0 : Nat) (w : Value) (v : Option Value) (h : Heap) (L : List Loc) : Prop := v = some w ∧ Fr n0 L ∧ h = h0
theorem own_out (X : Stand p l e R s m args below meth c T locs cells slots) {v : Option Value} {Q : Option Value → Heap → List Loc → Prop} {C S : Nat} {g : JFrame}
    (hv : meth.sig.returnType = none → v = none) (hlocks : meth.locks = false)
    (st : ∀ fs, (∀ (f : JFrame) (acts : List Action), f.method = m → f.locked = none → f.entered = [] → (doReturn e (T.setTop f) acts v).1 = T.setFrames fs) → Steps p.tables e below (T.setTop g) (T.setFrames fs))
    (hQ : Q v T.heap locs) (hc : cells ≤ C) (hs : slots ≤ S) : own_Fin p e below (own_A s C S Q) (T.setTop g) := by
  obtain ⟨fs, hr, hrun, hended, hW, hsame⟩ := X.leave (v := v) hv hlocks
  exact ⟨_, _, st fs hr, hrun, hended, _, _, rfl, hQ, ⟨_, rfl⟩, hW, hsame.mono hc hs⟩
end New
end Jvm.RoadKit
namespace Jvm.Pilot.@@N@@
open Jvm Jvm.ClassFile Sem Op Lib Jvm.Free Jvm.Stand Jvm.LawKit Jvm.RoadKit Bundle Jvm.Pilot.@@N@@.Jvm.D
theorem d2_0 : decode jdk_29_method_70_code 0 = .ok (.lload_n 0, 1) := by decide +kernel
theorem d2_1 : decode jdk_29_method_70_code 1 = .ok (.lload_n 2, 1) := by decide +kernel
theorem d2_2 : decode jdk_29_method_70_code 2 = .ok (.lcmp, 1) := by decide +kernel
theorem d2_3 : decode jdk_29_method_70_code 3 = .ok (.ifCond .gt 7, 3) := by decide +kernel
theorem d2_6 : decode jdk_29_method_70_code 6 = .ok (.lload_n 0, 1) := by decide +kernel
theorem d2_7 : decode jdk_29_method_70_code 7 = .ok (.goto 4, 3) := by decide +kernel
theorem d2_10 : decode jdk_29_method_70_code 10 = .ok (.lload_n 2, 1) := by decide +kernel
theorem d2_11 : decode jdk_29_method_70_code 11 = .ok (.lreturn, 1) := by decide +kernel
theorem ef_2 (m : MethodId) (x0 : Int64) (x1 : Int64)  : entryFrame m #[(.long x0), (.long x1)] 4 = mkF m 0 #[.val (.long x0), .second, .val (.long x1), .second] [] := by first | (simp [entryFrame, mkF, argsToLocals, Value.category]; done) | rfl
def own_mn_3 (q1 : Int64) (q2 : Int64) : Int64 := if q2 < q1 then q2 else q1
set_option maxRecDepth 65536 in
set_option maxHeartbeats 40000000 in
theorem rm2 (l : Launch) (Z : State) (a0 : Array Value) (hw : ∀ d ∈ tables_1, d.before a0 Z = true) (ws : List Jvm.Cond) (q1 : Int64) (q2 : Int64) (h0 : Heap) (n0 : Nat) (Z0 : n0 ≤ h0.size) :
    MetFree l (⟨"java/lang/Math", "min", "(JJ)J"⟩ : MethodName) (head1 (Jvm.Cond.code (⟨"java/lang/Math", "min", "(JJ)J"⟩ : MethodName) jdk_29_method_70_code 4 (some .long) :: ws) ({ frames := 0, cells := 0, slots := 0, locals := 0 } : Room)) (fun a U => a = #[(.long q1), (.long q2)] ∧ Z.Warmed39 U.vm ∧ U.heap = h0) (fun _ _ _ _ _ => True) (fun _ U o U' => ∃ v L, o = .returned v ∧ (own_P h0 n0 (.long (own_mn_3 q1 q2))) v U'.heap L ∧ FrameEnd U o U' L ({ frames := 0, cells := 0, slots := 0, locals := 0 } : Room).cells ({ frames := 0, cells := 0, slots := 0, locals := 0 } : Room).slots) := by
  refine MetFree.of_bodySF (Jvm.Free.JP.mathPlain rfl (by decide +kernel)) hisR ?_
  intro p e s m args below meth c s₁ Bd hml0 hP hK
  obtain ⟨rfl, hZ, hh⟩ := hP
  have hx := Bd.exec
  have hby := Bd.bytes
  have hml : c.maxLocals = 4 := hml0
  have hown : s.vm.findClass "java/lang/Math" = some m.cls := findClass_of_methodNamed Bd.named
  have hnm := (name_of_methodNamed Bd.named Bd.method).1
  have X0 : Stand p l e ({ frames := 0, cells := 0, slots := 0, locals := 0 } : Room) s m #[(.long q1), (.long q2)] below meth c s₁ [] 0 0 := Stand.of_body Bd
  have e0 : s₁.heap = h0 := by rw [← hh, Bd.state]; rfl
  have N0 := Fr.nil n0
  show own_Fin p e below (own_A s ({ frames := 0, cells := 0, slots := 0, locals := 0 } : Room).cells ({ frames := 0, cells := 0, slots := 0, locals := 0 } : Room).slots (own_P h0 n0 (.long (own_mn_3 q1 q2)))) _
  refine own_go (fun t k => castTop (ef_2 m (q1) (q2)) k) ?_
  show own_Fin p e below _ (s₁.setTop (mkF m 0 #[.val (.long q1), .second, .val (.long q2), .second] []))
  refine own_go (fun t k => XS.lloadN X0.here hx rfl (hb hby d2_0) rfl  (XS.lloadN X0.here hx rfl (hb hby d2_1) rfl  (XS.lcmp X0.here hx rfl (hb hby d2_2) rfl k))) ?_
  show own_Fin p e below _ (s₁.setTop (mkF m 3 #[.val (.long q1), .second, .val (.long q2), .second] [(.int (lcmpW q1 q2))]))
  by_cases hc1 : q2 < q1
  · skip
    rw [(show (own_mn_3 q1 q2) = q2 from if_pos hc1)]
    refine own_go (fun t k => XS.ifYes X0.here hx rfl (pc0 := 3) (pc' := 10) rfl (hb hby d2_3) rfl ((if0 _ _).trans (tlt ((lw_gt _ _).mpr hc1)).2.2.1) (by decide) (by decide) (XS.lloadN X0.here hx rfl (hb hby d2_10) rfl  k)) ?_
    show own_Fin p e below _ (s₁.setTop (mkF m 11 #[.val (.long q1), .second, .val (.long q2), .second] [(.long q2)]))
    exact own_out X0 (fun h => by rw [Bd.returns] at h; cases h) Bd.notSynchronized (fun fs hr => retOut X0 hx Bd.returns rfl (Or.inr (Or.inl ⟨rfl, rfl, _, rfl⟩)) (hb hby d2_11) hr) ⟨rfl, N0, e0⟩ (by decide) (by decide)
  · skip
    rw [(show (own_mn_3 q1 q2) = q1 from if_neg hc1)]
    refine own_go (fun t k => XS.ifNo X0.here hx rfl (hb hby d2_3) rfl ((if0 _ _).trans (flt (fun q => hc1 ((lw_gt _ _).mp q))).2.2.1) (XS.lloadN X0.here hx rfl (hb hby d2_6) rfl  (XS.goto X0.here hx rfl (pc0 := 7) (pc' := 11) rfl (hb hby d2_7) (by decide) (by decide) k))) ?_
    show own_Fin p e below _ (s₁.setTop (mkF m 11 #[.val (.long q1), .second, .val (.long q2), .second] [(.long q1)]))
    exact own_out X0 (fun h => by rw [Bd.returns] at h; cases h) Bd.notSynchronized (fun fs hr => retOut X0 hx Bd.returns rfl (Or.inr (Or.inl ⟨rfl, rfl, _, rfl⟩)) (hb hby d2_11) hr) ⟨rfl, N0, e0⟩ (by decide) (by decide)
theorem pd_0 : parseMethodDescriptor "(JJ)J" = some ⟨[.long, .long], some .long⟩ := by decide +kernel
theorem d1_0 : decode prog_50_method_2_code 0 = .ok (.lload_n 0, 1) := by decide +kernel
theorem d1_1 : decode prog_50_method_2_code 1 = .ok (.ldc2_w 46, 3) := by decide +kernel
theorem d1_4 : decode prog_50_method_2_code 4 = .ok (.ldiv, 1) := by decide +kernel
theorem d1_5 : decode prog_50_method_2_code 5 = .ok (.ldc2_w 48, 3) := by decide +kernel
theorem d1_8 : decode prog_50_method_2_code 8 = .ok (.invokestatic 50, 3) := by decide +kernel
theorem d1_11 : decode prog_50_method_2_code 11 = .ok (.l2i, 1) := by decide +kernel
theorem d1_12 : decode prog_50_method_2_code 12 = .ok (.ireturn, 1) := by decide +kernel
theorem pn_0 : plainName "com/example/abonarium/abonarium/core/PeriodUnits" = true := by first | (simp [plainName, overriddenIn]; done) | decide +kernel
theorem ef_1 (m : MethodId) (x0 : Int64)  : entryFrame m #[(.long x0)] 2 = mkF m 0 #[.val (.long x0), .second] [] := by first | (simp [entryFrame, mkF, argsToLocals, Value.category]; done) | rfl
set_option maxRecDepth 65536 in
set_option maxHeartbeats 40000000 in
theorem rm1 (l : Launch) (Z : State) (a0 : Array Value) (hw : ∀ d ∈ tables_1, d.before a0 Z = true) (ws : List Jvm.Cond) (q1 : Int64) (h0 : Heap) (n0 : Nat) (Z0 : n0 ≤ h0.size) :
    MetFree l (⟨"com/example/abonarium/abonarium/core/PeriodUnits", "entriesIn", "(J)I"⟩ : MethodName) (head1 (Jvm.Cond.code (⟨"com/example/abonarium/abonarium/core/PeriodUnits", "entriesIn", "(J)I"⟩ : MethodName) prog_50_method_2_code 2 (some .int) :: ws) ({ frames := 1, cells := 0, slots := 0, locals := 15 } : Room)) (fun a U => a = #[(.long q1)] ∧ Z.Warmed39 U.vm ∧ U.heap = h0) (fun _ _ _ _ _ => True) (fun _ U o U' => ∃ v L, o = .returned v ∧ (own_P h0 n0 (.int ((own_mn_3 (q1 / (24 : Int64)) (1073741824 : Int64)).toInt32))) v U'.heap L ∧ FrameEnd U o U' L ({ frames := 1, cells := 0, slots := 0, locals := 15 } : Room).cells ({ frames := 1, cells := 0, slots := 0, locals := 15 } : Room).slots) := by
  refine MetFree.of_bodySF (plainFor_of_name pn_0) hisR ?_
  intro p e s m args below meth c s₁ Bd hml0 hP hK
  obtain ⟨rfl, hZ, hh⟩ := hP
  have hx := Bd.exec
  have hby := Bd.bytes
  have hml : c.maxLocals = 2 := hml0
  have hown : s.vm.findClass "com/example/abonarium/abonarium/core/PeriodUnits" = some m.cls := findClass_of_methodNamed Bd.named
  have hnm := (name_of_methodNamed Bd.named Bd.method).1
  have X0 : Stand p l e ({ frames := 1, cells := 0, slots := 0, locals := 15 } : Room) s m #[(.long q1)] below meth c s₁ [] 0 0 := Stand.of_body Bd
  have e0 : s₁.heap = h0 := by rw [← hh, Bd.state]; rfl
  have N0 := Fr.nil n0
  have hw_6 := hw _ (List.mem_of_getElem? (i := 6) rfl)
  have hw_7 := hw _ (List.mem_of_getElem? (i := 7) rfl)
  have hw_8 := hw _ (List.mem_of_getElem? (i := 8) rfl)
  have hw_9 := hw _ (List.mem_of_getElem? (i := 9) rfl)
  have hw_10 := hw _ (List.mem_of_getElem? (i := 10) rfl)
  have hw_11 := hw _ (List.mem_of_getElem? (i := 11) rfl)
  show own_Fin p e below (own_A s ({ frames := 1, cells := 0, slots := 0, locals := 15 } : Room).cells ({ frames := 1, cells := 0, slots := 0, locals := 15 } : Room).slots (own_P h0 n0 (.int ((own_mn_3 (q1 / (24 : Int64)) (1073741824 : Int64)).toInt32)))) _
  refine own_go (fun t k => castTop (ef_1 m (q1)) k) ?_
  show own_Fin p e below _ (s₁.setTop (mkF m 0 #[.val (.long q1), .second] []))
  refine own_go (fun t k => XS.lloadN X0.here hx rfl (hb hby d1_0) rfl  k) ?_
  show own_Fin p e below _ (s₁.setTop (mkF m 1 #[.val (.long q1), .second] [(.long q1)]))
  refine own_go (fun t k => X0.ldc2Long hx hown (mvT hZ hw_6) (g := (mkF m 1 #[.val (.long q1), .second] [(.long q1)])) rfl (hb hby d1_1) _ (XS.ldiv X0.here hx rfl (hb hby d1_4) rfl (by decide) k)) ?_
  show own_Fin p e below _ (s₁.setTop (mkF m 5 #[.val (.long q1), .second] [(.long (q1 / (24 : Int64)))]))
  refine own_go (fun t k => X0.ldc2Long hx hown (mvT hZ hw_7) (g := (mkF m 5 #[.val (.long q1), .second] [(.long (q1 / (24 : Int64)))])) rfl (hb hby d1_5) _ k) ?_
  show own_Fin p e below _ (s₁.setTop (mkF m 8 #[.val (.long q1), .second] [(.long (1073741824 : Int64)), (.long (q1 / (24 : Int64)))]))
  obtain ⟨_, _, ⟨T1, L1, k1, n1⟩, -, X1, ⟨Lc1, hQ1, l1, y1, z1⟩, st1⟩ := Jvm.LawKit.callS X0 hx (y := (⟨"java/lang/Math", "min", "(JJ)J"⟩ : MethodName)) hown (mvT hZ hw_8) (mvT hZ hw_9) (mvT hZ hw_10) (mvT hZ hw_11) (by decide) (backOf (W := 0) (rm2 l Z a0 hw [] ((q1 / (24 : Int64))) ((1073741824 : Int64))  h0 n0 Z0 ) hZ hw_11 hw_10 (by decide) (by decide)) (g := (mkF m 8 #[.val (.long q1), .second] [(.long (1073741824 : Int64)), (.long (q1 / (24 : Int64)))])) rfl (by rw [hml]; rfl) (argsL := [(.long (q1 / (24 : Int64))), (.long (1073741824 : Int64))]) (rest := []) (lenOf pd_0 rfl) rfl (by show 2 * 0 + _ ≤ _; exact Nat.le_of_eq rfl) (hb hby d1_8) (fun _ _ => ⟨rfl, e0, (by decide : 0 + 0 ≤ _), (by decide : 0 + 0 ≤ _)⟩)
  dsimp only [Pt.U, Pt.locs, Pt.cells, Pt.slots] at X1 l1 y1 z1 st1 hQ1
  subst l1 y1 z1
  obtain ⟨rfl, N1q, e1⟩ := hQ1
  have N1 := Fr.app N0 N1q
  refine own_go st1 ?_
  show own_Fin p e below _ (T1.setTop (mkF m 11 #[.val (.long q1), .second] [(.long (own_mn_3 (q1 / (24 : Int64)) (1073741824 : Int64)))]))
  refine own_go (fun t k => XS.l2i X1.here hx rfl (hb hby d1_11) rfl k) ?_
  show own_Fin p e below _ (T1.setTop (mkF m 12 #[.val (.long q1), .second] [(.int ((own_mn_3 (q1 / (24 : Int64)) (1073741824 : Int64)).toInt32))]))
  exact own_out X1 (fun h => by rw [Bd.returns] at h; cases h) Bd.notSynchronized (fun fs hr => retI X1 hx Bd.returns (hb hby d1_12) hr) ⟨rfl, N1, e1⟩ (by decide) (by decide)
theorem own_k0 (q : Int64) : 0 ≤ (q &&& (9223372036854775807 : Int64)).toInt := by have := c_maskL q 9223372036854775807 63 (by decide) (by decide); omega
theorem own_k1 (q : Int64) : 0 ≤ (q &&& (34359738367 : Int64)).toInt := by have := c_maskL q 34359738367 35 (by decide) (by decide); omega
theorem own_k2 (q : Int64) : 0 ≤ (q &&& (255 : Int64)).toInt := by have := c_maskL q 255 8 (by decide) (by decide); omega
theorem own_k3 (q : Int64) : 0 ≤ ((25769803712 : Int64) + (q &&& (127 : Int64))).toInt := by
  have a := c_maskL q 127 7 (by decide) (by decide)
  have b := c_ladd (25769803712 : Int64) (q &&& (127 : Int64))
  have c := rng64 ((25769803712 : Int64) + (q &&& (127 : Int64)))
  have d : (25769803712 : Int64).toInt = 25769803712 := rfl
  omega
theorem own_r {y : Int64} (hy : 0 ≤ y.toInt) : (((own_mn_3 (y / (24 : Int64)) (1073741824 : Int64)).toInt32).toInt = y.toInt / 24 ∧ y.toInt / 24 ≤ 1073741824) ∨ (((own_mn_3 (y / (24 : Int64)) (1073741824 : Int64)).toInt32).toInt = 1073741824 ∧ 1073741824 < y.toInt / 24) := by
  have d := (c_ldiv y 24 24 rfl (by decide)).1 hy
  have c := c_l2i (own_mn_3 (y / (24 : Int64)) (1073741824 : Int64))
  have r := rng32 ((own_mn_3 (y / (24 : Int64)) (1073741824 : Int64)).toInt32)
  have e : (1073741824 : Int64).toInt = 1073741824 := rfl
  by_cases q : (1073741824 : Int64) < y / 24
  · rw [(show own_mn_3 (y / (24 : Int64)) (1073741824 : Int64) = (1073741824 : Int64) from if_pos q)] at c r ⊢
    rw [Int64.lt_iff_toInt_lt] at q
    exact Or.inr ⟨by omega, by omega⟩
  · rw [(show own_mn_3 (y / (24 : Int64)) (1073741824 : Int64) = y / 24 from if_neg q)] at c r ⊢
    rw [Int64.lt_iff_toInt_lt] at q
    exact Or.inl ⟨by omega, by omega⟩
theorem own_b76 {y : Int64} (hy : 0 ≤ y.toInt) : ¬ ((own_mn_3 (y / (24 : Int64)) (1073741824 : Int64)).toInt32) < (0 : Int32) := by
  rw [Int32.lt_iff_toInt_lt]
  have e : (0 : Int32).toInt = 0 := rfl
  rcases own_r hy with h | h <;> omega
theorem own_b84 {y : Int64} (hy : 0 ≤ y.toInt) : ¬ (1073741824 : Int64) < (((own_mn_3 (y / (24 : Int64)) (1073741824 : Int64)).toInt32).toInt64) := by
  rw [Int64.lt_iff_toInt_lt, c_i2l]
  have e : (1073741824 : Int64).toInt = 1073741824 := rfl
  rcases own_r hy with h | h <;> omega
theorem own_b111 {y : Int64} (hy : 0 ≤ y.toInt) (h : (((own_mn_3 (y / (24 : Int64)) (1073741824 : Int64)).toInt32).toInt64) < (1073741824 : Int64)) : ¬ y < ((((own_mn_3 (y / (24 : Int64)) (1073741824 : Int64)).toInt32).toInt64) * (24 : Int64)) := by
  rw [Int64.lt_iff_toInt_lt] at h ⊢
  have c := c_lmul (((own_mn_3 (y / (24 : Int64)) (1073741824 : Int64)).toInt32).toInt64) 24
  have r := rng64 ((((own_mn_3 (y / (24 : Int64)) (1073741824 : Int64)).toInt32).toInt64) * 24)
  have e : (1073741824 : Int64).toInt = 1073741824 := rfl
  have e2 : (24 : Int64).toInt = 24 := rfl
  rw [c_i2l] at c h
  rw [e2] at c
  have w := own_r hy
  omega
theorem own_b123 {y : Int64} (hy : 0 ≤ y.toInt) (h : (((own_mn_3 (y / (24 : Int64)) (1073741824 : Int64)).toInt32).toInt64) < (1073741824 : Int64)) : y < (((((own_mn_3 (y / (24 : Int64)) (1073741824 : Int64)).toInt32).toInt64) * (24 : Int64)) + (24 : Int64)) := by
  rw [Int64.lt_iff_toInt_lt] at h ⊢
  have c := c_lmul (((own_mn_3 (y / (24 : Int64)) (1073741824 : Int64)).toInt32).toInt64) 24
  have r := rng64 ((((own_mn_3 (y / (24 : Int64)) (1073741824 : Int64)).toInt32).toInt64) * 24)
  have c2 := c_ladd ((((own_mn_3 (y / (24 : Int64)) (1073741824 : Int64)).toInt32).toInt64) * 24) 24
  have r2 := rng64 (((((own_mn_3 (y / (24 : Int64)) (1073741824 : Int64)).toInt32).toInt64) * 24) + 24)
  have e : (1073741824 : Int64).toInt = 1073741824 := rfl
  have e2 : (24 : Int64).toInt = 24 := rfl
  rw [c_i2l] at c h
  rw [e2] at c c2
  have w := own_r hy
  omega
theorem own_b140 {y : Int64} (hy : 0 ≤ y.toInt) (h : ¬ (((own_mn_3 (y / (24 : Int64)) (1073741824 : Int64)).toInt32).toInt64) < (1073741824 : Int64)) : ¬ y < ((24 : Int64) * (1073741824 : Int64)) := by
  rw [Int64.lt_iff_toInt_lt] at h ⊢
  rw [c_i2l] at h
  have e : (1073741824 : Int64).toInt = 1073741824 := rfl
  have e2 : ((24 : Int64) * (1073741824 : Int64)).toInt = 25769803776 := rfl
  have w := own_r hy
  omega

theorem pd_1 : parseMethodDescriptor "(J)I" = some ⟨[.long], some .int⟩ := by decide +kernel
theorem pn_1 : plainName "com/example/abonarium/abonarium/core/PeriodUnitsEntriesInPinLaw" = true := by first | (simp [plainName, overriddenIn]; done) | decide +kernel
theorem ef_0 (m : MethodId) (x0 : Int64) (x1 : Int32)  : entryFrame m #[(.long x0), (.int x1)] maxLocals = mkF m 0 #[.val (.long x0), .second, .val (.int x1), .unset, .unset, .unset, .unset, .unset, .unset, .unset, .unset] [] := by first | (simp [entryFrame, mkF, argsToLocals, Value.category, maxLocals]; done) | rfl
set_option maxRecDepth 65536 in
set_option maxHeartbeats 40000000 in
theorem rm0 (l : Launch) (Z : State) (a0 : Array Value) (hw : ∀ d ∈ tables_1, d.before a0 Z = true) (ws : List Jvm.Cond) (q1 : Int64) (p2 : Int32) (h0 : Heap) (n0 : Nat) (Z0 : n0 ≤ h0.size) :
    MetFree l x (head1 (Jvm.Cond.code x code maxLocals ret :: ws) room_1) (fun a U => a = #[(.long q1), (.int p2)] ∧ Z.Warmed39 U.vm ∧ U.heap = h0) (fun _ _ _ _ _ => True) (fun _ U o U' => ∃ v L, o = .returned v ∧ (fun v h L => v = some (.int (1 : Int32)) ∧ Fr n0 L) v U'.heap L ∧ FrameEnd U o U' L room_1.cells room_1.slots) := by
  refine MetFree.of_bodySF (plainFor_of_name pn_1) hisR ?_
  intro p e s m args below meth c s₁ Bd hml0 hP hK
  obtain ⟨rfl, hZ, hh⟩ := hP
  have hx := Bd.exec
  have hby := Bd.bytes
  have hml : c.maxLocals = 11 := hml0
  have hown : s.vm.findClass "com/example/abonarium/abonarium/core/PeriodUnitsEntriesInPinLaw" = some m.cls := findClass_of_methodNamed Bd.named
  have hnm := (name_of_methodNamed Bd.named Bd.method).1
  have X0 : Stand p l e room_1 s m #[(.long q1), (.int p2)] below meth c s₁ [] 0 0 := Stand.of_body Bd
  have e0 : s₁.heap = h0 := by rw [← hh, Bd.state]; rfl
  have N0 := Fr.nil n0
  have hw_0 := hw _ (List.mem_of_getElem? (i := 0) rfl)
  have hw_1 := hw _ (List.mem_of_getElem? (i := 1) rfl)
  have hw_2 := hw _ (List.mem_of_getElem? (i := 2) rfl)
  have hw_3 := hw _ (List.mem_of_getElem? (i := 3) rfl)
  have hw_4 := hw _ (List.mem_of_getElem? (i := 4) rfl)
  have hw_5 := hw _ (List.mem_of_getElem? (i := 5) rfl)
  have hw_12 := hw _ (List.mem_of_getElem? (i := 12) rfl)
  have hw_13 := hw _ (List.mem_of_getElem? (i := 13) rfl)
  have hw_14 := hw _ (List.mem_of_getElem? (i := 14) rfl)
  have hw_15 := hw _ (List.mem_of_getElem? (i := 15) rfl)
  have hw_16 := hw _ (List.mem_of_getElem? (i := 16) rfl)
  show own_Fin p e below (own_A s room_1.cells room_1.slots (fun v h L => v = some (.int (1 : Int32)) ∧ Fr n0 L)) _
  refine own_go (fun t k => castTop (ef_0 m (q1) (p2)) k) ?_
  show own_Fin p e below _ (s₁.setTop (mkF m 0 #[.val (.long q1), .second, .val (.int p2), .unset, .unset, .unset, .unset, .unset, .unset, .unset, .unset] []))
  refine own_go (fun t k => X0.ldc2Long hx hown (mvT hZ hw_0) (g := (mkF m 0 #[.val (.long q1), .second, .val (.int p2), .unset, .unset, .unset, .unset, .unset, .unset, .unset, .unset] [])) rfl (hb hby at_0) _ (XS.lstoreN X0.here hx rfl (hb hby at_3) rfl (l' := #[.val (.long q1), .second, .val (.int p2), .val (.long (1073741824 : Int64)), .second, .unset, .unset, .unset, .unset, .unset, .unset]) rfl (XS.iloadN X0.here hx rfl (hb hby at_4) rfl  (XS.iconst X0.here hx rfl (hb hby at_5) k)))) ?_
  show own_Fin p e below _ (s₁.setTop (mkF m 6 #[.val (.long q1), .second, .val (.int p2), .val (.long (1073741824 : Int64)), .second, .unset, .unset, .unset, .unset, .unset, .unset] [(.int (3 : Int32)), (.int p2)]))
  refine own_go (fun t k => XS.iand X0.here hx rfl (hb hby at_6) rfl (XS.istore X0.here hx rfl (hb hby at_7) rfl (l' := #[.val (.long q1), .second, .val (.int p2), .val (.long (1073741824 : Int64)), .second, .unset, .unset, .val (.int (p2 &&& (3 : Int32))), .unset, .unset, .unset]) rfl k)) ?_
  show own_Fin p e below _ (s₁.setTop (mkF m 9 #[.val (.long q1), .second, .val (.int p2), .val (.long (1073741824 : Int64)), .second, .unset, .unset, .val (.int (p2 &&& (3 : Int32))), .unset, .unset, .unset] []))
  have Jn1 : ∀ (y : Int64) (hy : 0 ≤ y.toInt), own_Fin p e below (own_A s room_1.cells room_1.slots (fun v h L => v = some (.int (1 : Int32)) ∧ Fr n0 L)) (s₁.setTop (mkF m 67 #[.val (.long q1), .second, .val (.int p2), .val (.long (1073741824 : Int64)), .second, .val (.long y), .second, .val (.int (p2 &&& (3 : Int32))), .unset, .unset, .unset] [])) := by
    intro y hy
    refine own_go (fun t k => XS.lload X0.here hx rfl (hb hby at_67) rfl  k) ?_
    show own_Fin p e below _ (s₁.setTop (mkF m 69 #[.val (.long q1), .second, .val (.int p2), .val (.long (1073741824 : Int64)), .second, .val (.long y), .second, .val (.int (p2 &&& (3 : Int32))), .unset, .unset, .unset] [(.long y)]))
    obtain ⟨_, _, ⟨T2, L2, k2, n2⟩, -, X2, ⟨Lc2, hQ2, l2, y2, z2⟩, st2⟩ := Jvm.LawKit.callS X0 hx (y := (⟨"com/example/abonarium/abonarium/core/PeriodUnits", "entriesIn", "(J)I"⟩ : MethodName)) hown (mvT hZ hw_2) (mvT hZ hw_3) (mvT hZ hw_4) (mvT hZ hw_5) (by decide) (backOf (W := 0) (rm1 l Z a0 hw [] (y)  h0 n0 Z0 ) hZ hw_5 hw_4 (by decide) (by decide)) (g := (mkF m 69 #[.val (.long q1), .second, .val (.int p2), .val (.long (1073741824 : Int64)), .second, .val (.long y), .second, .val (.int (p2 &&& (3 : Int32))), .unset, .unset, .unset] [(.long y)])) rfl (by rw [hml]; rfl) (argsL := [(.long y)]) (rest := []) (lenOf pd_1 rfl) rfl (by show 2 * 0 + _ ≤ _; exact Nat.le_of_eq rfl) (hb hby at_69) (fun _ _ => ⟨rfl, e0, (by decide : 0 + 0 ≤ _), (by decide : 0 + 0 ≤ _)⟩)
    dsimp only [Pt.U, Pt.locs, Pt.cells, Pt.slots] at X2 l2 y2 z2 st2 hQ2
    subst l2 y2 z2
    obtain ⟨rfl, N2q, e2⟩ := hQ2
    have N2 := Fr.app N0 N2q
    refine own_go st2 ?_
    show own_Fin p e below _ (T2.setTop (mkF m 72 #[.val (.long q1), .second, .val (.int p2), .val (.long (1073741824 : Int64)), .second, .val (.long y), .second, .val (.int (p2 &&& (3 : Int32))), .unset, .unset, .unset] [(.int ((own_mn_3 (y / (24 : Int64)) (1073741824 : Int64)).toInt32))]))
    refine own_go (fun t k => XS.istore X2.here hx rfl (hb hby at_72) rfl (l' := #[.val (.long q1), .second, .val (.int p2), .val (.long (1073741824 : Int64)), .second, .val (.long y), .second, .val (.int (p2 &&& (3 : Int32))), .val (.int ((own_mn_3 (y / (24 : Int64)) (1073741824 : Int64)).toInt32)), .unset, .unset]) rfl (XS.iload X2.here hx rfl (hb hby at_74) rfl  k)) ?_
    show own_Fin p e below _ (T2.setTop (mkF m 76 #[.val (.long q1), .second, .val (.int p2), .val (.long (1073741824 : Int64)), .second, .val (.long y), .second, .val (.int (p2 &&& (3 : Int32))), .val (.int ((own_mn_3 (y / (24 : Int64)) (1073741824 : Int64)).toInt32)), .unset, .unset] [(.int ((own_mn_3 (y / (24 : Int64)) (1073741824 : Int64)).toInt32))]))
    refine own_go (fun t k => XS.ifNo X2.here hx rfl (hb hby at_76) rfl ((if0 _ _).trans (flt (own_b76 hy)).1) (XS.iload X2.here hx rfl (hb hby at_79) rfl  (XS.i2l X2.here hx rfl (hb hby at_81) rfl (XS.lloadN X2.here hx rfl (hb hby at_82) rfl  k)))) ?_
    show own_Fin p e below _ (T2.setTop (mkF m 83 #[.val (.long q1), .second, .val (.int p2), .val (.long (1073741824 : Int64)), .second, .val (.long y), .second, .val (.int (p2 &&& (3 : Int32))), .val (.int ((own_mn_3 (y / (24 : Int64)) (1073741824 : Int64)).toInt32)), .unset, .unset] [(.long (1073741824 : Int64)), (.long (((own_mn_3 (y / (24 : Int64)) (1073741824 : Int64)).toInt32).toInt64))]))
    refine own_go (fun t k => XS.lcmp X2.here hx rfl (hb hby at_83) rfl k) ?_
    show own_Fin p e below _ (T2.setTop (mkF m 84 #[.val (.long q1), .second, .val (.int p2), .val (.long (1073741824 : Int64)), .second, .val (.long y), .second, .val (.int (p2 &&& (3 : Int32))), .val (.int ((own_mn_3 (y / (24 : Int64)) (1073741824 : Int64)).toInt32)), .unset, .unset] [(.int (lcmpW (((own_mn_3 (y / (24 : Int64)) (1073741824 : Int64)).toInt32).toInt64) (1073741824 : Int64)))]))
    refine own_go (fun t k => XS.ifYes X2.here hx rfl (pc0 := 84) (pc' := 89) rfl (hb hby at_84) rfl ((if0 _ _).trans (flt (fun q => (own_b84 hy) ((lw_gt _ _).mp q))).2.2.2) (by decide) (by decide) (XS.iload X2.here hx rfl (hb hby at_89) rfl  (XS.i2l X2.here hx rfl (hb hby at_91) rfl (XS.lloadN X2.here hx rfl (hb hby at_92) rfl  k)))) ?_
    show own_Fin p e below _ (T2.setTop (mkF m 93 #[.val (.long q1), .second, .val (.int p2), .val (.long (1073741824 : Int64)), .second, .val (.long y), .second, .val (.int (p2 &&& (3 : Int32))), .val (.int ((own_mn_3 (y / (24 : Int64)) (1073741824 : Int64)).toInt32)), .unset, .unset] [(.long (1073741824 : Int64)), (.long (((own_mn_3 (y / (24 : Int64)) (1073741824 : Int64)).toInt32).toInt64))]))
    refine own_go (fun t k => XS.lcmp X2.here hx rfl (hb hby at_93) rfl k) ?_
    show own_Fin p e below _ (T2.setTop (mkF m 94 #[.val (.long q1), .second, .val (.int p2), .val (.long (1073741824 : Int64)), .second, .val (.long y), .second, .val (.int (p2 &&& (3 : Int32))), .val (.int ((own_mn_3 (y / (24 : Int64)) (1073741824 : Int64)).toInt32)), .unset, .unset] [(.int (lcmpW (((own_mn_3 (y / (24 : Int64)) (1073741824 : Int64)).toInt32).toInt64) (1073741824 : Int64)))]))
    by_cases hc3 : (((own_mn_3 (y / (24 : Int64)) (1073741824 : Int64)).toInt32).toInt64) < (1073741824 : Int64)
    · skip
      refine own_go (fun t k => XS.ifNo X2.here hx rfl (hb hby at_94) rfl ((if0 _ _).trans (tlt ((lw_lt _ _).mpr hc3)).2.1) (XS.iload X2.here hx rfl (hb hby at_97) rfl  (XS.i2l X2.here hx rfl (hb hby at_99) rfl k))) ?_
      show own_Fin p e below _ (T2.setTop (mkF m 100 #[.val (.long q1), .second, .val (.int p2), .val (.long (1073741824 : Int64)), .second, .val (.long y), .second, .val (.int (p2 &&& (3 : Int32))), .val (.int ((own_mn_3 (y / (24 : Int64)) (1073741824 : Int64)).toInt32)), .unset, .unset] [(.long (((own_mn_3 (y / (24 : Int64)) (1073741824 : Int64)).toInt32).toInt64))]))
      refine own_go (fun t k => X2.ldc2Long hx hown (mvT hZ hw_12) (g := (mkF m 100 #[.val (.long q1), .second, .val (.int p2), .val (.long (1073741824 : Int64)), .second, .val (.long y), .second, .val (.int (p2 &&& (3 : Int32))), .val (.int ((own_mn_3 (y / (24 : Int64)) (1073741824 : Int64)).toInt32)), .unset, .unset] [(.long (((own_mn_3 (y / (24 : Int64)) (1073741824 : Int64)).toInt32).toInt64))])) rfl (hb hby at_100) _ (XS.lmul X2.here hx rfl (hb hby at_103) rfl (XS.lstore X2.here hx rfl (hb hby at_104) rfl (l' := #[.val (.long q1), .second, .val (.int p2), .val (.long (1073741824 : Int64)), .second, .val (.long y), .second, .val (.int (p2 &&& (3 : Int32))), .val (.int ((own_mn_3 (y / (24 : Int64)) (1073741824 : Int64)).toInt32)), .val (.long ((((own_mn_3 (y / (24 : Int64)) (1073741824 : Int64)).toInt32).toInt64) * (24 : Int64))), .second]) rfl (XS.lload X2.here hx rfl (hb hby at_106) rfl  k)))) ?_
      show own_Fin p e below _ (T2.setTop (mkF m 108 #[.val (.long q1), .second, .val (.int p2), .val (.long (1073741824 : Int64)), .second, .val (.long y), .second, .val (.int (p2 &&& (3 : Int32))), .val (.int ((own_mn_3 (y / (24 : Int64)) (1073741824 : Int64)).toInt32)), .val (.long ((((own_mn_3 (y / (24 : Int64)) (1073741824 : Int64)).toInt32).toInt64) * (24 : Int64))), .second] [(.long ((((own_mn_3 (y / (24 : Int64)) (1073741824 : Int64)).toInt32).toInt64) * (24 : Int64)))]))
      refine own_go (fun t k => XS.lload X2.here hx rfl (hb hby at_108) rfl  (XS.lcmp X2.here hx rfl (hb hby at_110) rfl k)) ?_
      show own_Fin p e below _ (T2.setTop (mkF m 111 #[.val (.long q1), .second, .val (.int p2), .val (.long (1073741824 : Int64)), .second, .val (.long y), .second, .val (.int (p2 &&& (3 : Int32))), .val (.int ((own_mn_3 (y / (24 : Int64)) (1073741824 : Int64)).toInt32)), .val (.long ((((own_mn_3 (y / (24 : Int64)) (1073741824 : Int64)).toInt32).toInt64) * (24 : Int64))), .second] [(.int (lcmpW ((((own_mn_3 (y / (24 : Int64)) (1073741824 : Int64)).toInt32).toInt64) * (24 : Int64)) y))]))
      refine own_go (fun t k => XS.ifNo X2.here hx rfl (hb hby at_111) rfl ((if0 _ _).trans (flt (fun q => (own_b111 hy hc3) ((lw_gt _ _).mp q))).2.2.1) (XS.lload X2.here hx rfl (hb hby at_114) rfl  (XS.lload X2.here hx rfl (hb hby at_116) rfl  k))) ?_
      show own_Fin p e below _ (T2.setTop (mkF m 118 #[.val (.long q1), .second, .val (.int p2), .val (.long (1073741824 : Int64)), .second, .val (.long y), .second, .val (.int (p2 &&& (3 : Int32))), .val (.int ((own_mn_3 (y / (24 : Int64)) (1073741824 : Int64)).toInt32)), .val (.long ((((own_mn_3 (y / (24 : Int64)) (1073741824 : Int64)).toInt32).toInt64) * (24 : Int64))), .second] [(.long ((((own_mn_3 (y / (24 : Int64)) (1073741824 : Int64)).toInt32).toInt64) * (24 : Int64))), (.long y)]))
      refine own_go (fun t k => X2.ldc2Long hx hown (mvT hZ hw_12) (g := (mkF m 118 #[.val (.long q1), .second, .val (.int p2), .val (.long (1073741824 : Int64)), .second, .val (.long y), .second, .val (.int (p2 &&& (3 : Int32))), .val (.int ((own_mn_3 (y / (24 : Int64)) (1073741824 : Int64)).toInt32)), .val (.long ((((own_mn_3 (y / (24 : Int64)) (1073741824 : Int64)).toInt32).toInt64) * (24 : Int64))), .second] [(.long ((((own_mn_3 (y / (24 : Int64)) (1073741824 : Int64)).toInt32).toInt64) * (24 : Int64))), (.long y)])) rfl (hb hby at_118) _ (XS.ladd X2.here hx rfl (hb hby at_121) rfl (XS.lcmp X2.here hx rfl (hb hby at_122) rfl k))) ?_
      show own_Fin p e below _ (T2.setTop (mkF m 123 #[.val (.long q1), .second, .val (.int p2), .val (.long (1073741824 : Int64)), .second, .val (.long y), .second, .val (.int (p2 &&& (3 : Int32))), .val (.int ((own_mn_3 (y / (24 : Int64)) (1073741824 : Int64)).toInt32)), .val (.long ((((own_mn_3 (y / (24 : Int64)) (1073741824 : Int64)).toInt32).toInt64) * (24 : Int64))), .second] [(.int (lcmpW y (((((own_mn_3 (y / (24 : Int64)) (1073741824 : Int64)).toInt32).toInt64) * (24 : Int64)) + (24 : Int64))))]))
      refine own_go (fun t k => XS.ifNo X2.here hx rfl (hb hby at_123) rfl ((if0 _ _).trans (tlt ((lw_lt _ _).mpr (own_b123 hy hc3))).2.1) (XS.iconst X2.here hx rfl (hb hby at_126) (XS.goto X2.here hx rfl (pc0 := 127) (pc' := 131) rfl (hb hby at_127) (by decide) (by decide) k))) ?_
      show own_Fin p e below _ (T2.setTop (mkF m 131 #[.val (.long q1), .second, .val (.int p2), .val (.long (1073741824 : Int64)), .second, .val (.long y), .second, .val (.int (p2 &&& (3 : Int32))), .val (.int ((own_mn_3 (y / (24 : Int64)) (1073741824 : Int64)).toInt32)), .val (.long ((((own_mn_3 (y / (24 : Int64)) (1073741824 : Int64)).toInt32).toInt64) * (24 : Int64))), .second] [(.int (1 : Int32))]))
      exact own_out X2 (fun h => by rw [Bd.returns] at h; cases h) Bd.notSynchronized (fun fs hr => retN X2 hx (t := .boolean) Bd.returns (by simp) (hb hby at_131) hr) ⟨rfl, N2⟩ (by decide) (by decide)
    · skip
      refine own_go (fun t k => XS.ifYes X2.here hx rfl (pc0 := 94) (pc' := 132) rfl (hb hby at_94) rfl ((if0 _ _).trans (flt (fun q => hc3 ((lw_lt _ _).mp q))).2.1) (by decide) (by decide) (XS.lload X2.here hx rfl (hb hby at_132) rfl  k)) ?_
      show own_Fin p e below _ (T2.setTop (mkF m 134 #[.val (.long q1), .second, .val (.int p2), .val (.long (1073741824 : Int64)), .second, .val (.long y), .second, .val (.int (p2 &&& (3 : Int32))), .val (.int ((own_mn_3 (y / (24 : Int64)) (1073741824 : Int64)).toInt32)), .unset, .unset] [(.long y)]))
      refine own_go (fun t k => X2.ldc2Long hx hown (mvT hZ hw_12) (g := (mkF m 134 #[.val (.long q1), .second, .val (.int p2), .val (.long (1073741824 : Int64)), .second, .val (.long y), .second, .val (.int (p2 &&& (3 : Int32))), .val (.int ((own_mn_3 (y / (24 : Int64)) (1073741824 : Int64)).toInt32)), .unset, .unset] [(.long y)])) rfl (hb hby at_134) _ (XS.lloadN X2.here hx rfl (hb hby at_137) rfl  (XS.lmul X2.here hx rfl (hb hby at_138) rfl (XS.lcmp X2.here hx rfl (hb hby at_139) rfl k)))) ?_
      show own_Fin p e below _ (T2.setTop (mkF m 140 #[.val (.long q1), .second, .val (.int p2), .val (.long (1073741824 : Int64)), .second, .val (.long y), .second, .val (.int (p2 &&& (3 : Int32))), .val (.int ((own_mn_3 (y / (24 : Int64)) (1073741824 : Int64)).toInt32)), .unset, .unset] [(.int (lcmpW y (25769803776 : Int64)))]))
      refine own_go (fun t k => XS.ifNo X2.here hx rfl (hb hby at_140) rfl ((if0 _ _).trans (flt (fun q => (own_b140 hy hc3) ((lw_lt _ _).mp q))).1) (XS.iconst X2.here hx rfl (hb hby at_143) (XS.goto X2.here hx rfl (pc0 := 144) (pc' := 148) rfl (hb hby at_144) (by decide) (by decide) k))) ?_
      show own_Fin p e below _ (T2.setTop (mkF m 148 #[.val (.long q1), .second, .val (.int p2), .val (.long (1073741824 : Int64)), .second, .val (.long y), .second, .val (.int (p2 &&& (3 : Int32))), .val (.int ((own_mn_3 (y / (24 : Int64)) (1073741824 : Int64)).toInt32)), .unset, .unset] [(.int (1 : Int32))]))
      exact own_out X2 (fun h => by rw [Bd.returns] at h; cases h) Bd.notSynchronized (fun fs hr => retN X2 hx (t := .boolean) Bd.returns (by simp) (hb hby at_148) hr) ⟨rfl, N2⟩ (by decide) (by decide)
  refine own_go (fun t k => XS.iload X0.here hx rfl (hb hby at_9) rfl  k) ?_
  show own_Fin p e below _ (s₁.setTop (mkF m 11 #[.val (.long q1), .second, .val (.int p2), .val (.long (1073741824 : Int64)), .second, .unset, .unset, .val (.int (p2 &&& (3 : Int32))), .unset, .unset, .unset] [(.int (p2 &&& (3 : Int32)))]))
  by_cases hc4 : (p2 &&& (3 : Int32)) = (0 : Int32)
  · skip
    refine own_go (fun t k => XS.ifNo X0.here hx rfl (hb hby at_11) rfl ((if0 _ _).trans (teq hc4).2) (XS.lloadN X0.here hx rfl (hb hby at_14) rfl  k)) ?_
    show own_Fin p e below _ (s₁.setTop (mkF m 15 #[.val (.long q1), .second, .val (.int p2), .val (.long (1073741824 : Int64)), .second, .unset, .unset, .val (.int (p2 &&& (3 : Int32))), .unset, .unset, .unset] [(.long q1)]))
    refine own_go (fun t k => X0.ldc2Long hx hown (mvT hZ hw_13) (g := (mkF m 15 #[.val (.long q1), .second, .val (.int p2), .val (.long (1073741824 : Int64)), .second, .unset, .unset, .val (.int (p2 &&& (3 : Int32))), .unset, .unset, .unset] [(.long q1)])) rfl (hb hby at_15) _ (XS.land X0.here hx rfl (hb hby at_18) rfl (XS.lstore X0.here hx rfl (hb hby at_19) rfl (l' := #[.val (.long q1), .second, .val (.int p2), .val (.long (1073741824 : Int64)), .second, .val (.long (q1 &&& (9223372036854775807 : Int64))), .second, .val (.int (p2 &&& (3 : Int32))), .unset, .unset, .unset]) rfl (XS.goto X0.here hx rfl (pc0 := 21) (pc' := 67) rfl (hb hby at_21) (by decide) (by decide) k)))) ?_
    show own_Fin p e below _ (s₁.setTop (mkF m 67 #[.val (.long q1), .second, .val (.int p2), .val (.long (1073741824 : Int64)), .second, .val (.long (q1 &&& (9223372036854775807 : Int64))), .second, .val (.int (p2 &&& (3 : Int32))), .unset, .unset, .unset] []))
    exact Jn1 ((q1 &&& (9223372036854775807 : Int64))) (own_k0 _)
  · skip
    refine own_go (fun t k => XS.ifYes X0.here hx rfl (pc0 := 11) (pc' := 24) rfl (hb hby at_11) rfl ((if0 _ _).trans (feq hc4).2) (by decide) (by decide) (XS.iload X0.here hx rfl (hb hby at_24) rfl  (XS.iconst X0.here hx rfl (hb hby at_26) k))) ?_
    show own_Fin p e below _ (s₁.setTop (mkF m 27 #[.val (.long q1), .second, .val (.int p2), .val (.long (1073741824 : Int64)), .second, .unset, .unset, .val (.int (p2 &&& (3 : Int32))), .unset, .unset, .unset] [(.int (1 : Int32)), (.int (p2 &&& (3 : Int32)))]))
    by_cases hc5 : (p2 &&& (3 : Int32)) = (1 : Int32)
    · skip
      refine own_go (fun t k => XS.icmpNo X0.here hx rfl (hb hby at_27) rfl (teq hc5).2 (XS.lloadN X0.here hx rfl (hb hby at_30) rfl  k)) ?_
      show own_Fin p e below _ (s₁.setTop (mkF m 31 #[.val (.long q1), .second, .val (.int p2), .val (.long (1073741824 : Int64)), .second, .unset, .unset, .val (.int (p2 &&& (3 : Int32))), .unset, .unset, .unset] [(.long q1)]))
      refine own_go (fun t k => X0.ldc2Long hx hown (mvT hZ hw_16) (g := (mkF m 31 #[.val (.long q1), .second, .val (.int p2), .val (.long (1073741824 : Int64)), .second, .unset, .unset, .val (.int (p2 &&& (3 : Int32))), .unset, .unset, .unset] [(.long q1)])) rfl (hb hby at_31) _ (XS.land X0.here hx rfl (hb hby at_34) rfl (XS.lstore X0.here hx rfl (hb hby at_35) rfl (l' := #[.val (.long q1), .second, .val (.int p2), .val (.long (1073741824 : Int64)), .second, .val (.long (q1 &&& (34359738367 : Int64))), .second, .val (.int (p2 &&& (3 : Int32))), .unset, .unset, .unset]) rfl (XS.goto X0.here hx rfl (pc0 := 37) (pc' := 67) rfl (hb hby at_37) (by decide) (by decide) k)))) ?_
      show own_Fin p e below _ (s₁.setTop (mkF m 67 #[.val (.long q1), .second, .val (.int p2), .val (.long (1073741824 : Int64)), .second, .val (.long (q1 &&& (34359738367 : Int64))), .second, .val (.int (p2 &&& (3 : Int32))), .unset, .unset, .unset] []))
      exact Jn1 ((q1 &&& (34359738367 : Int64))) (own_k1 _)
    · skip
      refine own_go (fun t k => XS.icmpYes X0.here hx rfl (pc0 := 27) (pc' := 40) rfl (hb hby at_27) rfl (feq hc5).2 (by decide) (by decide) (XS.iload X0.here hx rfl (hb hby at_40) rfl  (XS.iconst X0.here hx rfl (hb hby at_42) k))) ?_
      show own_Fin p e below _ (s₁.setTop (mkF m 43 #[.val (.long q1), .second, .val (.int p2), .val (.long (1073741824 : Int64)), .second, .unset, .unset, .val (.int (p2 &&& (3 : Int32))), .unset, .unset, .unset] [(.int (2 : Int32)), (.int (p2 &&& (3 : Int32)))]))
      by_cases hc6 : (p2 &&& (3 : Int32)) = (2 : Int32)
      · skip
        refine own_go (fun t k => XS.icmpNo X0.here hx rfl (hb hby at_43) rfl (teq hc6).2 (XS.lloadN X0.here hx rfl (hb hby at_46) rfl  k)) ?_
        show own_Fin p e below _ (s₁.setTop (mkF m 47 #[.val (.long q1), .second, .val (.int p2), .val (.long (1073741824 : Int64)), .second, .unset, .unset, .val (.int (p2 &&& (3 : Int32))), .unset, .unset, .unset] [(.long q1)]))
        refine own_go (fun t k => X0.ldc2Long hx hown (mvT hZ hw_1) (g := (mkF m 47 #[.val (.long q1), .second, .val (.int p2), .val (.long (1073741824 : Int64)), .second, .unset, .unset, .val (.int (p2 &&& (3 : Int32))), .unset, .unset, .unset] [(.long q1)])) rfl (hb hby at_47) _ (XS.land X0.here hx rfl (hb hby at_50) rfl (XS.lstore X0.here hx rfl (hb hby at_51) rfl (l' := #[.val (.long q1), .second, .val (.int p2), .val (.long (1073741824 : Int64)), .second, .val (.long (q1 &&& (255 : Int64))), .second, .val (.int (p2 &&& (3 : Int32))), .unset, .unset, .unset]) rfl (XS.goto X0.here hx rfl (pc0 := 53) (pc' := 67) rfl (hb hby at_53) (by decide) (by decide) k)))) ?_
        show own_Fin p e below _ (s₁.setTop (mkF m 67 #[.val (.long q1), .second, .val (.int p2), .val (.long (1073741824 : Int64)), .second, .val (.long (q1 &&& (255 : Int64))), .second, .val (.int (p2 &&& (3 : Int32))), .unset, .unset, .unset] []))
        exact Jn1 ((q1 &&& (255 : Int64))) (own_k2 _)
      · skip
        refine own_go (fun t k => XS.icmpYes X0.here hx rfl (pc0 := 43) (pc' := 56) rfl (hb hby at_43) rfl (feq hc6).2 (by decide) (by decide) k) ?_
        show own_Fin p e below _ (s₁.setTop (mkF m 56 #[.val (.long q1), .second, .val (.int p2), .val (.long (1073741824 : Int64)), .second, .unset, .unset, .val (.int (p2 &&& (3 : Int32))), .unset, .unset, .unset] []))
        refine own_go (fun t k => X0.ldc2Long hx hown (mvT hZ hw_14) (g := (mkF m 56 #[.val (.long q1), .second, .val (.int p2), .val (.long (1073741824 : Int64)), .second, .unset, .unset, .val (.int (p2 &&& (3 : Int32))), .unset, .unset, .unset] [])) rfl (hb hby at_56) _ (XS.lloadN X0.here hx rfl (hb hby at_59) rfl  k)) ?_
        show own_Fin p e below _ (s₁.setTop (mkF m 60 #[.val (.long q1), .second, .val (.int p2), .val (.long (1073741824 : Int64)), .second, .unset, .unset, .val (.int (p2 &&& (3 : Int32))), .unset, .unset, .unset] [(.long q1), (.long (25769803712 : Int64))]))
        refine own_go (fun t k => X0.ldc2Long hx hown (mvT hZ hw_15) (g := (mkF m 60 #[.val (.long q1), .second, .val (.int p2), .val (.long (1073741824 : Int64)), .second, .unset, .unset, .val (.int (p2 &&& (3 : Int32))), .unset, .unset, .unset] [(.long q1), (.long (25769803712 : Int64))])) rfl (hb hby at_60) _ (XS.land X0.here hx rfl (hb hby at_63) rfl (XS.ladd X0.here hx rfl (hb hby at_64) rfl (XS.lstore X0.here hx rfl (hb hby at_65) rfl (l' := #[.val (.long q1), .second, .val (.int p2), .val (.long (1073741824 : Int64)), .second, .val (.long ((25769803712 : Int64) + (q1 &&& (127 : Int64)))), .second, .val (.int (p2 &&& (3 : Int32))), .unset, .unset, .unset]) rfl k)))) ?_
        show own_Fin p e below _ (s₁.setTop (mkF m 67 #[.val (.long q1), .second, .val (.int p2), .val (.long (1073741824 : Int64)), .second, .val (.long ((25769803712 : Int64) + (q1 &&& (127 : Int64)))), .second, .val (.int (p2 &&& (3 : Int32))), .unset, .unset, .unset] []))
        exact Jn1 (((25769803712 : Int64) + (q1 &&& (127 : Int64)))) (own_k3 _)
set_option maxRecDepth 65536 in
set_option maxHeartbeats 40000000 in
theorem comes_1 {Post : Tables → Env → Array Value → State → Outcome → State → Prop} (hpost : ∀ tb e args s v u, (limb_1_1.after args s (.returned v) u = true ∧ limb_1_2.after args s (.returned v) u = true ∧ True) → FrameEnd s (.returned v) u (Jvm.fieldLocs frame_1_writes args s ++ Jvm.arrayLocs frame_1_arrays args s ++ Jvm.staticLocs frame_1_statics s) 0 0 → Post tb e args s (.returned v) u) :
    ArmFor flags0 classFile x code maxLocals ret World_1 tables_1 room_1 Calls_1 rest_1 Pre_1 Post := by
  intro l hfl _ _ p e ha hc hk s m args below hf hA hF happ hP
  obtain ⟨hcalls, hrest, hpre⟩ := hP
  obtain ⟨-, -, -, hnamed, -, -, -, hat⟩ := (Spec.applies_iff hf).mp happ
  obtain ⟨hg, hn⟩ := and_e (Cond.before_iff.mp (show (Jvm.Cond.and given_1 narrow_1).before args s = true from hpre))
  obtain ⟨g0, r0⟩ := and_e hg
  obtain ⟨g1, r1⟩ := and_e r0
  obtain ⟨w0, w1, rfl⟩ : ∃ w0 w1 : Value, args = #[w0, w1] := by
    have hs : args.size = 2 := by simpa [Cond.value, given_1] using g0
    obtain ⟨L⟩ := args
    match L, hs with
    | [w0, w1], _ => exact ⟨w0, w1, rfl⟩
  have hw := fun d (hd : d ∈ tables_1) => atoms_spec (ws := Jvm.Cond.code x code maxLocals ret :: tables_1) hat d (List.mem_cons_of_mem _ hd)
  have hfit : Fit s := fun {y c} hc i hi => by
    obtain ⟨ha, rfl⟩ := Array.getElem?_eq_some_iff.mp hc
    have q := List.all_eq_true.mp ((Array.all_eq_true_iff_forall_mem.mp hF) _ (Array.getElem_mem ha)) i (List.mem_range.mpr hi)
    simpa [Array.getElem?_eq_getElem hi] using q
  obtain ⟨i0, ei0⟩ := isL_v g1
  obtain rfl : w0 = (.long i0) := Option.some.inj ei0
  obtain ⟨i1, ei1⟩ := is_v r1
  obtain rfl : w1 = (.int i1) := Option.some.inj ei1
  obtain ⟨n, o, h1, h2, h3, _, L, rfl, ⟨rfl, N⟩, hq⟩ := rm0 l s _ hw tables_1 i0 i1  s.heap s.heap.size (Nat.le_refl _)  p e ha hc hk s m _ below hf ((Spec.applies_iff_loose hf).mp happ).1 ⟨rfl, State.Warmed39.refl s, rfl⟩ trivial
  refine ⟨n, _, h1, h2, h3, hpost _ _ _ _ _ _ ⟨Cond.after_iff.mpr rfl, Cond.after_iff.mpr (eq_i res_at (Term.int_eval (1)) rfl), trivial⟩ ⟨hq.1, hq.2.1, (hq.2.2.sift fun y hy => Or.inr (N y hy)).mono (by decide) (by decide)⟩⟩
theorem main_1_1 : Claimed_1_1 := comes_1 fun _ _ _ _ _ _ h hF => ⟨h.1, hF⟩
theorem main_1_2 : Claimed_1_2 := comes_1 fun _ _ _ _ _ _ h hF => ⟨h.2.1, hF⟩
end Jvm.Pilot.@@N@@
namespace Jvm.Pilot.@@N@@
open Jvm Jvm.ClassFile Sem Op Lib Jvm.Free Jvm.Stand Jvm.Pilot.@@N@@.Jvm.D
/-! MADE BY PROGRAM (witnessworld.py) out of the Statement's table words and the real class files: 11 classes; the members and pool entries that the words name. The judged class is class 1, her method 1. -/
namespace start1
open Jvm.ClassFile
def u (s : String) : CpInfo := .utf8 (stringToUtf16 s)
/-- a pool by its gaps: so many unusable entries, then the entry; so many at the end -/
def gap : Nat → List CpInfo → List CpInfo
  | 0, r => r
  | n + 1, r => .unusable :: gap n r
def poolList (es : List (Nat × CpInfo)) (last : Nat) : List CpInfo := es.foldr (fun e r => gap e.1 (e.2 :: r)) (gap last [])
def pool (es : List (Nat × CpInfo)) (last : Nat) : Array CpInfo := ⟨poolList es last⟩
def fileOf (pool : Array CpInfo) (this : Nat) (attrs : Array Attribute := #[]) (ms : Array MethodInfo := #[]) (fl : Nat := 33) (sup : Nat := 0) (ifs : Array Nat := #[]) (fds : Array FieldInfo := #[]) : ClassFile where
  minorVersion := 0
  majorVersion := 65
  constantPool := pool
  accessFlags := fl
  thisClass := this
  superClass := sup
  interfaces := ifs
  fields := fds
  methods := ms
  attributes := attrs
def plain (name : String) (sup : Option ClassId) : Class where
  name := name
  kind := .ordinary
  loader := none
  accessFlags := 33
  super := sup
  interfaces := #[]
  cf := none
  fields := #[]
  methods := #[]
  instanceTypes := #[]
  staticTypes := #[]
  resolved := #[]
  callSites := []
  init := .initialized
  statics := none
  mirror := none

def pool0 : Array CpInfo := pool [(5, u "<init>"), (0, u "()V"), (1, .class_ 10), (1, u "java/lang/Object")] 113

def k0m0 : Method := { name := "<init>", desc := "()V", sig := { parameters := [], returnType := none }, accessFlags := 1, code := none }
/-- java/lang/Object -/
def k0 : Class := { plain "java/lang/Object" none with
  accessFlags := 33
  interfaces := #[]
  cf := some (fileOf pool0 8 #[] #[{ accessFlags := 1, nameIndex := 5, descriptorIndex := 6, attributes := #[] }] 33 0 #[] #[])
  fields := #[]
  methods := #[k0m0]
  instanceTypes := #[]
  staticTypes := #[]
  resolved := Array.replicate 124 none
  statics := none }

def pool1 : Array CpInfo := pool [(2, .class_ 4), (1, u "java/lang/Object"), (0, u "<init>"), (0, u "()V"), (0, .long 1073741824), (3, .long 9223372036854775807), (1, .long 34359738367), (1, .long 255), (1, .long 25769803712), (1, .long 127), (1, .methodref 22 23), (0, .class_ 24), (0, .nameAndType 25 26), (0, u "com/example/abonarium/abonarium/core/PeriodUnits"), (0, u "entriesIn"), (0, u "(J)I"), (0, .long 24), (1, .class_ 30), (0, u "com/example/abonarium/abonarium/core/PeriodUnitsEntriesInPinLaw"), (2, u "law"), (0, u "(JI)Z")] 3

def k1m0 : Method := { name := "<init>", desc := "()V", sig := { parameters := [], returnType := none }, accessFlags := 1, code := none }
def k1c1 : Code := { maxStack := 6, maxLocals := 11, code := code, exceptionTable := #[], attributes := #[] }
def k1m1 : Method := { name := "law", desc := "(JI)Z", sig := { parameters := [.long, .int], returnType := some .boolean }, accessFlags := 9, code := some k1c1 }
/-- com/example/abonarium/abonarium/core/PeriodUnitsEntriesInPinLaw -/
def k1 : Class := { plain "com/example/abonarium/abonarium/core/PeriodUnitsEntriesInPinLaw" (some 0) with
  accessFlags := 49
  interfaces := #[]
  cf := some (fileOf pool1 29 #[] #[{ accessFlags := 1, nameIndex := 5, descriptorIndex := 6, attributes := #[] }, { accessFlags := 9, nameIndex := 33, descriptorIndex := 34, attributes := #[] }] 49 2 #[] #[])
  fields := #[]
  methods := #[k1m0, k1m1]
  instanceTypes := #[]
  staticTypes := #[]
  resolved := Array.replicate 38 none
  statics := none }

def pool2 : Array CpInfo := pool [(1, .class_ 2), (0, u "java/lang/AutoCloseable"), (0, .class_ 4), (0, u "java/lang/Object")] 7

/-- java/lang/AutoCloseable -/
def k2 : Class := { plain "java/lang/AutoCloseable" (some 0) with
  accessFlags := 1537
  interfaces := #[]
  cf := some (fileOf pool2 1 #[] #[] 1537 3 #[] #[])
  fields := #[]
  methods := #[]
  instanceTypes := #[]
  staticTypes := #[]
  resolved := Array.replicate 12 none
  statics := none }

def pool3 : Array CpInfo := pool [(4, .class_ 6), (1, u "java/lang/Object"), (3, .class_ 12), (1, u "com/example/abonarium/abonarium/core/PeriodUnits"), (0, u "folded"), (0, u "Z"), (5, u "runs"), (0, u "Ljava/util/List;"), (2, u "directory"), (0, u "Ljava/nio/file/Path;"), (2, u "mostEntries"), (0, u "I"), (1, .class_ 33), (1, u "java/lang/Math"), (0, u "min"), (3, u "numbers"), (0, u "[J"), (2, u "periods"), (2, u "units"), (0, .long 24), (1, .long 1073741824), (1, .methodref 31 51), (0, .nameAndType 34 52), (0, u "(JJ)J"), (2, u "size"), (5, u "additions"), (0, u "J"), (3, .class_ 67), (0, u "com/example/abonarium/abonarium/core/PeriodUnits$Cursor"), (5, u "file"), (0, u "Ljava/nio/channels/FileChannel;"), (33, u "fileBytes"), (31, .class_ 141), (0, u "com/example/abonarium/abonarium/core/PeriodUnits$Run"), (38, .class_ 182), (1, u "com/example/abonarium/abonarium/core/PeriodUnits$Source"), (20, u "BY_KEYS"), (0, u "Ljava/util/Comparator;"), (0, .class_ 206), (0, u "java/lang/AutoCloseable"), (0, u "ENTRY_BYTES"), (2, u "MOST_ENTRIES"), (1, u "FIRST_ENTRIES"), (1, u "BUFFER_ENTRIES"), (7, u "entriesIn"), (0, u "(J)I"), (12, .class_ 237), (0, u "com/example/abonarium/abonarium/core/PeriodUnits$Spilled"), (0, .class_ 239), (0, u "com/example/abonarium/abonarium/core/PeriodUnits$Held")] 36

def k3c0 : Code := { maxStack := 4, maxLocals := 2, code := prog_50_method_2_code, exceptionTable := #[], attributes := #[] }
def k3m0 : Method := { name := "entriesIn", desc := "(J)I", sig := { parameters := [.long], returnType := some .int }, accessFlags := 8, code := some k3c0 }
/-- com/example/abonarium/abonarium/core/PeriodUnits -/
def k3 : Class := { plain "com/example/abonarium/abonarium/core/PeriodUnits" (some 0) with
  accessFlags := 48
  interfaces := #[2]
  cf := some (fileOf pool3 10 #[.nestMembers #[236, 238, 180, 66, 140]] #[{ accessFlags := 8, nameIndex := 222, descriptorIndex := 223, attributes := #[] }] 48 4 #[205] #[{ accessFlags := 26, nameIndex := 207, descriptorIndex := 29, attributes := #[] }, { accessFlags := 26, nameIndex := 210, descriptorIndex := 29, attributes := #[] }, { accessFlags := 26, nameIndex := 212, descriptorIndex := 29, attributes := #[] }, { accessFlags := 26, nameIndex := 214, descriptorIndex := 29, attributes := #[] }, { accessFlags := 26, nameIndex := 203, descriptorIndex := 204, attributes := #[] }, { accessFlags := 18, nameIndex := 24, descriptorIndex := 25, attributes := #[] }, { accessFlags := 18, nameIndex := 28, descriptorIndex := 29, attributes := #[] }, { accessFlags := 2, nameIndex := 38, descriptorIndex := 39, attributes := #[] }, { accessFlags := 2, nameIndex := 42, descriptorIndex := 39, attributes := #[] }, { accessFlags := 2, nameIndex := 45, descriptorIndex := 39, attributes := #[] }, { accessFlags := 2, nameIndex := 55, descriptorIndex := 29, attributes := #[] }, { accessFlags := 2, nameIndex := 13, descriptorIndex := 14, attributes := #[] }, { accessFlags := 2, nameIndex := 73, descriptorIndex := 74, attributes := #[] }, { accessFlags := 2, nameIndex := 108, descriptorIndex := 62, attributes := #[] }, { accessFlags := 18, nameIndex := 20, descriptorIndex := 21, attributes := #[] }, { accessFlags := 2, nameIndex := 61, descriptorIndex := 62, attributes := #[] }])
  fields := #[{ name := "ENTRY_BYTES", type := .int, accessFlags := 26, slot := 0, constantValue := 0 }, { name := "MOST_ENTRIES", type := .int, accessFlags := 26, slot := 1, constantValue := 0 }, { name := "FIRST_ENTRIES", type := .int, accessFlags := 26, slot := 2, constantValue := 0 }, { name := "BUFFER_ENTRIES", type := .int, accessFlags := 26, slot := 3, constantValue := 0 }, { name := "BY_KEYS", type := (.object "java/util/Comparator"), accessFlags := 26, slot := 4, constantValue := 0 }, { name := "directory", type := (.object "java/nio/file/Path"), accessFlags := 18, slot := 0, constantValue := 0 }, { name := "mostEntries", type := .int, accessFlags := 18, slot := 1, constantValue := 0 }, { name := "numbers", type := (.array .long), accessFlags := 2, slot := 2, constantValue := 0 }, { name := "periods", type := (.array .long), accessFlags := 2, slot := 3, constantValue := 0 }, { name := "units", type := (.array .long), accessFlags := 2, slot := 4, constantValue := 0 }, { name := "size", type := .int, accessFlags := 2, slot := 5, constantValue := 0 }, { name := "folded", type := .boolean, accessFlags := 2, slot := 6, constantValue := 0 }, { name := "file", type := (.object "java/nio/channels/FileChannel"), accessFlags := 2, slot := 7, constantValue := 0 }, { name := "fileBytes", type := .long, accessFlags := 2, slot := 8, constantValue := 0 }, { name := "runs", type := (.object "java/util/List"), accessFlags := 18, slot := 9, constantValue := 0 }, { name := "additions", type := .long, accessFlags := 2, slot := 10, constantValue := 0 }]
  methods := #[k3m0]
  instanceTypes := #[(.object "java/nio/file/Path"), .int, (.array .long), (.array .long), (.array .long), .int, .boolean, (.object "java/nio/channels/FileChannel"), .long, (.object "java/util/List"), .long]
  staticTypes := #[.int, .int, .int, .int, (.object "java/util/Comparator")]
  resolved := Array.replicate 276 none
  statics := none }

def pool4 : Array CpInfo := pool [(1, .class_ 2), (0, u "java/lang/Math"), (1, .class_ 6), (1, u "java/lang/Object"), (0, u "<init>"), (0, u "()V"), (89, .class_ 100), (1, u "java/lang/Math$RandomNumberGeneratorHolder"), (20, u "(JJ)J"), (50, u "negativeZeroFloatBits"), (0, u "J"), (2, u "negativeZeroDoubleBits"), (24, u "min"), (43, u "$assertionsDisabled"), (0, u "Z"), (91, u "twoToTheDoubleScaleDown"), (0, u "D"), (4, u "twoToTheDoubleScaleUp"), (9, u "E"), (3, u "PI"), (2, u "TAU"), (2, u "DEGREES_TO_RADIANS"), (0, u "RADIANS_TO_DEGREES")] 94

def k4m0 : Method := { name := "<init>", desc := "()V", sig := { parameters := [], returnType := none }, accessFlags := 2, code := none }
def k4c1 : Code := { maxStack := 4, maxLocals := 4, code := jdk_29_method_70_code, exceptionTable := #[], attributes := #[] }
def k4m1 : Method := { name := "min", desc := "(JJ)J", sig := { parameters := [.long, .long], returnType := some .long }, accessFlags := 9, code := some k4c1 }
/-- java/lang/Math -/
def k4 : Class := { plain "java/lang/Math" (some 0) with
  accessFlags := 49
  interfaces := #[]
  cf := some (fileOf pool4 1 #[.nestMembers #[98]] #[{ accessFlags := 2, nameIndex := 7, descriptorIndex := 8, attributes := #[] }, { accessFlags := 9, nameIndex := 201, descriptorIndex := 121, attributes := #[] }] 49 4 #[] #[{ accessFlags := 25, nameIndex := 354, descriptorIndex := 339, attributes := #[] }, { accessFlags := 25, nameIndex := 358, descriptorIndex := 339, attributes := #[] }, { accessFlags := 25, nameIndex := 361, descriptorIndex := 339, attributes := #[] }, { accessFlags := 26, nameIndex := 364, descriptorIndex := 339, attributes := #[] }, { accessFlags := 26, nameIndex := 365, descriptorIndex := 339, attributes := #[] }, { accessFlags := 26, nameIndex := 172, descriptorIndex := 173, attributes := #[] }, { accessFlags := 26, nameIndex := 176, descriptorIndex := 173, attributes := #[] }, { accessFlags := 8, nameIndex := 344, descriptorIndex := 339, attributes := #[] }, { accessFlags := 8, nameIndex := 338, descriptorIndex := 339, attributes := #[] }, { accessFlags := 4120, nameIndex := 245, descriptorIndex := 246, attributes := #[] }])
  fields := #[{ name := "E", type := .double, accessFlags := 25, slot := 0, constantValue := 0 }, { name := "PI", type := .double, accessFlags := 25, slot := 1, constantValue := 0 }, { name := "TAU", type := .double, accessFlags := 25, slot := 2, constantValue := 0 }, { name := "DEGREES_TO_RADIANS", type := .double, accessFlags := 26, slot := 3, constantValue := 0 }, { name := "RADIANS_TO_DEGREES", type := .double, accessFlags := 26, slot := 4, constantValue := 0 }, { name := "negativeZeroFloatBits", type := .long, accessFlags := 26, slot := 5, constantValue := 0 }, { name := "negativeZeroDoubleBits", type := .long, accessFlags := 26, slot := 6, constantValue := 0 }, { name := "twoToTheDoubleScaleUp", type := .double, accessFlags := 8, slot := 7, constantValue := 0 }, { name := "twoToTheDoubleScaleDown", type := .double, accessFlags := 8, slot := 8, constantValue := 0 }, { name := "$assertionsDisabled", type := .boolean, accessFlags := 4120, slot := 9, constantValue := 0 }]
  methods := #[k4m0, k4m1]
  instanceTypes := #[]
  staticTypes := #[.double, .double, .double, .double, .double, .long, .long, .double, .double, .boolean]
  resolved := Array.replicate 460 none
  statics := none }

def pool5 : Array CpInfo := pool [(1, u "java/lang/Cloneable"), (0, .class_ 1), (0, u "java/lang/Object"), (0, .class_ 3)] 3

/-- java/lang/Cloneable -/
def k5 : Class := { plain "java/lang/Cloneable" (some 0) with
  accessFlags := 1537
  interfaces := #[]
  cf := some (fileOf pool5 2 #[] #[] 1537 4 #[] #[])
  fields := #[]
  methods := #[]
  instanceTypes := #[]
  staticTypes := #[]
  resolved := Array.replicate 8 none
  statics := none }

def pool6 : Array CpInfo := pool [(1, u "java/io/Serializable"), (0, .class_ 1), (0, u "java/lang/Object"), (0, .class_ 3)] 3

/-- java/io/Serializable -/
def k6 : Class := { plain "java/io/Serializable" (some 0) with
  accessFlags := 1537
  interfaces := #[]
  cf := some (fileOf pool6 2 #[] #[] 1537 4 #[] #[])
  fields := #[]
  methods := #[]
  instanceTypes := #[]
  staticTypes := #[]
  resolved := Array.replicate 8 none
  statics := none }

/-- the primitive byte -/
def k7 : Class := { plain "byte" none with kind := .primitive 'B', accessFlags := 0x411 }
/-- [B -/
def k8 : Class := { plain "[B" (some 0) with kind := .array 7 .byte, interfaces := #[5, 6], accessFlags := 1041 }

/-- the primitive int -/
def k9 : Class := { plain "int" none with kind := .primitive 'I', accessFlags := 0x411 }
/-- [I -/
def k10 : Class := { plain "[I" (some 0) with kind := .array 9 .int, interfaces := #[5, 6], accessFlags := 1041 }

def heap : Heap := #[]
def classes : Array Class := #[k0, k1, k2, k3, k4, k5, k6, k7, k8, k9, k10]
def interned : List (Array UInt16 × Addr) := []
def slotsUsed : Nat := 0
def theMethod : MethodId := ⟨1, 1⟩
def args0 : Array Value := #[.long 5, .int 3]
def aboutOver (below : List Frame) : State where
  vm := { classes := classes, interned := interned.toArray }
  heap := heap
  slotsUsed := slotsUsed
  threads := #[{ frames := .invoking theMethod args0 :: below }]
def below0 : List Frame := [.native { method := ⟨0, 0⟩, args := #[] }]
def about1 : State := aboutOver below0
def p0 : Program := .bare "" "" ""
def e0 : Env := launch0.env 0 0 0
theorem w_frames : about1.frames = Frame.invoking theMethod args0 :: below0 := rfl
set_option maxRecDepth 65536 in
theorem w_args : argsFit about1.vm theMethod args0 = true := by decide +kernel
set_option maxRecDepth 65536 in
theorem w_heap : heapFits about1 = true := by decide +kernel
set_option maxRecDepth 65536 in
theorem w_runnable : about1.curStatus? = some .runnable := by decide +kernel
set_option maxRecDepth 65536 in
theorem w_alone : about1.alone = true := by decide +kernel
set_option maxRecDepth 65536 in
theorem w_named : about1.methodNamed? x = some theMethod := by decide +kernel
set_option maxRecDepth 65536 in
theorem w_hears : about1.hears theMethod below0 = true := by decide +kernel
set_option maxRecDepth 65536 in
theorem w_ripe : about1.ripe theMethod args0 below0 = true := by decide +kernel
theorem w_running : about1.status = .running := rfl
set_option maxRecDepth 65536 in
theorem w_room : about1.hasRoom e0.platform room_1 = true :=
  launch0.hasRoom_least _ room_1 (by decide +kernel) (by decide +kernel) (by decide +kernel) (by decide +kernel) (by decide +kernel) (by decide +kernel)
theorem allAtoms_all (ts : List Jvm.Cond) (a : Array Jvm.Value) (st : Jvm.State) : (allAtoms ts).before a st = ts.all (fun c => c.before a st) := by
  induction ts with
  | nil => rfl
  | cons c t ih =>
    show (Jvm.Cond.and c (allAtoms t)).before a st = _
    rw [Jvm.Cond.before_and, ih, List.all_cons]
def words1 : List Jvm.Cond := Jvm.Cond.code x code maxLocals ret :: tables_1
/-- a 'code' word, met by the world's own term for the bytes: nothing is compared byte by byte -/
theorem code_word {y : MethodName} {bytes : ByteArray} {mx : Nat} {rt : Option FieldType} {a : Array Value} {s : State} {m : MethodId} {meth : Method} {c : Code} (h1 : s.methodNamed? y = some m) (h2 : s.vm.method? m = some meth) (h3 : meth.code = some c) (h4 : c.code = bytes)
    (h5 : (c.maxLocals == mx && c.exceptionTable.isEmpty && decide (c.maxStack ≤ mostOperands) && decide (meth.sig.returnType = rt) && !meth.locks && decide (parseMethodDescriptor y.desc = some meth.sig)) = true) : (Jvm.Cond.code y bytes mx rt).before a s = true := by
  simp only [Bool.and_eq_true, beq_iff_eq, Bool.not_eq_true', decide_eq_true_eq] at h5
  obtain ⟨⟨⟨⟨⟨g1, g2⟩, g3⟩, g4⟩, g5⟩, g6⟩ := h5
  simp [Cond.before, Cond.holds, Cond.value, h1, h2, h3, h4, g1, g2, g3, g4, g5, g6]
def isCode : Jvm.Cond → Bool
  | .code _ _ _ _ => true
  | _ => false
theorem all_split {L : List Jvm.Cond} {P : Jvm.Cond → Bool} (h1 : L.all (fun c => isCode c || P c) = true) (h2 : ∀ c ∈ L.filter isCode, P c = true) : L.all P = true := by
  refine List.all_eq_true.mpr fun c hc => ?_
  have h := List.all_eq_true.mp h1 c hc
  rcases Bool.eq_false_or_eq_true (isCode c) with hi | hi
  · exact h2 c (List.mem_filter.mpr ⟨hc, hi⟩)
  · simpa [hi] using h
set_option maxRecDepth 65536 in
theorem w_c0 : (Jvm.Cond.code x code maxLocals ret).before args0 about1 = true := code_word (m := ⟨1, 1⟩) (meth := k1m1) (c := k1c1) (by decide +kernel) rfl rfl rfl (by decide +kernel)
set_option maxRecDepth 65536 in
theorem w_c1 : (Jvm.Cond.code ({ cls := "com/example/abonarium/abonarium/core/PeriodUnits", name := "entriesIn", desc := "(J)I" } : Jvm.MethodName) prog_50_method_2_code (2 : Nat) (Option.some Jvm.ClassFile.FieldType.int)).before args0 about1 = true := code_word (m := ⟨3, 0⟩) (meth := k3m0) (c := k3c0) (by decide +kernel) rfl rfl rfl (by decide +kernel)
set_option maxRecDepth 65536 in
theorem w_c2 : (Jvm.Cond.code ({ cls := "java/lang/Math", name := "min", desc := "(JJ)J" } : Jvm.MethodName) jdk_29_method_70_code (4 : Nat) (Option.some Jvm.ClassFile.FieldType.long)).before args0 about1 = true := code_word (m := ⟨4, 1⟩) (meth := k4m1) (c := k4c1) (by decide +kernel) rfl rfl rfl (by decide +kernel)
def codes1 : List Jvm.Cond := [Jvm.Cond.code x code maxLocals ret, Jvm.Cond.code ({ cls := "com/example/abonarium/abonarium/core/PeriodUnits", name := "entriesIn", desc := "(J)I" } : Jvm.MethodName) prog_50_method_2_code (2 : Nat) (Option.some Jvm.ClassFile.FieldType.int), Jvm.Cond.code ({ cls := "java/lang/Math", name := "min", desc := "(JJ)J" } : Jvm.MethodName) jdk_29_method_70_code (4 : Nat) (Option.some Jvm.ClassFile.FieldType.long)]
set_option maxRecDepth 65536 in
theorem codes_eq : words1.filter isCode = codes1 := rfl
theorem w_codes : ∀ c ∈ words1.filter isCode, c.before args0 about1 = true := by
  rw [codes_eq]
  intro c hc
  simp only [codes1, List.mem_cons, List.not_mem_nil, or_false] at hc
  rcases hc with rfl | rfl | rfl
  · exact w_c0
  · exact w_c1
  · exact w_c2
set_option maxRecDepth 65536 in
theorem w_t1 : words1.all (fun c => isCode c || c.before args0 about1) = true := by decide +kernel
theorem w_tables : (allAtoms (Jvm.Cond.code x code maxLocals ret :: tables_1)).before args0 about1 = true := by
  rw [allAtoms_all]
  show words1.all (fun c => c.before args0 about1) = true
  refine all_split ?_ w_codes
  rw [w_t1]
set_option maxRecDepth 65536 in
theorem w_case : (Jvm.Cond.and given_1 narrow_1).before args0 about1 = true := by decide +kernel
theorem w_applies : (headSpec (Jvm.Cond.code x code maxLocals ret :: tables_1) room_1).applies x e0.platform about1 = true :=
  (Spec.applies_iff w_frames).mpr ⟨w_running, w_runnable, w_alone, w_named, w_hears, w_ripe, w_room, w_tables⟩
theorem atStart : AtStart classFile x code maxLocals ret World_1 tables_1 room_1 Calls_1 rest_1 Pre_1 launch0 p0 e0 about1 theMethod args0 below0 :=
  ⟨lists_1, trivial, launch0.admits_env _ _ _, launch0.least_env, fairChoices_fair.cas, fairChoices_fair.clock, w_frames, w_args, w_heap, w_applies, trivial, trivial, w_case⟩
end start1
theorem witness_1 : WitnessClaimed_1 := ⟨start1.p0, start1.e0, start1.about1, start1.theMethod, start1.args0, start1.below0, start1.atStart⟩
end Jvm.Pilot.@@N@@
