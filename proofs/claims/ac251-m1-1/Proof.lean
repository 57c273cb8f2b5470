import JvmDerived
import JvmDerived.Pilot.@@N@@Statement
import JvmDerived.Pilot.@@N@@Code
set_option linter.unusedVariables false
set_option linter.unusedSimpArgs false
namespace Jvm.RoadKit
open Sem ClassFile Op Lib Jvm.Stand Jvm.Free Jvm.LawKit
section New
variable {p : Program} {l : Launch} {e : Env} {R : Room} {s : State} {m : MethodId} {args : Array Value} {below : List Frame} {meth : Method} {c : Code} {T : State} {locs : List Loc} {cells slots : Nat}
theorem retI (X : Stand p l e R s m args below meth c T locs cells slots) (hx : p.tables.exec = Jvm.exec) {pc : Nat} {Ls : Array Slot} {z : Int32} {rest : List Value} (hret : meth.sig.returnType = some .int) (hd : decode c.code pc = .ok (.ireturn, 1)) {fs : List Frame}
    (hl : ∀ (f : JFrame) (acts : List Action), f.method = m → f.locked = none → f.entered = [] → (doReturn e (T.setTop f) acts (some (.int z))).1 = T.setFrames fs) : Steps p.tables e below (T.setTop (mkF m pc Ls (.int z :: rest))) (T.setFrames fs) := by
  have hm' : T.vm.method? m = some meth := X.method'
  have hn : narrow .int (.int z) = .int z := rfl
  show Steps p.tables e below (T.setTop { method := m, pc := pc, locals := Ls, stack := _ :: rest, locked := none }) _
  jvm_step X.here [X.here.top, hx, hd, hm', hret, hn]
  first | (intro acts; rw [hl _ acts rfl rfl rfl]) | rw [hl _ _ rfl rfl rfl]
  exact Steps.refl _
/-- from the state S the run comes to an end at which A holds -/
def own_Fin (p : Program) (e : Env) (below : List Frame) (A : State → Outcome → Prop) (S : State) : Prop := ∃ s₂ o, Steps p.tables e below S s₂ ∧ s₂.status = .running ∧ Ended s₂ below o ∧ A s₂ o
theorem own_go {A : State → Outcome → Prop} {S S' : State} (k : ∀ t, Steps p.tables e below S' t → Steps p.tables e below S t) (h : own_Fin p e below A S') : own_Fin p e below A S := by
  obtain ⟨t, o, h1, h2⟩ := h; exact ⟨t, o, k t h1, h2⟩
/-- what a walk leaves: Q of the value, the heap and the written places -/
def own_A (s : State) (C S : Nat) (Q : Option Value → Heap → List Loc → Prop) : State → Outcome → Prop := fun U' o => ∃ v L, o = .returned v ∧ Q v U'.heap L ∧ FrameEnd s o U' L C S
/-- a body that writes nothing: its value, the heap as it was -/
def own_P (h0 : Heap) (n0 : Nat) (w : Value) (v : Option Value) (h : Heap) (L : List Loc) : Prop := v = some w ∧ Fr n0 L ∧ h = h0
theorem own_out (X : Stand p l e R s m args below meth c T locs cells slots) {v : Option Value} {Q : Option Value → Heap → List Loc → Prop} {C S : Nat} {g : JFrame}
    (hv : meth.sig.returnType = none → v = none) (hlocks : meth.locks = false)
    (st : ∀ fs, (∀ (f : JFrame) (acts : List Action), f.method = m → f.locked = none → f.entered = [] → (doReturn e (T.setTop f) acts v).1 = T.setFrames fs) → Steps p.tables e below (T.setTop g) (T.setFrames fs))
    (hQ : Q v T.heap locs) (hc : cells ≤ C) (hs : slots ≤ S) : own_Fin p e below (own_A s C S Q) (T.setTop g) := by
  obtain ⟨fs, hr, hrun, hended, hW, hsame⟩ := X.leave (v := v) hv hlocks
  exact ⟨_, _, st fs hr, hrun, hended, _, _, rfl, hQ, ⟨_, rfl⟩, hW, hsame.mono hc hs⟩
end New
end Jvm.RoadKit
namespace Jvm.Pilot.@@N@@
open Jvm Jvm.ClassFile Sem Op Lib Jvm.Free Jvm.Stand Jvm.LawKit Jvm.RoadKit Bundle Jvm.Pilot.@@N@@.Jvm.D
theorem d1_0 : decode jdk_29_method_66_code 0 = .ok (.lload_n 0, 1) := by decide +kernel
theorem d1_1 : decode jdk_29_method_66_code 1 = .ok (.lload_n 2, 1) := by decide +kernel
theorem d1_2 : decode jdk_29_method_66_code 2 = .ok (.lcmp, 1) := by decide +kernel
theorem d1_3 : decode jdk_29_method_66_code 3 = .ok (.ifCond .lt 7, 3) := by decide +kernel
theorem d1_6 : decode jdk_29_method_66_code 6 = .ok (.lload_n 0, 1) := by decide +kernel
theorem d1_7 : decode jdk_29_method_66_code 7 = .ok (.goto 4, 3) := by decide +kernel
theorem d1_10 : decode jdk_29_method_66_code 10 = .ok (.lload_n 2, 1) := by decide +kernel
theorem d1_11 : decode jdk_29_method_66_code 11 = .ok (.lreturn, 1) := by decide +kernel
theorem ef_1 (m : MethodId) (x0 : Int64) (x1 : Int64)  : entryFrame m #[(.long x0), (.long x1)] 4 = mkF m 0 #[.val (.long x0), .second, .val (.long x1), .second] [] := by first | (simp [entryFrame, mkF, argsToLocals, Value.category]; done) | rfl
def own_mx_3 (q1 : Int64) (q2 : Int64) : Int64 := if q1 < q2 then q2 else q1
set_option maxRecDepth 65536 in
set_option maxHeartbeats 40000000 in
theorem rm1 (l : Launch) (Z : State) (a0 : Array Value) (hw : ∀ d ∈ tables_1, d.before a0 Z = true) (ws : List Jvm.Cond) (q1 : Int64) (q2 : Int64) (h0 : Heap) (n0 : Nat) (Z0 : n0 ≤ h0.size) :
    MetFree l (⟨"java/lang/Math", "max", "(JJ)J"⟩ : MethodName) (head1 (Jvm.Cond.code (⟨"java/lang/Math", "max", "(JJ)J"⟩ : MethodName) jdk_29_method_66_code 4 (some .long) :: ws) ({ frames := 0, cells := 0, slots := 0, locals := 0 } : Room)) (fun a U => a = #[(.long q1), (.long q2)] ∧ Z.Warmed39 U.vm ∧ U.heap = h0) (fun _ _ _ _ _ => True) (fun _ U o U' => ∃ v L, o = .returned v ∧ (own_P h0 n0 (.long (own_mx_3 q1 q2))) v U'.heap L ∧ FrameEnd U o U' L ({ frames := 0, cells := 0, slots := 0, locals := 0 } : Room).cells ({ frames := 0, cells := 0, slots := 0, locals := 0 } : Room).slots) := by
  refine MetFree.of_bodySF (Jvm.Free.JP.mathPlain rfl (by decide +kernel)) hisR ?_
  intro p e s m args below meth c s₁ Bd hml0 hP hK
  obtain ⟨rfl, hZ, hh⟩ := hP
  have hx := Bd.exec
  have hby := Bd.bytes
  have hml : c.maxLocals = 4 := hml0
  have hown : s.vm.findClass "java/lang/Math" = some m.cls := findClass_of_methodNamed Bd.named
  have hnm := (name_of_methodNamed Bd.named Bd.method).1
  have X0 : Stand p l e ({ frames := 0, cells := 0, slots := 0, locals := 0 } : Room) s m #[(.long q1), (.long q2)] below meth c s₁ [] 0 0 := Stand.of_body Bd
  have e0 : s₁.heap = h0 := by rw [← hh, Bd.state]; rfl
  have N0 := Fr.nil n0
  show own_Fin p e below (own_A s ({ frames := 0, cells := 0, slots := 0, locals := 0 } : Room).cells ({ frames := 0, cells := 0, slots := 0, locals := 0 } : Room).slots (own_P h0 n0 (.long (own_mx_3 q1 q2)))) _
  refine own_go (fun t k => castTop (ef_1 m (q1) (q2)) k) ?_
  show own_Fin p e below _ (s₁.setTop (mkF m 0 #[.val (.long q1), .second, .val (.long q2), .second] []))
  refine own_go (fun t k => XS.lloadN X0.here hx rfl (hb hby d1_0) rfl  (XS.lloadN X0.here hx rfl (hb hby d1_1) rfl  (XS.lcmp X0.here hx rfl (hb hby d1_2) rfl k))) ?_
  show own_Fin p e below _ (s₁.setTop (mkF m 3 #[.val (.long q1), .second, .val (.long q2), .second] [(.int (lcmpW q1 q2))]))
  by_cases hc1 : q1 < q2
  · skip
    rw [(show (own_mx_3 q1 q2) = q2 from if_pos hc1)]
    refine own_go (fun t k => XS.ifYes X0.here hx rfl (pc0 := 3) (pc' := 10) rfl (hb hby d1_3) rfl ((if0 _ _).trans (tlt ((lw_lt _ _).mpr hc1)).1) (by decide) (by decide) (XS.lloadN X0.here hx rfl (hb hby d1_10) rfl  k)) ?_
    show own_Fin p e below _ (s₁.setTop (mkF m 11 #[.val (.long q1), .second, .val (.long q2), .second] [(.long q2)]))
    exact own_out X0 (fun h => by rw [Bd.returns] at h; cases h) Bd.notSynchronized (fun fs hr => retOut X0 hx Bd.returns rfl (Or.inr (Or.inl ⟨rfl, rfl, _, rfl⟩)) (hb hby d1_11) hr) ⟨rfl, N0, e0⟩ (by decide) (by decide)
  · skip
    rw [(show (own_mx_3 q1 q2) = q1 from if_neg hc1)]
    refine own_go (fun t k => XS.ifNo X0.here hx rfl (hb hby d1_3) rfl ((if0 _ _).trans (flt (fun q => hc1 ((lw_lt _ _).mp q))).1) (XS.lloadN X0.here hx rfl (hb hby d1_6) rfl  (XS.goto X0.here hx rfl (pc0 := 7) (pc' := 11) rfl (hb hby d1_7) (by decide) (by decide) k))) ?_
    show own_Fin p e below _ (s₁.setTop (mkF m 11 #[.val (.long q1), .second, .val (.long q2), .second] [(.long q1)]))
    exact own_out X0 (fun h => by rw [Bd.returns] at h; cases h) Bd.notSynchronized (fun fs hr => retOut X0 hx Bd.returns rfl (Or.inr (Or.inl ⟨rfl, rfl, _, rfl⟩)) (hb hby d1_11) hr) ⟨rfl, N0, e0⟩ (by decide) (by decide)
theorem d2_0 : decode prog_70_method_3_code 0 = .ok (.lload_n 0, 1) := by decide +kernel
theorem d2_1 : decode prog_70_method_3_code 1 = .ok (.lload_n 2, 1) := by decide +kernel
theorem d2_2 : decode prog_70_method_3_code 2 = .ok (.ldiv, 1) := by decide +kernel
theorem d2_3 : decode prog_70_method_3_code 3 = .ok (.lstore 4, 2) := by decide +kernel
theorem d2_5 : decode prog_70_method_3_code 5 = .ok (.lload_n 0, 1) := by decide +kernel
theorem d2_6 : decode prog_70_method_3_code 6 = .ok (.lload_n 2, 1) := by decide +kernel
theorem d2_7 : decode prog_70_method_3_code 7 = .ok (.lrem, 1) := by decide +kernel
theorem d2_8 : decode prog_70_method_3_code 8 = .ok (.lconst 0, 1) := by decide +kernel
theorem d2_9 : decode prog_70_method_3_code 9 = .ok (.lcmp, 1) := by decide +kernel
theorem d2_10 : decode prog_70_method_3_code 10 = .ok (.ifCond .eq 9, 3) := by decide +kernel
theorem d2_13 : decode prog_70_method_3_code 13 = .ok (.lload 4, 2) := by decide +kernel
theorem d2_15 : decode prog_70_method_3_code 15 = .ok (.lconst 1, 1) := by decide +kernel
theorem d2_16 : decode prog_70_method_3_code 16 = .ok (.ladd, 1) := by decide +kernel
theorem d2_17 : decode prog_70_method_3_code 17 = .ok (.lstore 4, 2) := by decide +kernel
theorem d2_19 : decode prog_70_method_3_code 19 = .ok (.lload 4, 2) := by decide +kernel
theorem d2_21 : decode prog_70_method_3_code 21 = .ok (.lreturn, 1) := by decide +kernel
theorem pn_0 : plainName "com/example/abonarium/abonarium/core/Units" = true := by first | (simp [plainName, overriddenIn]; done) | decide +kernel
theorem ef_2 (m : MethodId) (x0 : Int64) (x1 : Int64)  : entryFrame m #[(.long x0), (.long x1)] 6 = mkF m 0 #[.val (.long x0), .second, .val (.long x1), .second, .unset, .unset] [] := by first | (simp [entryFrame, mkF, argsToLocals, Value.category]; done) | rfl
def own_st_10 (q1 : Int64) (q2 : Int64) : Int64 := if (q1 - (q1 / q2) * q2) = (0 : Int64) then (q1 / q2) else ((q1 / q2) + (1 : Int64))
set_option maxRecDepth 65536 in
set_option maxHeartbeats 40000000 in
theorem rm2 (l : Launch) (Z : State) (a0 : Array Value) (hw : ∀ d ∈ tables_1, d.before a0 Z = true) (ws : List Jvm.Cond) (q1 : Int64) (q2 : Int64) (h0 : Heap) (n0 : Nat) (Z0 : n0 ≤ h0.size) (hnz : q2 ≠ 0) :
    MetFree l (⟨"com/example/abonarium/abonarium/core/Units", "started", "(JJ)J"⟩ : MethodName) (head1 (Jvm.Cond.code (⟨"com/example/abonarium/abonarium/core/Units", "started", "(JJ)J"⟩ : MethodName) prog_70_method_3_code 6 (some .long) :: ws) ({ frames := 0, cells := 0, slots := 0, locals := 0 } : Room)) (fun a U => a = #[(.long q1), (.long q2)] ∧ Z.Warmed39 U.vm ∧ U.heap = h0) (fun _ _ _ _ _ => True) (fun _ U o U' => ∃ v L, o = .returned v ∧ (own_P h0 n0 (.long (own_st_10 q1 q2))) v U'.heap L ∧ FrameEnd U o U' L ({ frames := 0, cells := 0, slots := 0, locals := 0 } : Room).cells ({ frames := 0, cells := 0, slots := 0, locals := 0 } : Room).slots) := by
  refine MetFree.of_bodySF (plainFor_of_name pn_0) hisR ?_
  intro p e s m args below meth c s₁ Bd hml0 hP hK
  obtain ⟨rfl, hZ, hh⟩ := hP
  have hx := Bd.exec
  have hby := Bd.bytes
  have hml : c.maxLocals = 6 := hml0
  have hown : s.vm.findClass "com/example/abonarium/abonarium/core/Units" = some m.cls := findClass_of_methodNamed Bd.named
  have hnm := (name_of_methodNamed Bd.named Bd.method).1
  have X0 : Stand p l e ({ frames := 0, cells := 0, slots := 0, locals := 0 } : Room) s m #[(.long q1), (.long q2)] below meth c s₁ [] 0 0 := Stand.of_body Bd
  have e0 : s₁.heap = h0 := by rw [← hh, Bd.state]; rfl
  have N0 := Fr.nil n0
  show own_Fin p e below (own_A s ({ frames := 0, cells := 0, slots := 0, locals := 0 } : Room).cells ({ frames := 0, cells := 0, slots := 0, locals := 0 } : Room).slots (own_P h0 n0 (.long (own_st_10 q1 q2)))) _
  refine own_go (fun t k => castTop (ef_2 m (q1) (q2)) k) ?_
  show own_Fin p e below _ (s₁.setTop (mkF m 0 #[.val (.long q1), .second, .val (.long q2), .second, .unset, .unset] []))
  refine own_go (fun t k => XS.lloadN X0.here hx rfl (hb hby d2_0) rfl  (XS.lloadN X0.here hx rfl (hb hby d2_1) rfl  (XS.ldiv X0.here hx rfl (hb hby d2_2) rfl hnz (XS.lstore X0.here hx rfl (hb hby d2_3) rfl (l' := #[.val (.long q1), .second, .val (.long q2), .second, .val (.long (q1 / q2)), .second]) rfl k)))) ?_
  show own_Fin p e below _ (s₁.setTop (mkF m 5 #[.val (.long q1), .second, .val (.long q2), .second, .val (.long (q1 / q2)), .second] []))
  refine own_go (fun t k => XS.lloadN X0.here hx rfl (hb hby d2_5) rfl  (XS.lloadN X0.here hx rfl (hb hby d2_6) rfl  (XS.lrem X0.here hx rfl (hb hby d2_7) rfl hnz (XS.lconst X0.here hx rfl (hb hby d2_8) k)))) ?_
  show own_Fin p e below _ (s₁.setTop (mkF m 9 #[.val (.long q1), .second, .val (.long q2), .second, .val (.long (q1 / q2)), .second] [(.long (0 : Int64)), (.long (q1 - (q1 / q2) * q2))]))
  refine own_go (fun t k => XS.lcmp X0.here hx rfl (hb hby d2_9) rfl k) ?_
  show own_Fin p e below _ (s₁.setTop (mkF m 10 #[.val (.long q1), .second, .val (.long q2), .second, .val (.long (q1 / q2)), .second] [(.int (lcmpW (q1 - (q1 / q2) * q2) (0 : Int64)))]))
  by_cases hc1 : (q1 - (q1 / q2) * q2) = (0 : Int64)
  · skip
    rw [(show (own_st_10 q1 q2) = (q1 / q2) from if_pos hc1)]
    refine own_go (fun t k => XS.ifYes X0.here hx rfl (pc0 := 10) (pc' := 19) rfl (hb hby d2_10) rfl ((if0 _ _).trans (teq ((lw_eq _ _).mpr hc1)).1) (by decide) (by decide) (XS.lload X0.here hx rfl (hb hby d2_19) rfl  k)) ?_
    show own_Fin p e below _ (s₁.setTop (mkF m 21 #[.val (.long q1), .second, .val (.long q2), .second, .val (.long (q1 / q2)), .second] [(.long (q1 / q2))]))
    exact own_out X0 (fun h => by rw [Bd.returns] at h; cases h) Bd.notSynchronized (fun fs hr => retOut X0 hx Bd.returns rfl (Or.inr (Or.inl ⟨rfl, rfl, _, rfl⟩)) (hb hby d2_21) hr) ⟨rfl, N0, e0⟩ (by decide) (by decide)
  · skip
    rw [(show (own_st_10 q1 q2) = ((q1 / q2) + (1 : Int64)) from if_neg hc1)]
    refine own_go (fun t k => XS.ifNo X0.here hx rfl (hb hby d2_10) rfl ((if0 _ _).trans (feq (fun q => hc1 ((lw_eq _ _).mp q))).1) (XS.lload X0.here hx rfl (hb hby d2_13) rfl  (XS.lconst X0.here hx rfl (hb hby d2_15) (XS.ladd X0.here hx rfl (hb hby d2_16) rfl k)))) ?_
    show own_Fin p e below _ (s₁.setTop (mkF m 17 #[.val (.long q1), .second, .val (.long q2), .second, .val (.long (q1 / q2)), .second] [(.long ((q1 / q2) + (1 : Int64)))]))
    refine own_go (fun t k => XS.lstore X0.here hx rfl (hb hby d2_17) rfl (l' := #[.val (.long q1), .second, .val (.long q2), .second, .val (.long ((q1 / q2) + (1 : Int64))), .second]) rfl (XS.lload X0.here hx rfl (hb hby d2_19) rfl  k)) ?_
    show own_Fin p e below _ (s₁.setTop (mkF m 21 #[.val (.long q1), .second, .val (.long q2), .second, .val (.long ((q1 / q2) + (1 : Int64))), .second] [(.long ((q1 / q2) + (1 : Int64)))]))
    exact own_out X0 (fun h => by rw [Bd.returns] at h; cases h) Bd.notSynchronized (fun fs hr => retOut X0 hx Bd.returns rfl (Or.inr (Or.inl ⟨rfl, rfl, _, rfl⟩)) (hb hby d2_21) hr) ⟨rfl, N0, e0⟩ (by decide) (by decide)
theorem own_k0 (q : Int64) : 0 ≤ (q &&& (9223372036854775807 : Int64)).toInt := by have := c_maskL q 9223372036854775807 63 (by decide) (by decide); omega
theorem own_k1 (q : Int64) : 0 ≤ (q &&& (65535 : Int64)).toInt := by have := c_maskL q 65535 16 (by decide) (by decide); omega
theorem own_k2 (q : Int64) : 0 ≤ (q &&& (255 : Int64)).toInt := by have := c_maskL q 255 8 (by decide) (by decide); omega
theorem own_M {u : Int64} (hu : 0 ≤ u.toInt) : 1 ≤ (own_mx_3 (1 : Int64) u).toInt := by
  have e : (1 : Int64).toInt = 1 := rfl
  by_cases q : (1 : Int64) < u
  · rw [(show own_mx_3 (1 : Int64) u = u from if_pos q)]; rw [Int64.lt_iff_toInt_lt] at q; omega
  · rw [(show own_mx_3 (1 : Int64) u = 1 from if_neg q)]; omega
theorem own_nz {u : Int64} (hu : 0 ≤ u.toInt) : own_mx_3 (1 : Int64) u ≠ 0 := fun q => by
  have h := own_M hu; rw [q] at h; exact absurd h (by decide)
theorem own_S {y M : Int64} (hy : 0 ≤ y.toInt) (hM : 1 ≤ M.toInt) : (y.toInt % M.toInt = 0 → (own_st_10 y M).toInt = y.toInt / M.toInt) ∧ (¬ y.toInt % M.toInt = 0 → (own_st_10 y M).toInt = y.toInt / M.toInt + 1) := by
  have hne : M ≠ -1 := fun q => by rw [q] at hM; exact absurd hM (by decide)
  have d := (c_ldiv y M M.toInt rfl hne).1 hy
  have r := (c_lrem y M M.toInt rfl).1 hy
  have e0 : (0 : Int64).toInt = 0 := rfl
  have e1 : (1 : Int64).toInt = 1 := rfl
  have key := Int.mul_ediv_add_emod y.toInt M.toInt
  have p0 := Int.emod_nonneg y.toInt (b := M.toInt) (by omega)
  have k0 : 0 ≤ y.toInt / M.toInt := Int.ediv_nonneg hy (by omega)
  have k1 : 1 * (y.toInt / M.toInt) ≤ M.toInt * (y.toInt / M.toInt) := Int.mul_le_mul_of_nonneg_right hM k0
  constructor
  · intro h
    have q : (y - (y / M) * M) = (0 : Int64) := by rw [← Int64.toInt_inj, r, h]; rfl
    rw [(show own_st_10 y M = y / M from if_pos q)]; exact d
  · intro h
    have q : ¬ (y - (y / M) * M) = (0 : Int64) := fun q => by rw [q] at r; exact h (by rw [← r]; rfl)
    rw [(show own_st_10 y M = y / M + 1 from if_neg q)]
    have c := c_ladd (y / M) 1
    have g := rng64 (y / M + 1)
    have gy := rng64 y
    rw [d] at c
    generalize M.toInt * (y.toInt / M.toInt) = P at *
    omega
theorem own_X {y M : Int64} (hy : 0 ≤ y.toInt) (hM : 1 ≤ M.toInt) : 0 ≤ ((own_st_10 y M) * M - y).toInt ∧ ((own_st_10 y M) * M - y).toInt < M.toInt := by
  have s := own_S hy hM
  have key := Int.mul_ediv_add_emod y.toInt M.toInt
  have p0 := Int.emod_nonneg y.toInt (b := M.toInt) (by omega)
  have p1 := Int.emod_lt_of_pos y.toInt (b := M.toInt) (by omega)
  have c1 := c_lmul (own_st_10 y M) M
  have c2 := c_lsub ((own_st_10 y M) * M) y
  have g1 := rng64 ((own_st_10 y M) * M)
  have g2 := rng64 ((own_st_10 y M) * M - y)
  have g3 := rng64 y
  have g4 := rng64 M
  by_cases h : y.toInt % M.toInt = 0
  · have t : (own_st_10 y M).toInt * M.toInt = M.toInt * (y.toInt / M.toInt) := by rw [s.1 h, Int.mul_comm]
    rw [t] at c1
    generalize M.toInt * (y.toInt / M.toInt) = P at *
    generalize y.toInt % M.toInt = R at *
    omega
  · have t : (own_st_10 y M).toInt * M.toInt = M.toInt * (y.toInt / M.toInt) + M.toInt := by rw [s.2 h, Int.add_mul, Int.one_mul, Int.mul_comm]
    rw [t] at c1
    generalize M.toInt * (y.toInt / M.toInt) = P at *
    generalize y.toInt % M.toInt = R at *
    omega
theorem own_b1000 {y u : Int64} (hy : 0 ≤ y.toInt) (hu : 0 ≤ u.toInt) (h : y = (0 : Int64)) : (own_st_10 y (own_mx_3 (1 : Int64) u)) = (0 : Int64) := by
  subst h
  have s := (own_S (y := 0) hy (own_M hu)).1 (by show (0 : Int) % _ = 0; exact Int.zero_emod _)
  rw [← Int64.toInt_inj, s]
  show (0 : Int) / _ = 0
  exact Int.zero_ediv _
theorem own_b1001 {y u : Int64} (hy : 0 ≤ y.toInt) (hu : 0 ≤ u.toInt) (h : ¬ y = (0 : Int64)) : (own_st_10 y (own_mx_3 (1 : Int64) u)) = (((y - (1 : Int64)) / (own_mx_3 (1 : Int64) u)) + (1 : Int64)) := by
  have hM := own_M hu
  generalize own_mx_3 (1 : Int64) u = M at *
  have e0 : (0 : Int64).toInt = 0 := rfl
  have e1 : (1 : Int64).toInt = 1 := rfl
  have hy1 : y.toInt ≠ 0 := fun q => h (by rw [← Int64.toInt_inj, q]; rfl)
  have c0 := c_lsub y 1
  have g0 := rng64 (y - 1)
  have gy := rng64 y
  have hne : M ≠ -1 := fun q => by rw [q] at hM; exact absurd hM (by decide)
  have v : (y - 1).toInt = y.toInt - 1 := by omega
  have d := (c_ldiv (y - 1) M M.toInt rfl hne).1 (by omega)
  rw [v] at d
  have s := own_S hy hM
  have key := Int.mul_ediv_add_emod y.toInt M.toInt
  have p0 := Int.emod_nonneg y.toInt (b := M.toInt) (by omega)
  have p1 := Int.emod_lt_of_pos y.toInt (b := M.toInt) (by omega)
  have k0 : 0 ≤ y.toInt / M.toInt := Int.ediv_nonneg hy (by omega)
  have k1 : 1 * (y.toInt / M.toInt) ≤ M.toInt * (y.toInt / M.toInt) := Int.mul_le_mul_of_nonneg_right hM k0
  have c := c_ladd ((y - 1) / M) 1
  have g := rng64 ((y - 1) / M + 1)
  rw [← Int64.toInt_inj]
  by_cases q : y.toInt % M.toInt = 0
  · have u1 := ((Int.ediv_emod_unique (a := y.toInt - 1) (b := M.toInt) (r := M.toInt - 1) (q := y.toInt / M.toInt - 1) (by omega)).mpr ⟨by rw [Int.mul_sub, Int.mul_one]; omega, by omega, by omega⟩).1
    rw [u1] at d
    rw [s.1 q]
    rw [d] at c
    generalize M.toInt * (y.toInt / M.toInt) = P at *
    omega
  · have u1 := ((Int.ediv_emod_unique (a := y.toInt - 1) (b := M.toInt) (r := y.toInt % M.toInt - 1) (q := y.toInt / M.toInt) (by omega)).mpr ⟨by omega, by omega, by omega⟩).1
    rw [u1] at d
    rw [s.2 q]
    rw [d] at c
    generalize M.toInt * (y.toInt / M.toInt) = P at *
    omega
theorem own_b107 {y u : Int64} (hy : 0 ≤ y.toInt) (hu : 0 ≤ u.toInt) : ¬ (((own_st_10 y (own_mx_3 (1 : Int64) u)) * (own_mx_3 (1 : Int64) u)) - y) < (0 : Int64) := by
  rw [Int64.lt_iff_toInt_lt]
  have e0 : (0 : Int64).toInt = 0 := rfl
  have := own_X hy (own_M hu)
  omega
theorem own_b115 {y u : Int64} (hy : 0 ≤ y.toInt) (hu : 0 ≤ u.toInt) : (((own_st_10 y (own_mx_3 (1 : Int64) u)) * (own_mx_3 (1 : Int64) u)) - y) < (own_mx_3 (1 : Int64) u) := by
  rw [Int64.lt_iff_toInt_lt]
  exact (own_X hy (own_M hu)).2

theorem pd_0 : parseMethodDescriptor "(JJ)J" = some ⟨[.long, .long], some .long⟩ := by decide +kernel
theorem pn_1 : plainName "com/example/abonarium/abonarium/core/UnitsStartedPinLaw" = true := by first | (simp [plainName, overriddenIn]; done) | decide +kernel
theorem ef_0 (m : MethodId) (x0 : Int64) (x1 : Int64) (x2 : Int32)  : entryFrame m #[(.long x0), (.long x1), (.int x2)] maxLocals = mkF m 0 #[.val (.long x0), .second, .val (.long x1), .second, .val (.int x2), .unset, .unset, .unset, .unset, .unset, .unset, .unset, .unset, .unset, .unset] [] := by first | (simp [entryFrame, mkF, argsToLocals, Value.category, maxLocals]; done) | rfl
set_option maxRecDepth 65536 in
set_option maxHeartbeats 40000000 in
theorem rm0 (l : Launch) (Z : State) (a0 : Array Value) (hw : ∀ d ∈ tables_1, d.before a0 Z = true) (ws : List Jvm.Cond) (q1 : Int64) (q2 : Int64) (p3 : Int32) (h0 : Heap) (n0 : Nat) (Z0 : n0 ≤ h0.size) :
    MetFree l x (head1 (Jvm.Cond.code x code maxLocals ret :: ws) room_1) (fun a U => a = #[(.long q1), (.long q2), (.int p3)] ∧ Z.Warmed39 U.vm ∧ U.heap = h0) (fun _ _ _ _ _ => True) (fun _ U o U' => ∃ v L, o = .returned v ∧ (fun v h L => v = some (.int (1 : Int32)) ∧ Fr n0 L) v U'.heap L ∧ FrameEnd U o U' L room_1.cells room_1.slots) := by
  refine MetFree.of_bodySF (plainFor_of_name pn_1) hisR ?_
  intro p e s m args below meth c s₁ Bd hml0 hP hK
  obtain ⟨rfl, hZ, hh⟩ := hP
  have hx := Bd.exec
  have hby := Bd.bytes
  have hml : c.maxLocals = 15 := hml0
  have hown : s.vm.findClass "com/example/abonarium/abonarium/core/UnitsStartedPinLaw" = some m.cls := findClass_of_methodNamed Bd.named
  have hnm := (name_of_methodNamed Bd.named Bd.method).1
  have X0 : Stand p l e room_1 s m #[(.long q1), (.long q2), (.int p3)] below meth c s₁ [] 0 0 := Stand.of_body Bd
  have e0 : s₁.heap = h0 := by rw [← hh, Bd.state]; rfl
  have N0 := Fr.nil n0
  have hw_0 := hw _ (List.mem_of_getElem? (i := 0) rfl)
  have hw_1 := hw _ (List.mem_of_getElem? (i := 1) rfl)
  have hw_2 := hw _ (List.mem_of_getElem? (i := 2) rfl)
  have hw_3 := hw _ (List.mem_of_getElem? (i := 3) rfl)
  have hw_4 := hw _ (List.mem_of_getElem? (i := 4) rfl)
  have hw_5 := hw _ (List.mem_of_getElem? (i := 5) rfl)
  have hw_6 := hw _ (List.mem_of_getElem? (i := 6) rfl)
  have hw_7 := hw _ (List.mem_of_getElem? (i := 7) rfl)
  have hw_8 := hw _ (List.mem_of_getElem? (i := 8) rfl)
  have hw_9 := hw _ (List.mem_of_getElem? (i := 9) rfl)
  have hw_10 := hw _ (List.mem_of_getElem? (i := 10) rfl)
  show own_Fin p e below (own_A s room_1.cells room_1.slots (fun v h L => v = some (.int (1 : Int32)) ∧ Fr n0 L)) _
  refine own_go (fun t k => castTop (ef_0 m (q1) (q2) (p3)) k) ?_
  show own_Fin p e below _ (s₁.setTop (mkF m 0 #[.val (.long q1), .second, .val (.long q2), .second, .val (.int p3), .unset, .unset, .unset, .unset, .unset, .unset, .unset, .unset, .unset, .unset] []))
  refine own_go (fun t k => XS.lloadN X0.here hx rfl (hb hby at_0) rfl  k) ?_
  show own_Fin p e below _ (s₁.setTop (mkF m 1 #[.val (.long q1), .second, .val (.long q2), .second, .val (.int p3), .unset, .unset, .unset, .unset, .unset, .unset, .unset, .unset, .unset, .unset] [(.long q1)]))
  refine own_go (fun t k => X0.ldc2Long hx hown (mvT hZ hw_0) (g := (mkF m 1 #[.val (.long q1), .second, .val (.long q2), .second, .val (.int p3), .unset, .unset, .unset, .unset, .unset, .unset, .unset, .unset, .unset, .unset] [(.long q1)])) rfl (hb hby at_1) _ (XS.land X0.here hx rfl (hb hby at_4) rfl (XS.lstore X0.here hx rfl (hb hby at_5) rfl (l' := #[.val (.long q1), .second, .val (.long q2), .second, .val (.int p3), .val (.long (q1 &&& (9223372036854775807 : Int64))), .second, .unset, .unset, .unset, .unset, .unset, .unset, .unset, .unset]) rfl (XS.lloadN X0.here hx rfl (hb hby at_7) rfl  k)))) ?_
  show own_Fin p e below _ (s₁.setTop (mkF m 8 #[.val (.long q1), .second, .val (.long q2), .second, .val (.int p3), .val (.long (q1 &&& (9223372036854775807 : Int64))), .second, .unset, .unset, .unset, .unset, .unset, .unset, .unset, .unset] [(.long q2)]))
  refine own_go (fun t k => X0.ldc2Long hx hown (mvT hZ hw_0) (g := (mkF m 8 #[.val (.long q1), .second, .val (.long q2), .second, .val (.int p3), .val (.long (q1 &&& (9223372036854775807 : Int64))), .second, .unset, .unset, .unset, .unset, .unset, .unset, .unset, .unset] [(.long q2)])) rfl (hb hby at_8) _ (XS.land X0.here hx rfl (hb hby at_11) rfl (XS.lstore X0.here hx rfl (hb hby at_12) rfl (l' := #[.val (.long q1), .second, .val (.long q2), .second, .val (.int p3), .val (.long (q1 &&& (9223372036854775807 : Int64))), .second, .val (.long (q2 &&& (9223372036854775807 : Int64))), .second, .unset, .unset, .unset, .unset, .unset, .unset]) rfl k))) ?_
  show own_Fin p e below _ (s₁.setTop (mkF m 14 #[.val (.long q1), .second, .val (.long q2), .second, .val (.int p3), .val (.long (q1 &&& (9223372036854775807 : Int64))), .second, .val (.long (q2 &&& (9223372036854775807 : Int64))), .second, .unset, .unset, .unset, .unset, .unset, .unset] []))
  have Jn1 : ∀ (y : Int64) (u : Int64) (hy : 0 ≤ y.toInt) (hu : 0 ≤ u.toInt), own_Fin p e below (own_A s room_1.cells room_1.slots (fun v h L => v = some (.int (1 : Int32)) ∧ Fr n0 L)) (s₁.setTop (mkF m 44 #[.val (.long q1), .second, .val (.long q2), .second, .val (.int p3), .val (.long y), .second, .val (.long u), .second, .unset, .unset, .unset, .unset, .unset, .unset] [])) := by
    intro y u hy hu
    refine own_go (fun t k => XS.lconst X0.here hx rfl (hb hby at_44) (XS.lload X0.here hx rfl (hb hby at_45) rfl  k)) ?_
    show own_Fin p e below _ (s₁.setTop (mkF m 47 #[.val (.long q1), .second, .val (.long q2), .second, .val (.int p3), .val (.long y), .second, .val (.long u), .second, .unset, .unset, .unset, .unset, .unset, .unset] [(.long u), (.long (1 : Int64))]))
    obtain ⟨_, _, ⟨T2, L2, k2, n2⟩, -, X2, ⟨Lc2, hQ2, l2, y2, z2⟩, st2⟩ := Jvm.LawKit.callS X0 hx (y := (⟨"java/lang/Math", "max", "(JJ)J"⟩ : MethodName)) hown (mvT hZ hw_1) (mvT hZ hw_2) (mvT hZ hw_3) (mvT hZ hw_4) (by decide) (backOf (W := 0) (rm1 l Z a0 hw [] ((1 : Int64)) (u)  h0 n0 Z0 ) hZ hw_4 hw_3 (by decide) (by decide)) (g := (mkF m 47 #[.val (.long q1), .second, .val (.long q2), .second, .val (.int p3), .val (.long y), .second, .val (.long u), .second, .unset, .unset, .unset, .unset, .unset, .unset] [(.long u), (.long (1 : Int64))])) rfl (by rw [hml]; rfl) (argsL := [(.long (1 : Int64)), (.long u)]) (rest := []) (lenOf pd_0 rfl) rfl (by show 2 * 0 + _ ≤ _; exact Nat.le_of_eq rfl) (hb hby at_47) (fun _ _ => ⟨rfl, e0, (by decide : 0 + 0 ≤ _), (by decide : 0 + 0 ≤ _)⟩)
    dsimp only [Pt.U, Pt.locs, Pt.cells, Pt.slots] at X2 l2 y2 z2 st2 hQ2
    subst l2 y2 z2
    obtain ⟨rfl, N2q, e2⟩ := hQ2
    have N2 := Fr.app N0 N2q
    refine own_go st2 ?_
    show own_Fin p e below _ (T2.setTop (mkF m 50 #[.val (.long q1), .second, .val (.long q2), .second, .val (.int p3), .val (.long y), .second, .val (.long u), .second, .unset, .unset, .unset, .unset, .unset, .unset] [(.long (own_mx_3 (1 : Int64) u))]))
    refine own_go (fun t k => XS.lstore X2.here hx rfl (hb hby at_50) rfl (l' := #[.val (.long q1), .second, .val (.long q2), .second, .val (.int p3), .val (.long y), .second, .val (.long (own_mx_3 (1 : Int64) u)), .second, .unset, .unset, .unset, .unset, .unset, .unset]) rfl (XS.lload X2.here hx rfl (hb hby at_52) rfl  (XS.lload X2.here hx rfl (hb hby at_54) rfl  k))) ?_
    show own_Fin p e below _ (T2.setTop (mkF m 56 #[.val (.long q1), .second, .val (.long q2), .second, .val (.int p3), .val (.long y), .second, .val (.long (own_mx_3 (1 : Int64) u)), .second, .unset, .unset, .unset, .unset, .unset, .unset] [(.long (own_mx_3 (1 : Int64) u)), (.long y)]))
    obtain ⟨_, _, ⟨T3, L3, k3, n3⟩, -, X3, ⟨Lc3, hQ3, l3, y3, z3⟩, st3⟩ := Jvm.LawKit.callS X2 hx (y := (⟨"com/example/abonarium/abonarium/core/Units", "started", "(JJ)J"⟩ : MethodName)) hown (mvT hZ hw_5) (mvT hZ hw_6) (mvT hZ hw_7) (mvT hZ hw_8) (by decide) (backOf (W := 0) (rm2 l Z a0 hw [] (y) ((own_mx_3 (1 : Int64) u))  h0 n0 Z0 (own_nz hu)) hZ hw_8 hw_7 (by decide) (by decide)) (g := (mkF m 56 #[.val (.long q1), .second, .val (.long q2), .second, .val (.int p3), .val (.long y), .second, .val (.long (own_mx_3 (1 : Int64) u)), .second, .unset, .unset, .unset, .unset, .unset, .unset] [(.long (own_mx_3 (1 : Int64) u)), (.long y)])) rfl (by rw [hml]; rfl) (argsL := [(.long y), (.long (own_mx_3 (1 : Int64) u))]) (rest := []) (lenOf pd_0 rfl) rfl (by show 2 * 0 + _ ≤ _; exact Nat.le_of_eq rfl) (hb hby at_56) (fun _ _ => ⟨rfl, e2, (by decide : 0 + 0 ≤ _), (by decide : 0 + 0 ≤ _)⟩)
    dsimp only [Pt.U, Pt.locs, Pt.cells, Pt.slots] at X3 l3 y3 z3 st3 hQ3
    subst l3 y3 z3
    obtain ⟨rfl, N3q, e3⟩ := hQ3
    have N3 := Fr.app N2 N3q
    refine own_go st3 ?_
    show own_Fin p e below _ (T3.setTop (mkF m 59 #[.val (.long q1), .second, .val (.long q2), .second, .val (.int p3), .val (.long y), .second, .val (.long (own_mx_3 (1 : Int64) u)), .second, .unset, .unset, .unset, .unset, .unset, .unset] [(.long (own_st_10 y (own_mx_3 (1 : Int64) u)))]))
    refine own_go (fun t k => XS.lstore X3.here hx rfl (hb hby at_59) rfl (l' := #[.val (.long q1), .second, .val (.long q2), .second, .val (.int p3), .val (.long y), .second, .val (.long (own_mx_3 (1 : Int64) u)), .second, .val (.long (own_st_10 y (own_mx_3 (1 : Int64) u))), .second, .unset, .unset, .unset, .unset]) rfl (XS.lload X3.here hx rfl (hb hby at_61) rfl  (XS.lconst X3.here hx rfl (hb hby at_63) (XS.lcmp X3.here hx rfl (hb hby at_64) rfl k)))) ?_
    show own_Fin p e below _ (T3.setTop (mkF m 65 #[.val (.long q1), .second, .val (.long q2), .second, .val (.int p3), .val (.long y), .second, .val (.long (own_mx_3 (1 : Int64) u)), .second, .val (.long (own_st_10 y (own_mx_3 (1 : Int64) u))), .second, .unset, .unset, .unset, .unset] [(.int (lcmpW y (0 : Int64)))]))
    by_cases hc4 : y = (0 : Int64)
    · skip
      refine own_go (fun t k => XS.ifNo X3.here hx rfl (hb hby at_65) rfl ((if0 _ _).trans (teq ((lw_eq _ _).mpr hc4)).2) (XS.lconst X3.here hx rfl (hb hby at_68) (XS.lstore X3.here hx rfl (hb hby at_69) rfl (l' := #[.val (.long q1), .second, .val (.long q2), .second, .val (.int p3), .val (.long y), .second, .val (.long (own_mx_3 (1 : Int64) u)), .second, .val (.long (own_st_10 y (own_mx_3 (1 : Int64) u))), .second, .val (.long (0 : Int64)), .second, .unset, .unset]) rfl (XS.goto X3.here hx rfl (pc0 := 71) (pc' := 85) rfl (hb hby at_71) (by decide) (by decide) k)))) ?_
      show own_Fin p e below _ (T3.setTop (mkF m 85 #[.val (.long q1), .second, .val (.long q2), .second, .val (.int p3), .val (.long y), .second, .val (.long (own_mx_3 (1 : Int64) u)), .second, .val (.long (own_st_10 y (own_mx_3 (1 : Int64) u))), .second, .val (.long (0 : Int64)), .second, .unset, .unset] []))
      refine own_go (fun t k => XS.lload X3.here hx rfl (hb hby at_85) rfl  (XS.lload X3.here hx rfl (hb hby at_87) rfl  (XS.lmul X3.here hx rfl (hb hby at_89) rfl (XS.lload X3.here hx rfl (hb hby at_90) rfl  k)))) ?_
      show own_Fin p e below _ (T3.setTop (mkF m 92 #[.val (.long q1), .second, .val (.long q2), .second, .val (.int p3), .val (.long y), .second, .val (.long (own_mx_3 (1 : Int64) u)), .second, .val (.long (own_st_10 y (own_mx_3 (1 : Int64) u))), .second, .val (.long (0 : Int64)), .second, .unset, .unset] [(.long y), (.long ((own_st_10 y (own_mx_3 (1 : Int64) u)) * (own_mx_3 (1 : Int64) u)))]))
      refine own_go (fun t k => XS.lsub X3.here hx rfl (hb hby at_92) rfl (XS.lstore X3.here hx rfl (hb hby at_93) rfl (l' := #[.val (.long q1), .second, .val (.long q2), .second, .val (.int p3), .val (.long y), .second, .val (.long (own_mx_3 (1 : Int64) u)), .second, .val (.long (own_st_10 y (own_mx_3 (1 : Int64) u))), .second, .val (.long (0 : Int64)), .second, .val (.long (((own_st_10 y (own_mx_3 (1 : Int64) u)) * (own_mx_3 (1 : Int64) u)) - y)), .second]) rfl (XS.lload X3.here hx rfl (hb hby at_95) rfl  (XS.lload X3.here hx rfl (hb hby at_97) rfl  k)))) ?_
      show own_Fin p e below _ (T3.setTop (mkF m 99 #[.val (.long q1), .second, .val (.long q2), .second, .val (.int p3), .val (.long y), .second, .val (.long (own_mx_3 (1 : Int64) u)), .second, .val (.long (own_st_10 y (own_mx_3 (1 : Int64) u))), .second, .val (.long (0 : Int64)), .second, .val (.long (((own_st_10 y (own_mx_3 (1 : Int64) u)) * (own_mx_3 (1 : Int64) u)) - y)), .second] [(.long (0 : Int64)), (.long (own_st_10 y (own_mx_3 (1 : Int64) u)))]))
      refine own_go (fun t k => XS.lcmp X3.here hx rfl (hb hby at_99) rfl k) ?_
      show own_Fin p e below _ (T3.setTop (mkF m 100 #[.val (.long q1), .second, .val (.long q2), .second, .val (.int p3), .val (.long y), .second, .val (.long (own_mx_3 (1 : Int64) u)), .second, .val (.long (own_st_10 y (own_mx_3 (1 : Int64) u))), .second, .val (.long (0 : Int64)), .second, .val (.long (((own_st_10 y (own_mx_3 (1 : Int64) u)) * (own_mx_3 (1 : Int64) u)) - y)), .second] [(.int (lcmpW (own_st_10 y (own_mx_3 (1 : Int64) u)) (0 : Int64)))]))
      refine own_go (fun t k => XS.ifNo X3.here hx rfl (hb hby at_100) rfl ((if0 _ _).trans (teq ((lw_eq _ _).mpr (own_b1000 hy hu hc4))).2) (XS.lload X3.here hx rfl (hb hby at_103) rfl  (XS.lconst X3.here hx rfl (hb hby at_105) (XS.lcmp X3.here hx rfl (hb hby at_106) rfl k)))) ?_
      show own_Fin p e below _ (T3.setTop (mkF m 107 #[.val (.long q1), .second, .val (.long q2), .second, .val (.int p3), .val (.long y), .second, .val (.long (own_mx_3 (1 : Int64) u)), .second, .val (.long (own_st_10 y (own_mx_3 (1 : Int64) u))), .second, .val (.long (0 : Int64)), .second, .val (.long (((own_st_10 y (own_mx_3 (1 : Int64) u)) * (own_mx_3 (1 : Int64) u)) - y)), .second] [(.int (lcmpW (((own_st_10 y (own_mx_3 (1 : Int64) u)) * (own_mx_3 (1 : Int64) u)) - y) (0 : Int64)))]))
      refine own_go (fun t k => XS.ifNo X3.here hx rfl (hb hby at_107) rfl ((if0 _ _).trans (flt (fun q => (own_b107 hy hu) ((lw_lt _ _).mp q))).1) (XS.lload X3.here hx rfl (hb hby at_110) rfl  (XS.lload X3.here hx rfl (hb hby at_112) rfl  (XS.lcmp X3.here hx rfl (hb hby at_114) rfl k)))) ?_
      show own_Fin p e below _ (T3.setTop (mkF m 115 #[.val (.long q1), .second, .val (.long q2), .second, .val (.int p3), .val (.long y), .second, .val (.long (own_mx_3 (1 : Int64) u)), .second, .val (.long (own_st_10 y (own_mx_3 (1 : Int64) u))), .second, .val (.long (0 : Int64)), .second, .val (.long (((own_st_10 y (own_mx_3 (1 : Int64) u)) * (own_mx_3 (1 : Int64) u)) - y)), .second] [(.int (lcmpW (((own_st_10 y (own_mx_3 (1 : Int64) u)) * (own_mx_3 (1 : Int64) u)) - y) (own_mx_3 (1 : Int64) u)))]))
      refine own_go (fun t k => XS.ifNo X3.here hx rfl (hb hby at_115) rfl ((if0 _ _).trans (tlt ((lw_lt _ _).mpr (own_b115 hy hu))).2.1) (XS.iconst X3.here hx rfl (hb hby at_118) (XS.goto X3.here hx rfl (pc0 := 119) (pc' := 123) rfl (hb hby at_119) (by decide) (by decide) k))) ?_
      show own_Fin p e below _ (T3.setTop (mkF m 123 #[.val (.long q1), .second, .val (.long q2), .second, .val (.int p3), .val (.long y), .second, .val (.long (own_mx_3 (1 : Int64) u)), .second, .val (.long (own_st_10 y (own_mx_3 (1 : Int64) u))), .second, .val (.long (0 : Int64)), .second, .val (.long (((own_st_10 y (own_mx_3 (1 : Int64) u)) * (own_mx_3 (1 : Int64) u)) - y)), .second] [(.int (1 : Int32))]))
      exact own_out X3 (fun h => by rw [Bd.returns] at h; cases h) Bd.notSynchronized (fun fs hr => retN X3 hx (t := .boolean) Bd.returns (by simp) (hb hby at_123) hr) ⟨rfl, N3⟩ (by decide) (by decide)
    · skip
      refine own_go (fun t k => XS.ifYes X3.here hx rfl (pc0 := 65) (pc' := 74) rfl (hb hby at_65) rfl ((if0 _ _).trans (feq (fun q => hc4 ((lw_eq _ _).mp q))).2) (by decide) (by decide) (XS.lload X3.here hx rfl (hb hby at_74) rfl  (XS.lconst X3.here hx rfl (hb hby at_76) (XS.lsub X3.here hx rfl (hb hby at_77) rfl k)))) ?_
      show own_Fin p e below _ (T3.setTop (mkF m 78 #[.val (.long q1), .second, .val (.long q2), .second, .val (.int p3), .val (.long y), .second, .val (.long (own_mx_3 (1 : Int64) u)), .second, .val (.long (own_st_10 y (own_mx_3 (1 : Int64) u))), .second, .unset, .unset, .unset, .unset] [(.long (y - (1 : Int64)))]))
      refine own_go (fun t k => XS.lload X3.here hx rfl (hb hby at_78) rfl  (XS.ldiv X3.here hx rfl (hb hby at_80) rfl (own_nz hu) (XS.lconst X3.here hx rfl (hb hby at_81) (XS.ladd X3.here hx rfl (hb hby at_82) rfl k)))) ?_
      show own_Fin p e below _ (T3.setTop (mkF m 83 #[.val (.long q1), .second, .val (.long q2), .second, .val (.int p3), .val (.long y), .second, .val (.long (own_mx_3 (1 : Int64) u)), .second, .val (.long (own_st_10 y (own_mx_3 (1 : Int64) u))), .second, .unset, .unset, .unset, .unset] [(.long (((y - (1 : Int64)) / (own_mx_3 (1 : Int64) u)) + (1 : Int64)))]))
      refine own_go (fun t k => XS.lstore X3.here hx rfl (hb hby at_83) rfl (l' := #[.val (.long q1), .second, .val (.long q2), .second, .val (.int p3), .val (.long y), .second, .val (.long (own_mx_3 (1 : Int64) u)), .second, .val (.long (own_st_10 y (own_mx_3 (1 : Int64) u))), .second, .val (.long (((y - (1 : Int64)) / (own_mx_3 (1 : Int64) u)) + (1 : Int64))), .second, .unset, .unset]) rfl (XS.lload X3.here hx rfl (hb hby at_85) rfl  (XS.lload X3.here hx rfl (hb hby at_87) rfl  (XS.lmul X3.here hx rfl (hb hby at_89) rfl k)))) ?_
      show own_Fin p e below _ (T3.setTop (mkF m 90 #[.val (.long q1), .second, .val (.long q2), .second, .val (.int p3), .val (.long y), .second, .val (.long (own_mx_3 (1 : Int64) u)), .second, .val (.long (own_st_10 y (own_mx_3 (1 : Int64) u))), .second, .val (.long (((y - (1 : Int64)) / (own_mx_3 (1 : Int64) u)) + (1 : Int64))), .second, .unset, .unset] [(.long ((own_st_10 y (own_mx_3 (1 : Int64) u)) * (own_mx_3 (1 : Int64) u)))]))
      refine own_go (fun t k => XS.lload X3.here hx rfl (hb hby at_90) rfl  (XS.lsub X3.here hx rfl (hb hby at_92) rfl (XS.lstore X3.here hx rfl (hb hby at_93) rfl (l' := #[.val (.long q1), .second, .val (.long q2), .second, .val (.int p3), .val (.long y), .second, .val (.long (own_mx_3 (1 : Int64) u)), .second, .val (.long (own_st_10 y (own_mx_3 (1 : Int64) u))), .second, .val (.long (((y - (1 : Int64)) / (own_mx_3 (1 : Int64) u)) + (1 : Int64))), .second, .val (.long (((own_st_10 y (own_mx_3 (1 : Int64) u)) * (own_mx_3 (1 : Int64) u)) - y)), .second]) rfl (XS.lload X3.here hx rfl (hb hby at_95) rfl  k)))) ?_
      show own_Fin p e below _ (T3.setTop (mkF m 97 #[.val (.long q1), .second, .val (.long q2), .second, .val (.int p3), .val (.long y), .second, .val (.long (own_mx_3 (1 : Int64) u)), .second, .val (.long (own_st_10 y (own_mx_3 (1 : Int64) u))), .second, .val (.long (((y - (1 : Int64)) / (own_mx_3 (1 : Int64) u)) + (1 : Int64))), .second, .val (.long (((own_st_10 y (own_mx_3 (1 : Int64) u)) * (own_mx_3 (1 : Int64) u)) - y)), .second] [(.long (own_st_10 y (own_mx_3 (1 : Int64) u)))]))
      refine own_go (fun t k => XS.lload X3.here hx rfl (hb hby at_97) rfl  (XS.lcmp X3.here hx rfl (hb hby at_99) rfl k)) ?_
      show own_Fin p e below _ (T3.setTop (mkF m 100 #[.val (.long q1), .second, .val (.long q2), .second, .val (.int p3), .val (.long y), .second, .val (.long (own_mx_3 (1 : Int64) u)), .second, .val (.long (own_st_10 y (own_mx_3 (1 : Int64) u))), .second, .val (.long (((y - (1 : Int64)) / (own_mx_3 (1 : Int64) u)) + (1 : Int64))), .second, .val (.long (((own_st_10 y (own_mx_3 (1 : Int64) u)) * (own_mx_3 (1 : Int64) u)) - y)), .second] [(.int (lcmpW (own_st_10 y (own_mx_3 (1 : Int64) u)) (((y - (1 : Int64)) / (own_mx_3 (1 : Int64) u)) + (1 : Int64))))]))
      refine own_go (fun t k => XS.ifNo X3.here hx rfl (hb hby at_100) rfl ((if0 _ _).trans (teq ((lw_eq _ _).mpr (own_b1001 hy hu hc4))).2) (XS.lload X3.here hx rfl (hb hby at_103) rfl  (XS.lconst X3.here hx rfl (hb hby at_105) (XS.lcmp X3.here hx rfl (hb hby at_106) rfl k)))) ?_
      show own_Fin p e below _ (T3.setTop (mkF m 107 #[.val (.long q1), .second, .val (.long q2), .second, .val (.int p3), .val (.long y), .second, .val (.long (own_mx_3 (1 : Int64) u)), .second, .val (.long (own_st_10 y (own_mx_3 (1 : Int64) u))), .second, .val (.long (((y - (1 : Int64)) / (own_mx_3 (1 : Int64) u)) + (1 : Int64))), .second, .val (.long (((own_st_10 y (own_mx_3 (1 : Int64) u)) * (own_mx_3 (1 : Int64) u)) - y)), .second] [(.int (lcmpW (((own_st_10 y (own_mx_3 (1 : Int64) u)) * (own_mx_3 (1 : Int64) u)) - y) (0 : Int64)))]))
      refine own_go (fun t k => XS.ifNo X3.here hx rfl (hb hby at_107) rfl ((if0 _ _).trans (flt (fun q => (own_b107 hy hu) ((lw_lt _ _).mp q))).1) (XS.lload X3.here hx rfl (hb hby at_110) rfl  (XS.lload X3.here hx rfl (hb hby at_112) rfl  (XS.lcmp X3.here hx rfl (hb hby at_114) rfl k)))) ?_
      show own_Fin p e below _ (T3.setTop (mkF m 115 #[.val (.long q1), .second, .val (.long q2), .second, .val (.int p3), .val (.long y), .second, .val (.long (own_mx_3 (1 : Int64) u)), .second, .val (.long (own_st_10 y (own_mx_3 (1 : Int64) u))), .second, .val (.long (((y - (1 : Int64)) / (own_mx_3 (1 : Int64) u)) + (1 : Int64))), .second, .val (.long (((own_st_10 y (own_mx_3 (1 : Int64) u)) * (own_mx_3 (1 : Int64) u)) - y)), .second] [(.int (lcmpW (((own_st_10 y (own_mx_3 (1 : Int64) u)) * (own_mx_3 (1 : Int64) u)) - y) (own_mx_3 (1 : Int64) u)))]))
      refine own_go (fun t k => XS.ifNo X3.here hx rfl (hb hby at_115) rfl ((if0 _ _).trans (tlt ((lw_lt _ _).mpr (own_b115 hy hu))).2.1) (XS.iconst X3.here hx rfl (hb hby at_118) (XS.goto X3.here hx rfl (pc0 := 119) (pc' := 123) rfl (hb hby at_119) (by decide) (by decide) k))) ?_
      show own_Fin p e below _ (T3.setTop (mkF m 123 #[.val (.long q1), .second, .val (.long q2), .second, .val (.int p3), .val (.long y), .second, .val (.long (own_mx_3 (1 : Int64) u)), .second, .val (.long (own_st_10 y (own_mx_3 (1 : Int64) u))), .second, .val (.long (((y - (1 : Int64)) / (own_mx_3 (1 : Int64) u)) + (1 : Int64))), .second, .val (.long (((own_st_10 y (own_mx_3 (1 : Int64) u)) * (own_mx_3 (1 : Int64) u)) - y)), .second] [(.int (1 : Int32))]))
      exact own_out X3 (fun h => by rw [Bd.returns] at h; cases h) Bd.notSynchronized (fun fs hr => retN X3 hx (t := .boolean) Bd.returns (by simp) (hb hby at_123) hr) ⟨rfl, N3⟩ (by decide) (by decide)
  have Jn5 : ∀ (y : Int64) (hy : 0 ≤ y.toInt), own_Fin p e below (own_A s room_1.cells room_1.slots (fun v h L => v = some (.int (1 : Int32)) ∧ Fr n0 L)) (s₁.setTop (mkF m 29 #[.val (.long q1), .second, .val (.long q2), .second, .val (.int p3), .val (.long y), .second, .val (.long (q2 &&& (9223372036854775807 : Int64))), .second, .unset, .unset, .unset, .unset, .unset, .unset] [])) := by
    intro y hy
    refine own_go (fun t k => XS.iload X0.here hx rfl (hb hby at_29) rfl  (XS.iconst X0.here hx rfl (hb hby at_31) (XS.iand X0.here hx rfl (hb hby at_32) rfl k))) ?_
    show own_Fin p e below _ (s₁.setTop (mkF m 33 #[.val (.long q1), .second, .val (.long q2), .second, .val (.int p3), .val (.long y), .second, .val (.long (q2 &&& (9223372036854775807 : Int64))), .second, .unset, .unset, .unset, .unset, .unset, .unset] [(.int (p3 &&& (2 : Int32)))]))
    by_cases hc6 : (p3 &&& (2 : Int32)) = (0 : Int32)
    · skip
      refine own_go (fun t k => XS.ifYes X0.here hx rfl (pc0 := 33) (pc' := 44) rfl (hb hby at_33) rfl ((if0 _ _).trans (teq hc6).1) (by decide) (by decide) k) ?_
      exact Jn1 (y) ((q2 &&& (9223372036854775807 : Int64))) hy (own_k0 _)
    · skip
      refine own_go (fun t k => XS.ifNo X0.here hx rfl (hb hby at_33) rfl ((if0 _ _).trans (feq hc6).1) (XS.lload X0.here hx rfl (hb hby at_36) rfl  k)) ?_
      show own_Fin p e below _ (s₁.setTop (mkF m 38 #[.val (.long q1), .second, .val (.long q2), .second, .val (.int p3), .val (.long y), .second, .val (.long (q2 &&& (9223372036854775807 : Int64))), .second, .unset, .unset, .unset, .unset, .unset, .unset] [(.long (q2 &&& (9223372036854775807 : Int64)))]))
      refine own_go (fun t k => X0.ldc2Long hx hown (mvT hZ hw_10) (g := (mkF m 38 #[.val (.long q1), .second, .val (.long q2), .second, .val (.int p3), .val (.long y), .second, .val (.long (q2 &&& (9223372036854775807 : Int64))), .second, .unset, .unset, .unset, .unset, .unset, .unset] [(.long (q2 &&& (9223372036854775807 : Int64)))])) rfl (hb hby at_38) _ (XS.land X0.here hx rfl (hb hby at_41) rfl (XS.lstore X0.here hx rfl (hb hby at_42) rfl (l' := #[.val (.long q1), .second, .val (.long q2), .second, .val (.int p3), .val (.long y), .second, .val (.long ((q2 &&& (9223372036854775807 : Int64)) &&& (255 : Int64))), .second, .unset, .unset, .unset, .unset, .unset, .unset]) rfl k))) ?_
      exact Jn1 (y) (((q2 &&& (9223372036854775807 : Int64)) &&& (255 : Int64))) hy (own_k2 _)
  refine own_go (fun t k => XS.iload X0.here hx rfl (hb hby at_14) rfl  (XS.iconst X0.here hx rfl (hb hby at_16) (XS.iand X0.here hx rfl (hb hby at_17) rfl k))) ?_
  show own_Fin p e below _ (s₁.setTop (mkF m 18 #[.val (.long q1), .second, .val (.long q2), .second, .val (.int p3), .val (.long (q1 &&& (9223372036854775807 : Int64))), .second, .val (.long (q2 &&& (9223372036854775807 : Int64))), .second, .unset, .unset, .unset, .unset, .unset, .unset] [(.int (p3 &&& (1 : Int32)))]))
  by_cases hc7 : (p3 &&& (1 : Int32)) = (0 : Int32)
  · skip
    refine own_go (fun t k => XS.ifYes X0.here hx rfl (pc0 := 18) (pc' := 29) rfl (hb hby at_18) rfl ((if0 _ _).trans (teq hc7).1) (by decide) (by decide) k) ?_
    exact Jn5 ((q1 &&& (9223372036854775807 : Int64))) (own_k0 _)
  · skip
    refine own_go (fun t k => XS.ifNo X0.here hx rfl (hb hby at_18) rfl ((if0 _ _).trans (feq hc7).1) (XS.lload X0.here hx rfl (hb hby at_21) rfl  k)) ?_
    show own_Fin p e below _ (s₁.setTop (mkF m 23 #[.val (.long q1), .second, .val (.long q2), .second, .val (.int p3), .val (.long (q1 &&& (9223372036854775807 : Int64))), .second, .val (.long (q2 &&& (9223372036854775807 : Int64))), .second, .unset, .unset, .unset, .unset, .unset, .unset] [(.long (q1 &&& (9223372036854775807 : Int64)))]))
    refine own_go (fun t k => X0.ldc2Long hx hown (mvT hZ hw_9) (g := (mkF m 23 #[.val (.long q1), .second, .val (.long q2), .second, .val (.int p3), .val (.long (q1 &&& (9223372036854775807 : Int64))), .second, .val (.long (q2 &&& (9223372036854775807 : Int64))), .second, .unset, .unset, .unset, .unset, .unset, .unset] [(.long (q1 &&& (9223372036854775807 : Int64)))])) rfl (hb hby at_23) _ (XS.land X0.here hx rfl (hb hby at_26) rfl (XS.lstore X0.here hx rfl (hb hby at_27) rfl (l' := #[.val (.long q1), .second, .val (.long q2), .second, .val (.int p3), .val (.long ((q1 &&& (9223372036854775807 : Int64)) &&& (65535 : Int64))), .second, .val (.long (q2 &&& (9223372036854775807 : Int64))), .second, .unset, .unset, .unset, .unset, .unset, .unset]) rfl k))) ?_
    exact Jn5 (((q1 &&& (9223372036854775807 : Int64)) &&& (65535 : Int64))) (own_k1 _)
set_option maxRecDepth 65536 in
set_option maxHeartbeats 40000000 in
theorem comes_1 {Post : Tables → Env → Array Value → State → Outcome → State → Prop} (hpost : ∀ tb e args s v u, (limb_1_1.after args s (.returned v) u = true ∧ limb_1_2.after args s (.returned v) u = true ∧ True) → FrameEnd s (.returned v) u (Jvm.fieldLocs frame_1_writes args s ++ Jvm.arrayLocs frame_1_arrays args s ++ Jvm.staticLocs frame_1_statics s) 0 0 → Post tb e args s (.returned v) u) :
    ArmFor flags0 classFile x code maxLocals ret World_1 tables_1 room_1 Calls_1 rest_1 Pre_1 Post := by
  intro l hfl _ _ p e ha hc hk s m args below hf hA hF happ hP
  obtain ⟨hcalls, hrest, hpre⟩ := hP
  obtain ⟨-, -, -, hnamed, -, -, -, hat⟩ := (Spec.applies_iff hf).mp happ
  obtain ⟨hg, hn⟩ := and_e (Cond.before_iff.mp (show (Jvm.Cond.and given_1 narrow_1).before args s = true from hpre))
  obtain ⟨g0, r0⟩ := and_e hg
  obtain ⟨g1, r1⟩ := and_e r0
  obtain ⟨g2, r2⟩ := and_e r1
  obtain ⟨w0, w1, w2, rfl⟩ : ∃ w0 w1 w2 : Value, args = #[w0, w1, w2] := by
    have hs : args.size = 3 := by simpa [Cond.value, given_1] using g0
    obtain ⟨L⟩ := args
    match L, hs with
    | [w0, w1, w2], _ => exact ⟨w0, w1, w2, rfl⟩
  have hw := fun d (hd : d ∈ tables_1) => atoms_spec (ws := Jvm.Cond.code x code maxLocals ret :: tables_1) hat d (List.mem_cons_of_mem _ hd)
  have hfit : Fit s := fun {y c} hc i hi => by
    obtain ⟨ha, rfl⟩ := Array.getElem?_eq_some_iff.mp hc
    have q := List.all_eq_true.mp ((Array.all_eq_true_iff_forall_mem.mp hF) _ (Array.getElem_mem ha)) i (List.mem_range.mpr hi)
    simpa [Array.getElem?_eq_getElem hi] using q
  obtain ⟨i0, ei0⟩ := isL_v g1
  obtain rfl : w0 = (.long i0) := Option.some.inj ei0
  obtain ⟨i1, ei1⟩ := isL_v g2
  obtain rfl : w1 = (.long i1) := Option.some.inj ei1
  obtain ⟨i2, ei2⟩ := is_v r2
  obtain rfl : w2 = (.int i2) := Option.some.inj ei2
  obtain ⟨n, o, h1, h2, h3, _, L, rfl, ⟨rfl, N⟩, hq⟩ := rm0 l s _ hw tables_1 i0 i1 i2  s.heap s.heap.size (Nat.le_refl _)  p e ha hc hk s m _ below hf ((Spec.applies_iff_loose hf).mp happ).1 ⟨rfl, State.Warmed39.refl s, rfl⟩ trivial
  refine ⟨n, _, h1, h2, h3, hpost _ _ _ _ _ _ ⟨Cond.after_iff.mpr rfl, Cond.after_iff.mpr (eq_i res_at (Term.int_eval (1)) rfl), trivial⟩ ⟨hq.1, hq.2.1, (hq.2.2.sift fun y hy => Or.inr (N y hy)).mono (by decide) (by decide)⟩⟩
theorem main_1_1 : Claimed_1_1 := comes_1 fun _ _ _ _ _ _ h hF => ⟨h.1, hF⟩
theorem main_1_2 : Claimed_1_2 := comes_1 fun _ _ _ _ _ _ h hF => ⟨h.2.1, hF⟩
end Jvm.Pilot.@@N@@
namespace Jvm.Pilot.@@N@@
open Jvm Jvm.ClassFile Sem Op Lib Jvm.Free Jvm.Stand Jvm.Pilot.@@N@@.Jvm.D
/-! MADE BY PROGRAM (witnessworld.py) out of the Statement's table words and the real class files: 10 classes; the members and pool entries that the words name. The judged class is class 1, her method 1. -/
namespace start1
open Jvm.ClassFile
def u (s : String) : CpInfo := .utf8 (stringToUtf16 s)
/-- a pool by its gaps: so many unusable entries, then the entry; so many at the end -/
def gap : Nat → List CpInfo → List CpInfo
  | 0, r => r
  | n + 1, r => .unusable :: gap n r
def poolList (es : List (Nat × CpInfo)) (last : Nat) : List CpInfo := es.foldr (fun e r => gap e.1 (e.2 :: r)) (gap last [])
def pool (es : List (Nat × CpInfo)) (last : Nat) : Array CpInfo := ⟨poolList es last⟩
def fileOf (pool : Array CpInfo) (this : Nat) (attrs : Array Attribute := #[]) (ms : Array MethodInfo := #[]) (fl : Nat := 33) (sup : Nat := 0) (ifs : Array Nat := #[]) (fds : Array FieldInfo := #[]) : ClassFile where
  minorVersion := 0
  majorVersion := 65
  constantPool := pool
  accessFlags := fl
  thisClass := this
  superClass := sup
  interfaces := ifs
  fields := fds
  methods := ms
  attributes := attrs
def plain (name : String) (sup : Option ClassId) : Class where
  name := name
  kind := .ordinary
  loader := none
  accessFlags := 33
  super := sup
  interfaces := #[]
  cf := none
  fields := #[]
  methods := #[]
  instanceTypes := #[]
  staticTypes := #[]
  resolved := #[]
  callSites := []
  init := .initialized
  statics := none
  mirror := none

def pool0 : Array CpInfo := pool [(5, u "<init>"), (0, u "()V"), (1, .class_ 10), (1, u "java/lang/Object")] 113

def k0m0 : Method := { name := "<init>", desc := "()V", sig := { parameters := [], returnType := none }, accessFlags := 1, code := none }
/-- java/lang/Object -/
def k0 : Class := { plain "java/lang/Object" none with
  accessFlags := 33
  interfaces := #[]
  cf := some (fileOf pool0 8 #[] #[{ accessFlags := 1, nameIndex := 5, descriptorIndex := 6, attributes := #[] }] 33 0 #[] #[])
  fields := #[]
  methods := #[k0m0]
  instanceTypes := #[]
  staticTypes := #[]
  resolved := Array.replicate 124 none
  statics := none }

def pool1 : Array CpInfo := pool [(2, .class_ 4), (1, u "java/lang/Object"), (0, u "<init>"), (0, u "()V"), (2, .long 9223372036854775807), (1, .long 65535), (1, .long 255), (1, .methodref 16 17), (0, .class_ 18), (0, .nameAndType 19 20), (0, u "java/lang/Math"), (0, u "max"), (0, u "(JJ)J"), (0, .methodref 22 23), (0, .class_ 24), (0, .nameAndType 25 20), (0, u "com/example/abonarium/abonarium/core/Units"), (0, u "started"), (0, .class_ 27), (0, u "com/example/abonarium/abonarium/core/UnitsStartedPinLaw"), (2, u "law"), (0, u "(JJI)Z")] 3

def k1m0 : Method := { name := "<init>", desc := "()V", sig := { parameters := [], returnType := none }, accessFlags := 2, code := none }
def k1c1 : Code := { maxStack := 4, maxLocals := 15, code := code, exceptionTable := #[], attributes := #[] }
def k1m1 : Method := { name := "law", desc := "(JJI)Z", sig := { parameters := [.long, .long, .int], returnType := some .boolean }, accessFlags := 9, code := some k1c1 }
/-- com/example/abonarium/abonarium/core/UnitsStartedPinLaw -/
def k1 : Class := { plain "com/example/abonarium/abonarium/core/UnitsStartedPinLaw" (some 0) with
  accessFlags := 49
  interfaces := #[]
  cf := some (fileOf pool1 26 #[] #[{ accessFlags := 2, nameIndex := 5, descriptorIndex := 6, attributes := #[] }, { accessFlags := 9, nameIndex := 30, descriptorIndex := 31, attributes := #[] }] 49 2 #[] #[])
  fields := #[]
  methods := #[k1m0, k1m1]
  instanceTypes := #[]
  staticTypes := #[]
  resolved := Array.replicate 35 none
  statics := none }

def pool2 : Array CpInfo := pool [(1, .class_ 2), (0, u "java/lang/Math"), (1, .class_ 6), (1, u "java/lang/Object"), (0, u "<init>"), (0, u "()V"), (89, .class_ 100), (1, u "java/lang/Math$RandomNumberGeneratorHolder"), (20, u "(JJ)J"), (50, u "negativeZeroFloatBits"), (0, u "J"), (2, u "negativeZeroDoubleBits"), (21, u "max"), (46, u "$assertionsDisabled"), (0, u "Z"), (91, u "twoToTheDoubleScaleDown"), (0, u "D"), (4, u "twoToTheDoubleScaleUp"), (9, u "E"), (3, u "PI"), (2, u "TAU"), (2, u "DEGREES_TO_RADIANS"), (0, u "RADIANS_TO_DEGREES")] 94

def k2m0 : Method := { name := "<init>", desc := "()V", sig := { parameters := [], returnType := none }, accessFlags := 2, code := none }
def k2c1 : Code := { maxStack := 4, maxLocals := 4, code := jdk_29_method_66_code, exceptionTable := #[], attributes := #[] }
def k2m1 : Method := { name := "max", desc := "(JJ)J", sig := { parameters := [.long, .long], returnType := some .long }, accessFlags := 9, code := some k2c1 }
/-- java/lang/Math -/
def k2 : Class := { plain "java/lang/Math" (some 0) with
  accessFlags := 49
  interfaces := #[]
  cf := some (fileOf pool2 1 #[.nestMembers #[98]] #[{ accessFlags := 2, nameIndex := 7, descriptorIndex := 8, attributes := #[] }, { accessFlags := 9, nameIndex := 198, descriptorIndex := 121, attributes := #[] }] 49 4 #[] #[{ accessFlags := 25, nameIndex := 354, descriptorIndex := 339, attributes := #[] }, { accessFlags := 25, nameIndex := 358, descriptorIndex := 339, attributes := #[] }, { accessFlags := 25, nameIndex := 361, descriptorIndex := 339, attributes := #[] }, { accessFlags := 26, nameIndex := 364, descriptorIndex := 339, attributes := #[] }, { accessFlags := 26, nameIndex := 365, descriptorIndex := 339, attributes := #[] }, { accessFlags := 26, nameIndex := 172, descriptorIndex := 173, attributes := #[] }, { accessFlags := 26, nameIndex := 176, descriptorIndex := 173, attributes := #[] }, { accessFlags := 8, nameIndex := 344, descriptorIndex := 339, attributes := #[] }, { accessFlags := 8, nameIndex := 338, descriptorIndex := 339, attributes := #[] }, { accessFlags := 4120, nameIndex := 245, descriptorIndex := 246, attributes := #[] }])
  fields := #[{ name := "E", type := .double, accessFlags := 25, slot := 0, constantValue := 0 }, { name := "PI", type := .double, accessFlags := 25, slot := 1, constantValue := 0 }, { name := "TAU", type := .double, accessFlags := 25, slot := 2, constantValue := 0 }, { name := "DEGREES_TO_RADIANS", type := .double, accessFlags := 26, slot := 3, constantValue := 0 }, { name := "RADIANS_TO_DEGREES", type := .double, accessFlags := 26, slot := 4, constantValue := 0 }, { name := "negativeZeroFloatBits", type := .long, accessFlags := 26, slot := 5, constantValue := 0 }, { name := "negativeZeroDoubleBits", type := .long, accessFlags := 26, slot := 6, constantValue := 0 }, { name := "twoToTheDoubleScaleUp", type := .double, accessFlags := 8, slot := 7, constantValue := 0 }, { name := "twoToTheDoubleScaleDown", type := .double, accessFlags := 8, slot := 8, constantValue := 0 }, { name := "$assertionsDisabled", type := .boolean, accessFlags := 4120, slot := 9, constantValue := 0 }]
  methods := #[k2m0, k2m1]
  instanceTypes := #[]
  staticTypes := #[.double, .double, .double, .double, .double, .long, .long, .double, .double, .boolean]
  resolved := Array.replicate 460 none
  statics := none }

def pool3 : Array CpInfo := pool [(2, .class_ 4), (1, u "java/lang/Object"), (0, u "<init>"), (0, u "()V"), (33, .class_ 41), (0, u "com/example/abonarium/abonarium/core/Units"), (5, u "started"), (0, u "(JJ)J")] 21

def k3m0 : Method := { name := "<init>", desc := "()V", sig := { parameters := [], returnType := none }, accessFlags := 2, code := none }
def k3c1 : Code := { maxStack := 4, maxLocals := 6, code := prog_70_method_3_code, exceptionTable := #[], attributes := #[] }
def k3m1 : Method := { name := "started", desc := "(JJ)J", sig := { parameters := [.long, .long], returnType := some .long }, accessFlags := 8, code := some k3c1 }
/-- com/example/abonarium/abonarium/core/Units -/
def k3 : Class := { plain "com/example/abonarium/abonarium/core/Units" (some 0) with
  accessFlags := 48
  interfaces := #[]
  cf := some (fileOf pool3 40 #[] #[{ accessFlags := 2, nameIndex := 5, descriptorIndex := 6, attributes := #[] }, { accessFlags := 8, nameIndex := 47, descriptorIndex := 48, attributes := #[] }] 48 2 #[] #[])
  fields := #[]
  methods := #[k3m0, k3m1]
  instanceTypes := #[]
  staticTypes := #[]
  resolved := Array.replicate 70 none
  statics := none }

def pool4 : Array CpInfo := pool [(1, u "java/lang/Cloneable"), (0, .class_ 1), (0, u "java/lang/Object"), (0, .class_ 3)] 3

/-- java/lang/Cloneable -/
def k4 : Class := { plain "java/lang/Cloneable" (some 0) with
  accessFlags := 1537
  interfaces := #[]
  cf := some (fileOf pool4 2 #[] #[] 1537 4 #[] #[])
  fields := #[]
  methods := #[]
  instanceTypes := #[]
  staticTypes := #[]
  resolved := Array.replicate 8 none
  statics := none }

def pool5 : Array CpInfo := pool [(1, u "java/io/Serializable"), (0, .class_ 1), (0, u "java/lang/Object"), (0, .class_ 3)] 3

/-- java/io/Serializable -/
def k5 : Class := { plain "java/io/Serializable" (some 0) with
  accessFlags := 1537
  interfaces := #[]
  cf := some (fileOf pool5 2 #[] #[] 1537 4 #[] #[])
  fields := #[]
  methods := #[]
  instanceTypes := #[]
  staticTypes := #[]
  resolved := Array.replicate 8 none
  statics := none }

/-- the primitive byte -/
def k6 : Class := { plain "byte" none with kind := .primitive 'B', accessFlags := 0x411 }
/-- [B -/
def k7 : Class := { plain "[B" (some 0) with kind := .array 6 .byte, interfaces := #[4, 5], accessFlags := 1041 }

/-- the primitive int -/
def k8 : Class := { plain "int" none with kind := .primitive 'I', accessFlags := 0x411 }
/-- [I -/
def k9 : Class := { plain "[I" (some 0) with kind := .array 8 .int, interfaces := #[4, 5], accessFlags := 1041 }

def heap : Heap := #[]
def classes : Array Class := #[k0, k1, k2, k3, k4, k5, k6, k7, k8, k9]
def interned : List (Array UInt16 × Addr) := []
def slotsUsed : Nat := 0
def theMethod : MethodId := ⟨1, 1⟩
def args0 : Array Value := #[.long 5, .long 6, .int 3]
def aboutOver (below : List Frame) : State where
  vm := { classes := classes, interned := interned.toArray }
  heap := heap
  slotsUsed := slotsUsed
  threads := #[{ frames := .invoking theMethod args0 :: below }]
def below0 : List Frame := [.native { method := ⟨0, 0⟩, args := #[] }]
def about1 : State := aboutOver below0
def p0 : Program := .bare "" "" ""
def e0 : Env := launch0.env 0 0 0
theorem w_frames : about1.frames = Frame.invoking theMethod args0 :: below0 := rfl
set_option maxRecDepth 65536 in
theorem w_args : argsFit about1.vm theMethod args0 = true := by decide +kernel
set_option maxRecDepth 65536 in
theorem w_heap : heapFits about1 = true := by decide +kernel
set_option maxRecDepth 65536 in
theorem w_runnable : about1.curStatus? = some .runnable := by decide +kernel
set_option maxRecDepth 65536 in
theorem w_alone : about1.alone = true := by decide +kernel
set_option maxRecDepth 65536 in
theorem w_named : about1.methodNamed? x = some theMethod := by decide +kernel
set_option maxRecDepth 65536 in
theorem w_hears : about1.hears theMethod below0 = true := by decide +kernel
set_option maxRecDepth 65536 in
theorem w_ripe : about1.ripe theMethod args0 below0 = true := by decide +kernel
theorem w_running : about1.status = .running := rfl
set_option maxRecDepth 65536 in
theorem w_room : about1.hasRoom e0.platform room_1 = true :=
  launch0.hasRoom_least _ room_1 (by decide +kernel) (by decide +kernel) (by decide +kernel) (by decide +kernel) (by decide +kernel) (by decide +kernel)
theorem allAtoms_all (ts : List Jvm.Cond) (a : Array Jvm.Value) (st : Jvm.State) : (allAtoms ts).before a st = ts.all (fun c => c.before a st) := by
  induction ts with
  | nil => rfl
  | cons c t ih =>
    show (Jvm.Cond.and c (allAtoms t)).before a st = _
    rw [Jvm.Cond.before_and, ih, List.all_cons]
def words1 : List Jvm.Cond := Jvm.Cond.code x code maxLocals ret :: tables_1
/-- a 'code' word, met by the world's own term for the bytes: nothing is compared byte by byte -/
theorem code_word {y : MethodName} {bytes : ByteArray} {mx : Nat} {rt : Option FieldType} {a : Array Value} {s : State} {m : MethodId} {meth : Method} {c : Code} (h1 : s.methodNamed? y = some m) (h2 : s.vm.method? m = some meth) (h3 : meth.code = some c) (h4 : c.code = bytes)
    (h5 : (c.maxLocals == mx && c.exceptionTable.isEmpty && decide (c.maxStack ≤ mostOperands) && decide (meth.sig.returnType = rt) && !meth.locks && decide (parseMethodDescriptor y.desc = some meth.sig)) = true) : (Jvm.Cond.code y bytes mx rt).before a s = true := by
  simp only [Bool.and_eq_true, beq_iff_eq, Bool.not_eq_true', decide_eq_true_eq] at h5
  obtain ⟨⟨⟨⟨⟨g1, g2⟩, g3⟩, g4⟩, g5⟩, g6⟩ := h5
  simp [Cond.before, Cond.holds, Cond.value, h1, h2, h3, h4, g1, g2, g3, g4, g5, g6]
def isCode : Jvm.Cond → Bool
  | .code _ _ _ _ => true
  | _ => false
theorem all_split {L : List Jvm.Cond} {P : Jvm.Cond → Bool} (h1 : L.all (fun c => isCode c || P c) = true) (h2 : ∀ c ∈ L.filter isCode, P c = true) : L.all P = true := by
  refine List.all_eq_true.mpr fun c hc => ?_
  have h := List.all_eq_true.mp h1 c hc
  rcases Bool.eq_false_or_eq_true (isCode c) with hi | hi
  · exact h2 c (List.mem_filter.mpr ⟨hc, hi⟩)
  · simpa [hi] using h
set_option maxRecDepth 65536 in
theorem w_c0 : (Jvm.Cond.code x code maxLocals ret).before args0 about1 = true := code_word (m := ⟨1, 1⟩) (meth := k1m1) (c := k1c1) (by decide +kernel) rfl rfl rfl (by decide +kernel)
set_option maxRecDepth 65536 in
theorem w_c1 : (Jvm.Cond.code ({ cls := "java/lang/Math", name := "max", desc := "(JJ)J" } : Jvm.MethodName) jdk_29_method_66_code (4 : Nat) (Option.some Jvm.ClassFile.FieldType.long)).before args0 about1 = true := code_word (m := ⟨2, 1⟩) (meth := k2m1) (c := k2c1) (by decide +kernel) rfl rfl rfl (by decide +kernel)
set_option maxRecDepth 65536 in
theorem w_c2 : (Jvm.Cond.code ({ cls := "com/example/abonarium/abonarium/core/Units", name := "started", desc := "(JJ)J" } : Jvm.MethodName) prog_70_method_3_code (6 : Nat) (Option.some Jvm.ClassFile.FieldType.long)).before args0 about1 = true := code_word (m := ⟨3, 1⟩) (meth := k3m1) (c := k3c1) (by decide +kernel) rfl rfl rfl (by decide +kernel)
def codes1 : List Jvm.Cond := [Jvm.Cond.code x code maxLocals ret, Jvm.Cond.code ({ cls := "java/lang/Math", name := "max", desc := "(JJ)J" } : Jvm.MethodName) jdk_29_method_66_code (4 : Nat) (Option.some Jvm.ClassFile.FieldType.long), Jvm.Cond.code ({ cls := "com/example/abonarium/abonarium/core/Units", name := "started", desc := "(JJ)J" } : Jvm.MethodName) prog_70_method_3_code (6 : Nat) (Option.some Jvm.ClassFile.FieldType.long)]
set_option maxRecDepth 65536 in
theorem codes_eq : words1.filter isCode = codes1 := rfl
theorem w_codes : ∀ c ∈ words1.filter isCode, c.before args0 about1 = true := by
  rw [codes_eq]
  intro c hc
  simp only [codes1, List.mem_cons, List.not_mem_nil, or_false] at hc
  rcases hc with rfl | rfl | rfl
  · exact w_c0
  · exact w_c1
  · exact w_c2
set_option maxRecDepth 65536 in
theorem w_t1 : words1.all (fun c => isCode c || c.before args0 about1) = true := by decide +kernel
theorem w_tables : (allAtoms (Jvm.Cond.code x code maxLocals ret :: tables_1)).before args0 about1 = true := by
  rw [allAtoms_all]
  show words1.all (fun c => c.before args0 about1) = true
  refine all_split ?_ w_codes
  rw [w_t1]
set_option maxRecDepth 65536 in
theorem w_case : (Jvm.Cond.and given_1 narrow_1).before args0 about1 = true := by decide +kernel
theorem w_applies : (headSpec (Jvm.Cond.code x code maxLocals ret :: tables_1) room_1).applies x e0.platform about1 = true :=
  (Spec.applies_iff w_frames).mpr ⟨w_running, w_runnable, w_alone, w_named, w_hears, w_ripe, w_room, w_tables⟩
theorem atStart : AtStart classFile x code maxLocals ret World_1 tables_1 room_1 Calls_1 rest_1 Pre_1 launch0 p0 e0 about1 theMethod args0 below0 :=
  ⟨lists_1, trivial, launch0.admits_env _ _ _, launch0.least_env, fairChoices_fair.cas, fairChoices_fair.clock, w_frames, w_args, w_heap, w_applies, trivial, trivial, w_case⟩
end start1
theorem witness_1 : WitnessClaimed_1 := ⟨start1.p0, start1.e0, start1.about1, start1.theMethod, start1.args0, start1.below0, start1.atStart⟩
end Jvm.Pilot.@@N@@
