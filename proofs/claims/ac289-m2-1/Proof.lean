import JvmDerived
import JvmDerived.Pilot.@@N@@Statement
import JvmDerived.Pilot.@@N@@Code
set_option linter.unusedVariables false
set_option linter.unusedSimpArgs false
namespace Jvm.RoadKit
open Sem ClassFile Op Lib Jvm.Stand Jvm.Free Jvm.LawKit
section New
variable {p : Program} {l : Launch} {e : Env} {R : Room} {s : State} {m : MethodId} {args : Array Value} {below : List Frame} {meth : Method} {c : Code} {T : State} {locs : List Loc} {cells slots : Nat}
theorem retI (X : Stand p l e R s m args below meth c T locs cells slots) (hx : p.tables.exec = Jvm.exec) {pc : Nat} {Ls : Array Slot} {z : Int32} {rest : List Value} (hret : meth.sig.returnType = some .int) (hd : decode c.code pc = .ok (.ireturn, 1)) {fs : List Frame}
    (hl : ∀ (f : JFrame) (acts : List Action), f.method = m → f.locked = none → f.entered = [] → (doReturn e (T.setTop f) acts (some (.int z))).1 = T.setFrames fs) : Steps p.tables e below (T.setTop (mkF m pc Ls (.int z :: rest))) (T.setFrames fs) := by
  have hm' : T.vm.method? m = some meth := X.method'
  have hn : narrow .int (.int z) = .int z := rfl
  show Steps p.tables e below (T.setTop { method := m, pc := pc, locals := Ls, stack := _ :: rest, locked := none }) _
  jvm_step X.here [X.here.top, hx, hd, hm', hret, hn]
  first | (intro acts; rw [hl _ acts rfl rfl rfl]) | rw [hl _ _ rfl rfl rfl]
  exact Steps.refl _
abbrev jv (x : Int64) : Slot := .val (.long x)
/-- from the state S the run comes to an end at which A holds -/
def oF (p : Program) (e : Env) (below : List Frame) (A : State → Outcome → Prop) (S : State) : Prop := ∃ s₂ o, Steps p.tables e below S s₂ ∧ s₂.status = .running ∧ Ended s₂ below o ∧ A s₂ o
theorem og {A : State → Outcome → Prop} {S S' : State} (k : ∀ t, Steps p.tables e below S' t → Steps p.tables e below S t) (h : oF p e below A S') : oF p e below A S := by
  obtain ⟨t, o, h1, h2⟩ := h; exact ⟨t, o, k t h1, h2⟩
/-- what a walk leaves: Q of the value, the heap and the written places -/
def own_A (s : State) (C S : Nat) (Q : Option Value → Heap → List Loc → Prop) : State → Outcome → Prop := fun U' o => ∃ v L, o = .returned v ∧ Q v U'.heap L ∧ FrameEnd s o U' L C S
/-- a body that writes nothing: its value, the heap as it was -/
def own_P (h0 : Heap) (n0 : Nat) (w : Value) (v : Option Value) (h : Heap) (L : List Loc) : Prop := v = some w ∧ Fr n0 L ∧ h = h0
theorem oo (X : Stand p l e R s m args below meth c T locs cells slots) {v : Option Value} {Q : Option Value → Heap → List Loc → Prop} {C S : Nat} {g : JFrame}
    (hv : meth.sig.returnType = none → v = none) (hlocks : meth.locks = false)
    (st : ∀ fs, (∀ (f : JFrame) (acts : List Action), f.method = m → f.locked = none → f.entered = [] → (doReturn e (T.setTop f) acts v).1 = T.setFrames fs) → Steps p.tables e below (T.setTop g) (T.setFrames fs))
    (hQ : Q v T.heap locs) (hc : cells ≤ C) (hs : slots ≤ S) : oF p e below (own_A s C S Q) (T.setTop g) := by
  obtain ⟨fs, hr, hrun, hended, hW, hsame⟩ := X.leave (v := v) hv hlocks
  exact ⟨_, _, st fs hr, hrun, hended, _, _, rfl, hQ, ⟨_, rfl⟩, hW, hsame.mono hc hs⟩
end New
end Jvm.RoadKit
namespace Jvm.Pilot.@@N@@
open Jvm Jvm.ClassFile Sem Op Lib Jvm.Free Jvm.Stand Jvm.LawKit Jvm.RoadKit Bundle Jvm.Pilot.@@N@@.Jvm.D
def own_b1 (w0 w1 : Int64) : Int32 := if w1 = w0 then (1 : Int32) else (0 : Int32)
def own_b2 (w0 w1 w2 : Int64) : Int32 := if w1 = w0 ∧ w2 = w1 then (2 : Int32) else if w2 = w0 then (1 : Int32) else (0 : Int32)
def own_b3 (w0 w1 w2 w3 : Int64) : Int32 := if w1 = w0 ∧ w2 = w1 ∧ w3 = w2 then (3 : Int32) else if w2 = w0 ∧ w3 = w1 then (2 : Int32) else if w3 = w0 then (1 : Int32) else (0 : Int32)
theorem own_h0 : (0 : Int32) = (0 : Int32) := rfl
theorem own_h1 {w0 w1 : Int64} : own_b1 w0 w1 = (0 : Int32) ∨ own_b1 w0 w1 = (1 : Int32) := by unfold own_b1; split <;> simp
theorem own_h2 {w0 w1 w2 : Int64} : own_b2 w0 w1 w2 = (0 : Int32) ∨ own_b2 w0 w1 w2 = (1 : Int32) ∨ own_b2 w0 w1 w2 = (2 : Int32) := by
  unfold own_b2
  repeat' split
  all_goals simp
theorem own_h3 {w0 w1 w2 w3 : Int64} : own_b3 w0 w1 w2 w3 = (0 : Int32) ∨ own_b3 w0 w1 w2 w3 = (1 : Int32) ∨ own_b3 w0 w1 w2 w3 = (2 : Int32) ∨ own_b3 w0 w1 w2 w3 = (3 : Int32) := by
  unfold own_b3
  repeat' split
  all_goals simp
def own_x0 (w0 u : Int64) : Int32 := if u = w0 then (1 : Int32) else (0 : Int32)
def own_x1 (w0 w1 u : Int64) : Int32 := if u = w1 then (2 : Int32) else own_x0 w0 u
def own_x2 (w0 w1 w2 : Int64) (B1 : Int32) (u : Int64) : Int32 := if u = w2 then (3 : Int32) else if B1 = (0 : Int32) then own_x0 w0 u else own_x1 w0 w1 u
def own_x3 (w0 w1 w2 w3 : Int64) (B1 B2 : Int32) (u : Int64) : Int32 := if u = w3 then (4 : Int32) else if B2 = (0 : Int32) then own_x0 w0 u else if B2 = (1 : Int32) then own_x1 w0 w1 u else own_x2 w0 w1 w2 B1 u

theorem d1_0 : decode method_3_code 0 = .ok (.iload_n 0, 1) := by decide +kernel
theorem d1_1 : decode method_3_code 1 = .ok (.iload_n 1, 1) := by decide +kernel
theorem d1_2 : decode method_3_code 2 = .ok (.iushr, 1) := by decide +kernel
theorem d1_3 : decode method_3_code 3 = .ok (.iconst 1, 1) := by decide +kernel
theorem d1_4 : decode method_3_code 4 = .ok (.iand, 1) := by decide +kernel
theorem d1_5 : decode method_3_code 5 = .ok (.ifCond .ne 7, 3) := by decide +kernel
theorem d1_8 : decode method_3_code 8 = .ok (.lload_n 2, 1) := by decide +kernel
theorem d1_9 : decode method_3_code 9 = .ok (.goto 5, 3) := by decide +kernel
theorem d1_12 : decode method_3_code 12 = .ok (.lload 4, 2) := by decide +kernel
theorem d1_14 : decode method_3_code 14 = .ok (.lreturn, 1) := by decide +kernel
theorem pn_0 : plainName "com/example/sound_verdict/soundverdict/UnitSearchNextPinLaw" = true := by first | (simp [plainName, overriddenIn]; done) | decide +kernel
theorem ef_1 (m : MethodId) (x0 : Int32) (x1 : Int32) (x2 : Int64) (x3 : Int64)  : entryFrame m #[(.int x0), (.int x1), (.long x2), (.long x3)] 6 = mkF m 0 #[iv x0, iv x1, jv x2, .second, jv x3, .second] [] := by first | (simp [entryFrame, mkF, argsToLocals, Value.category]; done) | rfl
def own_pk_5 (p1 : Int32) (p2 : Int32) (q3 : Int64) (q4 : Int64) : Int64 := if (((p1.toUInt32 >>> (p2 &&& 31).toUInt32).toInt32) &&& (1 : Int32)) = (0 : Int32) then q3 else q4
set_option maxRecDepth 65536 in
set_option maxHeartbeats 40000000 in
theorem rm1 (l : Launch) (Z : State) (a0 : Array Value) (hw : ∀ d ∈ tables_1, d.before a0 Z = true) (ws : List Jvm.Cond) (p1 : Int32) (p2 : Int32) (q3 : Int64) (q4 : Int64) (h0 : Heap) (n0 : Nat) (Z0 : n0 ≤ h0.size) :
    MetFree l (⟨"com/example/sound_verdict/soundverdict/UnitSearchNextPinLaw", "pick", "(IIJJ)J"⟩ : MethodName) (head1 (Jvm.Cond.code (⟨"com/example/sound_verdict/soundverdict/UnitSearchNextPinLaw", "pick", "(IIJJ)J"⟩ : MethodName) method_3_code 6 (some .long) :: ws) ({ frames := 0, cells := 0, slots := 0, locals := 0 } : Room)) (fun a U => a = #[(.int p1), (.int p2), (.long q3), (.long q4)] ∧ Z.Warmed39 U.vm ∧ U.heap = h0) (fun _ _ _ _ _ => True) (fun _ U o U' => ∃ v L, o = .returned v ∧ (own_P h0 n0 (.long (own_pk_5 p1 p2 q3 q4))) v U'.heap L ∧ FrameEnd U o U' L ({ frames := 0, cells := 0, slots := 0, locals := 0 } : Room).cells ({ frames := 0, cells := 0, slots := 0, locals := 0 } : Room).slots) := by
  refine MetFree.of_bodySF (plainFor_of_name pn_0) hisR ?_
  intro p e s m args below meth c s₁ Bd hml0 hP hK
  obtain ⟨rfl, hZ, hh⟩ := hP
  have hx := Bd.exec
  have hby := Bd.bytes
  have hml : c.maxLocals = 6 := hml0
  have hown : s.vm.findClass "com/example/sound_verdict/soundverdict/UnitSearchNextPinLaw" = some m.cls := findClass_of_methodNamed Bd.named
  have hnm := (name_of_methodNamed Bd.named Bd.method).1
  have X0 : Stand p l e ({ frames := 0, cells := 0, slots := 0, locals := 0 } : Room) s m #[(.int p1), (.int p2), (.long q3), (.long q4)] below meth c s₁ [] 0 0 := Stand.of_body Bd
  have e0 : s₁.heap = h0 := by rw [← hh, Bd.state]; rfl
  have N0 := Fr.nil n0
  show oF p e below (own_A s ({ frames := 0, cells := 0, slots := 0, locals := 0 } : Room).cells ({ frames := 0, cells := 0, slots := 0, locals := 0 } : Room).slots (own_P h0 n0 (.long (own_pk_5 p1 p2 q3 q4)))) _
  refine og (fun t k => castTop (ef_1 m (p1) (p2) (q3) (q4)) k) ?_
  show oF p e below _ (s₁.setTop (mkF m 0 #[iv p1, iv p2, jv q3, .second, jv q4, .second] []))
  refine og (fun t k => XS.iloadN X0.here hx rfl (hb hby d1_0) rfl (XS.iloadN X0.here hx rfl (hb hby d1_1) rfl (XS.iushr X0.here hx rfl (hb hby d1_2) rfl (XS.iconst X0.here hx rfl (hb hby d1_3) (XS.iand X0.here hx rfl (hb hby d1_4) rfl k))))) ?_
  show oF p e below _ (s₁.setTop (mkF m 5 #[iv p1, iv p2, jv q3, .second, jv q4, .second] [(.int (((p1.toUInt32 >>> (p2 &&& 31).toUInt32).toInt32) &&& (1 : Int32)))]))
  by_cases hc1 : (((p1.toUInt32 >>> (p2 &&& 31).toUInt32).toInt32) &&& (1 : Int32)) = (0 : Int32)
  · skip
    rw [(show (own_pk_5 p1 p2 q3 q4) = q3 from if_pos hc1)]
    refine og (fun t k => XS.ifNo X0.here hx rfl (hb hby d1_5) rfl ((if0 _ _).trans (teq hc1).2) (XS.lloadN X0.here hx rfl (hb hby d1_8) rfl (XS.goto X0.here hx rfl (pc0 := 9) (pc' := 14) rfl (hb hby d1_9) (by decide) (by decide) k))) ?_
    show oF p e below _ (s₁.setTop (mkF m 14 #[iv p1, iv p2, jv q3, .second, jv q4, .second] [(.long q3)]))
    exact oo X0 (fun h => by rw [Bd.returns] at h; cases h) Bd.notSynchronized (fun fs hr => retOut X0 hx Bd.returns rfl (Or.inr (Or.inl ⟨rfl, rfl, _, rfl⟩)) (hb hby d1_14) hr) ⟨rfl, N0, e0⟩ (by decide) (by decide)
  · skip
    rw [(show (own_pk_5 p1 p2 q3 q4) = q4 from if_neg hc1)]
    refine og (fun t k => XS.ifYes X0.here hx rfl (pc0 := 5) (pc' := 12) rfl (hb hby d1_5) rfl ((if0 _ _).trans (feq hc1).2) (by decide) (by decide) (XS.lload X0.here hx rfl (hb hby d1_12) rfl k)) ?_
    show oF p e below _ (s₁.setTop (mkF m 14 #[iv p1, iv p2, jv q3, .second, jv q4, .second] [(.long q4)]))
    exact oo X0 (fun h => by rw [Bd.returns] at h; cases h) Bd.notSynchronized (fun fs hr => retOut X0 hx Bd.returns rfl (Or.inr (Or.inl ⟨rfl, rfl, _, rfl⟩)) (hb hby d1_14) hr) ⟨rfl, N0, e0⟩ (by decide) (by decide)
theorem d3_0 : decode prog_199_method_2_code 0 = .ok (.aload_n 0, 1) := by decide +kernel
theorem d3_1 : decode prog_199_method_2_code 1 = .ok (.invokespecial 7, 3) := by decide +kernel
theorem d3_4 : decode prog_199_method_2_code 4 = .ok (.aload_n 0, 1) := by decide +kernel
theorem d3_5 : decode prog_199_method_2_code 5 = .ok (.aload_n 1, 1) := by decide +kernel
theorem d3_6 : decode prog_199_method_2_code 6 = .ok (.putfield 12, 3) := by decide +kernel
theorem d3_9 : decode prog_199_method_2_code 9 = .ok (.aload_n 0, 1) := by decide +kernel
theorem d3_10 : decode prog_199_method_2_code 10 = .ok (.aload_n 2, 1) := by decide +kernel
theorem d3_11 : decode prog_199_method_2_code 11 = .ok (.putfield 16, 3) := by decide +kernel
theorem d3_14 : decode prog_199_method_2_code 14 = .ok (.aload_n 0, 1) := by decide +kernel
theorem d3_15 : decode prog_199_method_2_code 15 = .ok (.aload_n 1, 1) := by decide +kernel
theorem d3_16 : decode prog_199_method_2_code 16 = .ok (.arraylength, 1) := by decide +kernel
theorem d3_17 : decode prog_199_method_2_code 17 = .ok (.newarray .int, 2) := by decide +kernel
theorem d3_19 : decode prog_199_method_2_code 19 = .ok (.putfield 20, 3) := by decide +kernel
theorem d3_22 : decode prog_199_method_2_code 22 = .ok (.iconst 0, 1) := by decide +kernel
theorem d3_23 : decode prog_199_method_2_code 23 = .ok (.istore_n 3, 1) := by decide +kernel
theorem d3_24 : decode prog_199_method_2_code 24 = .ok (.iconst 1, 1) := by decide +kernel
theorem d3_25 : decode prog_199_method_2_code 25 = .ok (.istore 4, 2) := by decide +kernel
theorem d3_27 : decode prog_199_method_2_code 27 = .ok (.iload 4, 2) := by decide +kernel
theorem d3_29 : decode prog_199_method_2_code 29 = .ok (.aload_n 1, 1) := by decide +kernel
theorem d3_30 : decode prog_199_method_2_code 30 = .ok (.arraylength, 1) := by decide +kernel
theorem d3_31 : decode prog_199_method_2_code 31 = .ok (.if_icmp .ge 58, 3) := by decide +kernel
theorem d3_89 : decode prog_199_method_2_code 89 = .ok (.return_, 1) := by decide +kernel
theorem pn_1 : plainName "com/example/sound_verdict/soundverdict/UnitSearch" = true := by first | (simp [plainName, overriddenIn]; done) | decide +kernel
theorem ef_3n1 (m : MethodId) (x0 : Addr) (x1 : Addr)  : entryFrame m #[(.ref x0), (.ref x1), .null] 5 = mkF m 0 #[rv x0, rv x1, .val .null, .unset, .unset] [] := by first | (simp [entryFrame, mkF, argsToLocals, Value.category]; done) | rfl
def own_q3n1 (Z : State) (a1 : Addr) (a2 : Addr) (k2 : ClassId) (w0 : Int64) (h0 : Heap) (n0 : Nat) (v : Option Value) (h : Heap) (L : List Loc) : Prop := v = none ∧ Fr n0 L ∧ Keep h0 h [a1] ∧ Exa Z h a1 "com/example/sound_verdict/soundverdict/UnitSearch" ∧ Fld Z h a1 "com/example/sound_verdict/soundverdict/UnitSearch" "wanted" "[J" (.ref a2) ∧ ∃ (b : Addr) (k : ClassId), h0.size ≤ b ∧ Fld Z h a1 "com/example/sound_verdict/soundverdict/UnitSearch" "border" "[I" (.ref b) ∧ Arv Z h b k .int (1 : Int32) [(.int (0 : Int32))] (.int (0 : Int32))
set_option maxRecDepth 65536 in
set_option maxHeartbeats 40000000 in
theorem rm3n1 (l : Launch) (Z : State) (a0 : Array Value) (hw : ∀ d ∈ tables_1, d.before a0 Z = true) (ws : List Jvm.Cond) (a1 : Addr) (a2 : Addr) (k2 : ClassId) (w0 : Int64) (h0 : Heap) (n0 : Nat) (Z0 : n0 ≤ h0.size) (F_wanted : Fld Z h0 a1 "com/example/sound_verdict/soundverdict/UnitSearch" "wanted" "[J" .null) (F_border : Fld Z h0 a1 "com/example/sound_verdict/soundverdict/UnitSearch" "border" "[I" .null) (F_lead : Fld Z h0 a1 "com/example/sound_verdict/soundverdict/UnitSearch" "lead" "Ljava/lang/String;" .null) (E_a1 : Exa Z h0 a1 "com/example/sound_verdict/soundverdict/UnitSearch") (g_a1 : n0 ≤ a1) (ne12 : a1 ≠ a2) (V_2 : Arv Z h0 a2 k2 .long (1 : Int32) [(.long w0)] (.long (0 : Int64))) :
    MetFree l (⟨"com/example/sound_verdict/soundverdict/UnitSearch", "<init>", "([JLjava/lang/String;)V"⟩ : MethodName) (head1 (Jvm.Cond.code (⟨"com/example/sound_verdict/soundverdict/UnitSearch", "<init>", "([JLjava/lang/String;)V"⟩ : MethodName) prog_199_method_2_code 5 none :: ws) ({ frames := 1, cells := 1, slots := 1, locals := 12 } : Room)) (fun a U => a = #[(.ref a1), (.ref a2), .null] ∧ Z.Warmed39 U.vm ∧ U.heap = h0) (fun _ _ _ _ _ => True) (fun _ U o U' => ∃ v L, o = .returned v ∧ (own_q3n1 Z a1 a2 k2 w0 h0 n0) v U'.heap L ∧ FrameEnd U o U' L ({ frames := 1, cells := 1, slots := 1, locals := 12 } : Room).cells ({ frames := 1, cells := 1, slots := 1, locals := 12 } : Room).slots) := by
  refine MetFree.of_bodySF (plainFor_of_name pn_1) hisR ?_
  intro p e s m args below meth c s₁ Bd hml0 hP hK
  obtain ⟨rfl, hZ, hh⟩ := hP
  have hx := Bd.exec
  have hby := Bd.bytes
  have hml : c.maxLocals = 5 := hml0
  have hown : s.vm.findClass "com/example/sound_verdict/soundverdict/UnitSearch" = some m.cls := findClass_of_methodNamed Bd.named
  have hnm := (name_of_methodNamed Bd.named Bd.method).1
  have X0 : Stand p l e ({ frames := 1, cells := 1, slots := 1, locals := 12 } : Room) s m #[(.ref a1), (.ref a2), .null] below meth c s₁ [] 0 0 := Stand.of_body Bd
  have e0 : s₁.heap = h0 := by rw [← hh, Bd.state]; rfl
  have N0 := Fr.nil n0
  have Kz := Keep.refl h0 [a1]
  have hw_6 := hw _ (List.mem_of_getElem? (i := 6) rfl)
  have hw_14 := hw _ (List.mem_of_getElem? (i := 14) rfl)
  have hw_15 := hw _ (List.mem_of_getElem? (i := 15) rfl)
  have hw_16 := hw _ (List.mem_of_getElem? (i := 16) rfl)
  have hw_17 := hw _ (List.mem_of_getElem? (i := 17) rfl)
  have hw_18 := hw _ (List.mem_of_getElem? (i := 18) rfl)
  have hw_19 := hw _ (List.mem_of_getElem? (i := 19) rfl)
  have hw_20 := hw _ (List.mem_of_getElem? (i := 20) rfl)
  have hw_21 := hw _ (List.mem_of_getElem? (i := 21) rfl)
  have hw_22 := hw _ (List.mem_of_getElem? (i := 22) rfl)
  have hw_23 := hw _ (List.mem_of_getElem? (i := 23) rfl)
  show oF p e below (own_A s ({ frames := 1, cells := 1, slots := 1, locals := 12 } : Room).cells ({ frames := 1, cells := 1, slots := 1, locals := 12 } : Room).slots (own_q3n1 Z a1 a2 k2 w0 h0 n0)) _
  refine og (fun t k => castTop (ef_3n1 m (a1) (a2)) k) ?_
  show oF p e below _ (s₁.setTop (mkF m 0 #[rv a1, rv a2, .val .null, .unset, .unset] []))
  refine og (fun t k => XS.aloadN X0.here hx rfl (hb hby d3_0) rfl rfl k) ?_
  show oF p e below _ (s₁.setTop (mkF m 1 #[rv a1, rv a2, .val .null, .unset, .unset] [(.ref a1)]))
  obtain ⟨T1, X1, e1, st1⟩ := initO X0 hx hZ hown hw_14 hw_15 hw_16 e0 (g := (mkF m 1 #[rv a1, rv a2, .val .null, .unset, .unset] [(.ref a1)])) rfl (by rw [hml]; rfl) rfl (hb hby d3_1) (by decide) (W := 0) (by show 2 * 0 + _ ≤ _; exact Nat.le_of_eq rfl) (by decide)
  refine og st1 ?_
  show oF p e below _ (T1.setTop (mkF m 4 #[rv a1, rv a2, .val .null, .unset, .unset] []))
  refine og (fun t k => XS.aloadN X1.here hx rfl (hb hby d3_4) rfl rfl (XS.aloadN X1.here hx rfl (hb hby d3_5) rfl rfl k)) ?_
  show oF p e below _ (T1.setTop (mkF m 6 #[rv a1, rv a2, .val .null, .unset, .unset] [(.ref a2), (.ref a1)]))
  obtain ⟨T2, h2, X2, e2, W2, st2⟩ := putF X1 hx hZ hown (host := "") (Or.inl hw_17) Via.refl e1 F_wanted E_a1 (Or.inr ⟨hw_18, rfl, hnm⟩) hw_6 (ty := (.array .long)) (by decide) rfl rfl (g := (mkF m 6 #[rv a1, rv a2, .val .null, .unset, .unset] [(.ref a2), (.ref a1)])) rfl rfl (hb hby d3_6)
  have f4 := F_border.other W2 (Or.inr (slot_ne (Or.inr hw_23) (Or.inr hw_18) (by decide) (t := (.array .int)) (t' := (.array .long)) (by decide) (by decide)))
  have f5 := F_lead.other W2 (Or.inr (slot_ne (Or.inr hw_20) (Or.inr hw_18) (by decide) (t := (.object "java/lang/String")) (t' := (.array .long)) (by decide) (by decide)))
  have f6 := E_a1.wr W2
  have f7 := V_2.other W2 (Ne.symm ne12)
  have f8 := F_wanted.same W2
  have Zh9 : n0 ≤ h2.size := Nat.le_trans Z0 (Nat.le_of_eq W2.size.symm)
  have N2 := Fr.snoc X2 N0 g_a1
  have K10 := Kz.wr W2 (Or.inl (List.mem_of_getElem? (i := 0) rfl))
  refine og st2 ?_
  show oF p e below _ (T2.setTop (mkF m 9 #[rv a1, rv a2, .val .null, .unset, .unset] []))
  refine og (fun t k => XS.aloadN X2.here hx rfl (hb hby d3_9) rfl rfl (XS.aloadN X2.here hx rfl (hb hby d3_10) rfl rfl k)) ?_
  show oF p e below _ (T2.setTop (mkF m 11 #[rv a1, rv a2, .val .null, .unset, .unset] [.null, (.ref a1)]))
  obtain ⟨T11, h11, X11, e11, W11, st11⟩ := putF X2 hx hZ hown (host := "") (Or.inl hw_19) Via.refl e2 f5 f6 (Or.inr ⟨hw_20, rfl, hnm⟩) hw_6 (ty := (.object "java/lang/String")) (by decide) rfl rfl (g := (mkF m 11 #[rv a1, rv a2, .val .null, .unset, .unset] [.null, (.ref a1)])) rfl rfl (hb hby d3_11)
  have f12 := f8.other W11 (Or.inr (slot_ne (Or.inr hw_18) (Or.inr hw_20) (by decide) (t := (.array .long)) (t' := (.object "java/lang/String")) (by decide) (by decide)))
  have f13 := f4.other W11 (Or.inr (slot_ne (Or.inr hw_23) (Or.inr hw_20) (by decide) (t := (.array .int)) (t' := (.object "java/lang/String")) (by decide) (by decide)))
  have f15 := f6.wr W11
  have f16 := f7.other W11 (Ne.symm ne12)
  have f17 := f5.same W11
  have Zh18 : n0 ≤ h11.size := Nat.le_trans Zh9 (Nat.le_of_eq W11.size.symm)
  have N11 := Fr.snoc X11 N2 g_a1
  have K19 := K10.wr W11 (Or.inl (List.mem_of_getElem? (i := 0) rfl))
  refine og st11 ?_
  show oF p e below _ (T11.setTop (mkF m 14 #[rv a1, rv a2, .val .null, .unset, .unset] []))
  refine og (fun t k => XS.aloadN X11.here hx rfl (hb hby d3_14) rfl rfl (XS.aloadN X11.here hx rfl (hb hby d3_15) rfl rfl k)) ?_
  show oF p e below _ (T11.setTop (mkF m 16 #[rv a1, rv a2, .val .null, .unset, .unset] [(.ref a2), (.ref a1)]))
  obtain ⟨cl20, Ar20, q20, S20, M20, H20, G20⟩ := (id f16)
  refine og (fun t k => X11.arraylength hx (by rw [e11]; exact Ar20.1) (State.isArrayOf_alike hZ.alike Ar20.2.1) (g := (mkF m 16 #[rv a1, rv a2, .val .null, .unset, .unset] [(.ref a2), (.ref a1)])) rfl rfl (hb hby d3_16) _ k) ?_
  rw [len_of S20 M20]
  show oF p e below _ (T11.setTop (mkF m 17 #[rv a1, rv a2, .val .null, .unset, .unset] [(.int 1), (.ref a1)]))
  obtain ⟨T21, h21, k21, X21, e21, E21, A21, st21⟩ := newP (aty := .int) X11 hx hZ hw_21 e11 (g := (mkF m 17 #[rv a1, rv a2, .val .null, .unset, .unset] [(.int 1), (.ref a1)])) rfl (hb hby d3_17) rfl (by decide) (cap := 1) (by decide) (by decide) (by decide) (by decide)
  obtain ⟨b21, g21⟩ : ∃ z, z = h11.size := ⟨_, rfl⟩
  rw [← g21] at A21 st21
  have g_b21 : n0 ≤ b21 := Nat.le_trans Zh18 (Nat.le_of_eq g21.symm)
  have sz_b21 : h0.size ≤ b21 := Nat.le_trans K19.1 (Nat.le_of_eq g21.symm)
  have ne22 : a1 ≠ b21 := Nat.ne_of_lt (Nat.lt_of_lt_of_le f12.lt (Nat.le_of_eq g21.symm))
  have ne23 : a2 ≠ b21 := Nat.ne_of_lt (Nat.lt_of_lt_of_le f16.lt (Nat.le_of_eq g21.symm))
  have f24 := f12.ext E21
  have f25 := f13.ext E21
  have f26 := f17.ext E21
  have f27 := f15.ext E21
  have f28 := f16.ext E21
  have Zh29 : n0 ≤ h21.size := Nat.le_trans Zh18 E21.1
  have K30 := K19.ext E21
  have V21 : Arv Z h21 b21 k21 .int (1 : Int32) [(.int (0 : Int32))] (.int (0 : Int32)) := (Arv.new A21 (by decide)).pad (pad_rep [] (.int (0 : Int32)) 1)
  refine og st21 ?_
  show oF p e below _ (T21.setTop (mkF m 19 #[rv a1, rv a2, .val .null, .unset, .unset] [(.ref b21), (.ref a1)]))
  obtain ⟨T31, h31, X31, e31, W31, st31⟩ := putF X21 hx hZ hown (host := "") (Or.inl hw_22) Via.refl e21 f25 f27 (Or.inr ⟨hw_23, rfl, hnm⟩) hw_6 (ty := (.array .int)) (by decide) rfl rfl (g := (mkF m 19 #[rv a1, rv a2, .val .null, .unset, .unset] [(.ref b21), (.ref a1)])) rfl rfl (hb hby d3_19)
  have f32 := f24.other W31 (Or.inr (slot_ne (Or.inr hw_18) (Or.inr hw_23) (by decide) (t := (.array .long)) (t' := (.array .int)) (by decide) (by decide)))
  have f34 := f26.other W31 (Or.inr (slot_ne (Or.inr hw_20) (Or.inr hw_23) (by decide) (t := (.object "java/lang/String")) (t' := (.array .int)) (by decide) (by decide)))
  have f35 := f27.wr W31
  have f36 := f28.other W31 (Ne.symm ne12)
  have f37 := V21.other W31 (Ne.symm ne22)
  have f38 := f25.same W31
  have Zh39 : n0 ≤ h31.size := Nat.le_trans Zh29 (Nat.le_of_eq W31.size.symm)
  have N31 := Fr.snoc X31 N11 g_a1
  have K40 := K30.wr W31 (Or.inl (List.mem_of_getElem? (i := 0) rfl))
  refine og st31 ?_
  show oF p e below _ (T31.setTop (mkF m 22 #[rv a1, rv a2, .val .null, .unset, .unset] []))
  refine og (fun t k => XS.iconst X31.here hx rfl (hb hby d3_22) (XS.istoreN X31.here hx rfl (hb hby d3_23) rfl (l' := #[rv a1, rv a2, .val .null, iv 0, .unset]) rfl (XS.iconst X31.here hx rfl (hb hby d3_24) (XS.istore X31.here hx rfl (hb hby d3_25) rfl (l' := #[rv a1, rv a2, .val .null, iv 0, iv 1]) rfl (XS.iload X31.here hx rfl (hb hby d3_27) rfl (XS.aloadN X31.here hx rfl (hb hby d3_29) rfl rfl k)))))) ?_
  show oF p e below _ (T31.setTop (mkF m 30 #[rv a1, rv a2, .val .null, iv 0, iv 1] [(.ref a2), (.int 1)]))
  obtain ⟨cl41, Ar41, q41, S41, M41, H41, G41⟩ := (id f36)
  refine og (fun t k => X31.arraylength hx (by rw [e31]; exact Ar41.1) (State.isArrayOf_alike hZ.alike Ar41.2.1) (g := (mkF m 30 #[rv a1, rv a2, .val .null, iv 0, iv 1] [(.ref a2), (.int 1)])) rfl rfl (hb hby d3_30) _ k) ?_
  rw [len_of S41 M41]
  show oF p e below _ (T31.setTop (mkF m 31 #[rv a1, rv a2, .val .null, iv 0, iv 1] [(.int 1), (.int 1)]))
  refine og (fun t k => XS.icmpYes X31.here hx rfl (pc0 := 31) (pc' := 89) rfl (hb hby d3_31) rfl (flt (by decide : ¬ ((1 : Int32) < (1 : Int32)))).2.1 (by decide) (by decide) k) ?_
  show oF p e below _ (T31.setTop (mkF m 89 #[rv a1, rv a2, .val .null, iv 0, iv 1] []))
  exact oo X31 (fun _ => rfl) Bd.notSynchronized (fun fs hr => X31.returnOut hx Bd.returns (hb hby d3_89) hr) (by rw [e31]; exact ⟨rfl, N31, K40, f35, f32, _, _, sz_b21, f38, (by exact f37)⟩) (by decide) (by decide)
theorem d3_34 : decode prog_199_method_2_code 34 = .ok (.iload_n 3, 1) := by decide +kernel
theorem d3_35 : decode prog_199_method_2_code 35 = .ok (.ifCond .le 26, 3) := by decide +kernel
theorem d3_61 : decode prog_199_method_2_code 61 = .ok (.aload_n 1, 1) := by decide +kernel
theorem d3_62 : decode prog_199_method_2_code 62 = .ok (.iload 4, 2) := by decide +kernel
theorem d3_64 : decode prog_199_method_2_code 64 = .ok (.laload, 1) := by decide +kernel
theorem d3_65 : decode prog_199_method_2_code 65 = .ok (.aload_n 1, 1) := by decide +kernel
theorem d3_66 : decode prog_199_method_2_code 66 = .ok (.iload_n 3, 1) := by decide +kernel
theorem d3_67 : decode prog_199_method_2_code 67 = .ok (.laload, 1) := by decide +kernel
theorem d3_68 : decode prog_199_method_2_code 68 = .ok (.lcmp, 1) := by decide +kernel
theorem d3_69 : decode prog_199_method_2_code 69 = .ok (.ifCond .ne 6, 3) := by decide +kernel
theorem d3_72 : decode prog_199_method_2_code 72 = .ok (.iinc 3 1, 3) := by decide +kernel
theorem d3_75 : decode prog_199_method_2_code 75 = .ok (.aload_n 0, 1) := by decide +kernel
theorem d3_76 : decode prog_199_method_2_code 76 = .ok (.getfield 20, 3) := by decide +kernel
theorem d3_79 : decode prog_199_method_2_code 79 = .ok (.iload 4, 2) := by decide +kernel
theorem d3_81 : decode prog_199_method_2_code 81 = .ok (.iload_n 3, 1) := by decide +kernel
theorem d3_82 : decode prog_199_method_2_code 82 = .ok (.iastore, 1) := by decide +kernel
theorem d3_83 : decode prog_199_method_2_code 83 = .ok (.iinc 4 1, 3) := by decide +kernel
theorem d3_86 : decode prog_199_method_2_code 86 = .ok (.goto (-59), 3) := by decide +kernel
theorem ef_3n2 (m : MethodId) (x0 : Addr) (x1 : Addr)  : entryFrame m #[(.ref x0), (.ref x1), .null] 5 = mkF m 0 #[rv x0, rv x1, .val .null, .unset, .unset] [] := by first | (simp [entryFrame, mkF, argsToLocals, Value.category]; done) | rfl
def own_q3n2 (Z : State) (a1 : Addr) (a2 : Addr) (k2 : ClassId) (w0 w1 : Int64) (h0 : Heap) (n0 : Nat) (v : Option Value) (h : Heap) (L : List Loc) : Prop := v = none ∧ Fr n0 L ∧ Keep h0 h [a1] ∧ Exa Z h a1 "com/example/sound_verdict/soundverdict/UnitSearch" ∧ Fld Z h a1 "com/example/sound_verdict/soundverdict/UnitSearch" "wanted" "[J" (.ref a2) ∧ ∃ (b : Addr) (k : ClassId), h0.size ≤ b ∧ Fld Z h a1 "com/example/sound_verdict/soundverdict/UnitSearch" "border" "[I" (.ref b) ∧ Arv Z h b k .int (2 : Int32) [(.int (0 : Int32)), (.int (own_b1 w0 w1))] (.int (0 : Int32))
set_option maxRecDepth 65536 in
set_option maxHeartbeats 40000000 in
theorem rm3n2 (l : Launch) (Z : State) (a0 : Array Value) (hw : ∀ d ∈ tables_1, d.before a0 Z = true) (ws : List Jvm.Cond) (a1 : Addr) (a2 : Addr) (k2 : ClassId) (w0 w1 : Int64) (h0 : Heap) (n0 : Nat) (Z0 : n0 ≤ h0.size) (F_wanted : Fld Z h0 a1 "com/example/sound_verdict/soundverdict/UnitSearch" "wanted" "[J" .null) (F_border : Fld Z h0 a1 "com/example/sound_verdict/soundverdict/UnitSearch" "border" "[I" .null) (F_lead : Fld Z h0 a1 "com/example/sound_verdict/soundverdict/UnitSearch" "lead" "Ljava/lang/String;" .null) (E_a1 : Exa Z h0 a1 "com/example/sound_verdict/soundverdict/UnitSearch") (g_a1 : n0 ≤ a1) (ne12 : a1 ≠ a2) (V_2 : Arv Z h0 a2 k2 .long (2 : Int32) [(.long w0), (.long w1)] (.long (0 : Int64))) :
    MetFree l (⟨"com/example/sound_verdict/soundverdict/UnitSearch", "<init>", "([JLjava/lang/String;)V"⟩ : MethodName) (head1 (Jvm.Cond.code (⟨"com/example/sound_verdict/soundverdict/UnitSearch", "<init>", "([JLjava/lang/String;)V"⟩ : MethodName) prog_199_method_2_code 5 none :: ws) ({ frames := 1, cells := 1, slots := 2, locals := 12 } : Room)) (fun a U => a = #[(.ref a1), (.ref a2), .null] ∧ Z.Warmed39 U.vm ∧ U.heap = h0) (fun _ _ _ _ _ => True) (fun _ U o U' => ∃ v L, o = .returned v ∧ (own_q3n2 Z a1 a2 k2 w0 w1 h0 n0) v U'.heap L ∧ FrameEnd U o U' L ({ frames := 1, cells := 1, slots := 2, locals := 12 } : Room).cells ({ frames := 1, cells := 1, slots := 2, locals := 12 } : Room).slots) := by
  refine MetFree.of_bodySF (plainFor_of_name pn_1) hisR ?_
  intro p e s m args below meth c s₁ Bd hml0 hP hK
  obtain ⟨rfl, hZ, hh⟩ := hP
  have hx := Bd.exec
  have hby := Bd.bytes
  have hml : c.maxLocals = 5 := hml0
  have hown : s.vm.findClass "com/example/sound_verdict/soundverdict/UnitSearch" = some m.cls := findClass_of_methodNamed Bd.named
  have hnm := (name_of_methodNamed Bd.named Bd.method).1
  have X0 : Stand p l e ({ frames := 1, cells := 1, slots := 2, locals := 12 } : Room) s m #[(.ref a1), (.ref a2), .null] below meth c s₁ [] 0 0 := Stand.of_body Bd
  have e0 : s₁.heap = h0 := by rw [← hh, Bd.state]; rfl
  have N0 := Fr.nil n0
  have Kz := Keep.refl h0 [a1]
  have hw_6 := hw _ (List.mem_of_getElem? (i := 6) rfl)
  have hw_14 := hw _ (List.mem_of_getElem? (i := 14) rfl)
  have hw_15 := hw _ (List.mem_of_getElem? (i := 15) rfl)
  have hw_16 := hw _ (List.mem_of_getElem? (i := 16) rfl)
  have hw_17 := hw _ (List.mem_of_getElem? (i := 17) rfl)
  have hw_18 := hw _ (List.mem_of_getElem? (i := 18) rfl)
  have hw_19 := hw _ (List.mem_of_getElem? (i := 19) rfl)
  have hw_20 := hw _ (List.mem_of_getElem? (i := 20) rfl)
  have hw_21 := hw _ (List.mem_of_getElem? (i := 21) rfl)
  have hw_22 := hw _ (List.mem_of_getElem? (i := 22) rfl)
  have hw_23 := hw _ (List.mem_of_getElem? (i := 23) rfl)
  show oF p e below (own_A s ({ frames := 1, cells := 1, slots := 2, locals := 12 } : Room).cells ({ frames := 1, cells := 1, slots := 2, locals := 12 } : Room).slots (own_q3n2 Z a1 a2 k2 w0 w1 h0 n0)) _
  refine og (fun t k => castTop (ef_3n2 m (a1) (a2)) k) ?_
  show oF p e below _ (s₁.setTop (mkF m 0 #[rv a1, rv a2, .val .null, .unset, .unset] []))
  refine og (fun t k => XS.aloadN X0.here hx rfl (hb hby d3_0) rfl rfl k) ?_
  show oF p e below _ (s₁.setTop (mkF m 1 #[rv a1, rv a2, .val .null, .unset, .unset] [(.ref a1)]))
  obtain ⟨T1, X1, e1, st1⟩ := initO X0 hx hZ hown hw_14 hw_15 hw_16 e0 (g := (mkF m 1 #[rv a1, rv a2, .val .null, .unset, .unset] [(.ref a1)])) rfl (by rw [hml]; rfl) rfl (hb hby d3_1) (by decide) (W := 0) (by show 2 * 0 + _ ≤ _; exact Nat.le_of_eq rfl) (by decide)
  refine og st1 ?_
  show oF p e below _ (T1.setTop (mkF m 4 #[rv a1, rv a2, .val .null, .unset, .unset] []))
  refine og (fun t k => XS.aloadN X1.here hx rfl (hb hby d3_4) rfl rfl (XS.aloadN X1.here hx rfl (hb hby d3_5) rfl rfl k)) ?_
  show oF p e below _ (T1.setTop (mkF m 6 #[rv a1, rv a2, .val .null, .unset, .unset] [(.ref a2), (.ref a1)]))
  obtain ⟨T2, h2, X2, e2, W2, st2⟩ := putF X1 hx hZ hown (host := "") (Or.inl hw_17) Via.refl e1 F_wanted E_a1 (Or.inr ⟨hw_18, rfl, hnm⟩) hw_6 (ty := (.array .long)) (by decide) rfl rfl (g := (mkF m 6 #[rv a1, rv a2, .val .null, .unset, .unset] [(.ref a2), (.ref a1)])) rfl rfl (hb hby d3_6)
  have f4 := F_border.other W2 (Or.inr (slot_ne (Or.inr hw_23) (Or.inr hw_18) (by decide) (t := (.array .int)) (t' := (.array .long)) (by decide) (by decide)))
  have f5 := F_lead.other W2 (Or.inr (slot_ne (Or.inr hw_20) (Or.inr hw_18) (by decide) (t := (.object "java/lang/String")) (t' := (.array .long)) (by decide) (by decide)))
  have f6 := E_a1.wr W2
  have f7 := V_2.other W2 (Ne.symm ne12)
  have f8 := F_wanted.same W2
  have Zh9 : n0 ≤ h2.size := Nat.le_trans Z0 (Nat.le_of_eq W2.size.symm)
  have N2 := Fr.snoc X2 N0 g_a1
  have K10 := Kz.wr W2 (Or.inl (List.mem_of_getElem? (i := 0) rfl))
  refine og st2 ?_
  show oF p e below _ (T2.setTop (mkF m 9 #[rv a1, rv a2, .val .null, .unset, .unset] []))
  refine og (fun t k => XS.aloadN X2.here hx rfl (hb hby d3_9) rfl rfl (XS.aloadN X2.here hx rfl (hb hby d3_10) rfl rfl k)) ?_
  show oF p e below _ (T2.setTop (mkF m 11 #[rv a1, rv a2, .val .null, .unset, .unset] [.null, (.ref a1)]))
  obtain ⟨T11, h11, X11, e11, W11, st11⟩ := putF X2 hx hZ hown (host := "") (Or.inl hw_19) Via.refl e2 f5 f6 (Or.inr ⟨hw_20, rfl, hnm⟩) hw_6 (ty := (.object "java/lang/String")) (by decide) rfl rfl (g := (mkF m 11 #[rv a1, rv a2, .val .null, .unset, .unset] [.null, (.ref a1)])) rfl rfl (hb hby d3_11)
  have f12 := f8.other W11 (Or.inr (slot_ne (Or.inr hw_18) (Or.inr hw_20) (by decide) (t := (.array .long)) (t' := (.object "java/lang/String")) (by decide) (by decide)))
  have f13 := f4.other W11 (Or.inr (slot_ne (Or.inr hw_23) (Or.inr hw_20) (by decide) (t := (.array .int)) (t' := (.object "java/lang/String")) (by decide) (by decide)))
  have f15 := f6.wr W11
  have f16 := f7.other W11 (Ne.symm ne12)
  have f17 := f5.same W11
  have Zh18 : n0 ≤ h11.size := Nat.le_trans Zh9 (Nat.le_of_eq W11.size.symm)
  have N11 := Fr.snoc X11 N2 g_a1
  have K19 := K10.wr W11 (Or.inl (List.mem_of_getElem? (i := 0) rfl))
  refine og st11 ?_
  show oF p e below _ (T11.setTop (mkF m 14 #[rv a1, rv a2, .val .null, .unset, .unset] []))
  refine og (fun t k => XS.aloadN X11.here hx rfl (hb hby d3_14) rfl rfl (XS.aloadN X11.here hx rfl (hb hby d3_15) rfl rfl k)) ?_
  show oF p e below _ (T11.setTop (mkF m 16 #[rv a1, rv a2, .val .null, .unset, .unset] [(.ref a2), (.ref a1)]))
  obtain ⟨cl20, Ar20, q20, S20, M20, H20, G20⟩ := (id f16)
  refine og (fun t k => X11.arraylength hx (by rw [e11]; exact Ar20.1) (State.isArrayOf_alike hZ.alike Ar20.2.1) (g := (mkF m 16 #[rv a1, rv a2, .val .null, .unset, .unset] [(.ref a2), (.ref a1)])) rfl rfl (hb hby d3_16) _ k) ?_
  rw [len_of S20 M20]
  show oF p e below _ (T11.setTop (mkF m 17 #[rv a1, rv a2, .val .null, .unset, .unset] [(.int 2), (.ref a1)]))
  obtain ⟨T21, h21, k21, X21, e21, E21, A21, st21⟩ := newP (aty := .int) X11 hx hZ hw_21 e11 (g := (mkF m 17 #[rv a1, rv a2, .val .null, .unset, .unset] [(.int 2), (.ref a1)])) rfl (hb hby d3_17) rfl (by decide) (cap := 2) (by decide) (by decide) (by decide) (by decide)
  obtain ⟨b21, g21⟩ : ∃ z, z = h11.size := ⟨_, rfl⟩
  rw [← g21] at A21 st21
  have g_b21 : n0 ≤ b21 := Nat.le_trans Zh18 (Nat.le_of_eq g21.symm)
  have sz_b21 : h0.size ≤ b21 := Nat.le_trans K19.1 (Nat.le_of_eq g21.symm)
  have ne22 : a1 ≠ b21 := Nat.ne_of_lt (Nat.lt_of_lt_of_le f12.lt (Nat.le_of_eq g21.symm))
  have ne23 : a2 ≠ b21 := Nat.ne_of_lt (Nat.lt_of_lt_of_le f16.lt (Nat.le_of_eq g21.symm))
  have f24 := f12.ext E21
  have f25 := f13.ext E21
  have f26 := f17.ext E21
  have f27 := f15.ext E21
  have f28 := f16.ext E21
  have Zh29 : n0 ≤ h21.size := Nat.le_trans Zh18 E21.1
  have K30 := K19.ext E21
  have V21 : Arv Z h21 b21 k21 .int (2 : Int32) [(.int (0 : Int32)), (.int (0 : Int32))] (.int (0 : Int32)) := (Arv.new A21 (by decide)).pad (pad_rep [] (.int (0 : Int32)) 2)
  refine og st21 ?_
  show oF p e below _ (T21.setTop (mkF m 19 #[rv a1, rv a2, .val .null, .unset, .unset] [(.ref b21), (.ref a1)]))
  obtain ⟨T31, h31, X31, e31, W31, st31⟩ := putF X21 hx hZ hown (host := "") (Or.inl hw_22) Via.refl e21 f25 f27 (Or.inr ⟨hw_23, rfl, hnm⟩) hw_6 (ty := (.array .int)) (by decide) rfl rfl (g := (mkF m 19 #[rv a1, rv a2, .val .null, .unset, .unset] [(.ref b21), (.ref a1)])) rfl rfl (hb hby d3_19)
  have f32 := f24.other W31 (Or.inr (slot_ne (Or.inr hw_18) (Or.inr hw_23) (by decide) (t := (.array .long)) (t' := (.array .int)) (by decide) (by decide)))
  have f34 := f26.other W31 (Or.inr (slot_ne (Or.inr hw_20) (Or.inr hw_23) (by decide) (t := (.object "java/lang/String")) (t' := (.array .int)) (by decide) (by decide)))
  have f35 := f27.wr W31
  have f36 := f28.other W31 (Ne.symm ne12)
  have f37 := V21.other W31 (Ne.symm ne22)
  have f38 := f25.same W31
  have Zh39 : n0 ≤ h31.size := Nat.le_trans Zh29 (Nat.le_of_eq W31.size.symm)
  have N31 := Fr.snoc X31 N11 g_a1
  have K40 := K30.wr W31 (Or.inl (List.mem_of_getElem? (i := 0) rfl))
  refine og st31 ?_
  show oF p e below _ (T31.setTop (mkF m 22 #[rv a1, rv a2, .val .null, .unset, .unset] []))
  refine og (fun t k => XS.iconst X31.here hx rfl (hb hby d3_22) (XS.istoreN X31.here hx rfl (hb hby d3_23) rfl (l' := #[rv a1, rv a2, .val .null, iv 0, .unset]) rfl (XS.iconst X31.here hx rfl (hb hby d3_24) (XS.istore X31.here hx rfl (hb hby d3_25) rfl (l' := #[rv a1, rv a2, .val .null, iv 0, iv 1]) rfl (XS.iload X31.here hx rfl (hb hby d3_27) rfl (XS.aloadN X31.here hx rfl (hb hby d3_29) rfl rfl k)))))) ?_
  show oF p e below _ (T31.setTop (mkF m 30 #[rv a1, rv a2, .val .null, iv 0, iv 1] [(.ref a2), (.int 1)]))
  obtain ⟨cl41, Ar41, q41, S41, M41, H41, G41⟩ := (id f36)
  refine og (fun t k => X31.arraylength hx (by rw [e31]; exact Ar41.1) (State.isArrayOf_alike hZ.alike Ar41.2.1) (g := (mkF m 30 #[rv a1, rv a2, .val .null, iv 0, iv 1] [(.ref a2), (.int 1)])) rfl rfl (hb hby d3_30) _ k) ?_
  rw [len_of S41 M41]
  show oF p e below _ (T31.setTop (mkF m 31 #[rv a1, rv a2, .val .null, iv 0, iv 1] [(.int 2), (.int 1)]))
  refine og (fun t k => XS.icmpNo X31.here hx rfl (hb hby d3_31) rfl (tlt (by decide : (1 : Int32) < (2 : Int32))).2.1 (XS.iloadN X31.here hx rfl (hb hby d3_34) rfl k)) ?_
  show oF p e below _ (T31.setTop (mkF m 35 #[rv a1, rv a2, .val .null, iv 0, iv 1] [(.int 0)]))
  refine og (fun t k => XS.ifYes X31.here hx rfl (pc0 := 35) (pc' := 61) rfl (hb hby d3_35) rfl ((if0 _ _).trans (flt (by decide : ¬ ((0 : Int32) < (0 : Int32)))).2.2.2) (by decide) (by decide) (XS.aloadN X31.here hx rfl (hb hby d3_61) rfl rfl (XS.iload X31.here hx rfl (hb hby d3_62) rfl k))) ?_
  show oF p e below _ (T31.setTop (mkF m 64 #[rv a1, rv a2, .val .null, iv 0, iv 1] [(.int 1), (.ref a2)]))
  obtain ⟨cl42, Ar42, q42, S42, M42, H42, G42⟩ := (id f36)
  have hin42 : ¬ ((1 : Int32) < 0 ∨ cl42.slots.size ≤ ((1 : Int32)).toNatClampNeg) := inb_of S42 ⟨by decide, by decide⟩
  have hat42 : cl42.slots[((1 : Int32)).toNatClampNeg]? = some (.long w1) := H42.at hin42 rfl
  refine og (fun t k => X31.laload hx (j := (1 : Int32)) (v := (.long w1)) (by rw [e31]; exact Ar42.1) (State.isArrayOf_alike hZ.alike Ar42.2.1) Ar42.2.2 hin42 hat42 (g := (mkF m 64 #[rv a1, rv a2, .val .null, iv 0, iv 1] [(.int 1), (.ref a2)])) rfl rfl (hb hby d3_64) _ (XS.aloadN X31.here hx rfl (hb hby d3_65) rfl rfl (XS.iloadN X31.here hx rfl (hb hby d3_66) rfl k))) ?_
  show oF p e below _ (T31.setTop (mkF m 67 #[rv a1, rv a2, .val .null, iv 0, iv 1] [(.int 0), (.ref a2), (.long w1)]))
  obtain ⟨cl43, Ar43, q43, S43, M43, H43, G43⟩ := (id f36)
  have hin43 : ¬ ((0 : Int32) < 0 ∨ cl43.slots.size ≤ ((0 : Int32)).toNatClampNeg) := inb_of S43 ⟨by decide, by decide⟩
  have hat43 : cl43.slots[((0 : Int32)).toNatClampNeg]? = some (.long w0) := H43.at hin43 rfl
  refine og (fun t k => X31.laload hx (j := (0 : Int32)) (v := (.long w0)) (by rw [e31]; exact Ar43.1) (State.isArrayOf_alike hZ.alike Ar43.2.1) Ar43.2.2 hin43 hat43 (g := (mkF m 67 #[rv a1, rv a2, .val .null, iv 0, iv 1] [(.int 0), (.ref a2), (.long w1)])) rfl rfl (hb hby d3_67) _ (XS.lcmp X31.here hx rfl (hb hby d3_68) rfl k)) ?_
  show oF p e below _ (T31.setTop (mkF m 69 #[rv a1, rv a2, .val .null, iv 0, iv 1] [(.int (lcmpW w1 w0))]))
  by_cases hc44 : w1 = w0
  · skip
    refine og (fun t k => XS.ifNo X31.here hx rfl (hb hby d3_69) rfl ((if0 _ _).trans (teq ((lw_eq _ _).mpr hc44)).2) (XS.iinc X31.here hx rfl (hb hby d3_72) rfl (l' := #[rv a1, rv a2, .val .null, iv 1, iv 1]) rfl (XS.aloadN X31.here hx rfl (hb hby d3_75) rfl rfl k))) ?_
    show oF p e below _ (T31.setTop (mkF m 76 #[rv a1, rv a2, .val .null, iv 1, iv 1] [(.ref a1)]))
    obtain ⟨T45, X45, e45, st45⟩ := getF X31 hx hZ hown (host := "") (Or.inl hw_22) Via.refl e31 f38 (g := (mkF m 76 #[rv a1, rv a2, .val .null, iv 1, iv 1] [(.ref a1)])) rfl rfl (hb hby d3_76)
    refine og st45 ?_
    show oF p e below _ (T45.setTop (mkF m 79 #[rv a1, rv a2, .val .null, iv 1, iv 1] [(.ref b21)]))
    refine og (fun t k => XS.iload X45.here hx rfl (hb hby d3_79) rfl (XS.iloadN X45.here hx rfl (hb hby d3_81) rfl k)) ?_
    show oF p e below _ (T45.setTop (mkF m 82 #[rv a1, rv a2, .val .null, iv 1, iv 1] [(.int 1), (.int 1), (.ref b21)]))
    obtain ⟨cl46, Ar46, q46, S46, M46, H46, G46⟩ := (id f37)
    have hin46 : ¬ ((1 : Int32) < 0 ∨ cl46.slots.size ≤ ((1 : Int32)).toNatClampNeg) := inb_of S46 ⟨by decide, by decide⟩
    obtain ⟨T46, h46, X46, e46, W46, st46⟩ := stI X45 hx hZ e45 Ar46 (j := (1 : Int32)) hin46 (g := (mkF m 82 #[rv a1, rv a2, .val .null, iv 1, iv 1] [(.int 1), (.int 1), (.ref b21)])) rfl rfl (hb hby d3_82)
    have f47 := f32.other W46 (Or.inl ne22)
    have f48 := f38.other W46 (Or.inl ne22)
    have f49 := f34.other W46 (Or.inl ne22)
    have f50 := f35.wr W46
    have f51 := f36.other W46 ne23
    have V46 := Arv.set Ar46 q46 S46 M46 H46 G46 rfl W46 1 rfl (Nat.le_of_ble_eq_true rfl)
    have f53 : Arv Z h46 b21 k21 .int (2 : Int32) [(.int (0 : Int32)), (.int (1 : Int32))] (.int (0 : Int32)) := V46
    have Zh54 : n0 ≤ h46.size := Nat.le_trans Zh39 (Nat.le_of_eq W46.size.symm)
    have N46 := Fr.snoc X46 N31 g_b21
    have K55 := K40.wr W46 (Or.inr sz_b21)
    refine og st46 ?_
    show oF p e below _ (T46.setTop (mkF m 83 #[rv a1, rv a2, .val .null, iv 1, iv 1] []))
    refine og (fun t k => XS.iinc X46.here hx rfl (hb hby d3_83) rfl (l' := #[rv a1, rv a2, .val .null, iv 1, iv 2]) rfl (XS.goto X46.here hx rfl (pc0 := 86) (pc' := 27) rfl (hb hby d3_86) (by decide) (by decide) (XS.iload X46.here hx rfl (hb hby d3_27) rfl (XS.aloadN X46.here hx rfl (hb hby d3_29) rfl rfl k)))) ?_
    show oF p e below _ (T46.setTop (mkF m 30 #[rv a1, rv a2, .val .null, iv 1, iv 2] [(.ref a2), (.int 2)]))
    obtain ⟨cl56, Ar56, q56, S56, M56, H56, G56⟩ := (id f51)
    refine og (fun t k => X46.arraylength hx (by rw [e46]; exact Ar56.1) (State.isArrayOf_alike hZ.alike Ar56.2.1) (g := (mkF m 30 #[rv a1, rv a2, .val .null, iv 1, iv 2] [(.ref a2), (.int 2)])) rfl rfl (hb hby d3_30) _ k) ?_
    rw [len_of S56 M56]
    show oF p e below _ (T46.setTop (mkF m 31 #[rv a1, rv a2, .val .null, iv 1, iv 2] [(.int 2), (.int 2)]))
    refine og (fun t k => XS.icmpYes X46.here hx rfl (pc0 := 31) (pc' := 89) rfl (hb hby d3_31) rfl (flt (by decide : ¬ ((2 : Int32) < (2 : Int32)))).2.1 (by decide) (by decide) k) ?_
    show oF p e below _ (T46.setTop (mkF m 89 #[rv a1, rv a2, .val .null, iv 1, iv 2] []))
    exact oo X46 (fun _ => rfl) Bd.notSynchronized (fun fs hr => X46.returnOut hx Bd.returns (hb hby d3_89) hr) (by rw [e46]; exact ⟨rfl, N46, K55, f50, f47, _, _, sz_b21, f48, (by rw [show (own_b1 w0 w1) = (1 : Int32) from by simp_all [own_b1]]; exact f53)⟩) (by decide) (by decide)
  · skip
    refine og (fun t k => XS.ifYes X31.here hx rfl (pc0 := 69) (pc' := 75) rfl (hb hby d3_69) rfl ((if0 _ _).trans (feq (fun q => hc44 ((lw_eq _ _).mp q))).2) (by decide) (by decide) (XS.aloadN X31.here hx rfl (hb hby d3_75) rfl rfl k)) ?_
    show oF p e below _ (T31.setTop (mkF m 76 #[rv a1, rv a2, .val .null, iv 0, iv 1] [(.ref a1)]))
    obtain ⟨T57, X57, e57, st57⟩ := getF X31 hx hZ hown (host := "") (Or.inl hw_22) Via.refl e31 f38 (g := (mkF m 76 #[rv a1, rv a2, .val .null, iv 0, iv 1] [(.ref a1)])) rfl rfl (hb hby d3_76)
    refine og st57 ?_
    show oF p e below _ (T57.setTop (mkF m 79 #[rv a1, rv a2, .val .null, iv 0, iv 1] [(.ref b21)]))
    refine og (fun t k => XS.iload X57.here hx rfl (hb hby d3_79) rfl (XS.iloadN X57.here hx rfl (hb hby d3_81) rfl k)) ?_
    show oF p e below _ (T57.setTop (mkF m 82 #[rv a1, rv a2, .val .null, iv 0, iv 1] [(.int 0), (.int 1), (.ref b21)]))
    obtain ⟨cl58, Ar58, q58, S58, M58, H58, G58⟩ := (id f37)
    have hin58 : ¬ ((1 : Int32) < 0 ∨ cl58.slots.size ≤ ((1 : Int32)).toNatClampNeg) := inb_of S58 ⟨by decide, by decide⟩
    obtain ⟨T58, h58, X58, e58, W58, st58⟩ := stI X57 hx hZ e57 Ar58 (j := (1 : Int32)) hin58 (g := (mkF m 82 #[rv a1, rv a2, .val .null, iv 0, iv 1] [(.int 0), (.int 1), (.ref b21)])) rfl rfl (hb hby d3_82)
    have f59 := f32.other W58 (Or.inl ne22)
    have f60 := f38.other W58 (Or.inl ne22)
    have f61 := f34.other W58 (Or.inl ne22)
    have f62 := f35.wr W58
    have f63 := f36.other W58 ne23
    have V58 := Arv.set Ar58 q58 S58 M58 H58 G58 rfl W58 1 rfl (Nat.le_of_ble_eq_true rfl)
    have f65 : Arv Z h58 b21 k21 .int (2 : Int32) [(.int (0 : Int32)), (.int (0 : Int32))] (.int (0 : Int32)) := V58
    have Zh66 : n0 ≤ h58.size := Nat.le_trans Zh39 (Nat.le_of_eq W58.size.symm)
    have N58 := Fr.snoc X58 N31 g_b21
    have K67 := K40.wr W58 (Or.inr sz_b21)
    refine og st58 ?_
    show oF p e below _ (T58.setTop (mkF m 83 #[rv a1, rv a2, .val .null, iv 0, iv 1] []))
    refine og (fun t k => XS.iinc X58.here hx rfl (hb hby d3_83) rfl (l' := #[rv a1, rv a2, .val .null, iv 0, iv 2]) rfl (XS.goto X58.here hx rfl (pc0 := 86) (pc' := 27) rfl (hb hby d3_86) (by decide) (by decide) (XS.iload X58.here hx rfl (hb hby d3_27) rfl (XS.aloadN X58.here hx rfl (hb hby d3_29) rfl rfl k)))) ?_
    show oF p e below _ (T58.setTop (mkF m 30 #[rv a1, rv a2, .val .null, iv 0, iv 2] [(.ref a2), (.int 2)]))
    obtain ⟨cl68, Ar68, q68, S68, M68, H68, G68⟩ := (id f63)
    refine og (fun t k => X58.arraylength hx (by rw [e58]; exact Ar68.1) (State.isArrayOf_alike hZ.alike Ar68.2.1) (g := (mkF m 30 #[rv a1, rv a2, .val .null, iv 0, iv 2] [(.ref a2), (.int 2)])) rfl rfl (hb hby d3_30) _ k) ?_
    rw [len_of S68 M68]
    show oF p e below _ (T58.setTop (mkF m 31 #[rv a1, rv a2, .val .null, iv 0, iv 2] [(.int 2), (.int 2)]))
    refine og (fun t k => XS.icmpYes X58.here hx rfl (pc0 := 31) (pc' := 89) rfl (hb hby d3_31) rfl (flt (by decide : ¬ ((2 : Int32) < (2 : Int32)))).2.1 (by decide) (by decide) k) ?_
    show oF p e below _ (T58.setTop (mkF m 89 #[rv a1, rv a2, .val .null, iv 0, iv 2] []))
    exact oo X58 (fun _ => rfl) Bd.notSynchronized (fun fs hr => X58.returnOut hx Bd.returns (hb hby d3_89) hr) (by rw [e58]; exact ⟨rfl, N58, K67, f62, f59, _, _, sz_b21, f60, (by rw [show (own_b1 w0 w1) = (0 : Int32) from by simp_all [own_b1]]; exact f65)⟩) (by decide) (by decide)
theorem d3_38 : decode prog_199_method_2_code 38 = .ok (.aload_n 1, 1) := by decide +kernel
theorem d3_39 : decode prog_199_method_2_code 39 = .ok (.iload 4, 2) := by decide +kernel
theorem d3_41 : decode prog_199_method_2_code 41 = .ok (.laload, 1) := by decide +kernel
theorem d3_42 : decode prog_199_method_2_code 42 = .ok (.aload_n 1, 1) := by decide +kernel
theorem d3_43 : decode prog_199_method_2_code 43 = .ok (.iload_n 3, 1) := by decide +kernel
theorem d3_44 : decode prog_199_method_2_code 44 = .ok (.laload, 1) := by decide +kernel
theorem d3_45 : decode prog_199_method_2_code 45 = .ok (.lcmp, 1) := by decide +kernel
theorem d3_46 : decode prog_199_method_2_code 46 = .ok (.ifCond .eq 15, 3) := by decide +kernel
theorem d3_49 : decode prog_199_method_2_code 49 = .ok (.aload_n 0, 1) := by decide +kernel
theorem d3_50 : decode prog_199_method_2_code 50 = .ok (.getfield 20, 3) := by decide +kernel
theorem d3_53 : decode prog_199_method_2_code 53 = .ok (.iload_n 3, 1) := by decide +kernel
theorem d3_54 : decode prog_199_method_2_code 54 = .ok (.iconst 1, 1) := by decide +kernel
theorem d3_55 : decode prog_199_method_2_code 55 = .ok (.isub, 1) := by decide +kernel
theorem d3_56 : decode prog_199_method_2_code 56 = .ok (.iaload, 1) := by decide +kernel
theorem d3_57 : decode prog_199_method_2_code 57 = .ok (.istore_n 3, 1) := by decide +kernel
theorem d3_58 : decode prog_199_method_2_code 58 = .ok (.goto (-24), 3) := by decide +kernel
theorem ef_3n3 (m : MethodId) (x0 : Addr) (x1 : Addr)  : entryFrame m #[(.ref x0), (.ref x1), .null] 5 = mkF m 0 #[rv x0, rv x1, .val .null, .unset, .unset] [] := by first | (simp [entryFrame, mkF, argsToLocals, Value.category]; done) | rfl
def own_q3n3 (Z : State) (a1 : Addr) (a2 : Addr) (k2 : ClassId) (w0 w1 w2 : Int64) (h0 : Heap) (n0 : Nat) (v : Option Value) (h : Heap) (L : List Loc) : Prop := v = none ∧ Fr n0 L ∧ Keep h0 h [a1] ∧ Exa Z h a1 "com/example/sound_verdict/soundverdict/UnitSearch" ∧ Fld Z h a1 "com/example/sound_verdict/soundverdict/UnitSearch" "wanted" "[J" (.ref a2) ∧ ∃ (b : Addr) (k : ClassId), h0.size ≤ b ∧ Fld Z h a1 "com/example/sound_verdict/soundverdict/UnitSearch" "border" "[I" (.ref b) ∧ Arv Z h b k .int (3 : Int32) [(.int (0 : Int32)), (.int (own_b1 w0 w1)), (.int (own_b2 w0 w1 w2))] (.int (0 : Int32))
set_option maxRecDepth 65536 in
set_option maxHeartbeats 40000000 in
theorem rm3n3 (l : Launch) (Z : State) (a0 : Array Value) (hw : ∀ d ∈ tables_1, d.before a0 Z = true) (ws : List Jvm.Cond) (a1 : Addr) (a2 : Addr) (k2 : ClassId) (w0 w1 w2 : Int64) (h0 : Heap) (n0 : Nat) (Z0 : n0 ≤ h0.size) (F_wanted : Fld Z h0 a1 "com/example/sound_verdict/soundverdict/UnitSearch" "wanted" "[J" .null) (F_border : Fld Z h0 a1 "com/example/sound_verdict/soundverdict/UnitSearch" "border" "[I" .null) (F_lead : Fld Z h0 a1 "com/example/sound_verdict/soundverdict/UnitSearch" "lead" "Ljava/lang/String;" .null) (E_a1 : Exa Z h0 a1 "com/example/sound_verdict/soundverdict/UnitSearch") (g_a1 : n0 ≤ a1) (ne12 : a1 ≠ a2) (V_2 : Arv Z h0 a2 k2 .long (3 : Int32) [(.long w0), (.long w1), (.long w2)] (.long (0 : Int64))) :
    MetFree l (⟨"com/example/sound_verdict/soundverdict/UnitSearch", "<init>", "([JLjava/lang/String;)V"⟩ : MethodName) (head1 (Jvm.Cond.code (⟨"com/example/sound_verdict/soundverdict/UnitSearch", "<init>", "([JLjava/lang/String;)V"⟩ : MethodName) prog_199_method_2_code 5 none :: ws) ({ frames := 1, cells := 1, slots := 3, locals := 12 } : Room)) (fun a U => a = #[(.ref a1), (.ref a2), .null] ∧ Z.Warmed39 U.vm ∧ U.heap = h0) (fun _ _ _ _ _ => True) (fun _ U o U' => ∃ v L, o = .returned v ∧ (own_q3n3 Z a1 a2 k2 w0 w1 w2 h0 n0) v U'.heap L ∧ FrameEnd U o U' L ({ frames := 1, cells := 1, slots := 3, locals := 12 } : Room).cells ({ frames := 1, cells := 1, slots := 3, locals := 12 } : Room).slots) := by
  refine MetFree.of_bodySF (plainFor_of_name pn_1) hisR ?_
  intro p e s m args below meth c s₁ Bd hml0 hP hK
  obtain ⟨rfl, hZ, hh⟩ := hP
  have hx := Bd.exec
  have hby := Bd.bytes
  have hml : c.maxLocals = 5 := hml0
  have hown : s.vm.findClass "com/example/sound_verdict/soundverdict/UnitSearch" = some m.cls := findClass_of_methodNamed Bd.named
  have hnm := (name_of_methodNamed Bd.named Bd.method).1
  have X0 : Stand p l e ({ frames := 1, cells := 1, slots := 3, locals := 12 } : Room) s m #[(.ref a1), (.ref a2), .null] below meth c s₁ [] 0 0 := Stand.of_body Bd
  have e0 : s₁.heap = h0 := by rw [← hh, Bd.state]; rfl
  have N0 := Fr.nil n0
  have Kz := Keep.refl h0 [a1]
  have hw_6 := hw _ (List.mem_of_getElem? (i := 6) rfl)
  have hw_14 := hw _ (List.mem_of_getElem? (i := 14) rfl)
  have hw_15 := hw _ (List.mem_of_getElem? (i := 15) rfl)
  have hw_16 := hw _ (List.mem_of_getElem? (i := 16) rfl)
  have hw_17 := hw _ (List.mem_of_getElem? (i := 17) rfl)
  have hw_18 := hw _ (List.mem_of_getElem? (i := 18) rfl)
  have hw_19 := hw _ (List.mem_of_getElem? (i := 19) rfl)
  have hw_20 := hw _ (List.mem_of_getElem? (i := 20) rfl)
  have hw_21 := hw _ (List.mem_of_getElem? (i := 21) rfl)
  have hw_22 := hw _ (List.mem_of_getElem? (i := 22) rfl)
  have hw_23 := hw _ (List.mem_of_getElem? (i := 23) rfl)
  show oF p e below (own_A s ({ frames := 1, cells := 1, slots := 3, locals := 12 } : Room).cells ({ frames := 1, cells := 1, slots := 3, locals := 12 } : Room).slots (own_q3n3 Z a1 a2 k2 w0 w1 w2 h0 n0)) _
  refine og (fun t k => castTop (ef_3n3 m (a1) (a2)) k) ?_
  show oF p e below _ (s₁.setTop (mkF m 0 #[rv a1, rv a2, .val .null, .unset, .unset] []))
  refine og (fun t k => XS.aloadN X0.here hx rfl (hb hby d3_0) rfl rfl k) ?_
  show oF p e below _ (s₁.setTop (mkF m 1 #[rv a1, rv a2, .val .null, .unset, .unset] [(.ref a1)]))
  obtain ⟨T1, X1, e1, st1⟩ := initO X0 hx hZ hown hw_14 hw_15 hw_16 e0 (g := (mkF m 1 #[rv a1, rv a2, .val .null, .unset, .unset] [(.ref a1)])) rfl (by rw [hml]; rfl) rfl (hb hby d3_1) (by decide) (W := 0) (by show 2 * 0 + _ ≤ _; exact Nat.le_of_eq rfl) (by decide)
  refine og st1 ?_
  show oF p e below _ (T1.setTop (mkF m 4 #[rv a1, rv a2, .val .null, .unset, .unset] []))
  refine og (fun t k => XS.aloadN X1.here hx rfl (hb hby d3_4) rfl rfl (XS.aloadN X1.here hx rfl (hb hby d3_5) rfl rfl k)) ?_
  show oF p e below _ (T1.setTop (mkF m 6 #[rv a1, rv a2, .val .null, .unset, .unset] [(.ref a2), (.ref a1)]))
  obtain ⟨T2, h2, X2, e2, W2, st2⟩ := putF X1 hx hZ hown (host := "") (Or.inl hw_17) Via.refl e1 F_wanted E_a1 (Or.inr ⟨hw_18, rfl, hnm⟩) hw_6 (ty := (.array .long)) (by decide) rfl rfl (g := (mkF m 6 #[rv a1, rv a2, .val .null, .unset, .unset] [(.ref a2), (.ref a1)])) rfl rfl (hb hby d3_6)
  have f4 := F_border.other W2 (Or.inr (slot_ne (Or.inr hw_23) (Or.inr hw_18) (by decide) (t := (.array .int)) (t' := (.array .long)) (by decide) (by decide)))
  have f5 := F_lead.other W2 (Or.inr (slot_ne (Or.inr hw_20) (Or.inr hw_18) (by decide) (t := (.object "java/lang/String")) (t' := (.array .long)) (by decide) (by decide)))
  have f6 := E_a1.wr W2
  have f7 := V_2.other W2 (Ne.symm ne12)
  have f8 := F_wanted.same W2
  have Zh9 : n0 ≤ h2.size := Nat.le_trans Z0 (Nat.le_of_eq W2.size.symm)
  have N2 := Fr.snoc X2 N0 g_a1
  have K10 := Kz.wr W2 (Or.inl (List.mem_of_getElem? (i := 0) rfl))
  refine og st2 ?_
  show oF p e below _ (T2.setTop (mkF m 9 #[rv a1, rv a2, .val .null, .unset, .unset] []))
  refine og (fun t k => XS.aloadN X2.here hx rfl (hb hby d3_9) rfl rfl (XS.aloadN X2.here hx rfl (hb hby d3_10) rfl rfl k)) ?_
  show oF p e below _ (T2.setTop (mkF m 11 #[rv a1, rv a2, .val .null, .unset, .unset] [.null, (.ref a1)]))
  obtain ⟨T11, h11, X11, e11, W11, st11⟩ := putF X2 hx hZ hown (host := "") (Or.inl hw_19) Via.refl e2 f5 f6 (Or.inr ⟨hw_20, rfl, hnm⟩) hw_6 (ty := (.object "java/lang/String")) (by decide) rfl rfl (g := (mkF m 11 #[rv a1, rv a2, .val .null, .unset, .unset] [.null, (.ref a1)])) rfl rfl (hb hby d3_11)
  have f12 := f8.other W11 (Or.inr (slot_ne (Or.inr hw_18) (Or.inr hw_20) (by decide) (t := (.array .long)) (t' := (.object "java/lang/String")) (by decide) (by decide)))
  have f13 := f4.other W11 (Or.inr (slot_ne (Or.inr hw_23) (Or.inr hw_20) (by decide) (t := (.array .int)) (t' := (.object "java/lang/String")) (by decide) (by decide)))
  have f15 := f6.wr W11
  have f16 := f7.other W11 (Ne.symm ne12)
  have f17 := f5.same W11
  have Zh18 : n0 ≤ h11.size := Nat.le_trans Zh9 (Nat.le_of_eq W11.size.symm)
  have N11 := Fr.snoc X11 N2 g_a1
  have K19 := K10.wr W11 (Or.inl (List.mem_of_getElem? (i := 0) rfl))
  refine og st11 ?_
  show oF p e below _ (T11.setTop (mkF m 14 #[rv a1, rv a2, .val .null, .unset, .unset] []))
  refine og (fun t k => XS.aloadN X11.here hx rfl (hb hby d3_14) rfl rfl (XS.aloadN X11.here hx rfl (hb hby d3_15) rfl rfl k)) ?_
  show oF p e below _ (T11.setTop (mkF m 16 #[rv a1, rv a2, .val .null, .unset, .unset] [(.ref a2), (.ref a1)]))
  obtain ⟨cl20, Ar20, q20, S20, M20, H20, G20⟩ := (id f16)
  refine og (fun t k => X11.arraylength hx (by rw [e11]; exact Ar20.1) (State.isArrayOf_alike hZ.alike Ar20.2.1) (g := (mkF m 16 #[rv a1, rv a2, .val .null, .unset, .unset] [(.ref a2), (.ref a1)])) rfl rfl (hb hby d3_16) _ k) ?_
  rw [len_of S20 M20]
  show oF p e below _ (T11.setTop (mkF m 17 #[rv a1, rv a2, .val .null, .unset, .unset] [(.int 3), (.ref a1)]))
  obtain ⟨T21, h21, k21, X21, e21, E21, A21, st21⟩ := newP (aty := .int) X11 hx hZ hw_21 e11 (g := (mkF m 17 #[rv a1, rv a2, .val .null, .unset, .unset] [(.int 3), (.ref a1)])) rfl (hb hby d3_17) rfl (by decide) (cap := 3) (by decide) (by decide) (by decide) (by decide)
  obtain ⟨b21, g21⟩ : ∃ z, z = h11.size := ⟨_, rfl⟩
  rw [← g21] at A21 st21
  have g_b21 : n0 ≤ b21 := Nat.le_trans Zh18 (Nat.le_of_eq g21.symm)
  have sz_b21 : h0.size ≤ b21 := Nat.le_trans K19.1 (Nat.le_of_eq g21.symm)
  have ne22 : a1 ≠ b21 := Nat.ne_of_lt (Nat.lt_of_lt_of_le f12.lt (Nat.le_of_eq g21.symm))
  have ne23 : a2 ≠ b21 := Nat.ne_of_lt (Nat.lt_of_lt_of_le f16.lt (Nat.le_of_eq g21.symm))
  have f24 := f12.ext E21
  have f25 := f13.ext E21
  have f26 := f17.ext E21
  have f27 := f15.ext E21
  have f28 := f16.ext E21
  have Zh29 : n0 ≤ h21.size := Nat.le_trans Zh18 E21.1
  have K30 := K19.ext E21
  have V21 : Arv Z h21 b21 k21 .int (3 : Int32) [(.int (0 : Int32)), (.int (0 : Int32)), (.int (0 : Int32))] (.int (0 : Int32)) := (Arv.new A21 (by decide)).pad (pad_rep [] (.int (0 : Int32)) 3)
  refine og st21 ?_
  show oF p e below _ (T21.setTop (mkF m 19 #[rv a1, rv a2, .val .null, .unset, .unset] [(.ref b21), (.ref a1)]))
  obtain ⟨T31, h31, X31, e31, W31, st31⟩ := putF X21 hx hZ hown (host := "") (Or.inl hw_22) Via.refl e21 f25 f27 (Or.inr ⟨hw_23, rfl, hnm⟩) hw_6 (ty := (.array .int)) (by decide) rfl rfl (g := (mkF m 19 #[rv a1, rv a2, .val .null, .unset, .unset] [(.ref b21), (.ref a1)])) rfl rfl (hb hby d3_19)
  have f32 := f24.other W31 (Or.inr (slot_ne (Or.inr hw_18) (Or.inr hw_23) (by decide) (t := (.array .long)) (t' := (.array .int)) (by decide) (by decide)))
  have f34 := f26.other W31 (Or.inr (slot_ne (Or.inr hw_20) (Or.inr hw_23) (by decide) (t := (.object "java/lang/String")) (t' := (.array .int)) (by decide) (by decide)))
  have f35 := f27.wr W31
  have f36 := f28.other W31 (Ne.symm ne12)
  have f37 := V21.other W31 (Ne.symm ne22)
  have f38 := f25.same W31
  have Zh39 : n0 ≤ h31.size := Nat.le_trans Zh29 (Nat.le_of_eq W31.size.symm)
  have N31 := Fr.snoc X31 N11 g_a1
  have K40 := K30.wr W31 (Or.inl (List.mem_of_getElem? (i := 0) rfl))
  refine og st31 ?_
  show oF p e below _ (T31.setTop (mkF m 22 #[rv a1, rv a2, .val .null, .unset, .unset] []))
  refine og (fun t k => XS.iconst X31.here hx rfl (hb hby d3_22) (XS.istoreN X31.here hx rfl (hb hby d3_23) rfl (l' := #[rv a1, rv a2, .val .null, iv 0, .unset]) rfl (XS.iconst X31.here hx rfl (hb hby d3_24) (XS.istore X31.here hx rfl (hb hby d3_25) rfl (l' := #[rv a1, rv a2, .val .null, iv 0, iv 1]) rfl (XS.iload X31.here hx rfl (hb hby d3_27) rfl (XS.aloadN X31.here hx rfl (hb hby d3_29) rfl rfl k)))))) ?_
  show oF p e below _ (T31.setTop (mkF m 30 #[rv a1, rv a2, .val .null, iv 0, iv 1] [(.ref a2), (.int 1)]))
  obtain ⟨cl41, Ar41, q41, S41, M41, H41, G41⟩ := (id f36)
  refine og (fun t k => X31.arraylength hx (by rw [e31]; exact Ar41.1) (State.isArrayOf_alike hZ.alike Ar41.2.1) (g := (mkF m 30 #[rv a1, rv a2, .val .null, iv 0, iv 1] [(.ref a2), (.int 1)])) rfl rfl (hb hby d3_30) _ k) ?_
  rw [len_of S41 M41]
  show oF p e below _ (T31.setTop (mkF m 31 #[rv a1, rv a2, .val .null, iv 0, iv 1] [(.int 3), (.int 1)]))
  refine og (fun t k => XS.icmpNo X31.here hx rfl (hb hby d3_31) rfl (tlt (by decide : (1 : Int32) < (3 : Int32))).2.1 (XS.iloadN X31.here hx rfl (hb hby d3_34) rfl k)) ?_
  show oF p e below _ (T31.setTop (mkF m 35 #[rv a1, rv a2, .val .null, iv 0, iv 1] [(.int 0)]))
  refine og (fun t k => XS.ifYes X31.here hx rfl (pc0 := 35) (pc' := 61) rfl (hb hby d3_35) rfl ((if0 _ _).trans (flt (by decide : ¬ ((0 : Int32) < (0 : Int32)))).2.2.2) (by decide) (by decide) (XS.aloadN X31.here hx rfl (hb hby d3_61) rfl rfl (XS.iload X31.here hx rfl (hb hby d3_62) rfl k))) ?_
  show oF p e below _ (T31.setTop (mkF m 64 #[rv a1, rv a2, .val .null, iv 0, iv 1] [(.int 1), (.ref a2)]))
  obtain ⟨cl42, Ar42, q42, S42, M42, H42, G42⟩ := (id f36)
  have hin42 : ¬ ((1 : Int32) < 0 ∨ cl42.slots.size ≤ ((1 : Int32)).toNatClampNeg) := inb_of S42 ⟨by decide, by decide⟩
  have hat42 : cl42.slots[((1 : Int32)).toNatClampNeg]? = some (.long w1) := H42.at hin42 rfl
  refine og (fun t k => X31.laload hx (j := (1 : Int32)) (v := (.long w1)) (by rw [e31]; exact Ar42.1) (State.isArrayOf_alike hZ.alike Ar42.2.1) Ar42.2.2 hin42 hat42 (g := (mkF m 64 #[rv a1, rv a2, .val .null, iv 0, iv 1] [(.int 1), (.ref a2)])) rfl rfl (hb hby d3_64) _ (XS.aloadN X31.here hx rfl (hb hby d3_65) rfl rfl (XS.iloadN X31.here hx rfl (hb hby d3_66) rfl k))) ?_
  show oF p e below _ (T31.setTop (mkF m 67 #[rv a1, rv a2, .val .null, iv 0, iv 1] [(.int 0), (.ref a2), (.long w1)]))
  obtain ⟨cl43, Ar43, q43, S43, M43, H43, G43⟩ := (id f36)
  have hin43 : ¬ ((0 : Int32) < 0 ∨ cl43.slots.size ≤ ((0 : Int32)).toNatClampNeg) := inb_of S43 ⟨by decide, by decide⟩
  have hat43 : cl43.slots[((0 : Int32)).toNatClampNeg]? = some (.long w0) := H43.at hin43 rfl
  refine og (fun t k => X31.laload hx (j := (0 : Int32)) (v := (.long w0)) (by rw [e31]; exact Ar43.1) (State.isArrayOf_alike hZ.alike Ar43.2.1) Ar43.2.2 hin43 hat43 (g := (mkF m 67 #[rv a1, rv a2, .val .null, iv 0, iv 1] [(.int 0), (.ref a2), (.long w1)])) rfl rfl (hb hby d3_67) _ (XS.lcmp X31.here hx rfl (hb hby d3_68) rfl k)) ?_
  show oF p e below _ (T31.setTop (mkF m 69 #[rv a1, rv a2, .val .null, iv 0, iv 1] [(.int (lcmpW w1 w0))]))
  by_cases hc44 : w1 = w0
  · skip
    refine og (fun t k => XS.ifNo X31.here hx rfl (hb hby d3_69) rfl ((if0 _ _).trans (teq ((lw_eq _ _).mpr hc44)).2) (XS.iinc X31.here hx rfl (hb hby d3_72) rfl (l' := #[rv a1, rv a2, .val .null, iv 1, iv 1]) rfl (XS.aloadN X31.here hx rfl (hb hby d3_75) rfl rfl k))) ?_
    show oF p e below _ (T31.setTop (mkF m 76 #[rv a1, rv a2, .val .null, iv 1, iv 1] [(.ref a1)]))
    obtain ⟨T45, X45, e45, st45⟩ := getF X31 hx hZ hown (host := "") (Or.inl hw_22) Via.refl e31 f38 (g := (mkF m 76 #[rv a1, rv a2, .val .null, iv 1, iv 1] [(.ref a1)])) rfl rfl (hb hby d3_76)
    refine og st45 ?_
    show oF p e below _ (T45.setTop (mkF m 79 #[rv a1, rv a2, .val .null, iv 1, iv 1] [(.ref b21)]))
    refine og (fun t k => XS.iload X45.here hx rfl (hb hby d3_79) rfl (XS.iloadN X45.here hx rfl (hb hby d3_81) rfl k)) ?_
    show oF p e below _ (T45.setTop (mkF m 82 #[rv a1, rv a2, .val .null, iv 1, iv 1] [(.int 1), (.int 1), (.ref b21)]))
    obtain ⟨cl46, Ar46, q46, S46, M46, H46, G46⟩ := (id f37)
    have hin46 : ¬ ((1 : Int32) < 0 ∨ cl46.slots.size ≤ ((1 : Int32)).toNatClampNeg) := inb_of S46 ⟨by decide, by decide⟩
    obtain ⟨T46, h46, X46, e46, W46, st46⟩ := stI X45 hx hZ e45 Ar46 (j := (1 : Int32)) hin46 (g := (mkF m 82 #[rv a1, rv a2, .val .null, iv 1, iv 1] [(.int 1), (.int 1), (.ref b21)])) rfl rfl (hb hby d3_82)
    have f47 := f32.other W46 (Or.inl ne22)
    have f48 := f38.other W46 (Or.inl ne22)
    have f49 := f34.other W46 (Or.inl ne22)
    have f50 := f35.wr W46
    have f51 := f36.other W46 ne23
    have V46 := Arv.set Ar46 q46 S46 M46 H46 G46 rfl W46 1 rfl (Nat.le_of_ble_eq_true rfl)
    have f53 : Arv Z h46 b21 k21 .int (3 : Int32) [(.int (0 : Int32)), (.int (1 : Int32)), (.int (0 : Int32))] (.int (0 : Int32)) := V46
    have Zh54 : n0 ≤ h46.size := Nat.le_trans Zh39 (Nat.le_of_eq W46.size.symm)
    have N46 := Fr.snoc X46 N31 g_b21
    have K55 := K40.wr W46 (Or.inr sz_b21)
    refine og st46 ?_
    show oF p e below _ (T46.setTop (mkF m 83 #[rv a1, rv a2, .val .null, iv 1, iv 1] []))
    refine og (fun t k => XS.iinc X46.here hx rfl (hb hby d3_83) rfl (l' := #[rv a1, rv a2, .val .null, iv 1, iv 2]) rfl (XS.goto X46.here hx rfl (pc0 := 86) (pc' := 27) rfl (hb hby d3_86) (by decide) (by decide) (XS.iload X46.here hx rfl (hb hby d3_27) rfl (XS.aloadN X46.here hx rfl (hb hby d3_29) rfl rfl k)))) ?_
    show oF p e below _ (T46.setTop (mkF m 30 #[rv a1, rv a2, .val .null, iv 1, iv 2] [(.ref a2), (.int 2)]))
    obtain ⟨cl56, Ar56, q56, S56, M56, H56, G56⟩ := (id f51)
    refine og (fun t k => X46.arraylength hx (by rw [e46]; exact Ar56.1) (State.isArrayOf_alike hZ.alike Ar56.2.1) (g := (mkF m 30 #[rv a1, rv a2, .val .null, iv 1, iv 2] [(.ref a2), (.int 2)])) rfl rfl (hb hby d3_30) _ k) ?_
    rw [len_of S56 M56]
    show oF p e below _ (T46.setTop (mkF m 31 #[rv a1, rv a2, .val .null, iv 1, iv 2] [(.int 3), (.int 2)]))
    refine og (fun t k => XS.icmpNo X46.here hx rfl (hb hby d3_31) rfl (tlt (by decide : (2 : Int32) < (3 : Int32))).2.1 (XS.iloadN X46.here hx rfl (hb hby d3_34) rfl k)) ?_
    show oF p e below _ (T46.setTop (mkF m 35 #[rv a1, rv a2, .val .null, iv 1, iv 2] [(.int 1)]))
    refine og (fun t k => XS.ifNo X46.here hx rfl (hb hby d3_35) rfl ((if0 _ _).trans (tlt (by decide : (0 : Int32) < (1 : Int32))).2.2.2) (XS.aloadN X46.here hx rfl (hb hby d3_38) rfl rfl (XS.iload X46.here hx rfl (hb hby d3_39) rfl k))) ?_
    show oF p e below _ (T46.setTop (mkF m 41 #[rv a1, rv a2, .val .null, iv 1, iv 2] [(.int 2), (.ref a2)]))
    obtain ⟨cl57, Ar57, q57, S57, M57, H57, G57⟩ := (id f51)
    have hin57 : ¬ ((2 : Int32) < 0 ∨ cl57.slots.size ≤ ((2 : Int32)).toNatClampNeg) := inb_of S57 ⟨by decide, by decide⟩
    have hat57 : cl57.slots[((2 : Int32)).toNatClampNeg]? = some (.long w2) := H57.at hin57 rfl
    refine og (fun t k => X46.laload hx (j := (2 : Int32)) (v := (.long w2)) (by rw [e46]; exact Ar57.1) (State.isArrayOf_alike hZ.alike Ar57.2.1) Ar57.2.2 hin57 hat57 (g := (mkF m 41 #[rv a1, rv a2, .val .null, iv 1, iv 2] [(.int 2), (.ref a2)])) rfl rfl (hb hby d3_41) _ (XS.aloadN X46.here hx rfl (hb hby d3_42) rfl rfl (XS.iloadN X46.here hx rfl (hb hby d3_43) rfl k))) ?_
    show oF p e below _ (T46.setTop (mkF m 44 #[rv a1, rv a2, .val .null, iv 1, iv 2] [(.int 1), (.ref a2), (.long w2)]))
    obtain ⟨cl58, Ar58, q58, S58, M58, H58, G58⟩ := (id f51)
    have hin58 : ¬ ((1 : Int32) < 0 ∨ cl58.slots.size ≤ ((1 : Int32)).toNatClampNeg) := inb_of S58 ⟨by decide, by decide⟩
    have hat58 : cl58.slots[((1 : Int32)).toNatClampNeg]? = some (.long w1) := H58.at hin58 rfl
    refine og (fun t k => X46.laload hx (j := (1 : Int32)) (v := (.long w1)) (by rw [e46]; exact Ar58.1) (State.isArrayOf_alike hZ.alike Ar58.2.1) Ar58.2.2 hin58 hat58 (g := (mkF m 44 #[rv a1, rv a2, .val .null, iv 1, iv 2] [(.int 1), (.ref a2), (.long w2)])) rfl rfl (hb hby d3_44) _ (XS.lcmp X46.here hx rfl (hb hby d3_45) rfl k)) ?_
    show oF p e below _ (T46.setTop (mkF m 46 #[rv a1, rv a2, .val .null, iv 1, iv 2] [(.int (lcmpW w2 w1))]))
    by_cases hc59 : w2 = w1
    · skip
      refine og (fun t k => XS.ifYes X46.here hx rfl (pc0 := 46) (pc' := 61) rfl (hb hby d3_46) rfl ((if0 _ _).trans (teq ((lw_eq _ _).mpr hc59)).1) (by decide) (by decide) (XS.aloadN X46.here hx rfl (hb hby d3_61) rfl rfl (XS.iload X46.here hx rfl (hb hby d3_62) rfl k))) ?_
      show oF p e below _ (T46.setTop (mkF m 64 #[rv a1, rv a2, .val .null, iv 1, iv 2] [(.int 2), (.ref a2)]))
      obtain ⟨cl60, Ar60, q60, S60, M60, H60, G60⟩ := (id f51)
      have hin60 : ¬ ((2 : Int32) < 0 ∨ cl60.slots.size ≤ ((2 : Int32)).toNatClampNeg) := inb_of S60 ⟨by decide, by decide⟩
      have hat60 : cl60.slots[((2 : Int32)).toNatClampNeg]? = some (.long w2) := H60.at hin60 rfl
      refine og (fun t k => X46.laload hx (j := (2 : Int32)) (v := (.long w2)) (by rw [e46]; exact Ar60.1) (State.isArrayOf_alike hZ.alike Ar60.2.1) Ar60.2.2 hin60 hat60 (g := (mkF m 64 #[rv a1, rv a2, .val .null, iv 1, iv 2] [(.int 2), (.ref a2)])) rfl rfl (hb hby d3_64) _ (XS.aloadN X46.here hx rfl (hb hby d3_65) rfl rfl (XS.iloadN X46.here hx rfl (hb hby d3_66) rfl k))) ?_
      show oF p e below _ (T46.setTop (mkF m 67 #[rv a1, rv a2, .val .null, iv 1, iv 2] [(.int 1), (.ref a2), (.long w2)]))
      obtain ⟨cl61, Ar61, q61, S61, M61, H61, G61⟩ := (id f51)
      have hin61 : ¬ ((1 : Int32) < 0 ∨ cl61.slots.size ≤ ((1 : Int32)).toNatClampNeg) := inb_of S61 ⟨by decide, by decide⟩
      have hat61 : cl61.slots[((1 : Int32)).toNatClampNeg]? = some (.long w1) := H61.at hin61 rfl
      refine og (fun t k => X46.laload hx (j := (1 : Int32)) (v := (.long w1)) (by rw [e46]; exact Ar61.1) (State.isArrayOf_alike hZ.alike Ar61.2.1) Ar61.2.2 hin61 hat61 (g := (mkF m 67 #[rv a1, rv a2, .val .null, iv 1, iv 2] [(.int 1), (.ref a2), (.long w2)])) rfl rfl (hb hby d3_67) _ (XS.lcmp X46.here hx rfl (hb hby d3_68) rfl k)) ?_
      show oF p e below _ (T46.setTop (mkF m 69 #[rv a1, rv a2, .val .null, iv 1, iv 2] [(.int (lcmpW w2 w1))]))
      refine og (fun t k => XS.ifNo X46.here hx rfl (hb hby d3_69) rfl ((if0 _ _).trans (teq ((lw_eq _ _).mpr hc59)).2) (XS.iinc X46.here hx rfl (hb hby d3_72) rfl (l' := #[rv a1, rv a2, .val .null, iv 2, iv 2]) rfl (XS.aloadN X46.here hx rfl (hb hby d3_75) rfl rfl k))) ?_
      show oF p e below _ (T46.setTop (mkF m 76 #[rv a1, rv a2, .val .null, iv 2, iv 2] [(.ref a1)]))
      obtain ⟨T62, X62, e62, st62⟩ := getF X46 hx hZ hown (host := "") (Or.inl hw_22) Via.refl e46 f48 (g := (mkF m 76 #[rv a1, rv a2, .val .null, iv 2, iv 2] [(.ref a1)])) rfl rfl (hb hby d3_76)
      refine og st62 ?_
      show oF p e below _ (T62.setTop (mkF m 79 #[rv a1, rv a2, .val .null, iv 2, iv 2] [(.ref b21)]))
      refine og (fun t k => XS.iload X62.here hx rfl (hb hby d3_79) rfl (XS.iloadN X62.here hx rfl (hb hby d3_81) rfl k)) ?_
      show oF p e below _ (T62.setTop (mkF m 82 #[rv a1, rv a2, .val .null, iv 2, iv 2] [(.int 2), (.int 2), (.ref b21)]))
      obtain ⟨cl63, Ar63, q63, S63, M63, H63, G63⟩ := (id f53)
      have hin63 : ¬ ((2 : Int32) < 0 ∨ cl63.slots.size ≤ ((2 : Int32)).toNatClampNeg) := inb_of S63 ⟨by decide, by decide⟩
      obtain ⟨T63, h63, X63, e63, W63, st63⟩ := stI X62 hx hZ e62 Ar63 (j := (2 : Int32)) hin63 (g := (mkF m 82 #[rv a1, rv a2, .val .null, iv 2, iv 2] [(.int 2), (.int 2), (.ref b21)])) rfl rfl (hb hby d3_82)
      have f64 := f47.other W63 (Or.inl ne22)
      have f65 := f48.other W63 (Or.inl ne22)
      have f66 := f49.other W63 (Or.inl ne22)
      have f67 := f50.wr W63
      have f68 := f51.other W63 ne23
      have V63 := Arv.set Ar63 q63 S63 M63 H63 G63 rfl W63 2 rfl (Nat.le_of_ble_eq_true rfl)
      have f70 : Arv Z h63 b21 k21 .int (3 : Int32) [(.int (0 : Int32)), (.int (1 : Int32)), (.int (2 : Int32))] (.int (0 : Int32)) := V63
      have Zh71 : n0 ≤ h63.size := Nat.le_trans Zh54 (Nat.le_of_eq W63.size.symm)
      have N63 := Fr.snoc X63 N46 g_b21
      have K72 := K55.wr W63 (Or.inr sz_b21)
      refine og st63 ?_
      show oF p e below _ (T63.setTop (mkF m 83 #[rv a1, rv a2, .val .null, iv 2, iv 2] []))
      refine og (fun t k => XS.iinc X63.here hx rfl (hb hby d3_83) rfl (l' := #[rv a1, rv a2, .val .null, iv 2, iv 3]) rfl (XS.goto X63.here hx rfl (pc0 := 86) (pc' := 27) rfl (hb hby d3_86) (by decide) (by decide) (XS.iload X63.here hx rfl (hb hby d3_27) rfl (XS.aloadN X63.here hx rfl (hb hby d3_29) rfl rfl k)))) ?_
      show oF p e below _ (T63.setTop (mkF m 30 #[rv a1, rv a2, .val .null, iv 2, iv 3] [(.ref a2), (.int 3)]))
      obtain ⟨cl73, Ar73, q73, S73, M73, H73, G73⟩ := (id f68)
      refine og (fun t k => X63.arraylength hx (by rw [e63]; exact Ar73.1) (State.isArrayOf_alike hZ.alike Ar73.2.1) (g := (mkF m 30 #[rv a1, rv a2, .val .null, iv 2, iv 3] [(.ref a2), (.int 3)])) rfl rfl (hb hby d3_30) _ k) ?_
      rw [len_of S73 M73]
      show oF p e below _ (T63.setTop (mkF m 31 #[rv a1, rv a2, .val .null, iv 2, iv 3] [(.int 3), (.int 3)]))
      refine og (fun t k => XS.icmpYes X63.here hx rfl (pc0 := 31) (pc' := 89) rfl (hb hby d3_31) rfl (flt (by decide : ¬ ((3 : Int32) < (3 : Int32)))).2.1 (by decide) (by decide) k) ?_
      show oF p e below _ (T63.setTop (mkF m 89 #[rv a1, rv a2, .val .null, iv 2, iv 3] []))
      exact oo X63 (fun _ => rfl) Bd.notSynchronized (fun fs hr => X63.returnOut hx Bd.returns (hb hby d3_89) hr) (by rw [e63]; exact ⟨rfl, N63, K72, f67, f64, _, _, sz_b21, f65, (by rw [show (own_b1 w0 w1) = (1 : Int32) from by simp_all [own_b1]]; rw [show (own_b2 w0 w1 w2) = (2 : Int32) from by simp_all [own_b2]]; exact f70)⟩) (by decide) (by decide)
    · skip
      refine og (fun t k => XS.ifNo X46.here hx rfl (hb hby d3_46) rfl ((if0 _ _).trans (feq (fun q => hc59 ((lw_eq _ _).mp q))).1) (XS.aloadN X46.here hx rfl (hb hby d3_49) rfl rfl k)) ?_
      show oF p e below _ (T46.setTop (mkF m 50 #[rv a1, rv a2, .val .null, iv 1, iv 2] [(.ref a1)]))
      obtain ⟨T74, X74, e74, st74⟩ := getF X46 hx hZ hown (host := "") (Or.inl hw_22) Via.refl e46 f48 (g := (mkF m 50 #[rv a1, rv a2, .val .null, iv 1, iv 2] [(.ref a1)])) rfl rfl (hb hby d3_50)
      refine og st74 ?_
      show oF p e below _ (T74.setTop (mkF m 53 #[rv a1, rv a2, .val .null, iv 1, iv 2] [(.ref b21)]))
      refine og (fun t k => XS.iloadN X74.here hx rfl (hb hby d3_53) rfl (XS.iconst X74.here hx rfl (hb hby d3_54) (XS.isub X74.here hx rfl (hb hby d3_55) rfl k))) ?_
      show oF p e below _ (T74.setTop (mkF m 56 #[rv a1, rv a2, .val .null, iv 1, iv 2] [(.int 0), (.ref b21)]))
      obtain ⟨cl75, Ar75, q75, S75, M75, H75, G75⟩ := (id f53)
      have hin75 : ¬ ((0 : Int32) < 0 ∨ cl75.slots.size ≤ ((0 : Int32)).toNatClampNeg) := inb_of S75 ⟨by decide, by decide⟩
      have hat75 : cl75.slots[((0 : Int32)).toNatClampNeg]? = some (.int (0 : Int32)) := H75.at hin75 rfl
      refine og (fun t k => X74.iaload hx (j := (0 : Int32)) (v := (.int (0 : Int32))) (by rw [e74]; exact Ar75.1) (State.isArrayOf_alike hZ.alike Ar75.2.1) Ar75.2.2 hin75 hat75 (g := (mkF m 56 #[rv a1, rv a2, .val .null, iv 1, iv 2] [(.int 0), (.ref b21)])) rfl rfl (hb hby d3_56) _ (XS.istoreN X74.here hx rfl (hb hby d3_57) rfl (l' := #[rv a1, rv a2, .val .null, iv 0, iv 2]) rfl (XS.goto X74.here hx rfl (pc0 := 58) (pc' := 34) rfl (hb hby d3_58) (by decide) (by decide) (XS.iloadN X74.here hx rfl (hb hby d3_34) rfl k)))) ?_
      show oF p e below _ (T74.setTop (mkF m 35 #[rv a1, rv a2, .val .null, iv 0, iv 2] [(.int 0)]))
      refine og (fun t k => XS.ifYes X74.here hx rfl (pc0 := 35) (pc' := 61) rfl (hb hby d3_35) rfl ((if0 _ _).trans (flt (by decide : ¬ ((0 : Int32) < (0 : Int32)))).2.2.2) (by decide) (by decide) (XS.aloadN X74.here hx rfl (hb hby d3_61) rfl rfl (XS.iload X74.here hx rfl (hb hby d3_62) rfl k))) ?_
      show oF p e below _ (T74.setTop (mkF m 64 #[rv a1, rv a2, .val .null, iv 0, iv 2] [(.int 2), (.ref a2)]))
      obtain ⟨cl76, Ar76, q76, S76, M76, H76, G76⟩ := (id f51)
      have hin76 : ¬ ((2 : Int32) < 0 ∨ cl76.slots.size ≤ ((2 : Int32)).toNatClampNeg) := inb_of S76 ⟨by decide, by decide⟩
      have hat76 : cl76.slots[((2 : Int32)).toNatClampNeg]? = some (.long w2) := H76.at hin76 rfl
      refine og (fun t k => X74.laload hx (j := (2 : Int32)) (v := (.long w2)) (by rw [e74]; exact Ar76.1) (State.isArrayOf_alike hZ.alike Ar76.2.1) Ar76.2.2 hin76 hat76 (g := (mkF m 64 #[rv a1, rv a2, .val .null, iv 0, iv 2] [(.int 2), (.ref a2)])) rfl rfl (hb hby d3_64) _ (XS.aloadN X74.here hx rfl (hb hby d3_65) rfl rfl (XS.iloadN X74.here hx rfl (hb hby d3_66) rfl k))) ?_
      show oF p e below _ (T74.setTop (mkF m 67 #[rv a1, rv a2, .val .null, iv 0, iv 2] [(.int 0), (.ref a2), (.long w2)]))
      obtain ⟨cl77, Ar77, q77, S77, M77, H77, G77⟩ := (id f51)
      have hin77 : ¬ ((0 : Int32) < 0 ∨ cl77.slots.size ≤ ((0 : Int32)).toNatClampNeg) := inb_of S77 ⟨by decide, by decide⟩
      have hat77 : cl77.slots[((0 : Int32)).toNatClampNeg]? = some (.long w0) := H77.at hin77 rfl
      refine og (fun t k => X74.laload hx (j := (0 : Int32)) (v := (.long w0)) (by rw [e74]; exact Ar77.1) (State.isArrayOf_alike hZ.alike Ar77.2.1) Ar77.2.2 hin77 hat77 (g := (mkF m 67 #[rv a1, rv a2, .val .null, iv 0, iv 2] [(.int 0), (.ref a2), (.long w2)])) rfl rfl (hb hby d3_67) _ (XS.lcmp X74.here hx rfl (hb hby d3_68) rfl k)) ?_
      show oF p e below _ (T74.setTop (mkF m 69 #[rv a1, rv a2, .val .null, iv 0, iv 2] [(.int (lcmpW w2 w0))]))
      by_cases hc78 : w2 = w0
      · skip
        refine og (fun t k => XS.ifNo X74.here hx rfl (hb hby d3_69) rfl ((if0 _ _).trans (teq ((lw_eq _ _).mpr hc78)).2) (XS.iinc X74.here hx rfl (hb hby d3_72) rfl (l' := #[rv a1, rv a2, .val .null, iv 1, iv 2]) rfl (XS.aloadN X74.here hx rfl (hb hby d3_75) rfl rfl k))) ?_
        show oF p e below _ (T74.setTop (mkF m 76 #[rv a1, rv a2, .val .null, iv 1, iv 2] [(.ref a1)]))
        obtain ⟨T79, X79, e79, st79⟩ := getF X74 hx hZ hown (host := "") (Or.inl hw_22) Via.refl e74 f48 (g := (mkF m 76 #[rv a1, rv a2, .val .null, iv 1, iv 2] [(.ref a1)])) rfl rfl (hb hby d3_76)
        refine og st79 ?_
        show oF p e below _ (T79.setTop (mkF m 79 #[rv a1, rv a2, .val .null, iv 1, iv 2] [(.ref b21)]))
        refine og (fun t k => XS.iload X79.here hx rfl (hb hby d3_79) rfl (XS.iloadN X79.here hx rfl (hb hby d3_81) rfl k)) ?_
        show oF p e below _ (T79.setTop (mkF m 82 #[rv a1, rv a2, .val .null, iv 1, iv 2] [(.int 1), (.int 2), (.ref b21)]))
        obtain ⟨cl80, Ar80, q80, S80, M80, H80, G80⟩ := (id f53)
        have hin80 : ¬ ((2 : Int32) < 0 ∨ cl80.slots.size ≤ ((2 : Int32)).toNatClampNeg) := inb_of S80 ⟨by decide, by decide⟩
        obtain ⟨T80, h80, X80, e80, W80, st80⟩ := stI X79 hx hZ e79 Ar80 (j := (2 : Int32)) hin80 (g := (mkF m 82 #[rv a1, rv a2, .val .null, iv 1, iv 2] [(.int 1), (.int 2), (.ref b21)])) rfl rfl (hb hby d3_82)
        have f81 := f47.other W80 (Or.inl ne22)
        have f82 := f48.other W80 (Or.inl ne22)
        have f83 := f49.other W80 (Or.inl ne22)
        have f84 := f50.wr W80
        have f85 := f51.other W80 ne23
        have V80 := Arv.set Ar80 q80 S80 M80 H80 G80 rfl W80 2 rfl (Nat.le_of_ble_eq_true rfl)
        have f87 : Arv Z h80 b21 k21 .int (3 : Int32) [(.int (0 : Int32)), (.int (1 : Int32)), (.int (1 : Int32))] (.int (0 : Int32)) := V80
        have Zh88 : n0 ≤ h80.size := Nat.le_trans Zh54 (Nat.le_of_eq W80.size.symm)
        have N80 := Fr.snoc X80 N46 g_b21
        have K89 := K55.wr W80 (Or.inr sz_b21)
        refine og st80 ?_
        show oF p e below _ (T80.setTop (mkF m 83 #[rv a1, rv a2, .val .null, iv 1, iv 2] []))
        refine og (fun t k => XS.iinc X80.here hx rfl (hb hby d3_83) rfl (l' := #[rv a1, rv a2, .val .null, iv 1, iv 3]) rfl (XS.goto X80.here hx rfl (pc0 := 86) (pc' := 27) rfl (hb hby d3_86) (by decide) (by decide) (XS.iload X80.here hx rfl (hb hby d3_27) rfl (XS.aloadN X80.here hx rfl (hb hby d3_29) rfl rfl k)))) ?_
        show oF p e below _ (T80.setTop (mkF m 30 #[rv a1, rv a2, .val .null, iv 1, iv 3] [(.ref a2), (.int 3)]))
        obtain ⟨cl90, Ar90, q90, S90, M90, H90, G90⟩ := (id f85)
        refine og (fun t k => X80.arraylength hx (by rw [e80]; exact Ar90.1) (State.isArrayOf_alike hZ.alike Ar90.2.1) (g := (mkF m 30 #[rv a1, rv a2, .val .null, iv 1, iv 3] [(.ref a2), (.int 3)])) rfl rfl (hb hby d3_30) _ k) ?_
        rw [len_of S90 M90]
        show oF p e below _ (T80.setTop (mkF m 31 #[rv a1, rv a2, .val .null, iv 1, iv 3] [(.int 3), (.int 3)]))
        refine og (fun t k => XS.icmpYes X80.here hx rfl (pc0 := 31) (pc' := 89) rfl (hb hby d3_31) rfl (flt (by decide : ¬ ((3 : Int32) < (3 : Int32)))).2.1 (by decide) (by decide) k) ?_
        show oF p e below _ (T80.setTop (mkF m 89 #[rv a1, rv a2, .val .null, iv 1, iv 3] []))
        exact oo X80 (fun _ => rfl) Bd.notSynchronized (fun fs hr => X80.returnOut hx Bd.returns (hb hby d3_89) hr) (by rw [e80]; exact ⟨rfl, N80, K89, f84, f81, _, _, sz_b21, f82, (by rw [show (own_b1 w0 w1) = (1 : Int32) from by simp_all [own_b1]]; rw [show (own_b2 w0 w1 w2) = (1 : Int32) from by simp_all [own_b2]]; exact f87)⟩) (by decide) (by decide)
      · skip
        refine og (fun t k => XS.ifYes X74.here hx rfl (pc0 := 69) (pc' := 75) rfl (hb hby d3_69) rfl ((if0 _ _).trans (feq (fun q => hc78 ((lw_eq _ _).mp q))).2) (by decide) (by decide) (XS.aloadN X74.here hx rfl (hb hby d3_75) rfl rfl k)) ?_
        show oF p e below _ (T74.setTop (mkF m 76 #[rv a1, rv a2, .val .null, iv 0, iv 2] [(.ref a1)]))
        obtain ⟨T91, X91, e91, st91⟩ := getF X74 hx hZ hown (host := "") (Or.inl hw_22) Via.refl e74 f48 (g := (mkF m 76 #[rv a1, rv a2, .val .null, iv 0, iv 2] [(.ref a1)])) rfl rfl (hb hby d3_76)
        refine og st91 ?_
        show oF p e below _ (T91.setTop (mkF m 79 #[rv a1, rv a2, .val .null, iv 0, iv 2] [(.ref b21)]))
        refine og (fun t k => XS.iload X91.here hx rfl (hb hby d3_79) rfl (XS.iloadN X91.here hx rfl (hb hby d3_81) rfl k)) ?_
        show oF p e below _ (T91.setTop (mkF m 82 #[rv a1, rv a2, .val .null, iv 0, iv 2] [(.int 0), (.int 2), (.ref b21)]))
        obtain ⟨cl92, Ar92, q92, S92, M92, H92, G92⟩ := (id f53)
        have hin92 : ¬ ((2 : Int32) < 0 ∨ cl92.slots.size ≤ ((2 : Int32)).toNatClampNeg) := inb_of S92 ⟨by decide, by decide⟩
        obtain ⟨T92, h92, X92, e92, W92, st92⟩ := stI X91 hx hZ e91 Ar92 (j := (2 : Int32)) hin92 (g := (mkF m 82 #[rv a1, rv a2, .val .null, iv 0, iv 2] [(.int 0), (.int 2), (.ref b21)])) rfl rfl (hb hby d3_82)
        have f93 := f47.other W92 (Or.inl ne22)
        have f94 := f48.other W92 (Or.inl ne22)
        have f95 := f49.other W92 (Or.inl ne22)
        have f96 := f50.wr W92
        have f97 := f51.other W92 ne23
        have V92 := Arv.set Ar92 q92 S92 M92 H92 G92 rfl W92 2 rfl (Nat.le_of_ble_eq_true rfl)
        have f99 : Arv Z h92 b21 k21 .int (3 : Int32) [(.int (0 : Int32)), (.int (1 : Int32)), (.int (0 : Int32))] (.int (0 : Int32)) := V92
        have Zh100 : n0 ≤ h92.size := Nat.le_trans Zh54 (Nat.le_of_eq W92.size.symm)
        have N92 := Fr.snoc X92 N46 g_b21
        have K101 := K55.wr W92 (Or.inr sz_b21)
        refine og st92 ?_
        show oF p e below _ (T92.setTop (mkF m 83 #[rv a1, rv a2, .val .null, iv 0, iv 2] []))
        refine og (fun t k => XS.iinc X92.here hx rfl (hb hby d3_83) rfl (l' := #[rv a1, rv a2, .val .null, iv 0, iv 3]) rfl (XS.goto X92.here hx rfl (pc0 := 86) (pc' := 27) rfl (hb hby d3_86) (by decide) (by decide) (XS.iload X92.here hx rfl (hb hby d3_27) rfl (XS.aloadN X92.here hx rfl (hb hby d3_29) rfl rfl k)))) ?_
        show oF p e below _ (T92.setTop (mkF m 30 #[rv a1, rv a2, .val .null, iv 0, iv 3] [(.ref a2), (.int 3)]))
        obtain ⟨cl102, Ar102, q102, S102, M102, H102, G102⟩ := (id f97)
        refine og (fun t k => X92.arraylength hx (by rw [e92]; exact Ar102.1) (State.isArrayOf_alike hZ.alike Ar102.2.1) (g := (mkF m 30 #[rv a1, rv a2, .val .null, iv 0, iv 3] [(.ref a2), (.int 3)])) rfl rfl (hb hby d3_30) _ k) ?_
        rw [len_of S102 M102]
        show oF p e below _ (T92.setTop (mkF m 31 #[rv a1, rv a2, .val .null, iv 0, iv 3] [(.int 3), (.int 3)]))
        refine og (fun t k => XS.icmpYes X92.here hx rfl (pc0 := 31) (pc' := 89) rfl (hb hby d3_31) rfl (flt (by decide : ¬ ((3 : Int32) < (3 : Int32)))).2.1 (by decide) (by decide) k) ?_
        show oF p e below _ (T92.setTop (mkF m 89 #[rv a1, rv a2, .val .null, iv 0, iv 3] []))
        exact oo X92 (fun _ => rfl) Bd.notSynchronized (fun fs hr => X92.returnOut hx Bd.returns (hb hby d3_89) hr) (by rw [e92]; exact ⟨rfl, N92, K101, f96, f93, _, _, sz_b21, f94, (by rw [show (own_b1 w0 w1) = (1 : Int32) from by simp_all [own_b1]]; rw [show (own_b2 w0 w1 w2) = (0 : Int32) from by simp_all [own_b2]]; exact f99)⟩) (by decide) (by decide)
  · skip
    refine og (fun t k => XS.ifYes X31.here hx rfl (pc0 := 69) (pc' := 75) rfl (hb hby d3_69) rfl ((if0 _ _).trans (feq (fun q => hc44 ((lw_eq _ _).mp q))).2) (by decide) (by decide) (XS.aloadN X31.here hx rfl (hb hby d3_75) rfl rfl k)) ?_
    show oF p e below _ (T31.setTop (mkF m 76 #[rv a1, rv a2, .val .null, iv 0, iv 1] [(.ref a1)]))
    obtain ⟨T103, X103, e103, st103⟩ := getF X31 hx hZ hown (host := "") (Or.inl hw_22) Via.refl e31 f38 (g := (mkF m 76 #[rv a1, rv a2, .val .null, iv 0, iv 1] [(.ref a1)])) rfl rfl (hb hby d3_76)
    refine og st103 ?_
    show oF p e below _ (T103.setTop (mkF m 79 #[rv a1, rv a2, .val .null, iv 0, iv 1] [(.ref b21)]))
    refine og (fun t k => XS.iload X103.here hx rfl (hb hby d3_79) rfl (XS.iloadN X103.here hx rfl (hb hby d3_81) rfl k)) ?_
    show oF p e below _ (T103.setTop (mkF m 82 #[rv a1, rv a2, .val .null, iv 0, iv 1] [(.int 0), (.int 1), (.ref b21)]))
    obtain ⟨cl104, Ar104, q104, S104, M104, H104, G104⟩ := (id f37)
    have hin104 : ¬ ((1 : Int32) < 0 ∨ cl104.slots.size ≤ ((1 : Int32)).toNatClampNeg) := inb_of S104 ⟨by decide, by decide⟩
    obtain ⟨T104, h104, X104, e104, W104, st104⟩ := stI X103 hx hZ e103 Ar104 (j := (1 : Int32)) hin104 (g := (mkF m 82 #[rv a1, rv a2, .val .null, iv 0, iv 1] [(.int 0), (.int 1), (.ref b21)])) rfl rfl (hb hby d3_82)
    have f105 := f32.other W104 (Or.inl ne22)
    have f106 := f38.other W104 (Or.inl ne22)
    have f107 := f34.other W104 (Or.inl ne22)
    have f108 := f35.wr W104
    have f109 := f36.other W104 ne23
    have V104 := Arv.set Ar104 q104 S104 M104 H104 G104 rfl W104 1 rfl (Nat.le_of_ble_eq_true rfl)
    have f111 : Arv Z h104 b21 k21 .int (3 : Int32) [(.int (0 : Int32)), (.int (0 : Int32)), (.int (0 : Int32))] (.int (0 : Int32)) := V104
    have Zh112 : n0 ≤ h104.size := Nat.le_trans Zh39 (Nat.le_of_eq W104.size.symm)
    have N104 := Fr.snoc X104 N31 g_b21
    have K113 := K40.wr W104 (Or.inr sz_b21)
    refine og st104 ?_
    show oF p e below _ (T104.setTop (mkF m 83 #[rv a1, rv a2, .val .null, iv 0, iv 1] []))
    refine og (fun t k => XS.iinc X104.here hx rfl (hb hby d3_83) rfl (l' := #[rv a1, rv a2, .val .null, iv 0, iv 2]) rfl (XS.goto X104.here hx rfl (pc0 := 86) (pc' := 27) rfl (hb hby d3_86) (by decide) (by decide) (XS.iload X104.here hx rfl (hb hby d3_27) rfl (XS.aloadN X104.here hx rfl (hb hby d3_29) rfl rfl k)))) ?_
    show oF p e below _ (T104.setTop (mkF m 30 #[rv a1, rv a2, .val .null, iv 0, iv 2] [(.ref a2), (.int 2)]))
    obtain ⟨cl114, Ar114, q114, S114, M114, H114, G114⟩ := (id f109)
    refine og (fun t k => X104.arraylength hx (by rw [e104]; exact Ar114.1) (State.isArrayOf_alike hZ.alike Ar114.2.1) (g := (mkF m 30 #[rv a1, rv a2, .val .null, iv 0, iv 2] [(.ref a2), (.int 2)])) rfl rfl (hb hby d3_30) _ k) ?_
    rw [len_of S114 M114]
    show oF p e below _ (T104.setTop (mkF m 31 #[rv a1, rv a2, .val .null, iv 0, iv 2] [(.int 3), (.int 2)]))
    refine og (fun t k => XS.icmpNo X104.here hx rfl (hb hby d3_31) rfl (tlt (by decide : (2 : Int32) < (3 : Int32))).2.1 (XS.iloadN X104.here hx rfl (hb hby d3_34) rfl k)) ?_
    show oF p e below _ (T104.setTop (mkF m 35 #[rv a1, rv a2, .val .null, iv 0, iv 2] [(.int 0)]))
    refine og (fun t k => XS.ifYes X104.here hx rfl (pc0 := 35) (pc' := 61) rfl (hb hby d3_35) rfl ((if0 _ _).trans (flt (by decide : ¬ ((0 : Int32) < (0 : Int32)))).2.2.2) (by decide) (by decide) (XS.aloadN X104.here hx rfl (hb hby d3_61) rfl rfl (XS.iload X104.here hx rfl (hb hby d3_62) rfl k))) ?_
    show oF p e below _ (T104.setTop (mkF m 64 #[rv a1, rv a2, .val .null, iv 0, iv 2] [(.int 2), (.ref a2)]))
    obtain ⟨cl115, Ar115, q115, S115, M115, H115, G115⟩ := (id f109)
    have hin115 : ¬ ((2 : Int32) < 0 ∨ cl115.slots.size ≤ ((2 : Int32)).toNatClampNeg) := inb_of S115 ⟨by decide, by decide⟩
    have hat115 : cl115.slots[((2 : Int32)).toNatClampNeg]? = some (.long w2) := H115.at hin115 rfl
    refine og (fun t k => X104.laload hx (j := (2 : Int32)) (v := (.long w2)) (by rw [e104]; exact Ar115.1) (State.isArrayOf_alike hZ.alike Ar115.2.1) Ar115.2.2 hin115 hat115 (g := (mkF m 64 #[rv a1, rv a2, .val .null, iv 0, iv 2] [(.int 2), (.ref a2)])) rfl rfl (hb hby d3_64) _ (XS.aloadN X104.here hx rfl (hb hby d3_65) rfl rfl (XS.iloadN X104.here hx rfl (hb hby d3_66) rfl k))) ?_
    show oF p e below _ (T104.setTop (mkF m 67 #[rv a1, rv a2, .val .null, iv 0, iv 2] [(.int 0), (.ref a2), (.long w2)]))
    obtain ⟨cl116, Ar116, q116, S116, M116, H116, G116⟩ := (id f109)
    have hin116 : ¬ ((0 : Int32) < 0 ∨ cl116.slots.size ≤ ((0 : Int32)).toNatClampNeg) := inb_of S116 ⟨by decide, by decide⟩
    have hat116 : cl116.slots[((0 : Int32)).toNatClampNeg]? = some (.long w0) := H116.at hin116 rfl
    refine og (fun t k => X104.laload hx (j := (0 : Int32)) (v := (.long w0)) (by rw [e104]; exact Ar116.1) (State.isArrayOf_alike hZ.alike Ar116.2.1) Ar116.2.2 hin116 hat116 (g := (mkF m 67 #[rv a1, rv a2, .val .null, iv 0, iv 2] [(.int 0), (.ref a2), (.long w2)])) rfl rfl (hb hby d3_67) _ (XS.lcmp X104.here hx rfl (hb hby d3_68) rfl k)) ?_
    show oF p e below _ (T104.setTop (mkF m 69 #[rv a1, rv a2, .val .null, iv 0, iv 2] [(.int (lcmpW w2 w0))]))
    by_cases hc117 : w2 = w0
    · skip
      refine og (fun t k => XS.ifNo X104.here hx rfl (hb hby d3_69) rfl ((if0 _ _).trans (teq ((lw_eq _ _).mpr hc117)).2) (XS.iinc X104.here hx rfl (hb hby d3_72) rfl (l' := #[rv a1, rv a2, .val .null, iv 1, iv 2]) rfl (XS.aloadN X104.here hx rfl (hb hby d3_75) rfl rfl k))) ?_
      show oF p e below _ (T104.setTop (mkF m 76 #[rv a1, rv a2, .val .null, iv 1, iv 2] [(.ref a1)]))
      obtain ⟨T118, X118, e118, st118⟩ := getF X104 hx hZ hown (host := "") (Or.inl hw_22) Via.refl e104 f106 (g := (mkF m 76 #[rv a1, rv a2, .val .null, iv 1, iv 2] [(.ref a1)])) rfl rfl (hb hby d3_76)
      refine og st118 ?_
      show oF p e below _ (T118.setTop (mkF m 79 #[rv a1, rv a2, .val .null, iv 1, iv 2] [(.ref b21)]))
      refine og (fun t k => XS.iload X118.here hx rfl (hb hby d3_79) rfl (XS.iloadN X118.here hx rfl (hb hby d3_81) rfl k)) ?_
      show oF p e below _ (T118.setTop (mkF m 82 #[rv a1, rv a2, .val .null, iv 1, iv 2] [(.int 1), (.int 2), (.ref b21)]))
      obtain ⟨cl119, Ar119, q119, S119, M119, H119, G119⟩ := (id f111)
      have hin119 : ¬ ((2 : Int32) < 0 ∨ cl119.slots.size ≤ ((2 : Int32)).toNatClampNeg) := inb_of S119 ⟨by decide, by decide⟩
      obtain ⟨T119, h119, X119, e119, W119, st119⟩ := stI X118 hx hZ e118 Ar119 (j := (2 : Int32)) hin119 (g := (mkF m 82 #[rv a1, rv a2, .val .null, iv 1, iv 2] [(.int 1), (.int 2), (.ref b21)])) rfl rfl (hb hby d3_82)
      have f120 := f105.other W119 (Or.inl ne22)
      have f121 := f106.other W119 (Or.inl ne22)
      have f122 := f107.other W119 (Or.inl ne22)
      have f123 := f108.wr W119
      have f124 := f109.other W119 ne23
      have V119 := Arv.set Ar119 q119 S119 M119 H119 G119 rfl W119 2 rfl (Nat.le_of_ble_eq_true rfl)
      have f126 : Arv Z h119 b21 k21 .int (3 : Int32) [(.int (0 : Int32)), (.int (0 : Int32)), (.int (1 : Int32))] (.int (0 : Int32)) := V119
      have Zh127 : n0 ≤ h119.size := Nat.le_trans Zh112 (Nat.le_of_eq W119.size.symm)
      have N119 := Fr.snoc X119 N104 g_b21
      have K128 := K113.wr W119 (Or.inr sz_b21)
      refine og st119 ?_
      show oF p e below _ (T119.setTop (mkF m 83 #[rv a1, rv a2, .val .null, iv 1, iv 2] []))
      refine og (fun t k => XS.iinc X119.here hx rfl (hb hby d3_83) rfl (l' := #[rv a1, rv a2, .val .null, iv 1, iv 3]) rfl (XS.goto X119.here hx rfl (pc0 := 86) (pc' := 27) rfl (hb hby d3_86) (by decide) (by decide) (XS.iload X119.here hx rfl (hb hby d3_27) rfl (XS.aloadN X119.here hx rfl (hb hby d3_29) rfl rfl k)))) ?_
      show oF p e below _ (T119.setTop (mkF m 30 #[rv a1, rv a2, .val .null, iv 1, iv 3] [(.ref a2), (.int 3)]))
      obtain ⟨cl129, Ar129, q129, S129, M129, H129, G129⟩ := (id f124)
      refine og (fun t k => X119.arraylength hx (by rw [e119]; exact Ar129.1) (State.isArrayOf_alike hZ.alike Ar129.2.1) (g := (mkF m 30 #[rv a1, rv a2, .val .null, iv 1, iv 3] [(.ref a2), (.int 3)])) rfl rfl (hb hby d3_30) _ k) ?_
      rw [len_of S129 M129]
      show oF p e below _ (T119.setTop (mkF m 31 #[rv a1, rv a2, .val .null, iv 1, iv 3] [(.int 3), (.int 3)]))
      refine og (fun t k => XS.icmpYes X119.here hx rfl (pc0 := 31) (pc' := 89) rfl (hb hby d3_31) rfl (flt (by decide : ¬ ((3 : Int32) < (3 : Int32)))).2.1 (by decide) (by decide) k) ?_
      show oF p e below _ (T119.setTop (mkF m 89 #[rv a1, rv a2, .val .null, iv 1, iv 3] []))
      exact oo X119 (fun _ => rfl) Bd.notSynchronized (fun fs hr => X119.returnOut hx Bd.returns (hb hby d3_89) hr) (by rw [e119]; exact ⟨rfl, N119, K128, f123, f120, _, _, sz_b21, f121, (by rw [show (own_b1 w0 w1) = (0 : Int32) from by simp_all [own_b1]]; rw [show (own_b2 w0 w1 w2) = (1 : Int32) from by simp_all [own_b2]]; exact f126)⟩) (by decide) (by decide)
    · skip
      refine og (fun t k => XS.ifYes X104.here hx rfl (pc0 := 69) (pc' := 75) rfl (hb hby d3_69) rfl ((if0 _ _).trans (feq (fun q => hc117 ((lw_eq _ _).mp q))).2) (by decide) (by decide) (XS.aloadN X104.here hx rfl (hb hby d3_75) rfl rfl k)) ?_
      show oF p e below _ (T104.setTop (mkF m 76 #[rv a1, rv a2, .val .null, iv 0, iv 2] [(.ref a1)]))
      obtain ⟨T130, X130, e130, st130⟩ := getF X104 hx hZ hown (host := "") (Or.inl hw_22) Via.refl e104 f106 (g := (mkF m 76 #[rv a1, rv a2, .val .null, iv 0, iv 2] [(.ref a1)])) rfl rfl (hb hby d3_76)
      refine og st130 ?_
      show oF p e below _ (T130.setTop (mkF m 79 #[rv a1, rv a2, .val .null, iv 0, iv 2] [(.ref b21)]))
      refine og (fun t k => XS.iload X130.here hx rfl (hb hby d3_79) rfl (XS.iloadN X130.here hx rfl (hb hby d3_81) rfl k)) ?_
      show oF p e below _ (T130.setTop (mkF m 82 #[rv a1, rv a2, .val .null, iv 0, iv 2] [(.int 0), (.int 2), (.ref b21)]))
      obtain ⟨cl131, Ar131, q131, S131, M131, H131, G131⟩ := (id f111)
      have hin131 : ¬ ((2 : Int32) < 0 ∨ cl131.slots.size ≤ ((2 : Int32)).toNatClampNeg) := inb_of S131 ⟨by decide, by decide⟩
      obtain ⟨T131, h131, X131, e131, W131, st131⟩ := stI X130 hx hZ e130 Ar131 (j := (2 : Int32)) hin131 (g := (mkF m 82 #[rv a1, rv a2, .val .null, iv 0, iv 2] [(.int 0), (.int 2), (.ref b21)])) rfl rfl (hb hby d3_82)
      have f132 := f105.other W131 (Or.inl ne22)
      have f133 := f106.other W131 (Or.inl ne22)
      have f134 := f107.other W131 (Or.inl ne22)
      have f135 := f108.wr W131
      have f136 := f109.other W131 ne23
      have V131 := Arv.set Ar131 q131 S131 M131 H131 G131 rfl W131 2 rfl (Nat.le_of_ble_eq_true rfl)
      have f138 : Arv Z h131 b21 k21 .int (3 : Int32) [(.int (0 : Int32)), (.int (0 : Int32)), (.int (0 : Int32))] (.int (0 : Int32)) := V131
      have Zh139 : n0 ≤ h131.size := Nat.le_trans Zh112 (Nat.le_of_eq W131.size.symm)
      have N131 := Fr.snoc X131 N104 g_b21
      have K140 := K113.wr W131 (Or.inr sz_b21)
      refine og st131 ?_
      show oF p e below _ (T131.setTop (mkF m 83 #[rv a1, rv a2, .val .null, iv 0, iv 2] []))
      refine og (fun t k => XS.iinc X131.here hx rfl (hb hby d3_83) rfl (l' := #[rv a1, rv a2, .val .null, iv 0, iv 3]) rfl (XS.goto X131.here hx rfl (pc0 := 86) (pc' := 27) rfl (hb hby d3_86) (by decide) (by decide) (XS.iload X131.here hx rfl (hb hby d3_27) rfl (XS.aloadN X131.here hx rfl (hb hby d3_29) rfl rfl k)))) ?_
      show oF p e below _ (T131.setTop (mkF m 30 #[rv a1, rv a2, .val .null, iv 0, iv 3] [(.ref a2), (.int 3)]))
      obtain ⟨cl141, Ar141, q141, S141, M141, H141, G141⟩ := (id f136)
      refine og (fun t k => X131.arraylength hx (by rw [e131]; exact Ar141.1) (State.isArrayOf_alike hZ.alike Ar141.2.1) (g := (mkF m 30 #[rv a1, rv a2, .val .null, iv 0, iv 3] [(.ref a2), (.int 3)])) rfl rfl (hb hby d3_30) _ k) ?_
      rw [len_of S141 M141]
      show oF p e below _ (T131.setTop (mkF m 31 #[rv a1, rv a2, .val .null, iv 0, iv 3] [(.int 3), (.int 3)]))
      refine og (fun t k => XS.icmpYes X131.here hx rfl (pc0 := 31) (pc' := 89) rfl (hb hby d3_31) rfl (flt (by decide : ¬ ((3 : Int32) < (3 : Int32)))).2.1 (by decide) (by decide) k) ?_
      show oF p e below _ (T131.setTop (mkF m 89 #[rv a1, rv a2, .val .null, iv 0, iv 3] []))
      exact oo X131 (fun _ => rfl) Bd.notSynchronized (fun fs hr => X131.returnOut hx Bd.returns (hb hby d3_89) hr) (by rw [e131]; exact ⟨rfl, N131, K140, f135, f132, _, _, sz_b21, f133, (by rw [show (own_b1 w0 w1) = (0 : Int32) from by simp_all [own_b1]]; rw [show (own_b2 w0 w1 w2) = (0 : Int32) from by simp_all [own_b2]]; exact f138)⟩) (by decide) (by decide)
theorem ef_3n4 (m : MethodId) (x0 : Addr) (x1 : Addr)  : entryFrame m #[(.ref x0), (.ref x1), .null] 5 = mkF m 0 #[rv x0, rv x1, .val .null, .unset, .unset] [] := by first | (simp [entryFrame, mkF, argsToLocals, Value.category]; done) | rfl
def own_q3n4 (Z : State) (a1 : Addr) (a2 : Addr) (k2 : ClassId) (w0 w1 w2 w3 : Int64) (h0 : Heap) (n0 : Nat) (v : Option Value) (h : Heap) (L : List Loc) : Prop := v = none ∧ Fr n0 L ∧ Keep h0 h [a1] ∧ Exa Z h a1 "com/example/sound_verdict/soundverdict/UnitSearch" ∧ Fld Z h a1 "com/example/sound_verdict/soundverdict/UnitSearch" "wanted" "[J" (.ref a2) ∧ ∃ (b : Addr) (k : ClassId), h0.size ≤ b ∧ Fld Z h a1 "com/example/sound_verdict/soundverdict/UnitSearch" "border" "[I" (.ref b) ∧ Arv Z h b k .int (4 : Int32) [(.int (0 : Int32)), (.int (own_b1 w0 w1)), (.int (own_b2 w0 w1 w2)), (.int (own_b3 w0 w1 w2 w3))] (.int (0 : Int32))
set_option maxRecDepth 65536 in
set_option maxHeartbeats 40000000 in
theorem rm3n4 (l : Launch) (Z : State) (a0 : Array Value) (hw : ∀ d ∈ tables_1, d.before a0 Z = true) (ws : List Jvm.Cond) (a1 : Addr) (a2 : Addr) (k2 : ClassId) (w0 w1 w2 w3 : Int64) (h0 : Heap) (n0 : Nat) (Z0 : n0 ≤ h0.size) (F_wanted : Fld Z h0 a1 "com/example/sound_verdict/soundverdict/UnitSearch" "wanted" "[J" .null) (F_border : Fld Z h0 a1 "com/example/sound_verdict/soundverdict/UnitSearch" "border" "[I" .null) (F_lead : Fld Z h0 a1 "com/example/sound_verdict/soundverdict/UnitSearch" "lead" "Ljava/lang/String;" .null) (E_a1 : Exa Z h0 a1 "com/example/sound_verdict/soundverdict/UnitSearch") (g_a1 : n0 ≤ a1) (ne12 : a1 ≠ a2) (V_2 : Arv Z h0 a2 k2 .long (4 : Int32) [(.long w0), (.long w1), (.long w2), (.long w3)] (.long (0 : Int64))) :
    MetFree l (⟨"com/example/sound_verdict/soundverdict/UnitSearch", "<init>", "([JLjava/lang/String;)V"⟩ : MethodName) (head1 (Jvm.Cond.code (⟨"com/example/sound_verdict/soundverdict/UnitSearch", "<init>", "([JLjava/lang/String;)V"⟩ : MethodName) prog_199_method_2_code 5 none :: ws) ({ frames := 1, cells := 1, slots := 4, locals := 12 } : Room)) (fun a U => a = #[(.ref a1), (.ref a2), .null] ∧ Z.Warmed39 U.vm ∧ U.heap = h0) (fun _ _ _ _ _ => True) (fun _ U o U' => ∃ v L, o = .returned v ∧ (own_q3n4 Z a1 a2 k2 w0 w1 w2 w3 h0 n0) v U'.heap L ∧ FrameEnd U o U' L ({ frames := 1, cells := 1, slots := 4, locals := 12 } : Room).cells ({ frames := 1, cells := 1, slots := 4, locals := 12 } : Room).slots) := by
  refine MetFree.of_bodySF (plainFor_of_name pn_1) hisR ?_
  intro p e s m args below meth c s₁ Bd hml0 hP hK
  obtain ⟨rfl, hZ, hh⟩ := hP
  have hx := Bd.exec
  have hby := Bd.bytes
  have hml : c.maxLocals = 5 := hml0
  have hown : s.vm.findClass "com/example/sound_verdict/soundverdict/UnitSearch" = some m.cls := findClass_of_methodNamed Bd.named
  have hnm := (name_of_methodNamed Bd.named Bd.method).1
  have X0 : Stand p l e ({ frames := 1, cells := 1, slots := 4, locals := 12 } : Room) s m #[(.ref a1), (.ref a2), .null] below meth c s₁ [] 0 0 := Stand.of_body Bd
  have e0 : s₁.heap = h0 := by rw [← hh, Bd.state]; rfl
  have N0 := Fr.nil n0
  have Kz := Keep.refl h0 [a1]
  have hw_6 := hw _ (List.mem_of_getElem? (i := 6) rfl)
  have hw_14 := hw _ (List.mem_of_getElem? (i := 14) rfl)
  have hw_15 := hw _ (List.mem_of_getElem? (i := 15) rfl)
  have hw_16 := hw _ (List.mem_of_getElem? (i := 16) rfl)
  have hw_17 := hw _ (List.mem_of_getElem? (i := 17) rfl)
  have hw_18 := hw _ (List.mem_of_getElem? (i := 18) rfl)
  have hw_19 := hw _ (List.mem_of_getElem? (i := 19) rfl)
  have hw_20 := hw _ (List.mem_of_getElem? (i := 20) rfl)
  have hw_21 := hw _ (List.mem_of_getElem? (i := 21) rfl)
  have hw_22 := hw _ (List.mem_of_getElem? (i := 22) rfl)
  have hw_23 := hw _ (List.mem_of_getElem? (i := 23) rfl)
  show oF p e below (own_A s ({ frames := 1, cells := 1, slots := 4, locals := 12 } : Room).cells ({ frames := 1, cells := 1, slots := 4, locals := 12 } : Room).slots (own_q3n4 Z a1 a2 k2 w0 w1 w2 w3 h0 n0)) _
  refine og (fun t k => castTop (ef_3n4 m (a1) (a2)) k) ?_
  show oF p e below _ (s₁.setTop (mkF m 0 #[rv a1, rv a2, .val .null, .unset, .unset] []))
  refine og (fun t k => XS.aloadN X0.here hx rfl (hb hby d3_0) rfl rfl k) ?_
  show oF p e below _ (s₁.setTop (mkF m 1 #[rv a1, rv a2, .val .null, .unset, .unset] [(.ref a1)]))
  obtain ⟨T1, X1, e1, st1⟩ := initO X0 hx hZ hown hw_14 hw_15 hw_16 e0 (g := (mkF m 1 #[rv a1, rv a2, .val .null, .unset, .unset] [(.ref a1)])) rfl (by rw [hml]; rfl) rfl (hb hby d3_1) (by decide) (W := 0) (by show 2 * 0 + _ ≤ _; exact Nat.le_of_eq rfl) (by decide)
  refine og st1 ?_
  show oF p e below _ (T1.setTop (mkF m 4 #[rv a1, rv a2, .val .null, .unset, .unset] []))
  refine og (fun t k => XS.aloadN X1.here hx rfl (hb hby d3_4) rfl rfl (XS.aloadN X1.here hx rfl (hb hby d3_5) rfl rfl k)) ?_
  show oF p e below _ (T1.setTop (mkF m 6 #[rv a1, rv a2, .val .null, .unset, .unset] [(.ref a2), (.ref a1)]))
  obtain ⟨T2, h2, X2, e2, W2, st2⟩ := putF X1 hx hZ hown (host := "") (Or.inl hw_17) Via.refl e1 F_wanted E_a1 (Or.inr ⟨hw_18, rfl, hnm⟩) hw_6 (ty := (.array .long)) (by decide) rfl rfl (g := (mkF m 6 #[rv a1, rv a2, .val .null, .unset, .unset] [(.ref a2), (.ref a1)])) rfl rfl (hb hby d3_6)
  have f4 := F_border.other W2 (Or.inr (slot_ne (Or.inr hw_23) (Or.inr hw_18) (by decide) (t := (.array .int)) (t' := (.array .long)) (by decide) (by decide)))
  have f5 := F_lead.other W2 (Or.inr (slot_ne (Or.inr hw_20) (Or.inr hw_18) (by decide) (t := (.object "java/lang/String")) (t' := (.array .long)) (by decide) (by decide)))
  have f6 := E_a1.wr W2
  have f7 := V_2.other W2 (Ne.symm ne12)
  have f8 := F_wanted.same W2
  have Zh9 : n0 ≤ h2.size := Nat.le_trans Z0 (Nat.le_of_eq W2.size.symm)
  have N2 := Fr.snoc X2 N0 g_a1
  have K10 := Kz.wr W2 (Or.inl (List.mem_of_getElem? (i := 0) rfl))
  refine og st2 ?_
  show oF p e below _ (T2.setTop (mkF m 9 #[rv a1, rv a2, .val .null, .unset, .unset] []))
  refine og (fun t k => XS.aloadN X2.here hx rfl (hb hby d3_9) rfl rfl (XS.aloadN X2.here hx rfl (hb hby d3_10) rfl rfl k)) ?_
  show oF p e below _ (T2.setTop (mkF m 11 #[rv a1, rv a2, .val .null, .unset, .unset] [.null, (.ref a1)]))
  obtain ⟨T11, h11, X11, e11, W11, st11⟩ := putF X2 hx hZ hown (host := "") (Or.inl hw_19) Via.refl e2 f5 f6 (Or.inr ⟨hw_20, rfl, hnm⟩) hw_6 (ty := (.object "java/lang/String")) (by decide) rfl rfl (g := (mkF m 11 #[rv a1, rv a2, .val .null, .unset, .unset] [.null, (.ref a1)])) rfl rfl (hb hby d3_11)
  have f12 := f8.other W11 (Or.inr (slot_ne (Or.inr hw_18) (Or.inr hw_20) (by decide) (t := (.array .long)) (t' := (.object "java/lang/String")) (by decide) (by decide)))
  have f13 := f4.other W11 (Or.inr (slot_ne (Or.inr hw_23) (Or.inr hw_20) (by decide) (t := (.array .int)) (t' := (.object "java/lang/String")) (by decide) (by decide)))
  have f15 := f6.wr W11
  have f16 := f7.other W11 (Ne.symm ne12)
  have f17 := f5.same W11
  have Zh18 : n0 ≤ h11.size := Nat.le_trans Zh9 (Nat.le_of_eq W11.size.symm)
  have N11 := Fr.snoc X11 N2 g_a1
  have K19 := K10.wr W11 (Or.inl (List.mem_of_getElem? (i := 0) rfl))
  refine og st11 ?_
  show oF p e below _ (T11.setTop (mkF m 14 #[rv a1, rv a2, .val .null, .unset, .unset] []))
  refine og (fun t k => XS.aloadN X11.here hx rfl (hb hby d3_14) rfl rfl (XS.aloadN X11.here hx rfl (hb hby d3_15) rfl rfl k)) ?_
  show oF p e below _ (T11.setTop (mkF m 16 #[rv a1, rv a2, .val .null, .unset, .unset] [(.ref a2), (.ref a1)]))
  obtain ⟨cl20, Ar20, q20, S20, M20, H20, G20⟩ := (id f16)
  refine og (fun t k => X11.arraylength hx (by rw [e11]; exact Ar20.1) (State.isArrayOf_alike hZ.alike Ar20.2.1) (g := (mkF m 16 #[rv a1, rv a2, .val .null, .unset, .unset] [(.ref a2), (.ref a1)])) rfl rfl (hb hby d3_16) _ k) ?_
  rw [len_of S20 M20]
  show oF p e below _ (T11.setTop (mkF m 17 #[rv a1, rv a2, .val .null, .unset, .unset] [(.int 4), (.ref a1)]))
  obtain ⟨T21, h21, k21, X21, e21, E21, A21, st21⟩ := newP (aty := .int) X11 hx hZ hw_21 e11 (g := (mkF m 17 #[rv a1, rv a2, .val .null, .unset, .unset] [(.int 4), (.ref a1)])) rfl (hb hby d3_17) rfl (by decide) (cap := 4) (by decide) (by decide) (by decide) (by decide)
  obtain ⟨b21, g21⟩ : ∃ z, z = h11.size := ⟨_, rfl⟩
  rw [← g21] at A21 st21
  have g_b21 : n0 ≤ b21 := Nat.le_trans Zh18 (Nat.le_of_eq g21.symm)
  have sz_b21 : h0.size ≤ b21 := Nat.le_trans K19.1 (Nat.le_of_eq g21.symm)
  have ne22 : a1 ≠ b21 := Nat.ne_of_lt (Nat.lt_of_lt_of_le f12.lt (Nat.le_of_eq g21.symm))
  have ne23 : a2 ≠ b21 := Nat.ne_of_lt (Nat.lt_of_lt_of_le f16.lt (Nat.le_of_eq g21.symm))
  have f24 := f12.ext E21
  have f25 := f13.ext E21
  have f26 := f17.ext E21
  have f27 := f15.ext E21
  have f28 := f16.ext E21
  have Zh29 : n0 ≤ h21.size := Nat.le_trans Zh18 E21.1
  have K30 := K19.ext E21
  have V21 : Arv Z h21 b21 k21 .int (4 : Int32) [(.int (0 : Int32)), (.int (0 : Int32)), (.int (0 : Int32)), (.int (0 : Int32))] (.int (0 : Int32)) := (Arv.new A21 (by decide)).pad (pad_rep [] (.int (0 : Int32)) 4)
  refine og st21 ?_
  show oF p e below _ (T21.setTop (mkF m 19 #[rv a1, rv a2, .val .null, .unset, .unset] [(.ref b21), (.ref a1)]))
  obtain ⟨T31, h31, X31, e31, W31, st31⟩ := putF X21 hx hZ hown (host := "") (Or.inl hw_22) Via.refl e21 f25 f27 (Or.inr ⟨hw_23, rfl, hnm⟩) hw_6 (ty := (.array .int)) (by decide) rfl rfl (g := (mkF m 19 #[rv a1, rv a2, .val .null, .unset, .unset] [(.ref b21), (.ref a1)])) rfl rfl (hb hby d3_19)
  have f32 := f24.other W31 (Or.inr (slot_ne (Or.inr hw_18) (Or.inr hw_23) (by decide) (t := (.array .long)) (t' := (.array .int)) (by decide) (by decide)))
  have f34 := f26.other W31 (Or.inr (slot_ne (Or.inr hw_20) (Or.inr hw_23) (by decide) (t := (.object "java/lang/String")) (t' := (.array .int)) (by decide) (by decide)))
  have f35 := f27.wr W31
  have f36 := f28.other W31 (Ne.symm ne12)
  have f37 := V21.other W31 (Ne.symm ne22)
  have f38 := f25.same W31
  have Zh39 : n0 ≤ h31.size := Nat.le_trans Zh29 (Nat.le_of_eq W31.size.symm)
  have N31 := Fr.snoc X31 N11 g_a1
  have K40 := K30.wr W31 (Or.inl (List.mem_of_getElem? (i := 0) rfl))
  refine og st31 ?_
  show oF p e below _ (T31.setTop (mkF m 22 #[rv a1, rv a2, .val .null, .unset, .unset] []))
  refine og (fun t k => XS.iconst X31.here hx rfl (hb hby d3_22) (XS.istoreN X31.here hx rfl (hb hby d3_23) rfl (l' := #[rv a1, rv a2, .val .null, iv 0, .unset]) rfl (XS.iconst X31.here hx rfl (hb hby d3_24) (XS.istore X31.here hx rfl (hb hby d3_25) rfl (l' := #[rv a1, rv a2, .val .null, iv 0, iv 1]) rfl (XS.iload X31.here hx rfl (hb hby d3_27) rfl (XS.aloadN X31.here hx rfl (hb hby d3_29) rfl rfl k)))))) ?_
  show oF p e below _ (T31.setTop (mkF m 30 #[rv a1, rv a2, .val .null, iv 0, iv 1] [(.ref a2), (.int 1)]))
  obtain ⟨cl41, Ar41, q41, S41, M41, H41, G41⟩ := (id f36)
  refine og (fun t k => X31.arraylength hx (by rw [e31]; exact Ar41.1) (State.isArrayOf_alike hZ.alike Ar41.2.1) (g := (mkF m 30 #[rv a1, rv a2, .val .null, iv 0, iv 1] [(.ref a2), (.int 1)])) rfl rfl (hb hby d3_30) _ k) ?_
  rw [len_of S41 M41]
  show oF p e below _ (T31.setTop (mkF m 31 #[rv a1, rv a2, .val .null, iv 0, iv 1] [(.int 4), (.int 1)]))
  refine og (fun t k => XS.icmpNo X31.here hx rfl (hb hby d3_31) rfl (tlt (by decide : (1 : Int32) < (4 : Int32))).2.1 (XS.iloadN X31.here hx rfl (hb hby d3_34) rfl k)) ?_
  show oF p e below _ (T31.setTop (mkF m 35 #[rv a1, rv a2, .val .null, iv 0, iv 1] [(.int 0)]))
  refine og (fun t k => XS.ifYes X31.here hx rfl (pc0 := 35) (pc' := 61) rfl (hb hby d3_35) rfl ((if0 _ _).trans (flt (by decide : ¬ ((0 : Int32) < (0 : Int32)))).2.2.2) (by decide) (by decide) (XS.aloadN X31.here hx rfl (hb hby d3_61) rfl rfl (XS.iload X31.here hx rfl (hb hby d3_62) rfl k))) ?_
  show oF p e below _ (T31.setTop (mkF m 64 #[rv a1, rv a2, .val .null, iv 0, iv 1] [(.int 1), (.ref a2)]))
  obtain ⟨cl42, Ar42, q42, S42, M42, H42, G42⟩ := (id f36)
  have hin42 : ¬ ((1 : Int32) < 0 ∨ cl42.slots.size ≤ ((1 : Int32)).toNatClampNeg) := inb_of S42 ⟨by decide, by decide⟩
  have hat42 : cl42.slots[((1 : Int32)).toNatClampNeg]? = some (.long w1) := H42.at hin42 rfl
  refine og (fun t k => X31.laload hx (j := (1 : Int32)) (v := (.long w1)) (by rw [e31]; exact Ar42.1) (State.isArrayOf_alike hZ.alike Ar42.2.1) Ar42.2.2 hin42 hat42 (g := (mkF m 64 #[rv a1, rv a2, .val .null, iv 0, iv 1] [(.int 1), (.ref a2)])) rfl rfl (hb hby d3_64) _ (XS.aloadN X31.here hx rfl (hb hby d3_65) rfl rfl (XS.iloadN X31.here hx rfl (hb hby d3_66) rfl k))) ?_
  show oF p e below _ (T31.setTop (mkF m 67 #[rv a1, rv a2, .val .null, iv 0, iv 1] [(.int 0), (.ref a2), (.long w1)]))
  obtain ⟨cl43, Ar43, q43, S43, M43, H43, G43⟩ := (id f36)
  have hin43 : ¬ ((0 : Int32) < 0 ∨ cl43.slots.size ≤ ((0 : Int32)).toNatClampNeg) := inb_of S43 ⟨by decide, by decide⟩
  have hat43 : cl43.slots[((0 : Int32)).toNatClampNeg]? = some (.long w0) := H43.at hin43 rfl
  refine og (fun t k => X31.laload hx (j := (0 : Int32)) (v := (.long w0)) (by rw [e31]; exact Ar43.1) (State.isArrayOf_alike hZ.alike Ar43.2.1) Ar43.2.2 hin43 hat43 (g := (mkF m 67 #[rv a1, rv a2, .val .null, iv 0, iv 1] [(.int 0), (.ref a2), (.long w1)])) rfl rfl (hb hby d3_67) _ (XS.lcmp X31.here hx rfl (hb hby d3_68) rfl k)) ?_
  show oF p e below _ (T31.setTop (mkF m 69 #[rv a1, rv a2, .val .null, iv 0, iv 1] [(.int (lcmpW w1 w0))]))
  by_cases hc44 : w1 = w0
  · skip
    refine og (fun t k => XS.ifNo X31.here hx rfl (hb hby d3_69) rfl ((if0 _ _).trans (teq ((lw_eq _ _).mpr hc44)).2) (XS.iinc X31.here hx rfl (hb hby d3_72) rfl (l' := #[rv a1, rv a2, .val .null, iv 1, iv 1]) rfl (XS.aloadN X31.here hx rfl (hb hby d3_75) rfl rfl k))) ?_
    show oF p e below _ (T31.setTop (mkF m 76 #[rv a1, rv a2, .val .null, iv 1, iv 1] [(.ref a1)]))
    obtain ⟨T45, X45, e45, st45⟩ := getF X31 hx hZ hown (host := "") (Or.inl hw_22) Via.refl e31 f38 (g := (mkF m 76 #[rv a1, rv a2, .val .null, iv 1, iv 1] [(.ref a1)])) rfl rfl (hb hby d3_76)
    refine og st45 ?_
    show oF p e below _ (T45.setTop (mkF m 79 #[rv a1, rv a2, .val .null, iv 1, iv 1] [(.ref b21)]))
    refine og (fun t k => XS.iload X45.here hx rfl (hb hby d3_79) rfl (XS.iloadN X45.here hx rfl (hb hby d3_81) rfl k)) ?_
    show oF p e below _ (T45.setTop (mkF m 82 #[rv a1, rv a2, .val .null, iv 1, iv 1] [(.int 1), (.int 1), (.ref b21)]))
    obtain ⟨cl46, Ar46, q46, S46, M46, H46, G46⟩ := (id f37)
    have hin46 : ¬ ((1 : Int32) < 0 ∨ cl46.slots.size ≤ ((1 : Int32)).toNatClampNeg) := inb_of S46 ⟨by decide, by decide⟩
    obtain ⟨T46, h46, X46, e46, W46, st46⟩ := stI X45 hx hZ e45 Ar46 (j := (1 : Int32)) hin46 (g := (mkF m 82 #[rv a1, rv a2, .val .null, iv 1, iv 1] [(.int 1), (.int 1), (.ref b21)])) rfl rfl (hb hby d3_82)
    have f47 := f32.other W46 (Or.inl ne22)
    have f48 := f38.other W46 (Or.inl ne22)
    have f49 := f34.other W46 (Or.inl ne22)
    have f50 := f35.wr W46
    have f51 := f36.other W46 ne23
    have V46 := Arv.set Ar46 q46 S46 M46 H46 G46 rfl W46 1 rfl (Nat.le_of_ble_eq_true rfl)
    have f53 : Arv Z h46 b21 k21 .int (4 : Int32) [(.int (0 : Int32)), (.int (1 : Int32)), (.int (0 : Int32)), (.int (0 : Int32))] (.int (0 : Int32)) := V46
    have Zh54 : n0 ≤ h46.size := Nat.le_trans Zh39 (Nat.le_of_eq W46.size.symm)
    have N46 := Fr.snoc X46 N31 g_b21
    have K55 := K40.wr W46 (Or.inr sz_b21)
    refine og st46 ?_
    show oF p e below _ (T46.setTop (mkF m 83 #[rv a1, rv a2, .val .null, iv 1, iv 1] []))
    refine og (fun t k => XS.iinc X46.here hx rfl (hb hby d3_83) rfl (l' := #[rv a1, rv a2, .val .null, iv 1, iv 2]) rfl (XS.goto X46.here hx rfl (pc0 := 86) (pc' := 27) rfl (hb hby d3_86) (by decide) (by decide) (XS.iload X46.here hx rfl (hb hby d3_27) rfl (XS.aloadN X46.here hx rfl (hb hby d3_29) rfl rfl k)))) ?_
    show oF p e below _ (T46.setTop (mkF m 30 #[rv a1, rv a2, .val .null, iv 1, iv 2] [(.ref a2), (.int 2)]))
    obtain ⟨cl56, Ar56, q56, S56, M56, H56, G56⟩ := (id f51)
    refine og (fun t k => X46.arraylength hx (by rw [e46]; exact Ar56.1) (State.isArrayOf_alike hZ.alike Ar56.2.1) (g := (mkF m 30 #[rv a1, rv a2, .val .null, iv 1, iv 2] [(.ref a2), (.int 2)])) rfl rfl (hb hby d3_30) _ k) ?_
    rw [len_of S56 M56]
    show oF p e below _ (T46.setTop (mkF m 31 #[rv a1, rv a2, .val .null, iv 1, iv 2] [(.int 4), (.int 2)]))
    refine og (fun t k => XS.icmpNo X46.here hx rfl (hb hby d3_31) rfl (tlt (by decide : (2 : Int32) < (4 : Int32))).2.1 (XS.iloadN X46.here hx rfl (hb hby d3_34) rfl k)) ?_
    show oF p e below _ (T46.setTop (mkF m 35 #[rv a1, rv a2, .val .null, iv 1, iv 2] [(.int 1)]))
    refine og (fun t k => XS.ifNo X46.here hx rfl (hb hby d3_35) rfl ((if0 _ _).trans (tlt (by decide : (0 : Int32) < (1 : Int32))).2.2.2) (XS.aloadN X46.here hx rfl (hb hby d3_38) rfl rfl (XS.iload X46.here hx rfl (hb hby d3_39) rfl k))) ?_
    show oF p e below _ (T46.setTop (mkF m 41 #[rv a1, rv a2, .val .null, iv 1, iv 2] [(.int 2), (.ref a2)]))
    obtain ⟨cl57, Ar57, q57, S57, M57, H57, G57⟩ := (id f51)
    have hin57 : ¬ ((2 : Int32) < 0 ∨ cl57.slots.size ≤ ((2 : Int32)).toNatClampNeg) := inb_of S57 ⟨by decide, by decide⟩
    have hat57 : cl57.slots[((2 : Int32)).toNatClampNeg]? = some (.long w2) := H57.at hin57 rfl
    refine og (fun t k => X46.laload hx (j := (2 : Int32)) (v := (.long w2)) (by rw [e46]; exact Ar57.1) (State.isArrayOf_alike hZ.alike Ar57.2.1) Ar57.2.2 hin57 hat57 (g := (mkF m 41 #[rv a1, rv a2, .val .null, iv 1, iv 2] [(.int 2), (.ref a2)])) rfl rfl (hb hby d3_41) _ (XS.aloadN X46.here hx rfl (hb hby d3_42) rfl rfl (XS.iloadN X46.here hx rfl (hb hby d3_43) rfl k))) ?_
    show oF p e below _ (T46.setTop (mkF m 44 #[rv a1, rv a2, .val .null, iv 1, iv 2] [(.int 1), (.ref a2), (.long w2)]))
    obtain ⟨cl58, Ar58, q58, S58, M58, H58, G58⟩ := (id f51)
    have hin58 : ¬ ((1 : Int32) < 0 ∨ cl58.slots.size ≤ ((1 : Int32)).toNatClampNeg) := inb_of S58 ⟨by decide, by decide⟩
    have hat58 : cl58.slots[((1 : Int32)).toNatClampNeg]? = some (.long w1) := H58.at hin58 rfl
    refine og (fun t k => X46.laload hx (j := (1 : Int32)) (v := (.long w1)) (by rw [e46]; exact Ar58.1) (State.isArrayOf_alike hZ.alike Ar58.2.1) Ar58.2.2 hin58 hat58 (g := (mkF m 44 #[rv a1, rv a2, .val .null, iv 1, iv 2] [(.int 1), (.ref a2), (.long w2)])) rfl rfl (hb hby d3_44) _ (XS.lcmp X46.here hx rfl (hb hby d3_45) rfl k)) ?_
    show oF p e below _ (T46.setTop (mkF m 46 #[rv a1, rv a2, .val .null, iv 1, iv 2] [(.int (lcmpW w2 w1))]))
    by_cases hc59 : w2 = w1
    · skip
      refine og (fun t k => XS.ifYes X46.here hx rfl (pc0 := 46) (pc' := 61) rfl (hb hby d3_46) rfl ((if0 _ _).trans (teq ((lw_eq _ _).mpr hc59)).1) (by decide) (by decide) (XS.aloadN X46.here hx rfl (hb hby d3_61) rfl rfl (XS.iload X46.here hx rfl (hb hby d3_62) rfl k))) ?_
      show oF p e below _ (T46.setTop (mkF m 64 #[rv a1, rv a2, .val .null, iv 1, iv 2] [(.int 2), (.ref a2)]))
      obtain ⟨cl60, Ar60, q60, S60, M60, H60, G60⟩ := (id f51)
      have hin60 : ¬ ((2 : Int32) < 0 ∨ cl60.slots.size ≤ ((2 : Int32)).toNatClampNeg) := inb_of S60 ⟨by decide, by decide⟩
      have hat60 : cl60.slots[((2 : Int32)).toNatClampNeg]? = some (.long w2) := H60.at hin60 rfl
      refine og (fun t k => X46.laload hx (j := (2 : Int32)) (v := (.long w2)) (by rw [e46]; exact Ar60.1) (State.isArrayOf_alike hZ.alike Ar60.2.1) Ar60.2.2 hin60 hat60 (g := (mkF m 64 #[rv a1, rv a2, .val .null, iv 1, iv 2] [(.int 2), (.ref a2)])) rfl rfl (hb hby d3_64) _ (XS.aloadN X46.here hx rfl (hb hby d3_65) rfl rfl (XS.iloadN X46.here hx rfl (hb hby d3_66) rfl k))) ?_
      show oF p e below _ (T46.setTop (mkF m 67 #[rv a1, rv a2, .val .null, iv 1, iv 2] [(.int 1), (.ref a2), (.long w2)]))
      obtain ⟨cl61, Ar61, q61, S61, M61, H61, G61⟩ := (id f51)
      have hin61 : ¬ ((1 : Int32) < 0 ∨ cl61.slots.size ≤ ((1 : Int32)).toNatClampNeg) := inb_of S61 ⟨by decide, by decide⟩
      have hat61 : cl61.slots[((1 : Int32)).toNatClampNeg]? = some (.long w1) := H61.at hin61 rfl
      refine og (fun t k => X46.laload hx (j := (1 : Int32)) (v := (.long w1)) (by rw [e46]; exact Ar61.1) (State.isArrayOf_alike hZ.alike Ar61.2.1) Ar61.2.2 hin61 hat61 (g := (mkF m 67 #[rv a1, rv a2, .val .null, iv 1, iv 2] [(.int 1), (.ref a2), (.long w2)])) rfl rfl (hb hby d3_67) _ (XS.lcmp X46.here hx rfl (hb hby d3_68) rfl k)) ?_
      show oF p e below _ (T46.setTop (mkF m 69 #[rv a1, rv a2, .val .null, iv 1, iv 2] [(.int (lcmpW w2 w1))]))
      refine og (fun t k => XS.ifNo X46.here hx rfl (hb hby d3_69) rfl ((if0 _ _).trans (teq ((lw_eq _ _).mpr hc59)).2) (XS.iinc X46.here hx rfl (hb hby d3_72) rfl (l' := #[rv a1, rv a2, .val .null, iv 2, iv 2]) rfl (XS.aloadN X46.here hx rfl (hb hby d3_75) rfl rfl k))) ?_
      show oF p e below _ (T46.setTop (mkF m 76 #[rv a1, rv a2, .val .null, iv 2, iv 2] [(.ref a1)]))
      obtain ⟨T62, X62, e62, st62⟩ := getF X46 hx hZ hown (host := "") (Or.inl hw_22) Via.refl e46 f48 (g := (mkF m 76 #[rv a1, rv a2, .val .null, iv 2, iv 2] [(.ref a1)])) rfl rfl (hb hby d3_76)
      refine og st62 ?_
      show oF p e below _ (T62.setTop (mkF m 79 #[rv a1, rv a2, .val .null, iv 2, iv 2] [(.ref b21)]))
      refine og (fun t k => XS.iload X62.here hx rfl (hb hby d3_79) rfl (XS.iloadN X62.here hx rfl (hb hby d3_81) rfl k)) ?_
      show oF p e below _ (T62.setTop (mkF m 82 #[rv a1, rv a2, .val .null, iv 2, iv 2] [(.int 2), (.int 2), (.ref b21)]))
      obtain ⟨cl63, Ar63, q63, S63, M63, H63, G63⟩ := (id f53)
      have hin63 : ¬ ((2 : Int32) < 0 ∨ cl63.slots.size ≤ ((2 : Int32)).toNatClampNeg) := inb_of S63 ⟨by decide, by decide⟩
      obtain ⟨T63, h63, X63, e63, W63, st63⟩ := stI X62 hx hZ e62 Ar63 (j := (2 : Int32)) hin63 (g := (mkF m 82 #[rv a1, rv a2, .val .null, iv 2, iv 2] [(.int 2), (.int 2), (.ref b21)])) rfl rfl (hb hby d3_82)
      have f64 := f47.other W63 (Or.inl ne22)
      have f65 := f48.other W63 (Or.inl ne22)
      have f66 := f49.other W63 (Or.inl ne22)
      have f67 := f50.wr W63
      have f68 := f51.other W63 ne23
      have V63 := Arv.set Ar63 q63 S63 M63 H63 G63 rfl W63 2 rfl (Nat.le_of_ble_eq_true rfl)
      have f70 : Arv Z h63 b21 k21 .int (4 : Int32) [(.int (0 : Int32)), (.int (1 : Int32)), (.int (2 : Int32)), (.int (0 : Int32))] (.int (0 : Int32)) := V63
      have Zh71 : n0 ≤ h63.size := Nat.le_trans Zh54 (Nat.le_of_eq W63.size.symm)
      have N63 := Fr.snoc X63 N46 g_b21
      have K72 := K55.wr W63 (Or.inr sz_b21)
      refine og st63 ?_
      show oF p e below _ (T63.setTop (mkF m 83 #[rv a1, rv a2, .val .null, iv 2, iv 2] []))
      refine og (fun t k => XS.iinc X63.here hx rfl (hb hby d3_83) rfl (l' := #[rv a1, rv a2, .val .null, iv 2, iv 3]) rfl (XS.goto X63.here hx rfl (pc0 := 86) (pc' := 27) rfl (hb hby d3_86) (by decide) (by decide) (XS.iload X63.here hx rfl (hb hby d3_27) rfl (XS.aloadN X63.here hx rfl (hb hby d3_29) rfl rfl k)))) ?_
      show oF p e below _ (T63.setTop (mkF m 30 #[rv a1, rv a2, .val .null, iv 2, iv 3] [(.ref a2), (.int 3)]))
      obtain ⟨cl73, Ar73, q73, S73, M73, H73, G73⟩ := (id f68)
      refine og (fun t k => X63.arraylength hx (by rw [e63]; exact Ar73.1) (State.isArrayOf_alike hZ.alike Ar73.2.1) (g := (mkF m 30 #[rv a1, rv a2, .val .null, iv 2, iv 3] [(.ref a2), (.int 3)])) rfl rfl (hb hby d3_30) _ k) ?_
      rw [len_of S73 M73]
      show oF p e below _ (T63.setTop (mkF m 31 #[rv a1, rv a2, .val .null, iv 2, iv 3] [(.int 4), (.int 3)]))
      refine og (fun t k => XS.icmpNo X63.here hx rfl (hb hby d3_31) rfl (tlt (by decide : (3 : Int32) < (4 : Int32))).2.1 (XS.iloadN X63.here hx rfl (hb hby d3_34) rfl k)) ?_
      show oF p e below _ (T63.setTop (mkF m 35 #[rv a1, rv a2, .val .null, iv 2, iv 3] [(.int 2)]))
      refine og (fun t k => XS.ifNo X63.here hx rfl (hb hby d3_35) rfl ((if0 _ _).trans (tlt (by decide : (0 : Int32) < (2 : Int32))).2.2.2) (XS.aloadN X63.here hx rfl (hb hby d3_38) rfl rfl (XS.iload X63.here hx rfl (hb hby d3_39) rfl k))) ?_
      show oF p e below _ (T63.setTop (mkF m 41 #[rv a1, rv a2, .val .null, iv 2, iv 3] [(.int 3), (.ref a2)]))
      obtain ⟨cl74, Ar74, q74, S74, M74, H74, G74⟩ := (id f68)
      have hin74 : ¬ ((3 : Int32) < 0 ∨ cl74.slots.size ≤ ((3 : Int32)).toNatClampNeg) := inb_of S74 ⟨by decide, by decide⟩
      have hat74 : cl74.slots[((3 : Int32)).toNatClampNeg]? = some (.long w3) := H74.at hin74 rfl
      refine og (fun t k => X63.laload hx (j := (3 : Int32)) (v := (.long w3)) (by rw [e63]; exact Ar74.1) (State.isArrayOf_alike hZ.alike Ar74.2.1) Ar74.2.2 hin74 hat74 (g := (mkF m 41 #[rv a1, rv a2, .val .null, iv 2, iv 3] [(.int 3), (.ref a2)])) rfl rfl (hb hby d3_41) _ (XS.aloadN X63.here hx rfl (hb hby d3_42) rfl rfl (XS.iloadN X63.here hx rfl (hb hby d3_43) rfl k))) ?_
      show oF p e below _ (T63.setTop (mkF m 44 #[rv a1, rv a2, .val .null, iv 2, iv 3] [(.int 2), (.ref a2), (.long w3)]))
      obtain ⟨cl75, Ar75, q75, S75, M75, H75, G75⟩ := (id f68)
      have hin75 : ¬ ((2 : Int32) < 0 ∨ cl75.slots.size ≤ ((2 : Int32)).toNatClampNeg) := inb_of S75 ⟨by decide, by decide⟩
      have hat75 : cl75.slots[((2 : Int32)).toNatClampNeg]? = some (.long w2) := H75.at hin75 rfl
      refine og (fun t k => X63.laload hx (j := (2 : Int32)) (v := (.long w2)) (by rw [e63]; exact Ar75.1) (State.isArrayOf_alike hZ.alike Ar75.2.1) Ar75.2.2 hin75 hat75 (g := (mkF m 44 #[rv a1, rv a2, .val .null, iv 2, iv 3] [(.int 2), (.ref a2), (.long w3)])) rfl rfl (hb hby d3_44) _ (XS.lcmp X63.here hx rfl (hb hby d3_45) rfl k)) ?_
      show oF p e below _ (T63.setTop (mkF m 46 #[rv a1, rv a2, .val .null, iv 2, iv 3] [(.int (lcmpW w3 w2))]))
      by_cases hc76 : w3 = w2
      · skip
        refine og (fun t k => XS.ifYes X63.here hx rfl (pc0 := 46) (pc' := 61) rfl (hb hby d3_46) rfl ((if0 _ _).trans (teq ((lw_eq _ _).mpr hc76)).1) (by decide) (by decide) (XS.aloadN X63.here hx rfl (hb hby d3_61) rfl rfl (XS.iload X63.here hx rfl (hb hby d3_62) rfl k))) ?_
        show oF p e below _ (T63.setTop (mkF m 64 #[rv a1, rv a2, .val .null, iv 2, iv 3] [(.int 3), (.ref a2)]))
        obtain ⟨cl77, Ar77, q77, S77, M77, H77, G77⟩ := (id f68)
        have hin77 : ¬ ((3 : Int32) < 0 ∨ cl77.slots.size ≤ ((3 : Int32)).toNatClampNeg) := inb_of S77 ⟨by decide, by decide⟩
        have hat77 : cl77.slots[((3 : Int32)).toNatClampNeg]? = some (.long w3) := H77.at hin77 rfl
        refine og (fun t k => X63.laload hx (j := (3 : Int32)) (v := (.long w3)) (by rw [e63]; exact Ar77.1) (State.isArrayOf_alike hZ.alike Ar77.2.1) Ar77.2.2 hin77 hat77 (g := (mkF m 64 #[rv a1, rv a2, .val .null, iv 2, iv 3] [(.int 3), (.ref a2)])) rfl rfl (hb hby d3_64) _ (XS.aloadN X63.here hx rfl (hb hby d3_65) rfl rfl (XS.iloadN X63.here hx rfl (hb hby d3_66) rfl k))) ?_
        show oF p e below _ (T63.setTop (mkF m 67 #[rv a1, rv a2, .val .null, iv 2, iv 3] [(.int 2), (.ref a2), (.long w3)]))
        obtain ⟨cl78, Ar78, q78, S78, M78, H78, G78⟩ := (id f68)
        have hin78 : ¬ ((2 : Int32) < 0 ∨ cl78.slots.size ≤ ((2 : Int32)).toNatClampNeg) := inb_of S78 ⟨by decide, by decide⟩
        have hat78 : cl78.slots[((2 : Int32)).toNatClampNeg]? = some (.long w2) := H78.at hin78 rfl
        refine og (fun t k => X63.laload hx (j := (2 : Int32)) (v := (.long w2)) (by rw [e63]; exact Ar78.1) (State.isArrayOf_alike hZ.alike Ar78.2.1) Ar78.2.2 hin78 hat78 (g := (mkF m 67 #[rv a1, rv a2, .val .null, iv 2, iv 3] [(.int 2), (.ref a2), (.long w3)])) rfl rfl (hb hby d3_67) _ (XS.lcmp X63.here hx rfl (hb hby d3_68) rfl k)) ?_
        show oF p e below _ (T63.setTop (mkF m 69 #[rv a1, rv a2, .val .null, iv 2, iv 3] [(.int (lcmpW w3 w2))]))
        refine og (fun t k => XS.ifNo X63.here hx rfl (hb hby d3_69) rfl ((if0 _ _).trans (teq ((lw_eq _ _).mpr hc76)).2) (XS.iinc X63.here hx rfl (hb hby d3_72) rfl (l' := #[rv a1, rv a2, .val .null, iv 3, iv 3]) rfl (XS.aloadN X63.here hx rfl (hb hby d3_75) rfl rfl k))) ?_
        show oF p e below _ (T63.setTop (mkF m 76 #[rv a1, rv a2, .val .null, iv 3, iv 3] [(.ref a1)]))
        obtain ⟨T79, X79, e79, st79⟩ := getF X63 hx hZ hown (host := "") (Or.inl hw_22) Via.refl e63 f65 (g := (mkF m 76 #[rv a1, rv a2, .val .null, iv 3, iv 3] [(.ref a1)])) rfl rfl (hb hby d3_76)
        refine og st79 ?_
        show oF p e below _ (T79.setTop (mkF m 79 #[rv a1, rv a2, .val .null, iv 3, iv 3] [(.ref b21)]))
        refine og (fun t k => XS.iload X79.here hx rfl (hb hby d3_79) rfl (XS.iloadN X79.here hx rfl (hb hby d3_81) rfl k)) ?_
        show oF p e below _ (T79.setTop (mkF m 82 #[rv a1, rv a2, .val .null, iv 3, iv 3] [(.int 3), (.int 3), (.ref b21)]))
        obtain ⟨cl80, Ar80, q80, S80, M80, H80, G80⟩ := (id f70)
        have hin80 : ¬ ((3 : Int32) < 0 ∨ cl80.slots.size ≤ ((3 : Int32)).toNatClampNeg) := inb_of S80 ⟨by decide, by decide⟩
        obtain ⟨T80, h80, X80, e80, W80, st80⟩ := stI X79 hx hZ e79 Ar80 (j := (3 : Int32)) hin80 (g := (mkF m 82 #[rv a1, rv a2, .val .null, iv 3, iv 3] [(.int 3), (.int 3), (.ref b21)])) rfl rfl (hb hby d3_82)
        have f81 := f64.other W80 (Or.inl ne22)
        have f82 := f65.other W80 (Or.inl ne22)
        have f83 := f66.other W80 (Or.inl ne22)
        have f84 := f67.wr W80
        have f85 := f68.other W80 ne23
        have V80 := Arv.set Ar80 q80 S80 M80 H80 G80 rfl W80 3 rfl (Nat.le_of_ble_eq_true rfl)
        have f87 : Arv Z h80 b21 k21 .int (4 : Int32) [(.int (0 : Int32)), (.int (1 : Int32)), (.int (2 : Int32)), (.int (3 : Int32))] (.int (0 : Int32)) := V80
        have Zh88 : n0 ≤ h80.size := Nat.le_trans Zh71 (Nat.le_of_eq W80.size.symm)
        have N80 := Fr.snoc X80 N63 g_b21
        have K89 := K72.wr W80 (Or.inr sz_b21)
        refine og st80 ?_
        show oF p e below _ (T80.setTop (mkF m 83 #[rv a1, rv a2, .val .null, iv 3, iv 3] []))
        refine og (fun t k => XS.iinc X80.here hx rfl (hb hby d3_83) rfl (l' := #[rv a1, rv a2, .val .null, iv 3, iv 4]) rfl (XS.goto X80.here hx rfl (pc0 := 86) (pc' := 27) rfl (hb hby d3_86) (by decide) (by decide) (XS.iload X80.here hx rfl (hb hby d3_27) rfl (XS.aloadN X80.here hx rfl (hb hby d3_29) rfl rfl k)))) ?_
        show oF p e below _ (T80.setTop (mkF m 30 #[rv a1, rv a2, .val .null, iv 3, iv 4] [(.ref a2), (.int 4)]))
        obtain ⟨cl90, Ar90, q90, S90, M90, H90, G90⟩ := (id f85)
        refine og (fun t k => X80.arraylength hx (by rw [e80]; exact Ar90.1) (State.isArrayOf_alike hZ.alike Ar90.2.1) (g := (mkF m 30 #[rv a1, rv a2, .val .null, iv 3, iv 4] [(.ref a2), (.int 4)])) rfl rfl (hb hby d3_30) _ k) ?_
        rw [len_of S90 M90]
        show oF p e below _ (T80.setTop (mkF m 31 #[rv a1, rv a2, .val .null, iv 3, iv 4] [(.int 4), (.int 4)]))
        refine og (fun t k => XS.icmpYes X80.here hx rfl (pc0 := 31) (pc' := 89) rfl (hb hby d3_31) rfl (flt (by decide : ¬ ((4 : Int32) < (4 : Int32)))).2.1 (by decide) (by decide) k) ?_
        show oF p e below _ (T80.setTop (mkF m 89 #[rv a1, rv a2, .val .null, iv 3, iv 4] []))
        exact oo X80 (fun _ => rfl) Bd.notSynchronized (fun fs hr => X80.returnOut hx Bd.returns (hb hby d3_89) hr) (by rw [e80]; exact ⟨rfl, N80, K89, f84, f81, _, _, sz_b21, f82, (by rw [show (own_b1 w0 w1) = (1 : Int32) from by simp_all [own_b1]]; rw [show (own_b2 w0 w1 w2) = (2 : Int32) from by simp_all [own_b2]]; rw [show (own_b3 w0 w1 w2 w3) = (3 : Int32) from by simp_all [own_b3]]; exact f87)⟩) (by decide) (by decide)
      · skip
        refine og (fun t k => XS.ifNo X63.here hx rfl (hb hby d3_46) rfl ((if0 _ _).trans (feq (fun q => hc76 ((lw_eq _ _).mp q))).1) (XS.aloadN X63.here hx rfl (hb hby d3_49) rfl rfl k)) ?_
        show oF p e below _ (T63.setTop (mkF m 50 #[rv a1, rv a2, .val .null, iv 2, iv 3] [(.ref a1)]))
        obtain ⟨T91, X91, e91, st91⟩ := getF X63 hx hZ hown (host := "") (Or.inl hw_22) Via.refl e63 f65 (g := (mkF m 50 #[rv a1, rv a2, .val .null, iv 2, iv 3] [(.ref a1)])) rfl rfl (hb hby d3_50)
        refine og st91 ?_
        show oF p e below _ (T91.setTop (mkF m 53 #[rv a1, rv a2, .val .null, iv 2, iv 3] [(.ref b21)]))
        refine og (fun t k => XS.iloadN X91.here hx rfl (hb hby d3_53) rfl (XS.iconst X91.here hx rfl (hb hby d3_54) (XS.isub X91.here hx rfl (hb hby d3_55) rfl k))) ?_
        show oF p e below _ (T91.setTop (mkF m 56 #[rv a1, rv a2, .val .null, iv 2, iv 3] [(.int 1), (.ref b21)]))
        obtain ⟨cl92, Ar92, q92, S92, M92, H92, G92⟩ := (id f70)
        have hin92 : ¬ ((1 : Int32) < 0 ∨ cl92.slots.size ≤ ((1 : Int32)).toNatClampNeg) := inb_of S92 ⟨by decide, by decide⟩
        have hat92 : cl92.slots[((1 : Int32)).toNatClampNeg]? = some (.int (1 : Int32)) := H92.at hin92 rfl
        refine og (fun t k => X91.iaload hx (j := (1 : Int32)) (v := (.int (1 : Int32))) (by rw [e91]; exact Ar92.1) (State.isArrayOf_alike hZ.alike Ar92.2.1) Ar92.2.2 hin92 hat92 (g := (mkF m 56 #[rv a1, rv a2, .val .null, iv 2, iv 3] [(.int 1), (.ref b21)])) rfl rfl (hb hby d3_56) _ (XS.istoreN X91.here hx rfl (hb hby d3_57) rfl (l' := #[rv a1, rv a2, .val .null, iv 1, iv 3]) rfl (XS.goto X91.here hx rfl (pc0 := 58) (pc' := 34) rfl (hb hby d3_58) (by decide) (by decide) (XS.iloadN X91.here hx rfl (hb hby d3_34) rfl k)))) ?_
        show oF p e below _ (T91.setTop (mkF m 35 #[rv a1, rv a2, .val .null, iv 1, iv 3] [(.int 1)]))
        refine og (fun t k => XS.ifNo X91.here hx rfl (hb hby d3_35) rfl ((if0 _ _).trans (tlt (by decide : (0 : Int32) < (1 : Int32))).2.2.2) (XS.aloadN X91.here hx rfl (hb hby d3_38) rfl rfl (XS.iload X91.here hx rfl (hb hby d3_39) rfl k))) ?_
        show oF p e below _ (T91.setTop (mkF m 41 #[rv a1, rv a2, .val .null, iv 1, iv 3] [(.int 3), (.ref a2)]))
        obtain ⟨cl93, Ar93, q93, S93, M93, H93, G93⟩ := (id f68)
        have hin93 : ¬ ((3 : Int32) < 0 ∨ cl93.slots.size ≤ ((3 : Int32)).toNatClampNeg) := inb_of S93 ⟨by decide, by decide⟩
        have hat93 : cl93.slots[((3 : Int32)).toNatClampNeg]? = some (.long w3) := H93.at hin93 rfl
        refine og (fun t k => X91.laload hx (j := (3 : Int32)) (v := (.long w3)) (by rw [e91]; exact Ar93.1) (State.isArrayOf_alike hZ.alike Ar93.2.1) Ar93.2.2 hin93 hat93 (g := (mkF m 41 #[rv a1, rv a2, .val .null, iv 1, iv 3] [(.int 3), (.ref a2)])) rfl rfl (hb hby d3_41) _ (XS.aloadN X91.here hx rfl (hb hby d3_42) rfl rfl (XS.iloadN X91.here hx rfl (hb hby d3_43) rfl k))) ?_
        show oF p e below _ (T91.setTop (mkF m 44 #[rv a1, rv a2, .val .null, iv 1, iv 3] [(.int 1), (.ref a2), (.long w3)]))
        obtain ⟨cl94, Ar94, q94, S94, M94, H94, G94⟩ := (id f68)
        have hin94 : ¬ ((1 : Int32) < 0 ∨ cl94.slots.size ≤ ((1 : Int32)).toNatClampNeg) := inb_of S94 ⟨by decide, by decide⟩
        have hat94 : cl94.slots[((1 : Int32)).toNatClampNeg]? = some (.long w1) := H94.at hin94 rfl
        refine og (fun t k => X91.laload hx (j := (1 : Int32)) (v := (.long w1)) (by rw [e91]; exact Ar94.1) (State.isArrayOf_alike hZ.alike Ar94.2.1) Ar94.2.2 hin94 hat94 (g := (mkF m 44 #[rv a1, rv a2, .val .null, iv 1, iv 3] [(.int 1), (.ref a2), (.long w3)])) rfl rfl (hb hby d3_44) _ (XS.lcmp X91.here hx rfl (hb hby d3_45) rfl k)) ?_
        show oF p e below _ (T91.setTop (mkF m 46 #[rv a1, rv a2, .val .null, iv 1, iv 3] [(.int (lcmpW w3 w1))]))
        by_cases hc95 : w3 = w1
        · skip
          refine og (fun t k => XS.ifYes X91.here hx rfl (pc0 := 46) (pc' := 61) rfl (hb hby d3_46) rfl ((if0 _ _).trans (teq ((lw_eq _ _).mpr hc95)).1) (by decide) (by decide) (XS.aloadN X91.here hx rfl (hb hby d3_61) rfl rfl (XS.iload X91.here hx rfl (hb hby d3_62) rfl k))) ?_
          show oF p e below _ (T91.setTop (mkF m 64 #[rv a1, rv a2, .val .null, iv 1, iv 3] [(.int 3), (.ref a2)]))
          obtain ⟨cl96, Ar96, q96, S96, M96, H96, G96⟩ := (id f68)
          have hin96 : ¬ ((3 : Int32) < 0 ∨ cl96.slots.size ≤ ((3 : Int32)).toNatClampNeg) := inb_of S96 ⟨by decide, by decide⟩
          have hat96 : cl96.slots[((3 : Int32)).toNatClampNeg]? = some (.long w3) := H96.at hin96 rfl
          refine og (fun t k => X91.laload hx (j := (3 : Int32)) (v := (.long w3)) (by rw [e91]; exact Ar96.1) (State.isArrayOf_alike hZ.alike Ar96.2.1) Ar96.2.2 hin96 hat96 (g := (mkF m 64 #[rv a1, rv a2, .val .null, iv 1, iv 3] [(.int 3), (.ref a2)])) rfl rfl (hb hby d3_64) _ (XS.aloadN X91.here hx rfl (hb hby d3_65) rfl rfl (XS.iloadN X91.here hx rfl (hb hby d3_66) rfl k))) ?_
          show oF p e below _ (T91.setTop (mkF m 67 #[rv a1, rv a2, .val .null, iv 1, iv 3] [(.int 1), (.ref a2), (.long w3)]))
          obtain ⟨cl97, Ar97, q97, S97, M97, H97, G97⟩ := (id f68)
          have hin97 : ¬ ((1 : Int32) < 0 ∨ cl97.slots.size ≤ ((1 : Int32)).toNatClampNeg) := inb_of S97 ⟨by decide, by decide⟩
          have hat97 : cl97.slots[((1 : Int32)).toNatClampNeg]? = some (.long w1) := H97.at hin97 rfl
          refine og (fun t k => X91.laload hx (j := (1 : Int32)) (v := (.long w1)) (by rw [e91]; exact Ar97.1) (State.isArrayOf_alike hZ.alike Ar97.2.1) Ar97.2.2 hin97 hat97 (g := (mkF m 67 #[rv a1, rv a2, .val .null, iv 1, iv 3] [(.int 1), (.ref a2), (.long w3)])) rfl rfl (hb hby d3_67) _ (XS.lcmp X91.here hx rfl (hb hby d3_68) rfl k)) ?_
          show oF p e below _ (T91.setTop (mkF m 69 #[rv a1, rv a2, .val .null, iv 1, iv 3] [(.int (lcmpW w3 w1))]))
          refine og (fun t k => XS.ifNo X91.here hx rfl (hb hby d3_69) rfl ((if0 _ _).trans (teq ((lw_eq _ _).mpr hc95)).2) (XS.iinc X91.here hx rfl (hb hby d3_72) rfl (l' := #[rv a1, rv a2, .val .null, iv 2, iv 3]) rfl (XS.aloadN X91.here hx rfl (hb hby d3_75) rfl rfl k))) ?_
          show oF p e below _ (T91.setTop (mkF m 76 #[rv a1, rv a2, .val .null, iv 2, iv 3] [(.ref a1)]))
          obtain ⟨T98, X98, e98, st98⟩ := getF X91 hx hZ hown (host := "") (Or.inl hw_22) Via.refl e91 f65 (g := (mkF m 76 #[rv a1, rv a2, .val .null, iv 2, iv 3] [(.ref a1)])) rfl rfl (hb hby d3_76)
          refine og st98 ?_
          show oF p e below _ (T98.setTop (mkF m 79 #[rv a1, rv a2, .val .null, iv 2, iv 3] [(.ref b21)]))
          refine og (fun t k => XS.iload X98.here hx rfl (hb hby d3_79) rfl (XS.iloadN X98.here hx rfl (hb hby d3_81) rfl k)) ?_
          show oF p e below _ (T98.setTop (mkF m 82 #[rv a1, rv a2, .val .null, iv 2, iv 3] [(.int 2), (.int 3), (.ref b21)]))
          obtain ⟨cl99, Ar99, q99, S99, M99, H99, G99⟩ := (id f70)
          have hin99 : ¬ ((3 : Int32) < 0 ∨ cl99.slots.size ≤ ((3 : Int32)).toNatClampNeg) := inb_of S99 ⟨by decide, by decide⟩
          obtain ⟨T99, h99, X99, e99, W99, st99⟩ := stI X98 hx hZ e98 Ar99 (j := (3 : Int32)) hin99 (g := (mkF m 82 #[rv a1, rv a2, .val .null, iv 2, iv 3] [(.int 2), (.int 3), (.ref b21)])) rfl rfl (hb hby d3_82)
          have f100 := f64.other W99 (Or.inl ne22)
          have f101 := f65.other W99 (Or.inl ne22)
          have f102 := f66.other W99 (Or.inl ne22)
          have f103 := f67.wr W99
          have f104 := f68.other W99 ne23
          have V99 := Arv.set Ar99 q99 S99 M99 H99 G99 rfl W99 3 rfl (Nat.le_of_ble_eq_true rfl)
          have f106 : Arv Z h99 b21 k21 .int (4 : Int32) [(.int (0 : Int32)), (.int (1 : Int32)), (.int (2 : Int32)), (.int (2 : Int32))] (.int (0 : Int32)) := V99
          have Zh107 : n0 ≤ h99.size := Nat.le_trans Zh71 (Nat.le_of_eq W99.size.symm)
          have N99 := Fr.snoc X99 N63 g_b21
          have K108 := K72.wr W99 (Or.inr sz_b21)
          refine og st99 ?_
          show oF p e below _ (T99.setTop (mkF m 83 #[rv a1, rv a2, .val .null, iv 2, iv 3] []))
          refine og (fun t k => XS.iinc X99.here hx rfl (hb hby d3_83) rfl (l' := #[rv a1, rv a2, .val .null, iv 2, iv 4]) rfl (XS.goto X99.here hx rfl (pc0 := 86) (pc' := 27) rfl (hb hby d3_86) (by decide) (by decide) (XS.iload X99.here hx rfl (hb hby d3_27) rfl (XS.aloadN X99.here hx rfl (hb hby d3_29) rfl rfl k)))) ?_
          show oF p e below _ (T99.setTop (mkF m 30 #[rv a1, rv a2, .val .null, iv 2, iv 4] [(.ref a2), (.int 4)]))
          obtain ⟨cl109, Ar109, q109, S109, M109, H109, G109⟩ := (id f104)
          refine og (fun t k => X99.arraylength hx (by rw [e99]; exact Ar109.1) (State.isArrayOf_alike hZ.alike Ar109.2.1) (g := (mkF m 30 #[rv a1, rv a2, .val .null, iv 2, iv 4] [(.ref a2), (.int 4)])) rfl rfl (hb hby d3_30) _ k) ?_
          rw [len_of S109 M109]
          show oF p e below _ (T99.setTop (mkF m 31 #[rv a1, rv a2, .val .null, iv 2, iv 4] [(.int 4), (.int 4)]))
          refine og (fun t k => XS.icmpYes X99.here hx rfl (pc0 := 31) (pc' := 89) rfl (hb hby d3_31) rfl (flt (by decide : ¬ ((4 : Int32) < (4 : Int32)))).2.1 (by decide) (by decide) k) ?_
          show oF p e below _ (T99.setTop (mkF m 89 #[rv a1, rv a2, .val .null, iv 2, iv 4] []))
          exact oo X99 (fun _ => rfl) Bd.notSynchronized (fun fs hr => X99.returnOut hx Bd.returns (hb hby d3_89) hr) (by rw [e99]; exact ⟨rfl, N99, K108, f103, f100, _, _, sz_b21, f101, (by rw [show (own_b1 w0 w1) = (1 : Int32) from by simp_all [own_b1]]; rw [show (own_b2 w0 w1 w2) = (2 : Int32) from by simp_all [own_b2]]; rw [show (own_b3 w0 w1 w2 w3) = (2 : Int32) from by simp_all [own_b3]]; exact f106)⟩) (by decide) (by decide)
        · skip
          refine og (fun t k => XS.ifNo X91.here hx rfl (hb hby d3_46) rfl ((if0 _ _).trans (feq (fun q => hc95 ((lw_eq _ _).mp q))).1) (XS.aloadN X91.here hx rfl (hb hby d3_49) rfl rfl k)) ?_
          show oF p e below _ (T91.setTop (mkF m 50 #[rv a1, rv a2, .val .null, iv 1, iv 3] [(.ref a1)]))
          obtain ⟨T110, X110, e110, st110⟩ := getF X91 hx hZ hown (host := "") (Or.inl hw_22) Via.refl e91 f65 (g := (mkF m 50 #[rv a1, rv a2, .val .null, iv 1, iv 3] [(.ref a1)])) rfl rfl (hb hby d3_50)
          refine og st110 ?_
          show oF p e below _ (T110.setTop (mkF m 53 #[rv a1, rv a2, .val .null, iv 1, iv 3] [(.ref b21)]))
          refine og (fun t k => XS.iloadN X110.here hx rfl (hb hby d3_53) rfl (XS.iconst X110.here hx rfl (hb hby d3_54) (XS.isub X110.here hx rfl (hb hby d3_55) rfl k))) ?_
          show oF p e below _ (T110.setTop (mkF m 56 #[rv a1, rv a2, .val .null, iv 1, iv 3] [(.int 0), (.ref b21)]))
          obtain ⟨cl111, Ar111, q111, S111, M111, H111, G111⟩ := (id f70)
          have hin111 : ¬ ((0 : Int32) < 0 ∨ cl111.slots.size ≤ ((0 : Int32)).toNatClampNeg) := inb_of S111 ⟨by decide, by decide⟩
          have hat111 : cl111.slots[((0 : Int32)).toNatClampNeg]? = some (.int (0 : Int32)) := H111.at hin111 rfl
          refine og (fun t k => X110.iaload hx (j := (0 : Int32)) (v := (.int (0 : Int32))) (by rw [e110]; exact Ar111.1) (State.isArrayOf_alike hZ.alike Ar111.2.1) Ar111.2.2 hin111 hat111 (g := (mkF m 56 #[rv a1, rv a2, .val .null, iv 1, iv 3] [(.int 0), (.ref b21)])) rfl rfl (hb hby d3_56) _ (XS.istoreN X110.here hx rfl (hb hby d3_57) rfl (l' := #[rv a1, rv a2, .val .null, iv 0, iv 3]) rfl (XS.goto X110.here hx rfl (pc0 := 58) (pc' := 34) rfl (hb hby d3_58) (by decide) (by decide) (XS.iloadN X110.here hx rfl (hb hby d3_34) rfl k)))) ?_
          show oF p e below _ (T110.setTop (mkF m 35 #[rv a1, rv a2, .val .null, iv 0, iv 3] [(.int 0)]))
          refine og (fun t k => XS.ifYes X110.here hx rfl (pc0 := 35) (pc' := 61) rfl (hb hby d3_35) rfl ((if0 _ _).trans (flt (by decide : ¬ ((0 : Int32) < (0 : Int32)))).2.2.2) (by decide) (by decide) (XS.aloadN X110.here hx rfl (hb hby d3_61) rfl rfl (XS.iload X110.here hx rfl (hb hby d3_62) rfl k))) ?_
          show oF p e below _ (T110.setTop (mkF m 64 #[rv a1, rv a2, .val .null, iv 0, iv 3] [(.int 3), (.ref a2)]))
          obtain ⟨cl112, Ar112, q112, S112, M112, H112, G112⟩ := (id f68)
          have hin112 : ¬ ((3 : Int32) < 0 ∨ cl112.slots.size ≤ ((3 : Int32)).toNatClampNeg) := inb_of S112 ⟨by decide, by decide⟩
          have hat112 : cl112.slots[((3 : Int32)).toNatClampNeg]? = some (.long w3) := H112.at hin112 rfl
          refine og (fun t k => X110.laload hx (j := (3 : Int32)) (v := (.long w3)) (by rw [e110]; exact Ar112.1) (State.isArrayOf_alike hZ.alike Ar112.2.1) Ar112.2.2 hin112 hat112 (g := (mkF m 64 #[rv a1, rv a2, .val .null, iv 0, iv 3] [(.int 3), (.ref a2)])) rfl rfl (hb hby d3_64) _ (XS.aloadN X110.here hx rfl (hb hby d3_65) rfl rfl (XS.iloadN X110.here hx rfl (hb hby d3_66) rfl k))) ?_
          show oF p e below _ (T110.setTop (mkF m 67 #[rv a1, rv a2, .val .null, iv 0, iv 3] [(.int 0), (.ref a2), (.long w3)]))
          obtain ⟨cl113, Ar113, q113, S113, M113, H113, G113⟩ := (id f68)
          have hin113 : ¬ ((0 : Int32) < 0 ∨ cl113.slots.size ≤ ((0 : Int32)).toNatClampNeg) := inb_of S113 ⟨by decide, by decide⟩
          have hat113 : cl113.slots[((0 : Int32)).toNatClampNeg]? = some (.long w0) := H113.at hin113 rfl
          refine og (fun t k => X110.laload hx (j := (0 : Int32)) (v := (.long w0)) (by rw [e110]; exact Ar113.1) (State.isArrayOf_alike hZ.alike Ar113.2.1) Ar113.2.2 hin113 hat113 (g := (mkF m 67 #[rv a1, rv a2, .val .null, iv 0, iv 3] [(.int 0), (.ref a2), (.long w3)])) rfl rfl (hb hby d3_67) _ (XS.lcmp X110.here hx rfl (hb hby d3_68) rfl k)) ?_
          show oF p e below _ (T110.setTop (mkF m 69 #[rv a1, rv a2, .val .null, iv 0, iv 3] [(.int (lcmpW w3 w0))]))
          by_cases hc114 : w3 = w0
          · skip
            refine og (fun t k => XS.ifNo X110.here hx rfl (hb hby d3_69) rfl ((if0 _ _).trans (teq ((lw_eq _ _).mpr hc114)).2) (XS.iinc X110.here hx rfl (hb hby d3_72) rfl (l' := #[rv a1, rv a2, .val .null, iv 1, iv 3]) rfl (XS.aloadN X110.here hx rfl (hb hby d3_75) rfl rfl k))) ?_
            show oF p e below _ (T110.setTop (mkF m 76 #[rv a1, rv a2, .val .null, iv 1, iv 3] [(.ref a1)]))
            obtain ⟨T115, X115, e115, st115⟩ := getF X110 hx hZ hown (host := "") (Or.inl hw_22) Via.refl e110 f65 (g := (mkF m 76 #[rv a1, rv a2, .val .null, iv 1, iv 3] [(.ref a1)])) rfl rfl (hb hby d3_76)
            refine og st115 ?_
            show oF p e below _ (T115.setTop (mkF m 79 #[rv a1, rv a2, .val .null, iv 1, iv 3] [(.ref b21)]))
            refine og (fun t k => XS.iload X115.here hx rfl (hb hby d3_79) rfl (XS.iloadN X115.here hx rfl (hb hby d3_81) rfl k)) ?_
            show oF p e below _ (T115.setTop (mkF m 82 #[rv a1, rv a2, .val .null, iv 1, iv 3] [(.int 1), (.int 3), (.ref b21)]))
            obtain ⟨cl116, Ar116, q116, S116, M116, H116, G116⟩ := (id f70)
            have hin116 : ¬ ((3 : Int32) < 0 ∨ cl116.slots.size ≤ ((3 : Int32)).toNatClampNeg) := inb_of S116 ⟨by decide, by decide⟩
            obtain ⟨T116, h116, X116, e116, W116, st116⟩ := stI X115 hx hZ e115 Ar116 (j := (3 : Int32)) hin116 (g := (mkF m 82 #[rv a1, rv a2, .val .null, iv 1, iv 3] [(.int 1), (.int 3), (.ref b21)])) rfl rfl (hb hby d3_82)
            have f117 := f64.other W116 (Or.inl ne22)
            have f118 := f65.other W116 (Or.inl ne22)
            have f119 := f66.other W116 (Or.inl ne22)
            have f120 := f67.wr W116
            have f121 := f68.other W116 ne23
            have V116 := Arv.set Ar116 q116 S116 M116 H116 G116 rfl W116 3 rfl (Nat.le_of_ble_eq_true rfl)
            have f123 : Arv Z h116 b21 k21 .int (4 : Int32) [(.int (0 : Int32)), (.int (1 : Int32)), (.int (2 : Int32)), (.int (1 : Int32))] (.int (0 : Int32)) := V116
            have Zh124 : n0 ≤ h116.size := Nat.le_trans Zh71 (Nat.le_of_eq W116.size.symm)
            have N116 := Fr.snoc X116 N63 g_b21
            have K125 := K72.wr W116 (Or.inr sz_b21)
            refine og st116 ?_
            show oF p e below _ (T116.setTop (mkF m 83 #[rv a1, rv a2, .val .null, iv 1, iv 3] []))
            refine og (fun t k => XS.iinc X116.here hx rfl (hb hby d3_83) rfl (l' := #[rv a1, rv a2, .val .null, iv 1, iv 4]) rfl (XS.goto X116.here hx rfl (pc0 := 86) (pc' := 27) rfl (hb hby d3_86) (by decide) (by decide) (XS.iload X116.here hx rfl (hb hby d3_27) rfl (XS.aloadN X116.here hx rfl (hb hby d3_29) rfl rfl k)))) ?_
            show oF p e below _ (T116.setTop (mkF m 30 #[rv a1, rv a2, .val .null, iv 1, iv 4] [(.ref a2), (.int 4)]))
            obtain ⟨cl126, Ar126, q126, S126, M126, H126, G126⟩ := (id f121)
            refine og (fun t k => X116.arraylength hx (by rw [e116]; exact Ar126.1) (State.isArrayOf_alike hZ.alike Ar126.2.1) (g := (mkF m 30 #[rv a1, rv a2, .val .null, iv 1, iv 4] [(.ref a2), (.int 4)])) rfl rfl (hb hby d3_30) _ k) ?_
            rw [len_of S126 M126]
            show oF p e below _ (T116.setTop (mkF m 31 #[rv a1, rv a2, .val .null, iv 1, iv 4] [(.int 4), (.int 4)]))
            refine og (fun t k => XS.icmpYes X116.here hx rfl (pc0 := 31) (pc' := 89) rfl (hb hby d3_31) rfl (flt (by decide : ¬ ((4 : Int32) < (4 : Int32)))).2.1 (by decide) (by decide) k) ?_
            show oF p e below _ (T116.setTop (mkF m 89 #[rv a1, rv a2, .val .null, iv 1, iv 4] []))
            exact oo X116 (fun _ => rfl) Bd.notSynchronized (fun fs hr => X116.returnOut hx Bd.returns (hb hby d3_89) hr) (by rw [e116]; exact ⟨rfl, N116, K125, f120, f117, _, _, sz_b21, f118, (by rw [show (own_b1 w0 w1) = (1 : Int32) from by simp_all [own_b1]]; rw [show (own_b2 w0 w1 w2) = (2 : Int32) from by simp_all [own_b2]]; rw [show (own_b3 w0 w1 w2 w3) = (1 : Int32) from by simp_all [own_b3]]; exact f123)⟩) (by decide) (by decide)
          · skip
            refine og (fun t k => XS.ifYes X110.here hx rfl (pc0 := 69) (pc' := 75) rfl (hb hby d3_69) rfl ((if0 _ _).trans (feq (fun q => hc114 ((lw_eq _ _).mp q))).2) (by decide) (by decide) (XS.aloadN X110.here hx rfl (hb hby d3_75) rfl rfl k)) ?_
            show oF p e below _ (T110.setTop (mkF m 76 #[rv a1, rv a2, .val .null, iv 0, iv 3] [(.ref a1)]))
            obtain ⟨T127, X127, e127, st127⟩ := getF X110 hx hZ hown (host := "") (Or.inl hw_22) Via.refl e110 f65 (g := (mkF m 76 #[rv a1, rv a2, .val .null, iv 0, iv 3] [(.ref a1)])) rfl rfl (hb hby d3_76)
            refine og st127 ?_
            show oF p e below _ (T127.setTop (mkF m 79 #[rv a1, rv a2, .val .null, iv 0, iv 3] [(.ref b21)]))
            refine og (fun t k => XS.iload X127.here hx rfl (hb hby d3_79) rfl (XS.iloadN X127.here hx rfl (hb hby d3_81) rfl k)) ?_
            show oF p e below _ (T127.setTop (mkF m 82 #[rv a1, rv a2, .val .null, iv 0, iv 3] [(.int 0), (.int 3), (.ref b21)]))
            obtain ⟨cl128, Ar128, q128, S128, M128, H128, G128⟩ := (id f70)
            have hin128 : ¬ ((3 : Int32) < 0 ∨ cl128.slots.size ≤ ((3 : Int32)).toNatClampNeg) := inb_of S128 ⟨by decide, by decide⟩
            obtain ⟨T128, h128, X128, e128, W128, st128⟩ := stI X127 hx hZ e127 Ar128 (j := (3 : Int32)) hin128 (g := (mkF m 82 #[rv a1, rv a2, .val .null, iv 0, iv 3] [(.int 0), (.int 3), (.ref b21)])) rfl rfl (hb hby d3_82)
            have f129 := f64.other W128 (Or.inl ne22)
            have f130 := f65.other W128 (Or.inl ne22)
            have f131 := f66.other W128 (Or.inl ne22)
            have f132 := f67.wr W128
            have f133 := f68.other W128 ne23
            have V128 := Arv.set Ar128 q128 S128 M128 H128 G128 rfl W128 3 rfl (Nat.le_of_ble_eq_true rfl)
            have f135 : Arv Z h128 b21 k21 .int (4 : Int32) [(.int (0 : Int32)), (.int (1 : Int32)), (.int (2 : Int32)), (.int (0 : Int32))] (.int (0 : Int32)) := V128
            have Zh136 : n0 ≤ h128.size := Nat.le_trans Zh71 (Nat.le_of_eq W128.size.symm)
            have N128 := Fr.snoc X128 N63 g_b21
            have K137 := K72.wr W128 (Or.inr sz_b21)
            refine og st128 ?_
            show oF p e below _ (T128.setTop (mkF m 83 #[rv a1, rv a2, .val .null, iv 0, iv 3] []))
            refine og (fun t k => XS.iinc X128.here hx rfl (hb hby d3_83) rfl (l' := #[rv a1, rv a2, .val .null, iv 0, iv 4]) rfl (XS.goto X128.here hx rfl (pc0 := 86) (pc' := 27) rfl (hb hby d3_86) (by decide) (by decide) (XS.iload X128.here hx rfl (hb hby d3_27) rfl (XS.aloadN X128.here hx rfl (hb hby d3_29) rfl rfl k)))) ?_
            show oF p e below _ (T128.setTop (mkF m 30 #[rv a1, rv a2, .val .null, iv 0, iv 4] [(.ref a2), (.int 4)]))
            obtain ⟨cl138, Ar138, q138, S138, M138, H138, G138⟩ := (id f133)
            refine og (fun t k => X128.arraylength hx (by rw [e128]; exact Ar138.1) (State.isArrayOf_alike hZ.alike Ar138.2.1) (g := (mkF m 30 #[rv a1, rv a2, .val .null, iv 0, iv 4] [(.ref a2), (.int 4)])) rfl rfl (hb hby d3_30) _ k) ?_
            rw [len_of S138 M138]
            show oF p e below _ (T128.setTop (mkF m 31 #[rv a1, rv a2, .val .null, iv 0, iv 4] [(.int 4), (.int 4)]))
            refine og (fun t k => XS.icmpYes X128.here hx rfl (pc0 := 31) (pc' := 89) rfl (hb hby d3_31) rfl (flt (by decide : ¬ ((4 : Int32) < (4 : Int32)))).2.1 (by decide) (by decide) k) ?_
            show oF p e below _ (T128.setTop (mkF m 89 #[rv a1, rv a2, .val .null, iv 0, iv 4] []))
            exact oo X128 (fun _ => rfl) Bd.notSynchronized (fun fs hr => X128.returnOut hx Bd.returns (hb hby d3_89) hr) (by rw [e128]; exact ⟨rfl, N128, K137, f132, f129, _, _, sz_b21, f130, (by rw [show (own_b1 w0 w1) = (1 : Int32) from by simp_all [own_b1]]; rw [show (own_b2 w0 w1 w2) = (2 : Int32) from by simp_all [own_b2]]; rw [show (own_b3 w0 w1 w2 w3) = (0 : Int32) from by simp_all [own_b3]]; exact f135)⟩) (by decide) (by decide)
    · skip
      refine og (fun t k => XS.ifNo X46.here hx rfl (hb hby d3_46) rfl ((if0 _ _).trans (feq (fun q => hc59 ((lw_eq _ _).mp q))).1) (XS.aloadN X46.here hx rfl (hb hby d3_49) rfl rfl k)) ?_
      show oF p e below _ (T46.setTop (mkF m 50 #[rv a1, rv a2, .val .null, iv 1, iv 2] [(.ref a1)]))
      obtain ⟨T139, X139, e139, st139⟩ := getF X46 hx hZ hown (host := "") (Or.inl hw_22) Via.refl e46 f48 (g := (mkF m 50 #[rv a1, rv a2, .val .null, iv 1, iv 2] [(.ref a1)])) rfl rfl (hb hby d3_50)
      refine og st139 ?_
      show oF p e below _ (T139.setTop (mkF m 53 #[rv a1, rv a2, .val .null, iv 1, iv 2] [(.ref b21)]))
      refine og (fun t k => XS.iloadN X139.here hx rfl (hb hby d3_53) rfl (XS.iconst X139.here hx rfl (hb hby d3_54) (XS.isub X139.here hx rfl (hb hby d3_55) rfl k))) ?_
      show oF p e below _ (T139.setTop (mkF m 56 #[rv a1, rv a2, .val .null, iv 1, iv 2] [(.int 0), (.ref b21)]))
      obtain ⟨cl140, Ar140, q140, S140, M140, H140, G140⟩ := (id f53)
      have hin140 : ¬ ((0 : Int32) < 0 ∨ cl140.slots.size ≤ ((0 : Int32)).toNatClampNeg) := inb_of S140 ⟨by decide, by decide⟩
      have hat140 : cl140.slots[((0 : Int32)).toNatClampNeg]? = some (.int (0 : Int32)) := H140.at hin140 rfl
      refine og (fun t k => X139.iaload hx (j := (0 : Int32)) (v := (.int (0 : Int32))) (by rw [e139]; exact Ar140.1) (State.isArrayOf_alike hZ.alike Ar140.2.1) Ar140.2.2 hin140 hat140 (g := (mkF m 56 #[rv a1, rv a2, .val .null, iv 1, iv 2] [(.int 0), (.ref b21)])) rfl rfl (hb hby d3_56) _ (XS.istoreN X139.here hx rfl (hb hby d3_57) rfl (l' := #[rv a1, rv a2, .val .null, iv 0, iv 2]) rfl (XS.goto X139.here hx rfl (pc0 := 58) (pc' := 34) rfl (hb hby d3_58) (by decide) (by decide) (XS.iloadN X139.here hx rfl (hb hby d3_34) rfl k)))) ?_
      show oF p e below _ (T139.setTop (mkF m 35 #[rv a1, rv a2, .val .null, iv 0, iv 2] [(.int 0)]))
      refine og (fun t k => XS.ifYes X139.here hx rfl (pc0 := 35) (pc' := 61) rfl (hb hby d3_35) rfl ((if0 _ _).trans (flt (by decide : ¬ ((0 : Int32) < (0 : Int32)))).2.2.2) (by decide) (by decide) (XS.aloadN X139.here hx rfl (hb hby d3_61) rfl rfl (XS.iload X139.here hx rfl (hb hby d3_62) rfl k))) ?_
      show oF p e below _ (T139.setTop (mkF m 64 #[rv a1, rv a2, .val .null, iv 0, iv 2] [(.int 2), (.ref a2)]))
      obtain ⟨cl141, Ar141, q141, S141, M141, H141, G141⟩ := (id f51)
      have hin141 : ¬ ((2 : Int32) < 0 ∨ cl141.slots.size ≤ ((2 : Int32)).toNatClampNeg) := inb_of S141 ⟨by decide, by decide⟩
      have hat141 : cl141.slots[((2 : Int32)).toNatClampNeg]? = some (.long w2) := H141.at hin141 rfl
      refine og (fun t k => X139.laload hx (j := (2 : Int32)) (v := (.long w2)) (by rw [e139]; exact Ar141.1) (State.isArrayOf_alike hZ.alike Ar141.2.1) Ar141.2.2 hin141 hat141 (g := (mkF m 64 #[rv a1, rv a2, .val .null, iv 0, iv 2] [(.int 2), (.ref a2)])) rfl rfl (hb hby d3_64) _ (XS.aloadN X139.here hx rfl (hb hby d3_65) rfl rfl (XS.iloadN X139.here hx rfl (hb hby d3_66) rfl k))) ?_
      show oF p e below _ (T139.setTop (mkF m 67 #[rv a1, rv a2, .val .null, iv 0, iv 2] [(.int 0), (.ref a2), (.long w2)]))
      obtain ⟨cl142, Ar142, q142, S142, M142, H142, G142⟩ := (id f51)
      have hin142 : ¬ ((0 : Int32) < 0 ∨ cl142.slots.size ≤ ((0 : Int32)).toNatClampNeg) := inb_of S142 ⟨by decide, by decide⟩
      have hat142 : cl142.slots[((0 : Int32)).toNatClampNeg]? = some (.long w0) := H142.at hin142 rfl
      refine og (fun t k => X139.laload hx (j := (0 : Int32)) (v := (.long w0)) (by rw [e139]; exact Ar142.1) (State.isArrayOf_alike hZ.alike Ar142.2.1) Ar142.2.2 hin142 hat142 (g := (mkF m 67 #[rv a1, rv a2, .val .null, iv 0, iv 2] [(.int 0), (.ref a2), (.long w2)])) rfl rfl (hb hby d3_67) _ (XS.lcmp X139.here hx rfl (hb hby d3_68) rfl k)) ?_
      show oF p e below _ (T139.setTop (mkF m 69 #[rv a1, rv a2, .val .null, iv 0, iv 2] [(.int (lcmpW w2 w0))]))
      by_cases hc143 : w2 = w0
      · skip
        refine og (fun t k => XS.ifNo X139.here hx rfl (hb hby d3_69) rfl ((if0 _ _).trans (teq ((lw_eq _ _).mpr hc143)).2) (XS.iinc X139.here hx rfl (hb hby d3_72) rfl (l' := #[rv a1, rv a2, .val .null, iv 1, iv 2]) rfl (XS.aloadN X139.here hx rfl (hb hby d3_75) rfl rfl k))) ?_
        show oF p e below _ (T139.setTop (mkF m 76 #[rv a1, rv a2, .val .null, iv 1, iv 2] [(.ref a1)]))
        obtain ⟨T144, X144, e144, st144⟩ := getF X139 hx hZ hown (host := "") (Or.inl hw_22) Via.refl e139 f48 (g := (mkF m 76 #[rv a1, rv a2, .val .null, iv 1, iv 2] [(.ref a1)])) rfl rfl (hb hby d3_76)
        refine og st144 ?_
        show oF p e below _ (T144.setTop (mkF m 79 #[rv a1, rv a2, .val .null, iv 1, iv 2] [(.ref b21)]))
        refine og (fun t k => XS.iload X144.here hx rfl (hb hby d3_79) rfl (XS.iloadN X144.here hx rfl (hb hby d3_81) rfl k)) ?_
        show oF p e below _ (T144.setTop (mkF m 82 #[rv a1, rv a2, .val .null, iv 1, iv 2] [(.int 1), (.int 2), (.ref b21)]))
        obtain ⟨cl145, Ar145, q145, S145, M145, H145, G145⟩ := (id f53)
        have hin145 : ¬ ((2 : Int32) < 0 ∨ cl145.slots.size ≤ ((2 : Int32)).toNatClampNeg) := inb_of S145 ⟨by decide, by decide⟩
        obtain ⟨T145, h145, X145, e145, W145, st145⟩ := stI X144 hx hZ e144 Ar145 (j := (2 : Int32)) hin145 (g := (mkF m 82 #[rv a1, rv a2, .val .null, iv 1, iv 2] [(.int 1), (.int 2), (.ref b21)])) rfl rfl (hb hby d3_82)
        have f146 := f47.other W145 (Or.inl ne22)
        have f147 := f48.other W145 (Or.inl ne22)
        have f148 := f49.other W145 (Or.inl ne22)
        have f149 := f50.wr W145
        have f150 := f51.other W145 ne23
        have V145 := Arv.set Ar145 q145 S145 M145 H145 G145 rfl W145 2 rfl (Nat.le_of_ble_eq_true rfl)
        have f152 : Arv Z h145 b21 k21 .int (4 : Int32) [(.int (0 : Int32)), (.int (1 : Int32)), (.int (1 : Int32)), (.int (0 : Int32))] (.int (0 : Int32)) := V145
        have Zh153 : n0 ≤ h145.size := Nat.le_trans Zh54 (Nat.le_of_eq W145.size.symm)
        have N145 := Fr.snoc X145 N46 g_b21
        have K154 := K55.wr W145 (Or.inr sz_b21)
        refine og st145 ?_
        show oF p e below _ (T145.setTop (mkF m 83 #[rv a1, rv a2, .val .null, iv 1, iv 2] []))
        refine og (fun t k => XS.iinc X145.here hx rfl (hb hby d3_83) rfl (l' := #[rv a1, rv a2, .val .null, iv 1, iv 3]) rfl (XS.goto X145.here hx rfl (pc0 := 86) (pc' := 27) rfl (hb hby d3_86) (by decide) (by decide) (XS.iload X145.here hx rfl (hb hby d3_27) rfl (XS.aloadN X145.here hx rfl (hb hby d3_29) rfl rfl k)))) ?_
        show oF p e below _ (T145.setTop (mkF m 30 #[rv a1, rv a2, .val .null, iv 1, iv 3] [(.ref a2), (.int 3)]))
        obtain ⟨cl155, Ar155, q155, S155, M155, H155, G155⟩ := (id f150)
        refine og (fun t k => X145.arraylength hx (by rw [e145]; exact Ar155.1) (State.isArrayOf_alike hZ.alike Ar155.2.1) (g := (mkF m 30 #[rv a1, rv a2, .val .null, iv 1, iv 3] [(.ref a2), (.int 3)])) rfl rfl (hb hby d3_30) _ k) ?_
        rw [len_of S155 M155]
        show oF p e below _ (T145.setTop (mkF m 31 #[rv a1, rv a2, .val .null, iv 1, iv 3] [(.int 4), (.int 3)]))
        refine og (fun t k => XS.icmpNo X145.here hx rfl (hb hby d3_31) rfl (tlt (by decide : (3 : Int32) < (4 : Int32))).2.1 (XS.iloadN X145.here hx rfl (hb hby d3_34) rfl k)) ?_
        show oF p e below _ (T145.setTop (mkF m 35 #[rv a1, rv a2, .val .null, iv 1, iv 3] [(.int 1)]))
        refine og (fun t k => XS.ifNo X145.here hx rfl (hb hby d3_35) rfl ((if0 _ _).trans (tlt (by decide : (0 : Int32) < (1 : Int32))).2.2.2) (XS.aloadN X145.here hx rfl (hb hby d3_38) rfl rfl (XS.iload X145.here hx rfl (hb hby d3_39) rfl k))) ?_
        show oF p e below _ (T145.setTop (mkF m 41 #[rv a1, rv a2, .val .null, iv 1, iv 3] [(.int 3), (.ref a2)]))
        obtain ⟨cl156, Ar156, q156, S156, M156, H156, G156⟩ := (id f150)
        have hin156 : ¬ ((3 : Int32) < 0 ∨ cl156.slots.size ≤ ((3 : Int32)).toNatClampNeg) := inb_of S156 ⟨by decide, by decide⟩
        have hat156 : cl156.slots[((3 : Int32)).toNatClampNeg]? = some (.long w3) := H156.at hin156 rfl
        refine og (fun t k => X145.laload hx (j := (3 : Int32)) (v := (.long w3)) (by rw [e145]; exact Ar156.1) (State.isArrayOf_alike hZ.alike Ar156.2.1) Ar156.2.2 hin156 hat156 (g := (mkF m 41 #[rv a1, rv a2, .val .null, iv 1, iv 3] [(.int 3), (.ref a2)])) rfl rfl (hb hby d3_41) _ (XS.aloadN X145.here hx rfl (hb hby d3_42) rfl rfl (XS.iloadN X145.here hx rfl (hb hby d3_43) rfl k))) ?_
        show oF p e below _ (T145.setTop (mkF m 44 #[rv a1, rv a2, .val .null, iv 1, iv 3] [(.int 1), (.ref a2), (.long w3)]))
        obtain ⟨cl157, Ar157, q157, S157, M157, H157, G157⟩ := (id f150)
        have hin157 : ¬ ((1 : Int32) < 0 ∨ cl157.slots.size ≤ ((1 : Int32)).toNatClampNeg) := inb_of S157 ⟨by decide, by decide⟩
        have hat157 : cl157.slots[((1 : Int32)).toNatClampNeg]? = some (.long w1) := H157.at hin157 rfl
        refine og (fun t k => X145.laload hx (j := (1 : Int32)) (v := (.long w1)) (by rw [e145]; exact Ar157.1) (State.isArrayOf_alike hZ.alike Ar157.2.1) Ar157.2.2 hin157 hat157 (g := (mkF m 44 #[rv a1, rv a2, .val .null, iv 1, iv 3] [(.int 1), (.ref a2), (.long w3)])) rfl rfl (hb hby d3_44) _ (XS.lcmp X145.here hx rfl (hb hby d3_45) rfl k)) ?_
        show oF p e below _ (T145.setTop (mkF m 46 #[rv a1, rv a2, .val .null, iv 1, iv 3] [(.int (lcmpW w3 w1))]))
        by_cases hc158 : w3 = w1
        · skip
          refine og (fun t k => XS.ifYes X145.here hx rfl (pc0 := 46) (pc' := 61) rfl (hb hby d3_46) rfl ((if0 _ _).trans (teq ((lw_eq _ _).mpr hc158)).1) (by decide) (by decide) (XS.aloadN X145.here hx rfl (hb hby d3_61) rfl rfl (XS.iload X145.here hx rfl (hb hby d3_62) rfl k))) ?_
          show oF p e below _ (T145.setTop (mkF m 64 #[rv a1, rv a2, .val .null, iv 1, iv 3] [(.int 3), (.ref a2)]))
          obtain ⟨cl159, Ar159, q159, S159, M159, H159, G159⟩ := (id f150)
          have hin159 : ¬ ((3 : Int32) < 0 ∨ cl159.slots.size ≤ ((3 : Int32)).toNatClampNeg) := inb_of S159 ⟨by decide, by decide⟩
          have hat159 : cl159.slots[((3 : Int32)).toNatClampNeg]? = some (.long w3) := H159.at hin159 rfl
          refine og (fun t k => X145.laload hx (j := (3 : Int32)) (v := (.long w3)) (by rw [e145]; exact Ar159.1) (State.isArrayOf_alike hZ.alike Ar159.2.1) Ar159.2.2 hin159 hat159 (g := (mkF m 64 #[rv a1, rv a2, .val .null, iv 1, iv 3] [(.int 3), (.ref a2)])) rfl rfl (hb hby d3_64) _ (XS.aloadN X145.here hx rfl (hb hby d3_65) rfl rfl (XS.iloadN X145.here hx rfl (hb hby d3_66) rfl k))) ?_
          show oF p e below _ (T145.setTop (mkF m 67 #[rv a1, rv a2, .val .null, iv 1, iv 3] [(.int 1), (.ref a2), (.long w3)]))
          obtain ⟨cl160, Ar160, q160, S160, M160, H160, G160⟩ := (id f150)
          have hin160 : ¬ ((1 : Int32) < 0 ∨ cl160.slots.size ≤ ((1 : Int32)).toNatClampNeg) := inb_of S160 ⟨by decide, by decide⟩
          have hat160 : cl160.slots[((1 : Int32)).toNatClampNeg]? = some (.long w1) := H160.at hin160 rfl
          refine og (fun t k => X145.laload hx (j := (1 : Int32)) (v := (.long w1)) (by rw [e145]; exact Ar160.1) (State.isArrayOf_alike hZ.alike Ar160.2.1) Ar160.2.2 hin160 hat160 (g := (mkF m 67 #[rv a1, rv a2, .val .null, iv 1, iv 3] [(.int 1), (.ref a2), (.long w3)])) rfl rfl (hb hby d3_67) _ (XS.lcmp X145.here hx rfl (hb hby d3_68) rfl k)) ?_
          show oF p e below _ (T145.setTop (mkF m 69 #[rv a1, rv a2, .val .null, iv 1, iv 3] [(.int (lcmpW w3 w1))]))
          refine og (fun t k => XS.ifNo X145.here hx rfl (hb hby d3_69) rfl ((if0 _ _).trans (teq ((lw_eq _ _).mpr hc158)).2) (XS.iinc X145.here hx rfl (hb hby d3_72) rfl (l' := #[rv a1, rv a2, .val .null, iv 2, iv 3]) rfl (XS.aloadN X145.here hx rfl (hb hby d3_75) rfl rfl k))) ?_
          show oF p e below _ (T145.setTop (mkF m 76 #[rv a1, rv a2, .val .null, iv 2, iv 3] [(.ref a1)]))
          obtain ⟨T161, X161, e161, st161⟩ := getF X145 hx hZ hown (host := "") (Or.inl hw_22) Via.refl e145 f147 (g := (mkF m 76 #[rv a1, rv a2, .val .null, iv 2, iv 3] [(.ref a1)])) rfl rfl (hb hby d3_76)
          refine og st161 ?_
          show oF p e below _ (T161.setTop (mkF m 79 #[rv a1, rv a2, .val .null, iv 2, iv 3] [(.ref b21)]))
          refine og (fun t k => XS.iload X161.here hx rfl (hb hby d3_79) rfl (XS.iloadN X161.here hx rfl (hb hby d3_81) rfl k)) ?_
          show oF p e below _ (T161.setTop (mkF m 82 #[rv a1, rv a2, .val .null, iv 2, iv 3] [(.int 2), (.int 3), (.ref b21)]))
          obtain ⟨cl162, Ar162, q162, S162, M162, H162, G162⟩ := (id f152)
          have hin162 : ¬ ((3 : Int32) < 0 ∨ cl162.slots.size ≤ ((3 : Int32)).toNatClampNeg) := inb_of S162 ⟨by decide, by decide⟩
          obtain ⟨T162, h162, X162, e162, W162, st162⟩ := stI X161 hx hZ e161 Ar162 (j := (3 : Int32)) hin162 (g := (mkF m 82 #[rv a1, rv a2, .val .null, iv 2, iv 3] [(.int 2), (.int 3), (.ref b21)])) rfl rfl (hb hby d3_82)
          have f163 := f146.other W162 (Or.inl ne22)
          have f164 := f147.other W162 (Or.inl ne22)
          have f165 := f148.other W162 (Or.inl ne22)
          have f166 := f149.wr W162
          have f167 := f150.other W162 ne23
          have V162 := Arv.set Ar162 q162 S162 M162 H162 G162 rfl W162 3 rfl (Nat.le_of_ble_eq_true rfl)
          have f169 : Arv Z h162 b21 k21 .int (4 : Int32) [(.int (0 : Int32)), (.int (1 : Int32)), (.int (1 : Int32)), (.int (2 : Int32))] (.int (0 : Int32)) := V162
          have Zh170 : n0 ≤ h162.size := Nat.le_trans Zh153 (Nat.le_of_eq W162.size.symm)
          have N162 := Fr.snoc X162 N145 g_b21
          have K171 := K154.wr W162 (Or.inr sz_b21)
          refine og st162 ?_
          show oF p e below _ (T162.setTop (mkF m 83 #[rv a1, rv a2, .val .null, iv 2, iv 3] []))
          refine og (fun t k => XS.iinc X162.here hx rfl (hb hby d3_83) rfl (l' := #[rv a1, rv a2, .val .null, iv 2, iv 4]) rfl (XS.goto X162.here hx rfl (pc0 := 86) (pc' := 27) rfl (hb hby d3_86) (by decide) (by decide) (XS.iload X162.here hx rfl (hb hby d3_27) rfl (XS.aloadN X162.here hx rfl (hb hby d3_29) rfl rfl k)))) ?_
          show oF p e below _ (T162.setTop (mkF m 30 #[rv a1, rv a2, .val .null, iv 2, iv 4] [(.ref a2), (.int 4)]))
          obtain ⟨cl172, Ar172, q172, S172, M172, H172, G172⟩ := (id f167)
          refine og (fun t k => X162.arraylength hx (by rw [e162]; exact Ar172.1) (State.isArrayOf_alike hZ.alike Ar172.2.1) (g := (mkF m 30 #[rv a1, rv a2, .val .null, iv 2, iv 4] [(.ref a2), (.int 4)])) rfl rfl (hb hby d3_30) _ k) ?_
          rw [len_of S172 M172]
          show oF p e below _ (T162.setTop (mkF m 31 #[rv a1, rv a2, .val .null, iv 2, iv 4] [(.int 4), (.int 4)]))
          refine og (fun t k => XS.icmpYes X162.here hx rfl (pc0 := 31) (pc' := 89) rfl (hb hby d3_31) rfl (flt (by decide : ¬ ((4 : Int32) < (4 : Int32)))).2.1 (by decide) (by decide) k) ?_
          show oF p e below _ (T162.setTop (mkF m 89 #[rv a1, rv a2, .val .null, iv 2, iv 4] []))
          exact oo X162 (fun _ => rfl) Bd.notSynchronized (fun fs hr => X162.returnOut hx Bd.returns (hb hby d3_89) hr) (by rw [e162]; exact ⟨rfl, N162, K171, f166, f163, _, _, sz_b21, f164, (by rw [show (own_b1 w0 w1) = (1 : Int32) from by simp_all [own_b1]]; rw [show (own_b2 w0 w1 w2) = (1 : Int32) from by simp_all [own_b2]]; rw [show (own_b3 w0 w1 w2 w3) = (2 : Int32) from by simp_all [own_b3]]; exact f169)⟩) (by decide) (by decide)
        · skip
          refine og (fun t k => XS.ifNo X145.here hx rfl (hb hby d3_46) rfl ((if0 _ _).trans (feq (fun q => hc158 ((lw_eq _ _).mp q))).1) (XS.aloadN X145.here hx rfl (hb hby d3_49) rfl rfl k)) ?_
          show oF p e below _ (T145.setTop (mkF m 50 #[rv a1, rv a2, .val .null, iv 1, iv 3] [(.ref a1)]))
          obtain ⟨T173, X173, e173, st173⟩ := getF X145 hx hZ hown (host := "") (Or.inl hw_22) Via.refl e145 f147 (g := (mkF m 50 #[rv a1, rv a2, .val .null, iv 1, iv 3] [(.ref a1)])) rfl rfl (hb hby d3_50)
          refine og st173 ?_
          show oF p e below _ (T173.setTop (mkF m 53 #[rv a1, rv a2, .val .null, iv 1, iv 3] [(.ref b21)]))
          refine og (fun t k => XS.iloadN X173.here hx rfl (hb hby d3_53) rfl (XS.iconst X173.here hx rfl (hb hby d3_54) (XS.isub X173.here hx rfl (hb hby d3_55) rfl k))) ?_
          show oF p e below _ (T173.setTop (mkF m 56 #[rv a1, rv a2, .val .null, iv 1, iv 3] [(.int 0), (.ref b21)]))
          obtain ⟨cl174, Ar174, q174, S174, M174, H174, G174⟩ := (id f152)
          have hin174 : ¬ ((0 : Int32) < 0 ∨ cl174.slots.size ≤ ((0 : Int32)).toNatClampNeg) := inb_of S174 ⟨by decide, by decide⟩
          have hat174 : cl174.slots[((0 : Int32)).toNatClampNeg]? = some (.int (0 : Int32)) := H174.at hin174 rfl
          refine og (fun t k => X173.iaload hx (j := (0 : Int32)) (v := (.int (0 : Int32))) (by rw [e173]; exact Ar174.1) (State.isArrayOf_alike hZ.alike Ar174.2.1) Ar174.2.2 hin174 hat174 (g := (mkF m 56 #[rv a1, rv a2, .val .null, iv 1, iv 3] [(.int 0), (.ref b21)])) rfl rfl (hb hby d3_56) _ (XS.istoreN X173.here hx rfl (hb hby d3_57) rfl (l' := #[rv a1, rv a2, .val .null, iv 0, iv 3]) rfl (XS.goto X173.here hx rfl (pc0 := 58) (pc' := 34) rfl (hb hby d3_58) (by decide) (by decide) (XS.iloadN X173.here hx rfl (hb hby d3_34) rfl k)))) ?_
          show oF p e below _ (T173.setTop (mkF m 35 #[rv a1, rv a2, .val .null, iv 0, iv 3] [(.int 0)]))
          refine og (fun t k => XS.ifYes X173.here hx rfl (pc0 := 35) (pc' := 61) rfl (hb hby d3_35) rfl ((if0 _ _).trans (flt (by decide : ¬ ((0 : Int32) < (0 : Int32)))).2.2.2) (by decide) (by decide) (XS.aloadN X173.here hx rfl (hb hby d3_61) rfl rfl (XS.iload X173.here hx rfl (hb hby d3_62) rfl k))) ?_
          show oF p e below _ (T173.setTop (mkF m 64 #[rv a1, rv a2, .val .null, iv 0, iv 3] [(.int 3), (.ref a2)]))
          obtain ⟨cl175, Ar175, q175, S175, M175, H175, G175⟩ := (id f150)
          have hin175 : ¬ ((3 : Int32) < 0 ∨ cl175.slots.size ≤ ((3 : Int32)).toNatClampNeg) := inb_of S175 ⟨by decide, by decide⟩
          have hat175 : cl175.slots[((3 : Int32)).toNatClampNeg]? = some (.long w3) := H175.at hin175 rfl
          refine og (fun t k => X173.laload hx (j := (3 : Int32)) (v := (.long w3)) (by rw [e173]; exact Ar175.1) (State.isArrayOf_alike hZ.alike Ar175.2.1) Ar175.2.2 hin175 hat175 (g := (mkF m 64 #[rv a1, rv a2, .val .null, iv 0, iv 3] [(.int 3), (.ref a2)])) rfl rfl (hb hby d3_64) _ (XS.aloadN X173.here hx rfl (hb hby d3_65) rfl rfl (XS.iloadN X173.here hx rfl (hb hby d3_66) rfl k))) ?_
          show oF p e below _ (T173.setTop (mkF m 67 #[rv a1, rv a2, .val .null, iv 0, iv 3] [(.int 0), (.ref a2), (.long w3)]))
          obtain ⟨cl176, Ar176, q176, S176, M176, H176, G176⟩ := (id f150)
          have hin176 : ¬ ((0 : Int32) < 0 ∨ cl176.slots.size ≤ ((0 : Int32)).toNatClampNeg) := inb_of S176 ⟨by decide, by decide⟩
          have hat176 : cl176.slots[((0 : Int32)).toNatClampNeg]? = some (.long w0) := H176.at hin176 rfl
          refine og (fun t k => X173.laload hx (j := (0 : Int32)) (v := (.long w0)) (by rw [e173]; exact Ar176.1) (State.isArrayOf_alike hZ.alike Ar176.2.1) Ar176.2.2 hin176 hat176 (g := (mkF m 67 #[rv a1, rv a2, .val .null, iv 0, iv 3] [(.int 0), (.ref a2), (.long w3)])) rfl rfl (hb hby d3_67) _ (XS.lcmp X173.here hx rfl (hb hby d3_68) rfl k)) ?_
          show oF p e below _ (T173.setTop (mkF m 69 #[rv a1, rv a2, .val .null, iv 0, iv 3] [(.int (lcmpW w3 w0))]))
          by_cases hc177 : w3 = w0
          · skip
            refine og (fun t k => XS.ifNo X173.here hx rfl (hb hby d3_69) rfl ((if0 _ _).trans (teq ((lw_eq _ _).mpr hc177)).2) (XS.iinc X173.here hx rfl (hb hby d3_72) rfl (l' := #[rv a1, rv a2, .val .null, iv 1, iv 3]) rfl (XS.aloadN X173.here hx rfl (hb hby d3_75) rfl rfl k))) ?_
            show oF p e below _ (T173.setTop (mkF m 76 #[rv a1, rv a2, .val .null, iv 1, iv 3] [(.ref a1)]))
            obtain ⟨T178, X178, e178, st178⟩ := getF X173 hx hZ hown (host := "") (Or.inl hw_22) Via.refl e173 f147 (g := (mkF m 76 #[rv a1, rv a2, .val .null, iv 1, iv 3] [(.ref a1)])) rfl rfl (hb hby d3_76)
            refine og st178 ?_
            show oF p e below _ (T178.setTop (mkF m 79 #[rv a1, rv a2, .val .null, iv 1, iv 3] [(.ref b21)]))
            refine og (fun t k => XS.iload X178.here hx rfl (hb hby d3_79) rfl (XS.iloadN X178.here hx rfl (hb hby d3_81) rfl k)) ?_
            show oF p e below _ (T178.setTop (mkF m 82 #[rv a1, rv a2, .val .null, iv 1, iv 3] [(.int 1), (.int 3), (.ref b21)]))
            obtain ⟨cl179, Ar179, q179, S179, M179, H179, G179⟩ := (id f152)
            have hin179 : ¬ ((3 : Int32) < 0 ∨ cl179.slots.size ≤ ((3 : Int32)).toNatClampNeg) := inb_of S179 ⟨by decide, by decide⟩
            obtain ⟨T179, h179, X179, e179, W179, st179⟩ := stI X178 hx hZ e178 Ar179 (j := (3 : Int32)) hin179 (g := (mkF m 82 #[rv a1, rv a2, .val .null, iv 1, iv 3] [(.int 1), (.int 3), (.ref b21)])) rfl rfl (hb hby d3_82)
            have f180 := f146.other W179 (Or.inl ne22)
            have f181 := f147.other W179 (Or.inl ne22)
            have f182 := f148.other W179 (Or.inl ne22)
            have f183 := f149.wr W179
            have f184 := f150.other W179 ne23
            have V179 := Arv.set Ar179 q179 S179 M179 H179 G179 rfl W179 3 rfl (Nat.le_of_ble_eq_true rfl)
            have f186 : Arv Z h179 b21 k21 .int (4 : Int32) [(.int (0 : Int32)), (.int (1 : Int32)), (.int (1 : Int32)), (.int (1 : Int32))] (.int (0 : Int32)) := V179
            have Zh187 : n0 ≤ h179.size := Nat.le_trans Zh153 (Nat.le_of_eq W179.size.symm)
            have N179 := Fr.snoc X179 N145 g_b21
            have K188 := K154.wr W179 (Or.inr sz_b21)
            refine og st179 ?_
            show oF p e below _ (T179.setTop (mkF m 83 #[rv a1, rv a2, .val .null, iv 1, iv 3] []))
            refine og (fun t k => XS.iinc X179.here hx rfl (hb hby d3_83) rfl (l' := #[rv a1, rv a2, .val .null, iv 1, iv 4]) rfl (XS.goto X179.here hx rfl (pc0 := 86) (pc' := 27) rfl (hb hby d3_86) (by decide) (by decide) (XS.iload X179.here hx rfl (hb hby d3_27) rfl (XS.aloadN X179.here hx rfl (hb hby d3_29) rfl rfl k)))) ?_
            show oF p e below _ (T179.setTop (mkF m 30 #[rv a1, rv a2, .val .null, iv 1, iv 4] [(.ref a2), (.int 4)]))
            obtain ⟨cl189, Ar189, q189, S189, M189, H189, G189⟩ := (id f184)
            refine og (fun t k => X179.arraylength hx (by rw [e179]; exact Ar189.1) (State.isArrayOf_alike hZ.alike Ar189.2.1) (g := (mkF m 30 #[rv a1, rv a2, .val .null, iv 1, iv 4] [(.ref a2), (.int 4)])) rfl rfl (hb hby d3_30) _ k) ?_
            rw [len_of S189 M189]
            show oF p e below _ (T179.setTop (mkF m 31 #[rv a1, rv a2, .val .null, iv 1, iv 4] [(.int 4), (.int 4)]))
            refine og (fun t k => XS.icmpYes X179.here hx rfl (pc0 := 31) (pc' := 89) rfl (hb hby d3_31) rfl (flt (by decide : ¬ ((4 : Int32) < (4 : Int32)))).2.1 (by decide) (by decide) k) ?_
            show oF p e below _ (T179.setTop (mkF m 89 #[rv a1, rv a2, .val .null, iv 1, iv 4] []))
            exact oo X179 (fun _ => rfl) Bd.notSynchronized (fun fs hr => X179.returnOut hx Bd.returns (hb hby d3_89) hr) (by rw [e179]; exact ⟨rfl, N179, K188, f183, f180, _, _, sz_b21, f181, (by rw [show (own_b1 w0 w1) = (1 : Int32) from by simp_all [own_b1]]; rw [show (own_b2 w0 w1 w2) = (1 : Int32) from by simp_all [own_b2]]; rw [show (own_b3 w0 w1 w2 w3) = (1 : Int32) from by simp_all [own_b3]]; exact f186)⟩) (by decide) (by decide)
          · skip
            refine og (fun t k => XS.ifYes X173.here hx rfl (pc0 := 69) (pc' := 75) rfl (hb hby d3_69) rfl ((if0 _ _).trans (feq (fun q => hc177 ((lw_eq _ _).mp q))).2) (by decide) (by decide) (XS.aloadN X173.here hx rfl (hb hby d3_75) rfl rfl k)) ?_
            show oF p e below _ (T173.setTop (mkF m 76 #[rv a1, rv a2, .val .null, iv 0, iv 3] [(.ref a1)]))
            obtain ⟨T190, X190, e190, st190⟩ := getF X173 hx hZ hown (host := "") (Or.inl hw_22) Via.refl e173 f147 (g := (mkF m 76 #[rv a1, rv a2, .val .null, iv 0, iv 3] [(.ref a1)])) rfl rfl (hb hby d3_76)
            refine og st190 ?_
            show oF p e below _ (T190.setTop (mkF m 79 #[rv a1, rv a2, .val .null, iv 0, iv 3] [(.ref b21)]))
            refine og (fun t k => XS.iload X190.here hx rfl (hb hby d3_79) rfl (XS.iloadN X190.here hx rfl (hb hby d3_81) rfl k)) ?_
            show oF p e below _ (T190.setTop (mkF m 82 #[rv a1, rv a2, .val .null, iv 0, iv 3] [(.int 0), (.int 3), (.ref b21)]))
            obtain ⟨cl191, Ar191, q191, S191, M191, H191, G191⟩ := (id f152)
            have hin191 : ¬ ((3 : Int32) < 0 ∨ cl191.slots.size ≤ ((3 : Int32)).toNatClampNeg) := inb_of S191 ⟨by decide, by decide⟩
            obtain ⟨T191, h191, X191, e191, W191, st191⟩ := stI X190 hx hZ e190 Ar191 (j := (3 : Int32)) hin191 (g := (mkF m 82 #[rv a1, rv a2, .val .null, iv 0, iv 3] [(.int 0), (.int 3), (.ref b21)])) rfl rfl (hb hby d3_82)
            have f192 := f146.other W191 (Or.inl ne22)
            have f193 := f147.other W191 (Or.inl ne22)
            have f194 := f148.other W191 (Or.inl ne22)
            have f195 := f149.wr W191
            have f196 := f150.other W191 ne23
            have V191 := Arv.set Ar191 q191 S191 M191 H191 G191 rfl W191 3 rfl (Nat.le_of_ble_eq_true rfl)
            have f198 : Arv Z h191 b21 k21 .int (4 : Int32) [(.int (0 : Int32)), (.int (1 : Int32)), (.int (1 : Int32)), (.int (0 : Int32))] (.int (0 : Int32)) := V191
            have Zh199 : n0 ≤ h191.size := Nat.le_trans Zh153 (Nat.le_of_eq W191.size.symm)
            have N191 := Fr.snoc X191 N145 g_b21
            have K200 := K154.wr W191 (Or.inr sz_b21)
            refine og st191 ?_
            show oF p e below _ (T191.setTop (mkF m 83 #[rv a1, rv a2, .val .null, iv 0, iv 3] []))
            refine og (fun t k => XS.iinc X191.here hx rfl (hb hby d3_83) rfl (l' := #[rv a1, rv a2, .val .null, iv 0, iv 4]) rfl (XS.goto X191.here hx rfl (pc0 := 86) (pc' := 27) rfl (hb hby d3_86) (by decide) (by decide) (XS.iload X191.here hx rfl (hb hby d3_27) rfl (XS.aloadN X191.here hx rfl (hb hby d3_29) rfl rfl k)))) ?_
            show oF p e below _ (T191.setTop (mkF m 30 #[rv a1, rv a2, .val .null, iv 0, iv 4] [(.ref a2), (.int 4)]))
            obtain ⟨cl201, Ar201, q201, S201, M201, H201, G201⟩ := (id f196)
            refine og (fun t k => X191.arraylength hx (by rw [e191]; exact Ar201.1) (State.isArrayOf_alike hZ.alike Ar201.2.1) (g := (mkF m 30 #[rv a1, rv a2, .val .null, iv 0, iv 4] [(.ref a2), (.int 4)])) rfl rfl (hb hby d3_30) _ k) ?_
            rw [len_of S201 M201]
            show oF p e below _ (T191.setTop (mkF m 31 #[rv a1, rv a2, .val .null, iv 0, iv 4] [(.int 4), (.int 4)]))
            refine og (fun t k => XS.icmpYes X191.here hx rfl (pc0 := 31) (pc' := 89) rfl (hb hby d3_31) rfl (flt (by decide : ¬ ((4 : Int32) < (4 : Int32)))).2.1 (by decide) (by decide) k) ?_
            show oF p e below _ (T191.setTop (mkF m 89 #[rv a1, rv a2, .val .null, iv 0, iv 4] []))
            exact oo X191 (fun _ => rfl) Bd.notSynchronized (fun fs hr => X191.returnOut hx Bd.returns (hb hby d3_89) hr) (by rw [e191]; exact ⟨rfl, N191, K200, f195, f192, _, _, sz_b21, f193, (by rw [show (own_b1 w0 w1) = (1 : Int32) from by simp_all [own_b1]]; rw [show (own_b2 w0 w1 w2) = (1 : Int32) from by simp_all [own_b2]]; rw [show (own_b3 w0 w1 w2 w3) = (0 : Int32) from by simp_all [own_b3]]; exact f198)⟩) (by decide) (by decide)
      · skip
        refine og (fun t k => XS.ifYes X139.here hx rfl (pc0 := 69) (pc' := 75) rfl (hb hby d3_69) rfl ((if0 _ _).trans (feq (fun q => hc143 ((lw_eq _ _).mp q))).2) (by decide) (by decide) (XS.aloadN X139.here hx rfl (hb hby d3_75) rfl rfl k)) ?_
        show oF p e below _ (T139.setTop (mkF m 76 #[rv a1, rv a2, .val .null, iv 0, iv 2] [(.ref a1)]))
        obtain ⟨T202, X202, e202, st202⟩ := getF X139 hx hZ hown (host := "") (Or.inl hw_22) Via.refl e139 f48 (g := (mkF m 76 #[rv a1, rv a2, .val .null, iv 0, iv 2] [(.ref a1)])) rfl rfl (hb hby d3_76)
        refine og st202 ?_
        show oF p e below _ (T202.setTop (mkF m 79 #[rv a1, rv a2, .val .null, iv 0, iv 2] [(.ref b21)]))
        refine og (fun t k => XS.iload X202.here hx rfl (hb hby d3_79) rfl (XS.iloadN X202.here hx rfl (hb hby d3_81) rfl k)) ?_
        show oF p e below _ (T202.setTop (mkF m 82 #[rv a1, rv a2, .val .null, iv 0, iv 2] [(.int 0), (.int 2), (.ref b21)]))
        obtain ⟨cl203, Ar203, q203, S203, M203, H203, G203⟩ := (id f53)
        have hin203 : ¬ ((2 : Int32) < 0 ∨ cl203.slots.size ≤ ((2 : Int32)).toNatClampNeg) := inb_of S203 ⟨by decide, by decide⟩
        obtain ⟨T203, h203, X203, e203, W203, st203⟩ := stI X202 hx hZ e202 Ar203 (j := (2 : Int32)) hin203 (g := (mkF m 82 #[rv a1, rv a2, .val .null, iv 0, iv 2] [(.int 0), (.int 2), (.ref b21)])) rfl rfl (hb hby d3_82)
        have f204 := f47.other W203 (Or.inl ne22)
        have f205 := f48.other W203 (Or.inl ne22)
        have f206 := f49.other W203 (Or.inl ne22)
        have f207 := f50.wr W203
        have f208 := f51.other W203 ne23
        have V203 := Arv.set Ar203 q203 S203 M203 H203 G203 rfl W203 2 rfl (Nat.le_of_ble_eq_true rfl)
        have f210 : Arv Z h203 b21 k21 .int (4 : Int32) [(.int (0 : Int32)), (.int (1 : Int32)), (.int (0 : Int32)), (.int (0 : Int32))] (.int (0 : Int32)) := V203
        have Zh211 : n0 ≤ h203.size := Nat.le_trans Zh54 (Nat.le_of_eq W203.size.symm)
        have N203 := Fr.snoc X203 N46 g_b21
        have K212 := K55.wr W203 (Or.inr sz_b21)
        refine og st203 ?_
        show oF p e below _ (T203.setTop (mkF m 83 #[rv a1, rv a2, .val .null, iv 0, iv 2] []))
        refine og (fun t k => XS.iinc X203.here hx rfl (hb hby d3_83) rfl (l' := #[rv a1, rv a2, .val .null, iv 0, iv 3]) rfl (XS.goto X203.here hx rfl (pc0 := 86) (pc' := 27) rfl (hb hby d3_86) (by decide) (by decide) (XS.iload X203.here hx rfl (hb hby d3_27) rfl (XS.aloadN X203.here hx rfl (hb hby d3_29) rfl rfl k)))) ?_
        show oF p e below _ (T203.setTop (mkF m 30 #[rv a1, rv a2, .val .null, iv 0, iv 3] [(.ref a2), (.int 3)]))
        obtain ⟨cl213, Ar213, q213, S213, M213, H213, G213⟩ := (id f208)
        refine og (fun t k => X203.arraylength hx (by rw [e203]; exact Ar213.1) (State.isArrayOf_alike hZ.alike Ar213.2.1) (g := (mkF m 30 #[rv a1, rv a2, .val .null, iv 0, iv 3] [(.ref a2), (.int 3)])) rfl rfl (hb hby d3_30) _ k) ?_
        rw [len_of S213 M213]
        show oF p e below _ (T203.setTop (mkF m 31 #[rv a1, rv a2, .val .null, iv 0, iv 3] [(.int 4), (.int 3)]))
        refine og (fun t k => XS.icmpNo X203.here hx rfl (hb hby d3_31) rfl (tlt (by decide : (3 : Int32) < (4 : Int32))).2.1 (XS.iloadN X203.here hx rfl (hb hby d3_34) rfl k)) ?_
        show oF p e below _ (T203.setTop (mkF m 35 #[rv a1, rv a2, .val .null, iv 0, iv 3] [(.int 0)]))
        refine og (fun t k => XS.ifYes X203.here hx rfl (pc0 := 35) (pc' := 61) rfl (hb hby d3_35) rfl ((if0 _ _).trans (flt (by decide : ¬ ((0 : Int32) < (0 : Int32)))).2.2.2) (by decide) (by decide) (XS.aloadN X203.here hx rfl (hb hby d3_61) rfl rfl (XS.iload X203.here hx rfl (hb hby d3_62) rfl k))) ?_
        show oF p e below _ (T203.setTop (mkF m 64 #[rv a1, rv a2, .val .null, iv 0, iv 3] [(.int 3), (.ref a2)]))
        obtain ⟨cl214, Ar214, q214, S214, M214, H214, G214⟩ := (id f208)
        have hin214 : ¬ ((3 : Int32) < 0 ∨ cl214.slots.size ≤ ((3 : Int32)).toNatClampNeg) := inb_of S214 ⟨by decide, by decide⟩
        have hat214 : cl214.slots[((3 : Int32)).toNatClampNeg]? = some (.long w3) := H214.at hin214 rfl
        refine og (fun t k => X203.laload hx (j := (3 : Int32)) (v := (.long w3)) (by rw [e203]; exact Ar214.1) (State.isArrayOf_alike hZ.alike Ar214.2.1) Ar214.2.2 hin214 hat214 (g := (mkF m 64 #[rv a1, rv a2, .val .null, iv 0, iv 3] [(.int 3), (.ref a2)])) rfl rfl (hb hby d3_64) _ (XS.aloadN X203.here hx rfl (hb hby d3_65) rfl rfl (XS.iloadN X203.here hx rfl (hb hby d3_66) rfl k))) ?_
        show oF p e below _ (T203.setTop (mkF m 67 #[rv a1, rv a2, .val .null, iv 0, iv 3] [(.int 0), (.ref a2), (.long w3)]))
        obtain ⟨cl215, Ar215, q215, S215, M215, H215, G215⟩ := (id f208)
        have hin215 : ¬ ((0 : Int32) < 0 ∨ cl215.slots.size ≤ ((0 : Int32)).toNatClampNeg) := inb_of S215 ⟨by decide, by decide⟩
        have hat215 : cl215.slots[((0 : Int32)).toNatClampNeg]? = some (.long w0) := H215.at hin215 rfl
        refine og (fun t k => X203.laload hx (j := (0 : Int32)) (v := (.long w0)) (by rw [e203]; exact Ar215.1) (State.isArrayOf_alike hZ.alike Ar215.2.1) Ar215.2.2 hin215 hat215 (g := (mkF m 67 #[rv a1, rv a2, .val .null, iv 0, iv 3] [(.int 0), (.ref a2), (.long w3)])) rfl rfl (hb hby d3_67) _ (XS.lcmp X203.here hx rfl (hb hby d3_68) rfl k)) ?_
        show oF p e below _ (T203.setTop (mkF m 69 #[rv a1, rv a2, .val .null, iv 0, iv 3] [(.int (lcmpW w3 w0))]))
        by_cases hc216 : w3 = w0
        · skip
          refine og (fun t k => XS.ifNo X203.here hx rfl (hb hby d3_69) rfl ((if0 _ _).trans (teq ((lw_eq _ _).mpr hc216)).2) (XS.iinc X203.here hx rfl (hb hby d3_72) rfl (l' := #[rv a1, rv a2, .val .null, iv 1, iv 3]) rfl (XS.aloadN X203.here hx rfl (hb hby d3_75) rfl rfl k))) ?_
          show oF p e below _ (T203.setTop (mkF m 76 #[rv a1, rv a2, .val .null, iv 1, iv 3] [(.ref a1)]))
          obtain ⟨T217, X217, e217, st217⟩ := getF X203 hx hZ hown (host := "") (Or.inl hw_22) Via.refl e203 f205 (g := (mkF m 76 #[rv a1, rv a2, .val .null, iv 1, iv 3] [(.ref a1)])) rfl rfl (hb hby d3_76)
          refine og st217 ?_
          show oF p e below _ (T217.setTop (mkF m 79 #[rv a1, rv a2, .val .null, iv 1, iv 3] [(.ref b21)]))
          refine og (fun t k => XS.iload X217.here hx rfl (hb hby d3_79) rfl (XS.iloadN X217.here hx rfl (hb hby d3_81) rfl k)) ?_
          show oF p e below _ (T217.setTop (mkF m 82 #[rv a1, rv a2, .val .null, iv 1, iv 3] [(.int 1), (.int 3), (.ref b21)]))
          obtain ⟨cl218, Ar218, q218, S218, M218, H218, G218⟩ := (id f210)
          have hin218 : ¬ ((3 : Int32) < 0 ∨ cl218.slots.size ≤ ((3 : Int32)).toNatClampNeg) := inb_of S218 ⟨by decide, by decide⟩
          obtain ⟨T218, h218, X218, e218, W218, st218⟩ := stI X217 hx hZ e217 Ar218 (j := (3 : Int32)) hin218 (g := (mkF m 82 #[rv a1, rv a2, .val .null, iv 1, iv 3] [(.int 1), (.int 3), (.ref b21)])) rfl rfl (hb hby d3_82)
          have f219 := f204.other W218 (Or.inl ne22)
          have f220 := f205.other W218 (Or.inl ne22)
          have f221 := f206.other W218 (Or.inl ne22)
          have f222 := f207.wr W218
          have f223 := f208.other W218 ne23
          have V218 := Arv.set Ar218 q218 S218 M218 H218 G218 rfl W218 3 rfl (Nat.le_of_ble_eq_true rfl)
          have f225 : Arv Z h218 b21 k21 .int (4 : Int32) [(.int (0 : Int32)), (.int (1 : Int32)), (.int (0 : Int32)), (.int (1 : Int32))] (.int (0 : Int32)) := V218
          have Zh226 : n0 ≤ h218.size := Nat.le_trans Zh211 (Nat.le_of_eq W218.size.symm)
          have N218 := Fr.snoc X218 N203 g_b21
          have K227 := K212.wr W218 (Or.inr sz_b21)
          refine og st218 ?_
          show oF p e below _ (T218.setTop (mkF m 83 #[rv a1, rv a2, .val .null, iv 1, iv 3] []))
          refine og (fun t k => XS.iinc X218.here hx rfl (hb hby d3_83) rfl (l' := #[rv a1, rv a2, .val .null, iv 1, iv 4]) rfl (XS.goto X218.here hx rfl (pc0 := 86) (pc' := 27) rfl (hb hby d3_86) (by decide) (by decide) (XS.iload X218.here hx rfl (hb hby d3_27) rfl (XS.aloadN X218.here hx rfl (hb hby d3_29) rfl rfl k)))) ?_
          show oF p e below _ (T218.setTop (mkF m 30 #[rv a1, rv a2, .val .null, iv 1, iv 4] [(.ref a2), (.int 4)]))
          obtain ⟨cl228, Ar228, q228, S228, M228, H228, G228⟩ := (id f223)
          refine og (fun t k => X218.arraylength hx (by rw [e218]; exact Ar228.1) (State.isArrayOf_alike hZ.alike Ar228.2.1) (g := (mkF m 30 #[rv a1, rv a2, .val .null, iv 1, iv 4] [(.ref a2), (.int 4)])) rfl rfl (hb hby d3_30) _ k) ?_
          rw [len_of S228 M228]
          show oF p e below _ (T218.setTop (mkF m 31 #[rv a1, rv a2, .val .null, iv 1, iv 4] [(.int 4), (.int 4)]))
          refine og (fun t k => XS.icmpYes X218.here hx rfl (pc0 := 31) (pc' := 89) rfl (hb hby d3_31) rfl (flt (by decide : ¬ ((4 : Int32) < (4 : Int32)))).2.1 (by decide) (by decide) k) ?_
          show oF p e below _ (T218.setTop (mkF m 89 #[rv a1, rv a2, .val .null, iv 1, iv 4] []))
          exact oo X218 (fun _ => rfl) Bd.notSynchronized (fun fs hr => X218.returnOut hx Bd.returns (hb hby d3_89) hr) (by rw [e218]; exact ⟨rfl, N218, K227, f222, f219, _, _, sz_b21, f220, (by rw [show (own_b1 w0 w1) = (1 : Int32) from by simp_all [own_b1]]; rw [show (own_b2 w0 w1 w2) = (0 : Int32) from by simp_all [own_b2]]; rw [show (own_b3 w0 w1 w2 w3) = (1 : Int32) from by simp_all [own_b3]]; exact f225)⟩) (by decide) (by decide)
        · skip
          refine og (fun t k => XS.ifYes X203.here hx rfl (pc0 := 69) (pc' := 75) rfl (hb hby d3_69) rfl ((if0 _ _).trans (feq (fun q => hc216 ((lw_eq _ _).mp q))).2) (by decide) (by decide) (XS.aloadN X203.here hx rfl (hb hby d3_75) rfl rfl k)) ?_
          show oF p e below _ (T203.setTop (mkF m 76 #[rv a1, rv a2, .val .null, iv 0, iv 3] [(.ref a1)]))
          obtain ⟨T229, X229, e229, st229⟩ := getF X203 hx hZ hown (host := "") (Or.inl hw_22) Via.refl e203 f205 (g := (mkF m 76 #[rv a1, rv a2, .val .null, iv 0, iv 3] [(.ref a1)])) rfl rfl (hb hby d3_76)
          refine og st229 ?_
          show oF p e below _ (T229.setTop (mkF m 79 #[rv a1, rv a2, .val .null, iv 0, iv 3] [(.ref b21)]))
          refine og (fun t k => XS.iload X229.here hx rfl (hb hby d3_79) rfl (XS.iloadN X229.here hx rfl (hb hby d3_81) rfl k)) ?_
          show oF p e below _ (T229.setTop (mkF m 82 #[rv a1, rv a2, .val .null, iv 0, iv 3] [(.int 0), (.int 3), (.ref b21)]))
          obtain ⟨cl230, Ar230, q230, S230, M230, H230, G230⟩ := (id f210)
          have hin230 : ¬ ((3 : Int32) < 0 ∨ cl230.slots.size ≤ ((3 : Int32)).toNatClampNeg) := inb_of S230 ⟨by decide, by decide⟩
          obtain ⟨T230, h230, X230, e230, W230, st230⟩ := stI X229 hx hZ e229 Ar230 (j := (3 : Int32)) hin230 (g := (mkF m 82 #[rv a1, rv a2, .val .null, iv 0, iv 3] [(.int 0), (.int 3), (.ref b21)])) rfl rfl (hb hby d3_82)
          have f231 := f204.other W230 (Or.inl ne22)
          have f232 := f205.other W230 (Or.inl ne22)
          have f233 := f206.other W230 (Or.inl ne22)
          have f234 := f207.wr W230
          have f235 := f208.other W230 ne23
          have V230 := Arv.set Ar230 q230 S230 M230 H230 G230 rfl W230 3 rfl (Nat.le_of_ble_eq_true rfl)
          have f237 : Arv Z h230 b21 k21 .int (4 : Int32) [(.int (0 : Int32)), (.int (1 : Int32)), (.int (0 : Int32)), (.int (0 : Int32))] (.int (0 : Int32)) := V230
          have Zh238 : n0 ≤ h230.size := Nat.le_trans Zh211 (Nat.le_of_eq W230.size.symm)
          have N230 := Fr.snoc X230 N203 g_b21
          have K239 := K212.wr W230 (Or.inr sz_b21)
          refine og st230 ?_
          show oF p e below _ (T230.setTop (mkF m 83 #[rv a1, rv a2, .val .null, iv 0, iv 3] []))
          refine og (fun t k => XS.iinc X230.here hx rfl (hb hby d3_83) rfl (l' := #[rv a1, rv a2, .val .null, iv 0, iv 4]) rfl (XS.goto X230.here hx rfl (pc0 := 86) (pc' := 27) rfl (hb hby d3_86) (by decide) (by decide) (XS.iload X230.here hx rfl (hb hby d3_27) rfl (XS.aloadN X230.here hx rfl (hb hby d3_29) rfl rfl k)))) ?_
          show oF p e below _ (T230.setTop (mkF m 30 #[rv a1, rv a2, .val .null, iv 0, iv 4] [(.ref a2), (.int 4)]))
          obtain ⟨cl240, Ar240, q240, S240, M240, H240, G240⟩ := (id f235)
          refine og (fun t k => X230.arraylength hx (by rw [e230]; exact Ar240.1) (State.isArrayOf_alike hZ.alike Ar240.2.1) (g := (mkF m 30 #[rv a1, rv a2, .val .null, iv 0, iv 4] [(.ref a2), (.int 4)])) rfl rfl (hb hby d3_30) _ k) ?_
          rw [len_of S240 M240]
          show oF p e below _ (T230.setTop (mkF m 31 #[rv a1, rv a2, .val .null, iv 0, iv 4] [(.int 4), (.int 4)]))
          refine og (fun t k => XS.icmpYes X230.here hx rfl (pc0 := 31) (pc' := 89) rfl (hb hby d3_31) rfl (flt (by decide : ¬ ((4 : Int32) < (4 : Int32)))).2.1 (by decide) (by decide) k) ?_
          show oF p e below _ (T230.setTop (mkF m 89 #[rv a1, rv a2, .val .null, iv 0, iv 4] []))
          exact oo X230 (fun _ => rfl) Bd.notSynchronized (fun fs hr => X230.returnOut hx Bd.returns (hb hby d3_89) hr) (by rw [e230]; exact ⟨rfl, N230, K239, f234, f231, _, _, sz_b21, f232, (by rw [show (own_b1 w0 w1) = (1 : Int32) from by simp_all [own_b1]]; rw [show (own_b2 w0 w1 w2) = (0 : Int32) from by simp_all [own_b2]]; rw [show (own_b3 w0 w1 w2 w3) = (0 : Int32) from by simp_all [own_b3]]; exact f237)⟩) (by decide) (by decide)
  · skip
    refine og (fun t k => XS.ifYes X31.here hx rfl (pc0 := 69) (pc' := 75) rfl (hb hby d3_69) rfl ((if0 _ _).trans (feq (fun q => hc44 ((lw_eq _ _).mp q))).2) (by decide) (by decide) (XS.aloadN X31.here hx rfl (hb hby d3_75) rfl rfl k)) ?_
    show oF p e below _ (T31.setTop (mkF m 76 #[rv a1, rv a2, .val .null, iv 0, iv 1] [(.ref a1)]))
    obtain ⟨T241, X241, e241, st241⟩ := getF X31 hx hZ hown (host := "") (Or.inl hw_22) Via.refl e31 f38 (g := (mkF m 76 #[rv a1, rv a2, .val .null, iv 0, iv 1] [(.ref a1)])) rfl rfl (hb hby d3_76)
    refine og st241 ?_
    show oF p e below _ (T241.setTop (mkF m 79 #[rv a1, rv a2, .val .null, iv 0, iv 1] [(.ref b21)]))
    refine og (fun t k => XS.iload X241.here hx rfl (hb hby d3_79) rfl (XS.iloadN X241.here hx rfl (hb hby d3_81) rfl k)) ?_
    show oF p e below _ (T241.setTop (mkF m 82 #[rv a1, rv a2, .val .null, iv 0, iv 1] [(.int 0), (.int 1), (.ref b21)]))
    obtain ⟨cl242, Ar242, q242, S242, M242, H242, G242⟩ := (id f37)
    have hin242 : ¬ ((1 : Int32) < 0 ∨ cl242.slots.size ≤ ((1 : Int32)).toNatClampNeg) := inb_of S242 ⟨by decide, by decide⟩
    obtain ⟨T242, h242, X242, e242, W242, st242⟩ := stI X241 hx hZ e241 Ar242 (j := (1 : Int32)) hin242 (g := (mkF m 82 #[rv a1, rv a2, .val .null, iv 0, iv 1] [(.int 0), (.int 1), (.ref b21)])) rfl rfl (hb hby d3_82)
    have f243 := f32.other W242 (Or.inl ne22)
    have f244 := f38.other W242 (Or.inl ne22)
    have f245 := f34.other W242 (Or.inl ne22)
    have f246 := f35.wr W242
    have f247 := f36.other W242 ne23
    have V242 := Arv.set Ar242 q242 S242 M242 H242 G242 rfl W242 1 rfl (Nat.le_of_ble_eq_true rfl)
    have f249 : Arv Z h242 b21 k21 .int (4 : Int32) [(.int (0 : Int32)), (.int (0 : Int32)), (.int (0 : Int32)), (.int (0 : Int32))] (.int (0 : Int32)) := V242
    have Zh250 : n0 ≤ h242.size := Nat.le_trans Zh39 (Nat.le_of_eq W242.size.symm)
    have N242 := Fr.snoc X242 N31 g_b21
    have K251 := K40.wr W242 (Or.inr sz_b21)
    refine og st242 ?_
    show oF p e below _ (T242.setTop (mkF m 83 #[rv a1, rv a2, .val .null, iv 0, iv 1] []))
    refine og (fun t k => XS.iinc X242.here hx rfl (hb hby d3_83) rfl (l' := #[rv a1, rv a2, .val .null, iv 0, iv 2]) rfl (XS.goto X242.here hx rfl (pc0 := 86) (pc' := 27) rfl (hb hby d3_86) (by decide) (by decide) (XS.iload X242.here hx rfl (hb hby d3_27) rfl (XS.aloadN X242.here hx rfl (hb hby d3_29) rfl rfl k)))) ?_
    show oF p e below _ (T242.setTop (mkF m 30 #[rv a1, rv a2, .val .null, iv 0, iv 2] [(.ref a2), (.int 2)]))
    obtain ⟨cl252, Ar252, q252, S252, M252, H252, G252⟩ := (id f247)
    refine og (fun t k => X242.arraylength hx (by rw [e242]; exact Ar252.1) (State.isArrayOf_alike hZ.alike Ar252.2.1) (g := (mkF m 30 #[rv a1, rv a2, .val .null, iv 0, iv 2] [(.ref a2), (.int 2)])) rfl rfl (hb hby d3_30) _ k) ?_
    rw [len_of S252 M252]
    show oF p e below _ (T242.setTop (mkF m 31 #[rv a1, rv a2, .val .null, iv 0, iv 2] [(.int 4), (.int 2)]))
    refine og (fun t k => XS.icmpNo X242.here hx rfl (hb hby d3_31) rfl (tlt (by decide : (2 : Int32) < (4 : Int32))).2.1 (XS.iloadN X242.here hx rfl (hb hby d3_34) rfl k)) ?_
    show oF p e below _ (T242.setTop (mkF m 35 #[rv a1, rv a2, .val .null, iv 0, iv 2] [(.int 0)]))
    refine og (fun t k => XS.ifYes X242.here hx rfl (pc0 := 35) (pc' := 61) rfl (hb hby d3_35) rfl ((if0 _ _).trans (flt (by decide : ¬ ((0 : Int32) < (0 : Int32)))).2.2.2) (by decide) (by decide) (XS.aloadN X242.here hx rfl (hb hby d3_61) rfl rfl (XS.iload X242.here hx rfl (hb hby d3_62) rfl k))) ?_
    show oF p e below _ (T242.setTop (mkF m 64 #[rv a1, rv a2, .val .null, iv 0, iv 2] [(.int 2), (.ref a2)]))
    obtain ⟨cl253, Ar253, q253, S253, M253, H253, G253⟩ := (id f247)
    have hin253 : ¬ ((2 : Int32) < 0 ∨ cl253.slots.size ≤ ((2 : Int32)).toNatClampNeg) := inb_of S253 ⟨by decide, by decide⟩
    have hat253 : cl253.slots[((2 : Int32)).toNatClampNeg]? = some (.long w2) := H253.at hin253 rfl
    refine og (fun t k => X242.laload hx (j := (2 : Int32)) (v := (.long w2)) (by rw [e242]; exact Ar253.1) (State.isArrayOf_alike hZ.alike Ar253.2.1) Ar253.2.2 hin253 hat253 (g := (mkF m 64 #[rv a1, rv a2, .val .null, iv 0, iv 2] [(.int 2), (.ref a2)])) rfl rfl (hb hby d3_64) _ (XS.aloadN X242.here hx rfl (hb hby d3_65) rfl rfl (XS.iloadN X242.here hx rfl (hb hby d3_66) rfl k))) ?_
    show oF p e below _ (T242.setTop (mkF m 67 #[rv a1, rv a2, .val .null, iv 0, iv 2] [(.int 0), (.ref a2), (.long w2)]))
    obtain ⟨cl254, Ar254, q254, S254, M254, H254, G254⟩ := (id f247)
    have hin254 : ¬ ((0 : Int32) < 0 ∨ cl254.slots.size ≤ ((0 : Int32)).toNatClampNeg) := inb_of S254 ⟨by decide, by decide⟩
    have hat254 : cl254.slots[((0 : Int32)).toNatClampNeg]? = some (.long w0) := H254.at hin254 rfl
    refine og (fun t k => X242.laload hx (j := (0 : Int32)) (v := (.long w0)) (by rw [e242]; exact Ar254.1) (State.isArrayOf_alike hZ.alike Ar254.2.1) Ar254.2.2 hin254 hat254 (g := (mkF m 67 #[rv a1, rv a2, .val .null, iv 0, iv 2] [(.int 0), (.ref a2), (.long w2)])) rfl rfl (hb hby d3_67) _ (XS.lcmp X242.here hx rfl (hb hby d3_68) rfl k)) ?_
    show oF p e below _ (T242.setTop (mkF m 69 #[rv a1, rv a2, .val .null, iv 0, iv 2] [(.int (lcmpW w2 w0))]))
    by_cases hc255 : w2 = w0
    · skip
      refine og (fun t k => XS.ifNo X242.here hx rfl (hb hby d3_69) rfl ((if0 _ _).trans (teq ((lw_eq _ _).mpr hc255)).2) (XS.iinc X242.here hx rfl (hb hby d3_72) rfl (l' := #[rv a1, rv a2, .val .null, iv 1, iv 2]) rfl (XS.aloadN X242.here hx rfl (hb hby d3_75) rfl rfl k))) ?_
      show oF p e below _ (T242.setTop (mkF m 76 #[rv a1, rv a2, .val .null, iv 1, iv 2] [(.ref a1)]))
      obtain ⟨T256, X256, e256, st256⟩ := getF X242 hx hZ hown (host := "") (Or.inl hw_22) Via.refl e242 f244 (g := (mkF m 76 #[rv a1, rv a2, .val .null, iv 1, iv 2] [(.ref a1)])) rfl rfl (hb hby d3_76)
      refine og st256 ?_
      show oF p e below _ (T256.setTop (mkF m 79 #[rv a1, rv a2, .val .null, iv 1, iv 2] [(.ref b21)]))
      refine og (fun t k => XS.iload X256.here hx rfl (hb hby d3_79) rfl (XS.iloadN X256.here hx rfl (hb hby d3_81) rfl k)) ?_
      show oF p e below _ (T256.setTop (mkF m 82 #[rv a1, rv a2, .val .null, iv 1, iv 2] [(.int 1), (.int 2), (.ref b21)]))
      obtain ⟨cl257, Ar257, q257, S257, M257, H257, G257⟩ := (id f249)
      have hin257 : ¬ ((2 : Int32) < 0 ∨ cl257.slots.size ≤ ((2 : Int32)).toNatClampNeg) := inb_of S257 ⟨by decide, by decide⟩
      obtain ⟨T257, h257, X257, e257, W257, st257⟩ := stI X256 hx hZ e256 Ar257 (j := (2 : Int32)) hin257 (g := (mkF m 82 #[rv a1, rv a2, .val .null, iv 1, iv 2] [(.int 1), (.int 2), (.ref b21)])) rfl rfl (hb hby d3_82)
      have f258 := f243.other W257 (Or.inl ne22)
      have f259 := f244.other W257 (Or.inl ne22)
      have f260 := f245.other W257 (Or.inl ne22)
      have f261 := f246.wr W257
      have f262 := f247.other W257 ne23
      have V257 := Arv.set Ar257 q257 S257 M257 H257 G257 rfl W257 2 rfl (Nat.le_of_ble_eq_true rfl)
      have f264 : Arv Z h257 b21 k21 .int (4 : Int32) [(.int (0 : Int32)), (.int (0 : Int32)), (.int (1 : Int32)), (.int (0 : Int32))] (.int (0 : Int32)) := V257
      have Zh265 : n0 ≤ h257.size := Nat.le_trans Zh250 (Nat.le_of_eq W257.size.symm)
      have N257 := Fr.snoc X257 N242 g_b21
      have K266 := K251.wr W257 (Or.inr sz_b21)
      refine og st257 ?_
      show oF p e below _ (T257.setTop (mkF m 83 #[rv a1, rv a2, .val .null, iv 1, iv 2] []))
      refine og (fun t k => XS.iinc X257.here hx rfl (hb hby d3_83) rfl (l' := #[rv a1, rv a2, .val .null, iv 1, iv 3]) rfl (XS.goto X257.here hx rfl (pc0 := 86) (pc' := 27) rfl (hb hby d3_86) (by decide) (by decide) (XS.iload X257.here hx rfl (hb hby d3_27) rfl (XS.aloadN X257.here hx rfl (hb hby d3_29) rfl rfl k)))) ?_
      show oF p e below _ (T257.setTop (mkF m 30 #[rv a1, rv a2, .val .null, iv 1, iv 3] [(.ref a2), (.int 3)]))
      obtain ⟨cl267, Ar267, q267, S267, M267, H267, G267⟩ := (id f262)
      refine og (fun t k => X257.arraylength hx (by rw [e257]; exact Ar267.1) (State.isArrayOf_alike hZ.alike Ar267.2.1) (g := (mkF m 30 #[rv a1, rv a2, .val .null, iv 1, iv 3] [(.ref a2), (.int 3)])) rfl rfl (hb hby d3_30) _ k) ?_
      rw [len_of S267 M267]
      show oF p e below _ (T257.setTop (mkF m 31 #[rv a1, rv a2, .val .null, iv 1, iv 3] [(.int 4), (.int 3)]))
      refine og (fun t k => XS.icmpNo X257.here hx rfl (hb hby d3_31) rfl (tlt (by decide : (3 : Int32) < (4 : Int32))).2.1 (XS.iloadN X257.here hx rfl (hb hby d3_34) rfl k)) ?_
      show oF p e below _ (T257.setTop (mkF m 35 #[rv a1, rv a2, .val .null, iv 1, iv 3] [(.int 1)]))
      refine og (fun t k => XS.ifNo X257.here hx rfl (hb hby d3_35) rfl ((if0 _ _).trans (tlt (by decide : (0 : Int32) < (1 : Int32))).2.2.2) (XS.aloadN X257.here hx rfl (hb hby d3_38) rfl rfl (XS.iload X257.here hx rfl (hb hby d3_39) rfl k))) ?_
      show oF p e below _ (T257.setTop (mkF m 41 #[rv a1, rv a2, .val .null, iv 1, iv 3] [(.int 3), (.ref a2)]))
      obtain ⟨cl268, Ar268, q268, S268, M268, H268, G268⟩ := (id f262)
      have hin268 : ¬ ((3 : Int32) < 0 ∨ cl268.slots.size ≤ ((3 : Int32)).toNatClampNeg) := inb_of S268 ⟨by decide, by decide⟩
      have hat268 : cl268.slots[((3 : Int32)).toNatClampNeg]? = some (.long w3) := H268.at hin268 rfl
      refine og (fun t k => X257.laload hx (j := (3 : Int32)) (v := (.long w3)) (by rw [e257]; exact Ar268.1) (State.isArrayOf_alike hZ.alike Ar268.2.1) Ar268.2.2 hin268 hat268 (g := (mkF m 41 #[rv a1, rv a2, .val .null, iv 1, iv 3] [(.int 3), (.ref a2)])) rfl rfl (hb hby d3_41) _ (XS.aloadN X257.here hx rfl (hb hby d3_42) rfl rfl (XS.iloadN X257.here hx rfl (hb hby d3_43) rfl k))) ?_
      show oF p e below _ (T257.setTop (mkF m 44 #[rv a1, rv a2, .val .null, iv 1, iv 3] [(.int 1), (.ref a2), (.long w3)]))
      obtain ⟨cl269, Ar269, q269, S269, M269, H269, G269⟩ := (id f262)
      have hin269 : ¬ ((1 : Int32) < 0 ∨ cl269.slots.size ≤ ((1 : Int32)).toNatClampNeg) := inb_of S269 ⟨by decide, by decide⟩
      have hat269 : cl269.slots[((1 : Int32)).toNatClampNeg]? = some (.long w1) := H269.at hin269 rfl
      refine og (fun t k => X257.laload hx (j := (1 : Int32)) (v := (.long w1)) (by rw [e257]; exact Ar269.1) (State.isArrayOf_alike hZ.alike Ar269.2.1) Ar269.2.2 hin269 hat269 (g := (mkF m 44 #[rv a1, rv a2, .val .null, iv 1, iv 3] [(.int 1), (.ref a2), (.long w3)])) rfl rfl (hb hby d3_44) _ (XS.lcmp X257.here hx rfl (hb hby d3_45) rfl k)) ?_
      show oF p e below _ (T257.setTop (mkF m 46 #[rv a1, rv a2, .val .null, iv 1, iv 3] [(.int (lcmpW w3 w1))]))
      by_cases hc270 : w3 = w1
      · skip
        refine og (fun t k => XS.ifYes X257.here hx rfl (pc0 := 46) (pc' := 61) rfl (hb hby d3_46) rfl ((if0 _ _).trans (teq ((lw_eq _ _).mpr hc270)).1) (by decide) (by decide) (XS.aloadN X257.here hx rfl (hb hby d3_61) rfl rfl (XS.iload X257.here hx rfl (hb hby d3_62) rfl k))) ?_
        show oF p e below _ (T257.setTop (mkF m 64 #[rv a1, rv a2, .val .null, iv 1, iv 3] [(.int 3), (.ref a2)]))
        obtain ⟨cl271, Ar271, q271, S271, M271, H271, G271⟩ := (id f262)
        have hin271 : ¬ ((3 : Int32) < 0 ∨ cl271.slots.size ≤ ((3 : Int32)).toNatClampNeg) := inb_of S271 ⟨by decide, by decide⟩
        have hat271 : cl271.slots[((3 : Int32)).toNatClampNeg]? = some (.long w3) := H271.at hin271 rfl
        refine og (fun t k => X257.laload hx (j := (3 : Int32)) (v := (.long w3)) (by rw [e257]; exact Ar271.1) (State.isArrayOf_alike hZ.alike Ar271.2.1) Ar271.2.2 hin271 hat271 (g := (mkF m 64 #[rv a1, rv a2, .val .null, iv 1, iv 3] [(.int 3), (.ref a2)])) rfl rfl (hb hby d3_64) _ (XS.aloadN X257.here hx rfl (hb hby d3_65) rfl rfl (XS.iloadN X257.here hx rfl (hb hby d3_66) rfl k))) ?_
        show oF p e below _ (T257.setTop (mkF m 67 #[rv a1, rv a2, .val .null, iv 1, iv 3] [(.int 1), (.ref a2), (.long w3)]))
        obtain ⟨cl272, Ar272, q272, S272, M272, H272, G272⟩ := (id f262)
        have hin272 : ¬ ((1 : Int32) < 0 ∨ cl272.slots.size ≤ ((1 : Int32)).toNatClampNeg) := inb_of S272 ⟨by decide, by decide⟩
        have hat272 : cl272.slots[((1 : Int32)).toNatClampNeg]? = some (.long w1) := H272.at hin272 rfl
        refine og (fun t k => X257.laload hx (j := (1 : Int32)) (v := (.long w1)) (by rw [e257]; exact Ar272.1) (State.isArrayOf_alike hZ.alike Ar272.2.1) Ar272.2.2 hin272 hat272 (g := (mkF m 67 #[rv a1, rv a2, .val .null, iv 1, iv 3] [(.int 1), (.ref a2), (.long w3)])) rfl rfl (hb hby d3_67) _ (XS.lcmp X257.here hx rfl (hb hby d3_68) rfl k)) ?_
        show oF p e below _ (T257.setTop (mkF m 69 #[rv a1, rv a2, .val .null, iv 1, iv 3] [(.int (lcmpW w3 w1))]))
        refine og (fun t k => XS.ifNo X257.here hx rfl (hb hby d3_69) rfl ((if0 _ _).trans (teq ((lw_eq _ _).mpr hc270)).2) (XS.iinc X257.here hx rfl (hb hby d3_72) rfl (l' := #[rv a1, rv a2, .val .null, iv 2, iv 3]) rfl (XS.aloadN X257.here hx rfl (hb hby d3_75) rfl rfl k))) ?_
        show oF p e below _ (T257.setTop (mkF m 76 #[rv a1, rv a2, .val .null, iv 2, iv 3] [(.ref a1)]))
        obtain ⟨T273, X273, e273, st273⟩ := getF X257 hx hZ hown (host := "") (Or.inl hw_22) Via.refl e257 f259 (g := (mkF m 76 #[rv a1, rv a2, .val .null, iv 2, iv 3] [(.ref a1)])) rfl rfl (hb hby d3_76)
        refine og st273 ?_
        show oF p e below _ (T273.setTop (mkF m 79 #[rv a1, rv a2, .val .null, iv 2, iv 3] [(.ref b21)]))
        refine og (fun t k => XS.iload X273.here hx rfl (hb hby d3_79) rfl (XS.iloadN X273.here hx rfl (hb hby d3_81) rfl k)) ?_
        show oF p e below _ (T273.setTop (mkF m 82 #[rv a1, rv a2, .val .null, iv 2, iv 3] [(.int 2), (.int 3), (.ref b21)]))
        obtain ⟨cl274, Ar274, q274, S274, M274, H274, G274⟩ := (id f264)
        have hin274 : ¬ ((3 : Int32) < 0 ∨ cl274.slots.size ≤ ((3 : Int32)).toNatClampNeg) := inb_of S274 ⟨by decide, by decide⟩
        obtain ⟨T274, h274, X274, e274, W274, st274⟩ := stI X273 hx hZ e273 Ar274 (j := (3 : Int32)) hin274 (g := (mkF m 82 #[rv a1, rv a2, .val .null, iv 2, iv 3] [(.int 2), (.int 3), (.ref b21)])) rfl rfl (hb hby d3_82)
        have f275 := f258.other W274 (Or.inl ne22)
        have f276 := f259.other W274 (Or.inl ne22)
        have f277 := f260.other W274 (Or.inl ne22)
        have f278 := f261.wr W274
        have f279 := f262.other W274 ne23
        have V274 := Arv.set Ar274 q274 S274 M274 H274 G274 rfl W274 3 rfl (Nat.le_of_ble_eq_true rfl)
        have f281 : Arv Z h274 b21 k21 .int (4 : Int32) [(.int (0 : Int32)), (.int (0 : Int32)), (.int (1 : Int32)), (.int (2 : Int32))] (.int (0 : Int32)) := V274
        have Zh282 : n0 ≤ h274.size := Nat.le_trans Zh265 (Nat.le_of_eq W274.size.symm)
        have N274 := Fr.snoc X274 N257 g_b21
        have K283 := K266.wr W274 (Or.inr sz_b21)
        refine og st274 ?_
        show oF p e below _ (T274.setTop (mkF m 83 #[rv a1, rv a2, .val .null, iv 2, iv 3] []))
        refine og (fun t k => XS.iinc X274.here hx rfl (hb hby d3_83) rfl (l' := #[rv a1, rv a2, .val .null, iv 2, iv 4]) rfl (XS.goto X274.here hx rfl (pc0 := 86) (pc' := 27) rfl (hb hby d3_86) (by decide) (by decide) (XS.iload X274.here hx rfl (hb hby d3_27) rfl (XS.aloadN X274.here hx rfl (hb hby d3_29) rfl rfl k)))) ?_
        show oF p e below _ (T274.setTop (mkF m 30 #[rv a1, rv a2, .val .null, iv 2, iv 4] [(.ref a2), (.int 4)]))
        obtain ⟨cl284, Ar284, q284, S284, M284, H284, G284⟩ := (id f279)
        refine og (fun t k => X274.arraylength hx (by rw [e274]; exact Ar284.1) (State.isArrayOf_alike hZ.alike Ar284.2.1) (g := (mkF m 30 #[rv a1, rv a2, .val .null, iv 2, iv 4] [(.ref a2), (.int 4)])) rfl rfl (hb hby d3_30) _ k) ?_
        rw [len_of S284 M284]
        show oF p e below _ (T274.setTop (mkF m 31 #[rv a1, rv a2, .val .null, iv 2, iv 4] [(.int 4), (.int 4)]))
        refine og (fun t k => XS.icmpYes X274.here hx rfl (pc0 := 31) (pc' := 89) rfl (hb hby d3_31) rfl (flt (by decide : ¬ ((4 : Int32) < (4 : Int32)))).2.1 (by decide) (by decide) k) ?_
        show oF p e below _ (T274.setTop (mkF m 89 #[rv a1, rv a2, .val .null, iv 2, iv 4] []))
        exact oo X274 (fun _ => rfl) Bd.notSynchronized (fun fs hr => X274.returnOut hx Bd.returns (hb hby d3_89) hr) (by rw [e274]; exact ⟨rfl, N274, K283, f278, f275, _, _, sz_b21, f276, (by rw [show (own_b1 w0 w1) = (0 : Int32) from by simp_all [own_b1]]; rw [show (own_b2 w0 w1 w2) = (1 : Int32) from by simp_all [own_b2]]; rw [show (own_b3 w0 w1 w2 w3) = (2 : Int32) from by simp_all [own_b3]]; exact f281)⟩) (by decide) (by decide)
      · skip
        refine og (fun t k => XS.ifNo X257.here hx rfl (hb hby d3_46) rfl ((if0 _ _).trans (feq (fun q => hc270 ((lw_eq _ _).mp q))).1) (XS.aloadN X257.here hx rfl (hb hby d3_49) rfl rfl k)) ?_
        show oF p e below _ (T257.setTop (mkF m 50 #[rv a1, rv a2, .val .null, iv 1, iv 3] [(.ref a1)]))
        obtain ⟨T285, X285, e285, st285⟩ := getF X257 hx hZ hown (host := "") (Or.inl hw_22) Via.refl e257 f259 (g := (mkF m 50 #[rv a1, rv a2, .val .null, iv 1, iv 3] [(.ref a1)])) rfl rfl (hb hby d3_50)
        refine og st285 ?_
        show oF p e below _ (T285.setTop (mkF m 53 #[rv a1, rv a2, .val .null, iv 1, iv 3] [(.ref b21)]))
        refine og (fun t k => XS.iloadN X285.here hx rfl (hb hby d3_53) rfl (XS.iconst X285.here hx rfl (hb hby d3_54) (XS.isub X285.here hx rfl (hb hby d3_55) rfl k))) ?_
        show oF p e below _ (T285.setTop (mkF m 56 #[rv a1, rv a2, .val .null, iv 1, iv 3] [(.int 0), (.ref b21)]))
        obtain ⟨cl286, Ar286, q286, S286, M286, H286, G286⟩ := (id f264)
        have hin286 : ¬ ((0 : Int32) < 0 ∨ cl286.slots.size ≤ ((0 : Int32)).toNatClampNeg) := inb_of S286 ⟨by decide, by decide⟩
        have hat286 : cl286.slots[((0 : Int32)).toNatClampNeg]? = some (.int (0 : Int32)) := H286.at hin286 rfl
        refine og (fun t k => X285.iaload hx (j := (0 : Int32)) (v := (.int (0 : Int32))) (by rw [e285]; exact Ar286.1) (State.isArrayOf_alike hZ.alike Ar286.2.1) Ar286.2.2 hin286 hat286 (g := (mkF m 56 #[rv a1, rv a2, .val .null, iv 1, iv 3] [(.int 0), (.ref b21)])) rfl rfl (hb hby d3_56) _ (XS.istoreN X285.here hx rfl (hb hby d3_57) rfl (l' := #[rv a1, rv a2, .val .null, iv 0, iv 3]) rfl (XS.goto X285.here hx rfl (pc0 := 58) (pc' := 34) rfl (hb hby d3_58) (by decide) (by decide) (XS.iloadN X285.here hx rfl (hb hby d3_34) rfl k)))) ?_
        show oF p e below _ (T285.setTop (mkF m 35 #[rv a1, rv a2, .val .null, iv 0, iv 3] [(.int 0)]))
        refine og (fun t k => XS.ifYes X285.here hx rfl (pc0 := 35) (pc' := 61) rfl (hb hby d3_35) rfl ((if0 _ _).trans (flt (by decide : ¬ ((0 : Int32) < (0 : Int32)))).2.2.2) (by decide) (by decide) (XS.aloadN X285.here hx rfl (hb hby d3_61) rfl rfl (XS.iload X285.here hx rfl (hb hby d3_62) rfl k))) ?_
        show oF p e below _ (T285.setTop (mkF m 64 #[rv a1, rv a2, .val .null, iv 0, iv 3] [(.int 3), (.ref a2)]))
        obtain ⟨cl287, Ar287, q287, S287, M287, H287, G287⟩ := (id f262)
        have hin287 : ¬ ((3 : Int32) < 0 ∨ cl287.slots.size ≤ ((3 : Int32)).toNatClampNeg) := inb_of S287 ⟨by decide, by decide⟩
        have hat287 : cl287.slots[((3 : Int32)).toNatClampNeg]? = some (.long w3) := H287.at hin287 rfl
        refine og (fun t k => X285.laload hx (j := (3 : Int32)) (v := (.long w3)) (by rw [e285]; exact Ar287.1) (State.isArrayOf_alike hZ.alike Ar287.2.1) Ar287.2.2 hin287 hat287 (g := (mkF m 64 #[rv a1, rv a2, .val .null, iv 0, iv 3] [(.int 3), (.ref a2)])) rfl rfl (hb hby d3_64) _ (XS.aloadN X285.here hx rfl (hb hby d3_65) rfl rfl (XS.iloadN X285.here hx rfl (hb hby d3_66) rfl k))) ?_
        show oF p e below _ (T285.setTop (mkF m 67 #[rv a1, rv a2, .val .null, iv 0, iv 3] [(.int 0), (.ref a2), (.long w3)]))
        obtain ⟨cl288, Ar288, q288, S288, M288, H288, G288⟩ := (id f262)
        have hin288 : ¬ ((0 : Int32) < 0 ∨ cl288.slots.size ≤ ((0 : Int32)).toNatClampNeg) := inb_of S288 ⟨by decide, by decide⟩
        have hat288 : cl288.slots[((0 : Int32)).toNatClampNeg]? = some (.long w0) := H288.at hin288 rfl
        refine og (fun t k => X285.laload hx (j := (0 : Int32)) (v := (.long w0)) (by rw [e285]; exact Ar288.1) (State.isArrayOf_alike hZ.alike Ar288.2.1) Ar288.2.2 hin288 hat288 (g := (mkF m 67 #[rv a1, rv a2, .val .null, iv 0, iv 3] [(.int 0), (.ref a2), (.long w3)])) rfl rfl (hb hby d3_67) _ (XS.lcmp X285.here hx rfl (hb hby d3_68) rfl k)) ?_
        show oF p e below _ (T285.setTop (mkF m 69 #[rv a1, rv a2, .val .null, iv 0, iv 3] [(.int (lcmpW w3 w0))]))
        by_cases hc289 : w3 = w0
        · skip
          refine og (fun t k => XS.ifNo X285.here hx rfl (hb hby d3_69) rfl ((if0 _ _).trans (teq ((lw_eq _ _).mpr hc289)).2) (XS.iinc X285.here hx rfl (hb hby d3_72) rfl (l' := #[rv a1, rv a2, .val .null, iv 1, iv 3]) rfl (XS.aloadN X285.here hx rfl (hb hby d3_75) rfl rfl k))) ?_
          show oF p e below _ (T285.setTop (mkF m 76 #[rv a1, rv a2, .val .null, iv 1, iv 3] [(.ref a1)]))
          obtain ⟨T290, X290, e290, st290⟩ := getF X285 hx hZ hown (host := "") (Or.inl hw_22) Via.refl e285 f259 (g := (mkF m 76 #[rv a1, rv a2, .val .null, iv 1, iv 3] [(.ref a1)])) rfl rfl (hb hby d3_76)
          refine og st290 ?_
          show oF p e below _ (T290.setTop (mkF m 79 #[rv a1, rv a2, .val .null, iv 1, iv 3] [(.ref b21)]))
          refine og (fun t k => XS.iload X290.here hx rfl (hb hby d3_79) rfl (XS.iloadN X290.here hx rfl (hb hby d3_81) rfl k)) ?_
          show oF p e below _ (T290.setTop (mkF m 82 #[rv a1, rv a2, .val .null, iv 1, iv 3] [(.int 1), (.int 3), (.ref b21)]))
          obtain ⟨cl291, Ar291, q291, S291, M291, H291, G291⟩ := (id f264)
          have hin291 : ¬ ((3 : Int32) < 0 ∨ cl291.slots.size ≤ ((3 : Int32)).toNatClampNeg) := inb_of S291 ⟨by decide, by decide⟩
          obtain ⟨T291, h291, X291, e291, W291, st291⟩ := stI X290 hx hZ e290 Ar291 (j := (3 : Int32)) hin291 (g := (mkF m 82 #[rv a1, rv a2, .val .null, iv 1, iv 3] [(.int 1), (.int 3), (.ref b21)])) rfl rfl (hb hby d3_82)
          have f292 := f258.other W291 (Or.inl ne22)
          have f293 := f259.other W291 (Or.inl ne22)
          have f294 := f260.other W291 (Or.inl ne22)
          have f295 := f261.wr W291
          have f296 := f262.other W291 ne23
          have V291 := Arv.set Ar291 q291 S291 M291 H291 G291 rfl W291 3 rfl (Nat.le_of_ble_eq_true rfl)
          have f298 : Arv Z h291 b21 k21 .int (4 : Int32) [(.int (0 : Int32)), (.int (0 : Int32)), (.int (1 : Int32)), (.int (1 : Int32))] (.int (0 : Int32)) := V291
          have Zh299 : n0 ≤ h291.size := Nat.le_trans Zh265 (Nat.le_of_eq W291.size.symm)
          have N291 := Fr.snoc X291 N257 g_b21
          have K300 := K266.wr W291 (Or.inr sz_b21)
          refine og st291 ?_
          show oF p e below _ (T291.setTop (mkF m 83 #[rv a1, rv a2, .val .null, iv 1, iv 3] []))
          refine og (fun t k => XS.iinc X291.here hx rfl (hb hby d3_83) rfl (l' := #[rv a1, rv a2, .val .null, iv 1, iv 4]) rfl (XS.goto X291.here hx rfl (pc0 := 86) (pc' := 27) rfl (hb hby d3_86) (by decide) (by decide) (XS.iload X291.here hx rfl (hb hby d3_27) rfl (XS.aloadN X291.here hx rfl (hb hby d3_29) rfl rfl k)))) ?_
          show oF p e below _ (T291.setTop (mkF m 30 #[rv a1, rv a2, .val .null, iv 1, iv 4] [(.ref a2), (.int 4)]))
          obtain ⟨cl301, Ar301, q301, S301, M301, H301, G301⟩ := (id f296)
          refine og (fun t k => X291.arraylength hx (by rw [e291]; exact Ar301.1) (State.isArrayOf_alike hZ.alike Ar301.2.1) (g := (mkF m 30 #[rv a1, rv a2, .val .null, iv 1, iv 4] [(.ref a2), (.int 4)])) rfl rfl (hb hby d3_30) _ k) ?_
          rw [len_of S301 M301]
          show oF p e below _ (T291.setTop (mkF m 31 #[rv a1, rv a2, .val .null, iv 1, iv 4] [(.int 4), (.int 4)]))
          refine og (fun t k => XS.icmpYes X291.here hx rfl (pc0 := 31) (pc' := 89) rfl (hb hby d3_31) rfl (flt (by decide : ¬ ((4 : Int32) < (4 : Int32)))).2.1 (by decide) (by decide) k) ?_
          show oF p e below _ (T291.setTop (mkF m 89 #[rv a1, rv a2, .val .null, iv 1, iv 4] []))
          exact oo X291 (fun _ => rfl) Bd.notSynchronized (fun fs hr => X291.returnOut hx Bd.returns (hb hby d3_89) hr) (by rw [e291]; exact ⟨rfl, N291, K300, f295, f292, _, _, sz_b21, f293, (by rw [show (own_b1 w0 w1) = (0 : Int32) from by simp_all [own_b1]]; rw [show (own_b2 w0 w1 w2) = (1 : Int32) from by simp_all [own_b2]]; rw [show (own_b3 w0 w1 w2 w3) = (1 : Int32) from by simp_all [own_b3]]; exact f298)⟩) (by decide) (by decide)
        · skip
          refine og (fun t k => XS.ifYes X285.here hx rfl (pc0 := 69) (pc' := 75) rfl (hb hby d3_69) rfl ((if0 _ _).trans (feq (fun q => hc289 ((lw_eq _ _).mp q))).2) (by decide) (by decide) (XS.aloadN X285.here hx rfl (hb hby d3_75) rfl rfl k)) ?_
          show oF p e below _ (T285.setTop (mkF m 76 #[rv a1, rv a2, .val .null, iv 0, iv 3] [(.ref a1)]))
          obtain ⟨T302, X302, e302, st302⟩ := getF X285 hx hZ hown (host := "") (Or.inl hw_22) Via.refl e285 f259 (g := (mkF m 76 #[rv a1, rv a2, .val .null, iv 0, iv 3] [(.ref a1)])) rfl rfl (hb hby d3_76)
          refine og st302 ?_
          show oF p e below _ (T302.setTop (mkF m 79 #[rv a1, rv a2, .val .null, iv 0, iv 3] [(.ref b21)]))
          refine og (fun t k => XS.iload X302.here hx rfl (hb hby d3_79) rfl (XS.iloadN X302.here hx rfl (hb hby d3_81) rfl k)) ?_
          show oF p e below _ (T302.setTop (mkF m 82 #[rv a1, rv a2, .val .null, iv 0, iv 3] [(.int 0), (.int 3), (.ref b21)]))
          obtain ⟨cl303, Ar303, q303, S303, M303, H303, G303⟩ := (id f264)
          have hin303 : ¬ ((3 : Int32) < 0 ∨ cl303.slots.size ≤ ((3 : Int32)).toNatClampNeg) := inb_of S303 ⟨by decide, by decide⟩
          obtain ⟨T303, h303, X303, e303, W303, st303⟩ := stI X302 hx hZ e302 Ar303 (j := (3 : Int32)) hin303 (g := (mkF m 82 #[rv a1, rv a2, .val .null, iv 0, iv 3] [(.int 0), (.int 3), (.ref b21)])) rfl rfl (hb hby d3_82)
          have f304 := f258.other W303 (Or.inl ne22)
          have f305 := f259.other W303 (Or.inl ne22)
          have f306 := f260.other W303 (Or.inl ne22)
          have f307 := f261.wr W303
          have f308 := f262.other W303 ne23
          have V303 := Arv.set Ar303 q303 S303 M303 H303 G303 rfl W303 3 rfl (Nat.le_of_ble_eq_true rfl)
          have f310 : Arv Z h303 b21 k21 .int (4 : Int32) [(.int (0 : Int32)), (.int (0 : Int32)), (.int (1 : Int32)), (.int (0 : Int32))] (.int (0 : Int32)) := V303
          have Zh311 : n0 ≤ h303.size := Nat.le_trans Zh265 (Nat.le_of_eq W303.size.symm)
          have N303 := Fr.snoc X303 N257 g_b21
          have K312 := K266.wr W303 (Or.inr sz_b21)
          refine og st303 ?_
          show oF p e below _ (T303.setTop (mkF m 83 #[rv a1, rv a2, .val .null, iv 0, iv 3] []))
          refine og (fun t k => XS.iinc X303.here hx rfl (hb hby d3_83) rfl (l' := #[rv a1, rv a2, .val .null, iv 0, iv 4]) rfl (XS.goto X303.here hx rfl (pc0 := 86) (pc' := 27) rfl (hb hby d3_86) (by decide) (by decide) (XS.iload X303.here hx rfl (hb hby d3_27) rfl (XS.aloadN X303.here hx rfl (hb hby d3_29) rfl rfl k)))) ?_
          show oF p e below _ (T303.setTop (mkF m 30 #[rv a1, rv a2, .val .null, iv 0, iv 4] [(.ref a2), (.int 4)]))
          obtain ⟨cl313, Ar313, q313, S313, M313, H313, G313⟩ := (id f308)
          refine og (fun t k => X303.arraylength hx (by rw [e303]; exact Ar313.1) (State.isArrayOf_alike hZ.alike Ar313.2.1) (g := (mkF m 30 #[rv a1, rv a2, .val .null, iv 0, iv 4] [(.ref a2), (.int 4)])) rfl rfl (hb hby d3_30) _ k) ?_
          rw [len_of S313 M313]
          show oF p e below _ (T303.setTop (mkF m 31 #[rv a1, rv a2, .val .null, iv 0, iv 4] [(.int 4), (.int 4)]))
          refine og (fun t k => XS.icmpYes X303.here hx rfl (pc0 := 31) (pc' := 89) rfl (hb hby d3_31) rfl (flt (by decide : ¬ ((4 : Int32) < (4 : Int32)))).2.1 (by decide) (by decide) k) ?_
          show oF p e below _ (T303.setTop (mkF m 89 #[rv a1, rv a2, .val .null, iv 0, iv 4] []))
          exact oo X303 (fun _ => rfl) Bd.notSynchronized (fun fs hr => X303.returnOut hx Bd.returns (hb hby d3_89) hr) (by rw [e303]; exact ⟨rfl, N303, K312, f307, f304, _, _, sz_b21, f305, (by rw [show (own_b1 w0 w1) = (0 : Int32) from by simp_all [own_b1]]; rw [show (own_b2 w0 w1 w2) = (1 : Int32) from by simp_all [own_b2]]; rw [show (own_b3 w0 w1 w2 w3) = (0 : Int32) from by simp_all [own_b3]]; exact f310)⟩) (by decide) (by decide)
    · skip
      refine og (fun t k => XS.ifYes X242.here hx rfl (pc0 := 69) (pc' := 75) rfl (hb hby d3_69) rfl ((if0 _ _).trans (feq (fun q => hc255 ((lw_eq _ _).mp q))).2) (by decide) (by decide) (XS.aloadN X242.here hx rfl (hb hby d3_75) rfl rfl k)) ?_
      show oF p e below _ (T242.setTop (mkF m 76 #[rv a1, rv a2, .val .null, iv 0, iv 2] [(.ref a1)]))
      obtain ⟨T314, X314, e314, st314⟩ := getF X242 hx hZ hown (host := "") (Or.inl hw_22) Via.refl e242 f244 (g := (mkF m 76 #[rv a1, rv a2, .val .null, iv 0, iv 2] [(.ref a1)])) rfl rfl (hb hby d3_76)
      refine og st314 ?_
      show oF p e below _ (T314.setTop (mkF m 79 #[rv a1, rv a2, .val .null, iv 0, iv 2] [(.ref b21)]))
      refine og (fun t k => XS.iload X314.here hx rfl (hb hby d3_79) rfl (XS.iloadN X314.here hx rfl (hb hby d3_81) rfl k)) ?_
      show oF p e below _ (T314.setTop (mkF m 82 #[rv a1, rv a2, .val .null, iv 0, iv 2] [(.int 0), (.int 2), (.ref b21)]))
      obtain ⟨cl315, Ar315, q315, S315, M315, H315, G315⟩ := (id f249)
      have hin315 : ¬ ((2 : Int32) < 0 ∨ cl315.slots.size ≤ ((2 : Int32)).toNatClampNeg) := inb_of S315 ⟨by decide, by decide⟩
      obtain ⟨T315, h315, X315, e315, W315, st315⟩ := stI X314 hx hZ e314 Ar315 (j := (2 : Int32)) hin315 (g := (mkF m 82 #[rv a1, rv a2, .val .null, iv 0, iv 2] [(.int 0), (.int 2), (.ref b21)])) rfl rfl (hb hby d3_82)
      have f316 := f243.other W315 (Or.inl ne22)
      have f317 := f244.other W315 (Or.inl ne22)
      have f318 := f245.other W315 (Or.inl ne22)
      have f319 := f246.wr W315
      have f320 := f247.other W315 ne23
      have V315 := Arv.set Ar315 q315 S315 M315 H315 G315 rfl W315 2 rfl (Nat.le_of_ble_eq_true rfl)
      have f322 : Arv Z h315 b21 k21 .int (4 : Int32) [(.int (0 : Int32)), (.int (0 : Int32)), (.int (0 : Int32)), (.int (0 : Int32))] (.int (0 : Int32)) := V315
      have Zh323 : n0 ≤ h315.size := Nat.le_trans Zh250 (Nat.le_of_eq W315.size.symm)
      have N315 := Fr.snoc X315 N242 g_b21
      have K324 := K251.wr W315 (Or.inr sz_b21)
      refine og st315 ?_
      show oF p e below _ (T315.setTop (mkF m 83 #[rv a1, rv a2, .val .null, iv 0, iv 2] []))
      refine og (fun t k => XS.iinc X315.here hx rfl (hb hby d3_83) rfl (l' := #[rv a1, rv a2, .val .null, iv 0, iv 3]) rfl (XS.goto X315.here hx rfl (pc0 := 86) (pc' := 27) rfl (hb hby d3_86) (by decide) (by decide) (XS.iload X315.here hx rfl (hb hby d3_27) rfl (XS.aloadN X315.here hx rfl (hb hby d3_29) rfl rfl k)))) ?_
      show oF p e below _ (T315.setTop (mkF m 30 #[rv a1, rv a2, .val .null, iv 0, iv 3] [(.ref a2), (.int 3)]))
      obtain ⟨cl325, Ar325, q325, S325, M325, H325, G325⟩ := (id f320)
      refine og (fun t k => X315.arraylength hx (by rw [e315]; exact Ar325.1) (State.isArrayOf_alike hZ.alike Ar325.2.1) (g := (mkF m 30 #[rv a1, rv a2, .val .null, iv 0, iv 3] [(.ref a2), (.int 3)])) rfl rfl (hb hby d3_30) _ k) ?_
      rw [len_of S325 M325]
      show oF p e below _ (T315.setTop (mkF m 31 #[rv a1, rv a2, .val .null, iv 0, iv 3] [(.int 4), (.int 3)]))
      refine og (fun t k => XS.icmpNo X315.here hx rfl (hb hby d3_31) rfl (tlt (by decide : (3 : Int32) < (4 : Int32))).2.1 (XS.iloadN X315.here hx rfl (hb hby d3_34) rfl k)) ?_
      show oF p e below _ (T315.setTop (mkF m 35 #[rv a1, rv a2, .val .null, iv 0, iv 3] [(.int 0)]))
      refine og (fun t k => XS.ifYes X315.here hx rfl (pc0 := 35) (pc' := 61) rfl (hb hby d3_35) rfl ((if0 _ _).trans (flt (by decide : ¬ ((0 : Int32) < (0 : Int32)))).2.2.2) (by decide) (by decide) (XS.aloadN X315.here hx rfl (hb hby d3_61) rfl rfl (XS.iload X315.here hx rfl (hb hby d3_62) rfl k))) ?_
      show oF p e below _ (T315.setTop (mkF m 64 #[rv a1, rv a2, .val .null, iv 0, iv 3] [(.int 3), (.ref a2)]))
      obtain ⟨cl326, Ar326, q326, S326, M326, H326, G326⟩ := (id f320)
      have hin326 : ¬ ((3 : Int32) < 0 ∨ cl326.slots.size ≤ ((3 : Int32)).toNatClampNeg) := inb_of S326 ⟨by decide, by decide⟩
      have hat326 : cl326.slots[((3 : Int32)).toNatClampNeg]? = some (.long w3) := H326.at hin326 rfl
      refine og (fun t k => X315.laload hx (j := (3 : Int32)) (v := (.long w3)) (by rw [e315]; exact Ar326.1) (State.isArrayOf_alike hZ.alike Ar326.2.1) Ar326.2.2 hin326 hat326 (g := (mkF m 64 #[rv a1, rv a2, .val .null, iv 0, iv 3] [(.int 3), (.ref a2)])) rfl rfl (hb hby d3_64) _ (XS.aloadN X315.here hx rfl (hb hby d3_65) rfl rfl (XS.iloadN X315.here hx rfl (hb hby d3_66) rfl k))) ?_
      show oF p e below _ (T315.setTop (mkF m 67 #[rv a1, rv a2, .val .null, iv 0, iv 3] [(.int 0), (.ref a2), (.long w3)]))
      obtain ⟨cl327, Ar327, q327, S327, M327, H327, G327⟩ := (id f320)
      have hin327 : ¬ ((0 : Int32) < 0 ∨ cl327.slots.size ≤ ((0 : Int32)).toNatClampNeg) := inb_of S327 ⟨by decide, by decide⟩
      have hat327 : cl327.slots[((0 : Int32)).toNatClampNeg]? = some (.long w0) := H327.at hin327 rfl
      refine og (fun t k => X315.laload hx (j := (0 : Int32)) (v := (.long w0)) (by rw [e315]; exact Ar327.1) (State.isArrayOf_alike hZ.alike Ar327.2.1) Ar327.2.2 hin327 hat327 (g := (mkF m 67 #[rv a1, rv a2, .val .null, iv 0, iv 3] [(.int 0), (.ref a2), (.long w3)])) rfl rfl (hb hby d3_67) _ (XS.lcmp X315.here hx rfl (hb hby d3_68) rfl k)) ?_
      show oF p e below _ (T315.setTop (mkF m 69 #[rv a1, rv a2, .val .null, iv 0, iv 3] [(.int (lcmpW w3 w0))]))
      by_cases hc328 : w3 = w0
      · skip
        refine og (fun t k => XS.ifNo X315.here hx rfl (hb hby d3_69) rfl ((if0 _ _).trans (teq ((lw_eq _ _).mpr hc328)).2) (XS.iinc X315.here hx rfl (hb hby d3_72) rfl (l' := #[rv a1, rv a2, .val .null, iv 1, iv 3]) rfl (XS.aloadN X315.here hx rfl (hb hby d3_75) rfl rfl k))) ?_
        show oF p e below _ (T315.setTop (mkF m 76 #[rv a1, rv a2, .val .null, iv 1, iv 3] [(.ref a1)]))
        obtain ⟨T329, X329, e329, st329⟩ := getF X315 hx hZ hown (host := "") (Or.inl hw_22) Via.refl e315 f317 (g := (mkF m 76 #[rv a1, rv a2, .val .null, iv 1, iv 3] [(.ref a1)])) rfl rfl (hb hby d3_76)
        refine og st329 ?_
        show oF p e below _ (T329.setTop (mkF m 79 #[rv a1, rv a2, .val .null, iv 1, iv 3] [(.ref b21)]))
        refine og (fun t k => XS.iload X329.here hx rfl (hb hby d3_79) rfl (XS.iloadN X329.here hx rfl (hb hby d3_81) rfl k)) ?_
        show oF p e below _ (T329.setTop (mkF m 82 #[rv a1, rv a2, .val .null, iv 1, iv 3] [(.int 1), (.int 3), (.ref b21)]))
        obtain ⟨cl330, Ar330, q330, S330, M330, H330, G330⟩ := (id f322)
        have hin330 : ¬ ((3 : Int32) < 0 ∨ cl330.slots.size ≤ ((3 : Int32)).toNatClampNeg) := inb_of S330 ⟨by decide, by decide⟩
        obtain ⟨T330, h330, X330, e330, W330, st330⟩ := stI X329 hx hZ e329 Ar330 (j := (3 : Int32)) hin330 (g := (mkF m 82 #[rv a1, rv a2, .val .null, iv 1, iv 3] [(.int 1), (.int 3), (.ref b21)])) rfl rfl (hb hby d3_82)
        have f331 := f316.other W330 (Or.inl ne22)
        have f332 := f317.other W330 (Or.inl ne22)
        have f333 := f318.other W330 (Or.inl ne22)
        have f334 := f319.wr W330
        have f335 := f320.other W330 ne23
        have V330 := Arv.set Ar330 q330 S330 M330 H330 G330 rfl W330 3 rfl (Nat.le_of_ble_eq_true rfl)
        have f337 : Arv Z h330 b21 k21 .int (4 : Int32) [(.int (0 : Int32)), (.int (0 : Int32)), (.int (0 : Int32)), (.int (1 : Int32))] (.int (0 : Int32)) := V330
        have Zh338 : n0 ≤ h330.size := Nat.le_trans Zh323 (Nat.le_of_eq W330.size.symm)
        have N330 := Fr.snoc X330 N315 g_b21
        have K339 := K324.wr W330 (Or.inr sz_b21)
        refine og st330 ?_
        show oF p e below _ (T330.setTop (mkF m 83 #[rv a1, rv a2, .val .null, iv 1, iv 3] []))
        refine og (fun t k => XS.iinc X330.here hx rfl (hb hby d3_83) rfl (l' := #[rv a1, rv a2, .val .null, iv 1, iv 4]) rfl (XS.goto X330.here hx rfl (pc0 := 86) (pc' := 27) rfl (hb hby d3_86) (by decide) (by decide) (XS.iload X330.here hx rfl (hb hby d3_27) rfl (XS.aloadN X330.here hx rfl (hb hby d3_29) rfl rfl k)))) ?_
        show oF p e below _ (T330.setTop (mkF m 30 #[rv a1, rv a2, .val .null, iv 1, iv 4] [(.ref a2), (.int 4)]))
        obtain ⟨cl340, Ar340, q340, S340, M340, H340, G340⟩ := (id f335)
        refine og (fun t k => X330.arraylength hx (by rw [e330]; exact Ar340.1) (State.isArrayOf_alike hZ.alike Ar340.2.1) (g := (mkF m 30 #[rv a1, rv a2, .val .null, iv 1, iv 4] [(.ref a2), (.int 4)])) rfl rfl (hb hby d3_30) _ k) ?_
        rw [len_of S340 M340]
        show oF p e below _ (T330.setTop (mkF m 31 #[rv a1, rv a2, .val .null, iv 1, iv 4] [(.int 4), (.int 4)]))
        refine og (fun t k => XS.icmpYes X330.here hx rfl (pc0 := 31) (pc' := 89) rfl (hb hby d3_31) rfl (flt (by decide : ¬ ((4 : Int32) < (4 : Int32)))).2.1 (by decide) (by decide) k) ?_
        show oF p e below _ (T330.setTop (mkF m 89 #[rv a1, rv a2, .val .null, iv 1, iv 4] []))
        exact oo X330 (fun _ => rfl) Bd.notSynchronized (fun fs hr => X330.returnOut hx Bd.returns (hb hby d3_89) hr) (by rw [e330]; exact ⟨rfl, N330, K339, f334, f331, _, _, sz_b21, f332, (by rw [show (own_b1 w0 w1) = (0 : Int32) from by simp_all [own_b1]]; rw [show (own_b2 w0 w1 w2) = (0 : Int32) from by simp_all [own_b2]]; rw [show (own_b3 w0 w1 w2 w3) = (1 : Int32) from by simp_all [own_b3]]; exact f337)⟩) (by decide) (by decide)
      · skip
        refine og (fun t k => XS.ifYes X315.here hx rfl (pc0 := 69) (pc' := 75) rfl (hb hby d3_69) rfl ((if0 _ _).trans (feq (fun q => hc328 ((lw_eq _ _).mp q))).2) (by decide) (by decide) (XS.aloadN X315.here hx rfl (hb hby d3_75) rfl rfl k)) ?_
        show oF p e below _ (T315.setTop (mkF m 76 #[rv a1, rv a2, .val .null, iv 0, iv 3] [(.ref a1)]))
        obtain ⟨T341, X341, e341, st341⟩ := getF X315 hx hZ hown (host := "") (Or.inl hw_22) Via.refl e315 f317 (g := (mkF m 76 #[rv a1, rv a2, .val .null, iv 0, iv 3] [(.ref a1)])) rfl rfl (hb hby d3_76)
        refine og st341 ?_
        show oF p e below _ (T341.setTop (mkF m 79 #[rv a1, rv a2, .val .null, iv 0, iv 3] [(.ref b21)]))
        refine og (fun t k => XS.iload X341.here hx rfl (hb hby d3_79) rfl (XS.iloadN X341.here hx rfl (hb hby d3_81) rfl k)) ?_
        show oF p e below _ (T341.setTop (mkF m 82 #[rv a1, rv a2, .val .null, iv 0, iv 3] [(.int 0), (.int 3), (.ref b21)]))
        obtain ⟨cl342, Ar342, q342, S342, M342, H342, G342⟩ := (id f322)
        have hin342 : ¬ ((3 : Int32) < 0 ∨ cl342.slots.size ≤ ((3 : Int32)).toNatClampNeg) := inb_of S342 ⟨by decide, by decide⟩
        obtain ⟨T342, h342, X342, e342, W342, st342⟩ := stI X341 hx hZ e341 Ar342 (j := (3 : Int32)) hin342 (g := (mkF m 82 #[rv a1, rv a2, .val .null, iv 0, iv 3] [(.int 0), (.int 3), (.ref b21)])) rfl rfl (hb hby d3_82)
        have f343 := f316.other W342 (Or.inl ne22)
        have f344 := f317.other W342 (Or.inl ne22)
        have f345 := f318.other W342 (Or.inl ne22)
        have f346 := f319.wr W342
        have f347 := f320.other W342 ne23
        have V342 := Arv.set Ar342 q342 S342 M342 H342 G342 rfl W342 3 rfl (Nat.le_of_ble_eq_true rfl)
        have f349 : Arv Z h342 b21 k21 .int (4 : Int32) [(.int (0 : Int32)), (.int (0 : Int32)), (.int (0 : Int32)), (.int (0 : Int32))] (.int (0 : Int32)) := V342
        have Zh350 : n0 ≤ h342.size := Nat.le_trans Zh323 (Nat.le_of_eq W342.size.symm)
        have N342 := Fr.snoc X342 N315 g_b21
        have K351 := K324.wr W342 (Or.inr sz_b21)
        refine og st342 ?_
        show oF p e below _ (T342.setTop (mkF m 83 #[rv a1, rv a2, .val .null, iv 0, iv 3] []))
        refine og (fun t k => XS.iinc X342.here hx rfl (hb hby d3_83) rfl (l' := #[rv a1, rv a2, .val .null, iv 0, iv 4]) rfl (XS.goto X342.here hx rfl (pc0 := 86) (pc' := 27) rfl (hb hby d3_86) (by decide) (by decide) (XS.iload X342.here hx rfl (hb hby d3_27) rfl (XS.aloadN X342.here hx rfl (hb hby d3_29) rfl rfl k)))) ?_
        show oF p e below _ (T342.setTop (mkF m 30 #[rv a1, rv a2, .val .null, iv 0, iv 4] [(.ref a2), (.int 4)]))
        obtain ⟨cl352, Ar352, q352, S352, M352, H352, G352⟩ := (id f347)
        refine og (fun t k => X342.arraylength hx (by rw [e342]; exact Ar352.1) (State.isArrayOf_alike hZ.alike Ar352.2.1) (g := (mkF m 30 #[rv a1, rv a2, .val .null, iv 0, iv 4] [(.ref a2), (.int 4)])) rfl rfl (hb hby d3_30) _ k) ?_
        rw [len_of S352 M352]
        show oF p e below _ (T342.setTop (mkF m 31 #[rv a1, rv a2, .val .null, iv 0, iv 4] [(.int 4), (.int 4)]))
        refine og (fun t k => XS.icmpYes X342.here hx rfl (pc0 := 31) (pc' := 89) rfl (hb hby d3_31) rfl (flt (by decide : ¬ ((4 : Int32) < (4 : Int32)))).2.1 (by decide) (by decide) k) ?_
        show oF p e below _ (T342.setTop (mkF m 89 #[rv a1, rv a2, .val .null, iv 0, iv 4] []))
        exact oo X342 (fun _ => rfl) Bd.notSynchronized (fun fs hr => X342.returnOut hx Bd.returns (hb hby d3_89) hr) (by rw [e342]; exact ⟨rfl, N342, K351, f346, f343, _, _, sz_b21, f344, (by rw [show (own_b1 w0 w1) = (0 : Int32) from by simp_all [own_b1]]; rw [show (own_b2 w0 w1 w2) = (0 : Int32) from by simp_all [own_b2]]; rw [show (own_b3 w0 w1 w2 w3) = (0 : Int32) from by simp_all [own_b3]]; exact f349)⟩) (by decide) (by decide)
abbrev mn_0 : MethodName := ⟨"com/example/sound_verdict/soundverdict/UnitSearch", "<init>", "([JLjava/lang/String;)V"⟩
theorem pd_0 : parseMethodDescriptor "([JLjava/lang/String;)V" = some ⟨[(.array .long), (.object "java/lang/String")], none⟩ := by decide +kernel
theorem d2_0 : decode prog_199_method_1_code 0 = .ok (.aload_n 0, 1) := by decide +kernel
theorem d2_1 : decode prog_199_method_1_code 1 = .ok (.aload_n 1, 1) := by decide +kernel
theorem d2_2 : decode prog_199_method_1_code 2 = .ok (.aconst_null, 1) := by decide +kernel
theorem d2_3 : decode prog_199_method_1_code 3 = .ok (.invokespecial 1, 3) := by decide +kernel
theorem d2_6 : decode prog_199_method_1_code 6 = .ok (.return_, 1) := by decide +kernel
theorem ef_2n1 (m : MethodId) (x0 : Addr) (x1 : Addr)  : entryFrame m #[(.ref x0), (.ref x1)] 2 = mkF m 0 #[rv x0, rv x1] [] := by first | (simp [entryFrame, mkF, argsToLocals, Value.category]; done) | rfl
def own_q2n1 (Z : State) (a1 : Addr) (a2 : Addr) (k2 : ClassId) (w0 : Int64) (h0 : Heap) (n0 : Nat) (v : Option Value) (h : Heap) (L : List Loc) : Prop := v = none ∧ Fr n0 L ∧ Keep h0 h [a1] ∧ Exa Z h a1 "com/example/sound_verdict/soundverdict/UnitSearch" ∧ Fld Z h a1 "com/example/sound_verdict/soundverdict/UnitSearch" "wanted" "[J" (.ref a2) ∧ ∃ (b : Addr) (k : ClassId), h0.size ≤ b ∧ Fld Z h a1 "com/example/sound_verdict/soundverdict/UnitSearch" "border" "[I" (.ref b) ∧ Arv Z h b k .int (1 : Int32) [(.int (0 : Int32))] (.int (0 : Int32))
set_option maxRecDepth 65536 in
set_option maxHeartbeats 40000000 in
theorem rm2n1 (l : Launch) (Z : State) (a0 : Array Value) (hw : ∀ d ∈ tables_1, d.before a0 Z = true) (ws : List Jvm.Cond) (a1 : Addr) (a2 : Addr) (k2 : ClassId) (w0 : Int64) (h0 : Heap) (n0 : Nat) (Z0 : n0 ≤ h0.size) (F_wanted : Fld Z h0 a1 "com/example/sound_verdict/soundverdict/UnitSearch" "wanted" "[J" .null) (F_border : Fld Z h0 a1 "com/example/sound_verdict/soundverdict/UnitSearch" "border" "[I" .null) (F_lead : Fld Z h0 a1 "com/example/sound_verdict/soundverdict/UnitSearch" "lead" "Ljava/lang/String;" .null) (E_a1 : Exa Z h0 a1 "com/example/sound_verdict/soundverdict/UnitSearch") (g_a1 : n0 ≤ a1) (ne12 : a1 ≠ a2) (V_2 : Arv Z h0 a2 k2 .long (1 : Int32) [(.long w0)] (.long (0 : Int64))) :
    MetFree l (⟨"com/example/sound_verdict/soundverdict/UnitSearch", "<init>", "([J)V"⟩ : MethodName) (head1 (Jvm.Cond.code (⟨"com/example/sound_verdict/soundverdict/UnitSearch", "<init>", "([J)V"⟩ : MethodName) prog_199_method_1_code 2 none :: ws) ({ frames := 2, cells := 1, slots := 1, locals := 28 } : Room)) (fun a U => a = #[(.ref a1), (.ref a2)] ∧ Z.Warmed39 U.vm ∧ U.heap = h0) (fun _ _ _ _ _ => True) (fun _ U o U' => ∃ v L, o = .returned v ∧ (own_q2n1 Z a1 a2 k2 w0 h0 n0) v U'.heap L ∧ FrameEnd U o U' L ({ frames := 2, cells := 1, slots := 1, locals := 28 } : Room).cells ({ frames := 2, cells := 1, slots := 1, locals := 28 } : Room).slots) := by
  refine MetFree.of_bodySF (plainFor_of_name pn_1) hisR ?_
  intro p e s m args below meth c s₁ Bd hml0 hP hK
  obtain ⟨rfl, hZ, hh⟩ := hP
  have hx := Bd.exec
  have hby := Bd.bytes
  have hml : c.maxLocals = 2 := hml0
  have hown : s.vm.findClass "com/example/sound_verdict/soundverdict/UnitSearch" = some m.cls := findClass_of_methodNamed Bd.named
  have hnm := (name_of_methodNamed Bd.named Bd.method).1
  have X0 : Stand p l e ({ frames := 2, cells := 1, slots := 1, locals := 28 } : Room) s m #[(.ref a1), (.ref a2)] below meth c s₁ [] 0 0 := Stand.of_body Bd
  have e0 : s₁.heap = h0 := by rw [← hh, Bd.state]; rfl
  have N0 := Fr.nil n0
  have Kz := Keep.refl h0 [a1]
  have hw_7 := hw _ (List.mem_of_getElem? (i := 7) rfl)
  have hw_11 := hw _ (List.mem_of_getElem? (i := 11) rfl)
  have hw_12 := hw _ (List.mem_of_getElem? (i := 12) rfl)
  have hw_13 := hw _ (List.mem_of_getElem? (i := 13) rfl)
  show oF p e below (own_A s ({ frames := 2, cells := 1, slots := 1, locals := 28 } : Room).cells ({ frames := 2, cells := 1, slots := 1, locals := 28 } : Room).slots (own_q2n1 Z a1 a2 k2 w0 h0 n0)) _
  refine og (fun t k => castTop (ef_2n1 m (a1) (a2)) k) ?_
  show oF p e below _ (s₁.setTop (mkF m 0 #[rv a1, rv a2] []))
  refine og (fun t k => XS.aloadN X0.here hx rfl (hb hby d2_0) rfl rfl (XS.aloadN X0.here hx rfl (hb hby d2_1) rfl rfl (XS.aconstNull X0.here hx rfl (hb hby d2_2) k))) ?_
  show oF p e below _ (s₁.setTop (mkF m 3 #[rv a1, rv a2] [.null, (.ref a2), (.ref a1)]))
  obtain ⟨_, _, ⟨T1, L1, k1, n1⟩, -, X1, ⟨Lc1, hQ1, l1, y1, z1⟩, st1⟩ := X0.specialBack hx (y := mn_0) rfl hown (mvT hZ hw_11) (mvT hZ hw_12) (mvT hZ hw_13) (by decide) (backOf (W := 0) (rm3n1 l Z a0 hw [] (a1) (a2) k2 w0 h0 n0 Z0 F_wanted F_border F_lead E_a1 g_a1 ne12 V_2) hZ hw_13 hw_7 (by decide) (by decide)) (g := (mkF m 3 #[rv a1, rv a2] [.null, (.ref a2), (.ref a1)])) rfl (by rw [hml]; rfl) (Steps.refl _) (a := a1) (argsL := [(.ref a2), .null]) (rest := []) (lenOf pd_0 rfl) rfl (by show 2 * 0 + _ ≤ _; exact Nat.le_of_eq rfl) (hb hby d2_3) (fun _ _ => ⟨rfl, e0, (by decide : 0 + 1 ≤ _), (by decide : 0 + 1 ≤ _)⟩)
  dsimp only [Pt.U, Pt.locs, Pt.cells, Pt.slots] at X1 l1 y1 z1 st1 hQ1
  subst l1 y1 z1
  obtain ⟨rfl, N1q, K1, xe1, xw1, b1, kb1, sz1, xb1, V1⟩ := hQ1
  have N1 := Fr.app N0 N1q
  have g_b1 : n0 ≤ b1 := Nat.le_trans Z0 sz1
  have sz_b1 : h0.size ≤ b1 := Nat.le_trans Kz.1 sz1
  have ne2 : a1 ≠ b1 := Nat.ne_of_lt (Nat.lt_of_lt_of_le E_a1.lt sz1)
  have ne3 : a2 ≠ b1 := Nat.ne_of_lt (Nat.lt_of_lt_of_le V_2.lt sz1)
  have f7 := V_2.keep K1 (ninS (Ne.symm ne12) nin0)
  have Zh8 : n0 ≤ T1.heap.size := Nat.le_trans Z0 K1.1
  have K9 := Kz.trans K1 (fun x hx => by cases List.mem_singleton.mp hx; exact Or.inl (List.mem_of_getElem? (i := 0) rfl))
  refine og (fun t k => st1.trans k) ?_
  show oF p e below _ (T1.setTop (mkF m 6 #[rv a1, rv a2] []))
  exact oo X1 (fun _ => rfl) Bd.notSynchronized (fun fs hr => X1.returnOut hx Bd.returns (hb hby d2_6) hr) ⟨rfl, N1, K9, xe1, xw1, _, _, sz_b1, xb1, V1⟩ (by decide) (by decide)
theorem ef_2n2 (m : MethodId) (x0 : Addr) (x1 : Addr)  : entryFrame m #[(.ref x0), (.ref x1)] 2 = mkF m 0 #[rv x0, rv x1] [] := by first | (simp [entryFrame, mkF, argsToLocals, Value.category]; done) | rfl
def own_q2n2 (Z : State) (a1 : Addr) (a2 : Addr) (k2 : ClassId) (w0 w1 : Int64) (h0 : Heap) (n0 : Nat) (v : Option Value) (h : Heap) (L : List Loc) : Prop := v = none ∧ Fr n0 L ∧ Keep h0 h [a1] ∧ Exa Z h a1 "com/example/sound_verdict/soundverdict/UnitSearch" ∧ Fld Z h a1 "com/example/sound_verdict/soundverdict/UnitSearch" "wanted" "[J" (.ref a2) ∧ ∃ (b : Addr) (k : ClassId), h0.size ≤ b ∧ Fld Z h a1 "com/example/sound_verdict/soundverdict/UnitSearch" "border" "[I" (.ref b) ∧ Arv Z h b k .int (2 : Int32) [(.int (0 : Int32)), (.int (own_b1 w0 w1))] (.int (0 : Int32))
set_option maxRecDepth 65536 in
set_option maxHeartbeats 40000000 in
theorem rm2n2 (l : Launch) (Z : State) (a0 : Array Value) (hw : ∀ d ∈ tables_1, d.before a0 Z = true) (ws : List Jvm.Cond) (a1 : Addr) (a2 : Addr) (k2 : ClassId) (w0 w1 : Int64) (h0 : Heap) (n0 : Nat) (Z0 : n0 ≤ h0.size) (F_wanted : Fld Z h0 a1 "com/example/sound_verdict/soundverdict/UnitSearch" "wanted" "[J" .null) (F_border : Fld Z h0 a1 "com/example/sound_verdict/soundverdict/UnitSearch" "border" "[I" .null) (F_lead : Fld Z h0 a1 "com/example/sound_verdict/soundverdict/UnitSearch" "lead" "Ljava/lang/String;" .null) (E_a1 : Exa Z h0 a1 "com/example/sound_verdict/soundverdict/UnitSearch") (g_a1 : n0 ≤ a1) (ne12 : a1 ≠ a2) (V_2 : Arv Z h0 a2 k2 .long (2 : Int32) [(.long w0), (.long w1)] (.long (0 : Int64))) :
    MetFree l (⟨"com/example/sound_verdict/soundverdict/UnitSearch", "<init>", "([J)V"⟩ : MethodName) (head1 (Jvm.Cond.code (⟨"com/example/sound_verdict/soundverdict/UnitSearch", "<init>", "([J)V"⟩ : MethodName) prog_199_method_1_code 2 none :: ws) ({ frames := 2, cells := 1, slots := 2, locals := 28 } : Room)) (fun a U => a = #[(.ref a1), (.ref a2)] ∧ Z.Warmed39 U.vm ∧ U.heap = h0) (fun _ _ _ _ _ => True) (fun _ U o U' => ∃ v L, o = .returned v ∧ (own_q2n2 Z a1 a2 k2 w0 w1 h0 n0) v U'.heap L ∧ FrameEnd U o U' L ({ frames := 2, cells := 1, slots := 2, locals := 28 } : Room).cells ({ frames := 2, cells := 1, slots := 2, locals := 28 } : Room).slots) := by
  refine MetFree.of_bodySF (plainFor_of_name pn_1) hisR ?_
  intro p e s m args below meth c s₁ Bd hml0 hP hK
  obtain ⟨rfl, hZ, hh⟩ := hP
  have hx := Bd.exec
  have hby := Bd.bytes
  have hml : c.maxLocals = 2 := hml0
  have hown : s.vm.findClass "com/example/sound_verdict/soundverdict/UnitSearch" = some m.cls := findClass_of_methodNamed Bd.named
  have hnm := (name_of_methodNamed Bd.named Bd.method).1
  have X0 : Stand p l e ({ frames := 2, cells := 1, slots := 2, locals := 28 } : Room) s m #[(.ref a1), (.ref a2)] below meth c s₁ [] 0 0 := Stand.of_body Bd
  have e0 : s₁.heap = h0 := by rw [← hh, Bd.state]; rfl
  have N0 := Fr.nil n0
  have Kz := Keep.refl h0 [a1]
  have hw_7 := hw _ (List.mem_of_getElem? (i := 7) rfl)
  have hw_11 := hw _ (List.mem_of_getElem? (i := 11) rfl)
  have hw_12 := hw _ (List.mem_of_getElem? (i := 12) rfl)
  have hw_13 := hw _ (List.mem_of_getElem? (i := 13) rfl)
  show oF p e below (own_A s ({ frames := 2, cells := 1, slots := 2, locals := 28 } : Room).cells ({ frames := 2, cells := 1, slots := 2, locals := 28 } : Room).slots (own_q2n2 Z a1 a2 k2 w0 w1 h0 n0)) _
  refine og (fun t k => castTop (ef_2n2 m (a1) (a2)) k) ?_
  show oF p e below _ (s₁.setTop (mkF m 0 #[rv a1, rv a2] []))
  refine og (fun t k => XS.aloadN X0.here hx rfl (hb hby d2_0) rfl rfl (XS.aloadN X0.here hx rfl (hb hby d2_1) rfl rfl (XS.aconstNull X0.here hx rfl (hb hby d2_2) k))) ?_
  show oF p e below _ (s₁.setTop (mkF m 3 #[rv a1, rv a2] [.null, (.ref a2), (.ref a1)]))
  obtain ⟨_, _, ⟨T1, L1, k1, n1⟩, -, X1, ⟨Lc1, hQ1, l1, y1, z1⟩, st1⟩ := X0.specialBack hx (y := mn_0) rfl hown (mvT hZ hw_11) (mvT hZ hw_12) (mvT hZ hw_13) (by decide) (backOf (W := 0) (rm3n2 l Z a0 hw [] (a1) (a2) k2 w0 w1 h0 n0 Z0 F_wanted F_border F_lead E_a1 g_a1 ne12 V_2) hZ hw_13 hw_7 (by decide) (by decide)) (g := (mkF m 3 #[rv a1, rv a2] [.null, (.ref a2), (.ref a1)])) rfl (by rw [hml]; rfl) (Steps.refl _) (a := a1) (argsL := [(.ref a2), .null]) (rest := []) (lenOf pd_0 rfl) rfl (by show 2 * 0 + _ ≤ _; exact Nat.le_of_eq rfl) (hb hby d2_3) (fun _ _ => ⟨rfl, e0, (by decide : 0 + 1 ≤ _), (by decide : 0 + 2 ≤ _)⟩)
  dsimp only [Pt.U, Pt.locs, Pt.cells, Pt.slots] at X1 l1 y1 z1 st1 hQ1
  subst l1 y1 z1
  obtain ⟨rfl, N1q, K1, xe1, xw1, b1, kb1, sz1, xb1, V1⟩ := hQ1
  have N1 := Fr.app N0 N1q
  have g_b1 : n0 ≤ b1 := Nat.le_trans Z0 sz1
  have sz_b1 : h0.size ≤ b1 := Nat.le_trans Kz.1 sz1
  have ne2 : a1 ≠ b1 := Nat.ne_of_lt (Nat.lt_of_lt_of_le E_a1.lt sz1)
  have ne3 : a2 ≠ b1 := Nat.ne_of_lt (Nat.lt_of_lt_of_le V_2.lt sz1)
  have f7 := V_2.keep K1 (ninS (Ne.symm ne12) nin0)
  have Zh8 : n0 ≤ T1.heap.size := Nat.le_trans Z0 K1.1
  have K9 := Kz.trans K1 (fun x hx => by cases List.mem_singleton.mp hx; exact Or.inl (List.mem_of_getElem? (i := 0) rfl))
  refine og (fun t k => st1.trans k) ?_
  show oF p e below _ (T1.setTop (mkF m 6 #[rv a1, rv a2] []))
  exact oo X1 (fun _ => rfl) Bd.notSynchronized (fun fs hr => X1.returnOut hx Bd.returns (hb hby d2_6) hr) ⟨rfl, N1, K9, xe1, xw1, _, _, sz_b1, xb1, V1⟩ (by decide) (by decide)
theorem ef_2n3 (m : MethodId) (x0 : Addr) (x1 : Addr)  : entryFrame m #[(.ref x0), (.ref x1)] 2 = mkF m 0 #[rv x0, rv x1] [] := by first | (simp [entryFrame, mkF, argsToLocals, Value.category]; done) | rfl
def own_q2n3 (Z : State) (a1 : Addr) (a2 : Addr) (k2 : ClassId) (w0 w1 w2 : Int64) (h0 : Heap) (n0 : Nat) (v : Option Value) (h : Heap) (L : List Loc) : Prop := v = none ∧ Fr n0 L ∧ Keep h0 h [a1] ∧ Exa Z h a1 "com/example/sound_verdict/soundverdict/UnitSearch" ∧ Fld Z h a1 "com/example/sound_verdict/soundverdict/UnitSearch" "wanted" "[J" (.ref a2) ∧ ∃ (b : Addr) (k : ClassId), h0.size ≤ b ∧ Fld Z h a1 "com/example/sound_verdict/soundverdict/UnitSearch" "border" "[I" (.ref b) ∧ Arv Z h b k .int (3 : Int32) [(.int (0 : Int32)), (.int (own_b1 w0 w1)), (.int (own_b2 w0 w1 w2))] (.int (0 : Int32))
set_option maxRecDepth 65536 in
set_option maxHeartbeats 40000000 in
theorem rm2n3 (l : Launch) (Z : State) (a0 : Array Value) (hw : ∀ d ∈ tables_1, d.before a0 Z = true) (ws : List Jvm.Cond) (a1 : Addr) (a2 : Addr) (k2 : ClassId) (w0 w1 w2 : Int64) (h0 : Heap) (n0 : Nat) (Z0 : n0 ≤ h0.size) (F_wanted : Fld Z h0 a1 "com/example/sound_verdict/soundverdict/UnitSearch" "wanted" "[J" .null) (F_border : Fld Z h0 a1 "com/example/sound_verdict/soundverdict/UnitSearch" "border" "[I" .null) (F_lead : Fld Z h0 a1 "com/example/sound_verdict/soundverdict/UnitSearch" "lead" "Ljava/lang/String;" .null) (E_a1 : Exa Z h0 a1 "com/example/sound_verdict/soundverdict/UnitSearch") (g_a1 : n0 ≤ a1) (ne12 : a1 ≠ a2) (V_2 : Arv Z h0 a2 k2 .long (3 : Int32) [(.long w0), (.long w1), (.long w2)] (.long (0 : Int64))) :
    MetFree l (⟨"com/example/sound_verdict/soundverdict/UnitSearch", "<init>", "([J)V"⟩ : MethodName) (head1 (Jvm.Cond.code (⟨"com/example/sound_verdict/soundverdict/UnitSearch", "<init>", "([J)V"⟩ : MethodName) prog_199_method_1_code 2 none :: ws) ({ frames := 2, cells := 1, slots := 3, locals := 28 } : Room)) (fun a U => a = #[(.ref a1), (.ref a2)] ∧ Z.Warmed39 U.vm ∧ U.heap = h0) (fun _ _ _ _ _ => True) (fun _ U o U' => ∃ v L, o = .returned v ∧ (own_q2n3 Z a1 a2 k2 w0 w1 w2 h0 n0) v U'.heap L ∧ FrameEnd U o U' L ({ frames := 2, cells := 1, slots := 3, locals := 28 } : Room).cells ({ frames := 2, cells := 1, slots := 3, locals := 28 } : Room).slots) := by
  refine MetFree.of_bodySF (plainFor_of_name pn_1) hisR ?_
  intro p e s m args below meth c s₁ Bd hml0 hP hK
  obtain ⟨rfl, hZ, hh⟩ := hP
  have hx := Bd.exec
  have hby := Bd.bytes
  have hml : c.maxLocals = 2 := hml0
  have hown : s.vm.findClass "com/example/sound_verdict/soundverdict/UnitSearch" = some m.cls := findClass_of_methodNamed Bd.named
  have hnm := (name_of_methodNamed Bd.named Bd.method).1
  have X0 : Stand p l e ({ frames := 2, cells := 1, slots := 3, locals := 28 } : Room) s m #[(.ref a1), (.ref a2)] below meth c s₁ [] 0 0 := Stand.of_body Bd
  have e0 : s₁.heap = h0 := by rw [← hh, Bd.state]; rfl
  have N0 := Fr.nil n0
  have Kz := Keep.refl h0 [a1]
  have hw_7 := hw _ (List.mem_of_getElem? (i := 7) rfl)
  have hw_11 := hw _ (List.mem_of_getElem? (i := 11) rfl)
  have hw_12 := hw _ (List.mem_of_getElem? (i := 12) rfl)
  have hw_13 := hw _ (List.mem_of_getElem? (i := 13) rfl)
  show oF p e below (own_A s ({ frames := 2, cells := 1, slots := 3, locals := 28 } : Room).cells ({ frames := 2, cells := 1, slots := 3, locals := 28 } : Room).slots (own_q2n3 Z a1 a2 k2 w0 w1 w2 h0 n0)) _
  refine og (fun t k => castTop (ef_2n3 m (a1) (a2)) k) ?_
  show oF p e below _ (s₁.setTop (mkF m 0 #[rv a1, rv a2] []))
  refine og (fun t k => XS.aloadN X0.here hx rfl (hb hby d2_0) rfl rfl (XS.aloadN X0.here hx rfl (hb hby d2_1) rfl rfl (XS.aconstNull X0.here hx rfl (hb hby d2_2) k))) ?_
  show oF p e below _ (s₁.setTop (mkF m 3 #[rv a1, rv a2] [.null, (.ref a2), (.ref a1)]))
  obtain ⟨_, _, ⟨T1, L1, k1, n1⟩, -, X1, ⟨Lc1, hQ1, l1, y1, z1⟩, st1⟩ := X0.specialBack hx (y := mn_0) rfl hown (mvT hZ hw_11) (mvT hZ hw_12) (mvT hZ hw_13) (by decide) (backOf (W := 0) (rm3n3 l Z a0 hw [] (a1) (a2) k2 w0 w1 w2 h0 n0 Z0 F_wanted F_border F_lead E_a1 g_a1 ne12 V_2) hZ hw_13 hw_7 (by decide) (by decide)) (g := (mkF m 3 #[rv a1, rv a2] [.null, (.ref a2), (.ref a1)])) rfl (by rw [hml]; rfl) (Steps.refl _) (a := a1) (argsL := [(.ref a2), .null]) (rest := []) (lenOf pd_0 rfl) rfl (by show 2 * 0 + _ ≤ _; exact Nat.le_of_eq rfl) (hb hby d2_3) (fun _ _ => ⟨rfl, e0, (by decide : 0 + 1 ≤ _), (by decide : 0 + 3 ≤ _)⟩)
  dsimp only [Pt.U, Pt.locs, Pt.cells, Pt.slots] at X1 l1 y1 z1 st1 hQ1
  subst l1 y1 z1
  obtain ⟨rfl, N1q, K1, xe1, xw1, b1, kb1, sz1, xb1, V1⟩ := hQ1
  have N1 := Fr.app N0 N1q
  have g_b1 : n0 ≤ b1 := Nat.le_trans Z0 sz1
  have sz_b1 : h0.size ≤ b1 := Nat.le_trans Kz.1 sz1
  have ne2 : a1 ≠ b1 := Nat.ne_of_lt (Nat.lt_of_lt_of_le E_a1.lt sz1)
  have ne3 : a2 ≠ b1 := Nat.ne_of_lt (Nat.lt_of_lt_of_le V_2.lt sz1)
  have f7 := V_2.keep K1 (ninS (Ne.symm ne12) nin0)
  have Zh8 : n0 ≤ T1.heap.size := Nat.le_trans Z0 K1.1
  have K9 := Kz.trans K1 (fun x hx => by cases List.mem_singleton.mp hx; exact Or.inl (List.mem_of_getElem? (i := 0) rfl))
  refine og (fun t k => st1.trans k) ?_
  show oF p e below _ (T1.setTop (mkF m 6 #[rv a1, rv a2] []))
  exact oo X1 (fun _ => rfl) Bd.notSynchronized (fun fs hr => X1.returnOut hx Bd.returns (hb hby d2_6) hr) ⟨rfl, N1, K9, xe1, xw1, _, _, sz_b1, xb1, V1⟩ (by decide) (by decide)
theorem ef_2n4 (m : MethodId) (x0 : Addr) (x1 : Addr)  : entryFrame m #[(.ref x0), (.ref x1)] 2 = mkF m 0 #[rv x0, rv x1] [] := by first | (simp [entryFrame, mkF, argsToLocals, Value.category]; done) | rfl
def own_q2n4 (Z : State) (a1 : Addr) (a2 : Addr) (k2 : ClassId) (w0 w1 w2 w3 : Int64) (h0 : Heap) (n0 : Nat) (v : Option Value) (h : Heap) (L : List Loc) : Prop := v = none ∧ Fr n0 L ∧ Keep h0 h [a1] ∧ Exa Z h a1 "com/example/sound_verdict/soundverdict/UnitSearch" ∧ Fld Z h a1 "com/example/sound_verdict/soundverdict/UnitSearch" "wanted" "[J" (.ref a2) ∧ ∃ (b : Addr) (k : ClassId), h0.size ≤ b ∧ Fld Z h a1 "com/example/sound_verdict/soundverdict/UnitSearch" "border" "[I" (.ref b) ∧ Arv Z h b k .int (4 : Int32) [(.int (0 : Int32)), (.int (own_b1 w0 w1)), (.int (own_b2 w0 w1 w2)), (.int (own_b3 w0 w1 w2 w3))] (.int (0 : Int32))
set_option maxRecDepth 65536 in
set_option maxHeartbeats 40000000 in
theorem rm2n4 (l : Launch) (Z : State) (a0 : Array Value) (hw : ∀ d ∈ tables_1, d.before a0 Z = true) (ws : List Jvm.Cond) (a1 : Addr) (a2 : Addr) (k2 : ClassId) (w0 w1 w2 w3 : Int64) (h0 : Heap) (n0 : Nat) (Z0 : n0 ≤ h0.size) (F_wanted : Fld Z h0 a1 "com/example/sound_verdict/soundverdict/UnitSearch" "wanted" "[J" .null) (F_border : Fld Z h0 a1 "com/example/sound_verdict/soundverdict/UnitSearch" "border" "[I" .null) (F_lead : Fld Z h0 a1 "com/example/sound_verdict/soundverdict/UnitSearch" "lead" "Ljava/lang/String;" .null) (E_a1 : Exa Z h0 a1 "com/example/sound_verdict/soundverdict/UnitSearch") (g_a1 : n0 ≤ a1) (ne12 : a1 ≠ a2) (V_2 : Arv Z h0 a2 k2 .long (4 : Int32) [(.long w0), (.long w1), (.long w2), (.long w3)] (.long (0 : Int64))) :
    MetFree l (⟨"com/example/sound_verdict/soundverdict/UnitSearch", "<init>", "([J)V"⟩ : MethodName) (head1 (Jvm.Cond.code (⟨"com/example/sound_verdict/soundverdict/UnitSearch", "<init>", "([J)V"⟩ : MethodName) prog_199_method_1_code 2 none :: ws) ({ frames := 2, cells := 1, slots := 4, locals := 28 } : Room)) (fun a U => a = #[(.ref a1), (.ref a2)] ∧ Z.Warmed39 U.vm ∧ U.heap = h0) (fun _ _ _ _ _ => True) (fun _ U o U' => ∃ v L, o = .returned v ∧ (own_q2n4 Z a1 a2 k2 w0 w1 w2 w3 h0 n0) v U'.heap L ∧ FrameEnd U o U' L ({ frames := 2, cells := 1, slots := 4, locals := 28 } : Room).cells ({ frames := 2, cells := 1, slots := 4, locals := 28 } : Room).slots) := by
  refine MetFree.of_bodySF (plainFor_of_name pn_1) hisR ?_
  intro p e s m args below meth c s₁ Bd hml0 hP hK
  obtain ⟨rfl, hZ, hh⟩ := hP
  have hx := Bd.exec
  have hby := Bd.bytes
  have hml : c.maxLocals = 2 := hml0
  have hown : s.vm.findClass "com/example/sound_verdict/soundverdict/UnitSearch" = some m.cls := findClass_of_methodNamed Bd.named
  have hnm := (name_of_methodNamed Bd.named Bd.method).1
  have X0 : Stand p l e ({ frames := 2, cells := 1, slots := 4, locals := 28 } : Room) s m #[(.ref a1), (.ref a2)] below meth c s₁ [] 0 0 := Stand.of_body Bd
  have e0 : s₁.heap = h0 := by rw [← hh, Bd.state]; rfl
  have N0 := Fr.nil n0
  have Kz := Keep.refl h0 [a1]
  have hw_7 := hw _ (List.mem_of_getElem? (i := 7) rfl)
  have hw_11 := hw _ (List.mem_of_getElem? (i := 11) rfl)
  have hw_12 := hw _ (List.mem_of_getElem? (i := 12) rfl)
  have hw_13 := hw _ (List.mem_of_getElem? (i := 13) rfl)
  show oF p e below (own_A s ({ frames := 2, cells := 1, slots := 4, locals := 28 } : Room).cells ({ frames := 2, cells := 1, slots := 4, locals := 28 } : Room).slots (own_q2n4 Z a1 a2 k2 w0 w1 w2 w3 h0 n0)) _
  refine og (fun t k => castTop (ef_2n4 m (a1) (a2)) k) ?_
  show oF p e below _ (s₁.setTop (mkF m 0 #[rv a1, rv a2] []))
  refine og (fun t k => XS.aloadN X0.here hx rfl (hb hby d2_0) rfl rfl (XS.aloadN X0.here hx rfl (hb hby d2_1) rfl rfl (XS.aconstNull X0.here hx rfl (hb hby d2_2) k))) ?_
  show oF p e below _ (s₁.setTop (mkF m 3 #[rv a1, rv a2] [.null, (.ref a2), (.ref a1)]))
  obtain ⟨_, _, ⟨T1, L1, k1, n1⟩, -, X1, ⟨Lc1, hQ1, l1, y1, z1⟩, st1⟩ := X0.specialBack hx (y := mn_0) rfl hown (mvT hZ hw_11) (mvT hZ hw_12) (mvT hZ hw_13) (by decide) (backOf (W := 0) (rm3n4 l Z a0 hw [] (a1) (a2) k2 w0 w1 w2 w3 h0 n0 Z0 F_wanted F_border F_lead E_a1 g_a1 ne12 V_2) hZ hw_13 hw_7 (by decide) (by decide)) (g := (mkF m 3 #[rv a1, rv a2] [.null, (.ref a2), (.ref a1)])) rfl (by rw [hml]; rfl) (Steps.refl _) (a := a1) (argsL := [(.ref a2), .null]) (rest := []) (lenOf pd_0 rfl) rfl (by show 2 * 0 + _ ≤ _; exact Nat.le_of_eq rfl) (hb hby d2_3) (fun _ _ => ⟨rfl, e0, (by decide : 0 + 1 ≤ _), (by decide : 0 + 4 ≤ _)⟩)
  dsimp only [Pt.U, Pt.locs, Pt.cells, Pt.slots] at X1 l1 y1 z1 st1 hQ1
  subst l1 y1 z1
  obtain ⟨rfl, N1q, K1, xe1, xw1, b1, kb1, sz1, xb1, V1⟩ := hQ1
  have N1 := Fr.app N0 N1q
  have g_b1 : n0 ≤ b1 := Nat.le_trans Z0 sz1
  have sz_b1 : h0.size ≤ b1 := Nat.le_trans Kz.1 sz1
  have ne2 : a1 ≠ b1 := Nat.ne_of_lt (Nat.lt_of_lt_of_le E_a1.lt sz1)
  have ne3 : a2 ≠ b1 := Nat.ne_of_lt (Nat.lt_of_lt_of_le V_2.lt sz1)
  have f7 := V_2.keep K1 (ninS (Ne.symm ne12) nin0)
  have Zh8 : n0 ≤ T1.heap.size := Nat.le_trans Z0 K1.1
  have K9 := Kz.trans K1 (fun x hx => by cases List.mem_singleton.mp hx; exact Or.inl (List.mem_of_getElem? (i := 0) rfl))
  refine og (fun t k => st1.trans k) ?_
  show oF p e below _ (T1.setTop (mkF m 6 #[rv a1, rv a2] []))
  exact oo X1 (fun _ => rfl) Bd.notSynchronized (fun fs hr => X1.returnOut hx Bd.returns (hb hby d2_6) hr) ⟨rfl, N1, K9, xe1, xw1, _, _, sz_b1, xb1, V1⟩ (by decide) (by decide)
theorem d5_0 : decode prog_199_method_6_code 0 = .ok (.iload_n 1, 1) := by decide +kernel
theorem d5_1 : decode prog_199_method_6_code 1 = .ok (.aload_n 0, 1) := by decide +kernel
theorem d5_2 : decode prog_199_method_6_code 2 = .ok (.getfield 12, 3) := by decide +kernel
theorem d5_5 : decode prog_199_method_6_code 5 = .ok (.arraylength, 1) := by decide +kernel
theorem d5_6 : decode prog_199_method_6_code 6 = .ok (.if_icmp .ne 14, 3) := by decide +kernel
theorem d5_20 : decode prog_199_method_6_code 20 = .ok (.iload_n 1, 1) := by decide +kernel
theorem d5_21 : decode prog_199_method_6_code 21 = .ok (.istore 4, 2) := by decide +kernel
theorem d5_23 : decode prog_199_method_6_code 23 = .ok (.iload 4, 2) := by decide +kernel
theorem d5_25 : decode prog_199_method_6_code 25 = .ok (.ifCond .le 29, 3) := by decide +kernel
theorem d5_54 : decode prog_199_method_6_code 54 = .ok (.lload_n 2, 1) := by decide +kernel
theorem d5_55 : decode prog_199_method_6_code 55 = .ok (.aload_n 0, 1) := by decide +kernel
theorem d5_56 : decode prog_199_method_6_code 56 = .ok (.getfield 12, 3) := by decide +kernel
theorem d5_59 : decode prog_199_method_6_code 59 = .ok (.iload 4, 2) := by decide +kernel
theorem d5_61 : decode prog_199_method_6_code 61 = .ok (.laload, 1) := by decide +kernel
theorem d5_62 : decode prog_199_method_6_code 62 = .ok (.lcmp, 1) := by decide +kernel
theorem d5_63 : decode prog_199_method_6_code 63 = .ok (.ifCond .ne 10, 3) := by decide +kernel
theorem d5_66 : decode prog_199_method_6_code 66 = .ok (.iload 4, 2) := by decide +kernel
theorem d5_68 : decode prog_199_method_6_code 68 = .ok (.iconst 1, 1) := by decide +kernel
theorem d5_69 : decode prog_199_method_6_code 69 = .ok (.iadd, 1) := by decide +kernel
theorem d5_70 : decode prog_199_method_6_code 70 = .ok (.goto 5, 3) := by decide +kernel
theorem d5_73 : decode prog_199_method_6_code 73 = .ok (.iload 4, 2) := by decide +kernel
theorem d5_75 : decode prog_199_method_6_code 75 = .ok (.ireturn, 1) := by decide +kernel
theorem ef_5n1m0 (m : MethodId) (x0 : Addr) (x1 : Int32) (x2 : Int64)  : entryFrame m #[(.ref x0), (.int x1), (.long x2)] 5 = mkF m 0 #[rv x0, iv x1, jv x2, .second, .unset] [] := by first | (simp [entryFrame, mkF, argsToLocals, Value.category]; done) | rfl
set_option maxRecDepth 65536 in
set_option maxHeartbeats 40000000 in
theorem rm5n1m0 (l : Launch) (Z : State) (a0 : Array Value) (hw : ∀ d ∈ tables_1, d.before a0 Z = true) (ws : List Jvm.Cond) (a1 : Addr) (u : Int64) (aw ab : Addr) (kw kb : ClassId) (w0 : Int64) (B0 : Int32) (h0 : Heap) (n0 : Nat) (Z0 : n0 ≤ h0.size) (F_w : Fld Z h0 a1 "com/example/sound_verdict/soundverdict/UnitSearch" "wanted" "[J" (.ref aw)) (F_b : Fld Z h0 a1 "com/example/sound_verdict/soundverdict/UnitSearch" "border" "[I" (.ref ab)) (V_w : Arv Z h0 aw kw .long (1 : Int32) [(.long w0)] (.long (0 : Int64))) (V_b : Arv Z h0 ab kb .int (1 : Int32) [(.int B0)] (.int (0 : Int32))) (hB0 : B0 = (0 : Int32)) :
    MetFree l (⟨"com/example/sound_verdict/soundverdict/UnitSearch", "next", "(IJ)I"⟩ : MethodName) (head1 (Jvm.Cond.code (⟨"com/example/sound_verdict/soundverdict/UnitSearch", "next", "(IJ)I"⟩ : MethodName) prog_199_method_6_code 5 (some .int) :: ws) ({ frames := 0, cells := 0, slots := 0, locals := 0 } : Room)) (fun a U => a = #[(.ref a1), (.int 0), (.long u)] ∧ Z.Warmed39 U.vm ∧ U.heap = h0) (fun _ _ _ _ _ => True) (fun _ U o U' => ∃ v L, o = .returned v ∧ (own_P h0 n0 (.int (own_x0 w0 u))) v U'.heap L ∧ FrameEnd U o U' L ({ frames := 0, cells := 0, slots := 0, locals := 0 } : Room).cells ({ frames := 0, cells := 0, slots := 0, locals := 0 } : Room).slots) := by
  refine MetFree.of_bodySF (plainFor_of_name pn_1) hisR ?_
  intro p e s m args below meth c s₁ Bd hml0 hP hK
  obtain ⟨rfl, hZ, hh⟩ := hP
  have hx := Bd.exec
  have hby := Bd.bytes
  have hml : c.maxLocals = 5 := hml0
  have hown : s.vm.findClass "com/example/sound_verdict/soundverdict/UnitSearch" = some m.cls := findClass_of_methodNamed Bd.named
  have hnm := (name_of_methodNamed Bd.named Bd.method).1
  have X0 : Stand p l e ({ frames := 0, cells := 0, slots := 0, locals := 0 } : Room) s m #[(.ref a1), (.int 0), (.long u)] below meth c s₁ [] 0 0 := Stand.of_body Bd
  have e0 : s₁.heap = h0 := by rw [← hh, Bd.state]; rfl
  have N0 := Fr.nil n0
  have hw_17 := hw _ (List.mem_of_getElem? (i := 17) rfl)
  show oF p e below (own_A s ({ frames := 0, cells := 0, slots := 0, locals := 0 } : Room).cells ({ frames := 0, cells := 0, slots := 0, locals := 0 } : Room).slots (own_P h0 n0 (.int (own_x0 w0 u)))) _
  refine og (fun t k => castTop (ef_5n1m0 m (a1) ((0 : Int32)) (u)) k) ?_
  show oF p e below _ (s₁.setTop (mkF m 0 #[rv a1, iv 0, jv u, .second, .unset] []))
  have Jg0 : ∀ (TT : State) (XX : Stand p l e ({ frames := 0, cells := 0, slots := 0, locals := 0 } : Room) s m #[(.ref a1), (.int 0), (.long u)] below meth c TT [] 0 0) (ee : TT.heap = h0), oF p e below (own_A s ({ frames := 0, cells := 0, slots := 0, locals := 0 } : Room).cells ({ frames := 0, cells := 0, slots := 0, locals := 0 } : Room).slots (own_P h0 n0 (.int (own_x0 w0 u)))) (TT.setTop (mkF m 23 #[rv a1, iv 0, jv u, .second, iv 0] [])) := by
    intro TT XX ee
    refine og (fun t k => XS.iload XX.here hx rfl (hb hby d5_23) rfl k) ?_
    show oF p e below _ (TT.setTop (mkF m 25 #[rv a1, iv 0, jv u, .second, iv 0] [(.int 0)]))
    refine og (fun t k => XS.ifYes XX.here hx rfl (pc0 := 25) (pc' := 54) rfl (hb hby d5_25) rfl ((if0 _ _).trans (flt (by decide : ¬ ((0 : Int32) < (0 : Int32)))).2.2.2) (by decide) (by decide) (XS.lloadN XX.here hx rfl (hb hby d5_54) rfl (XS.aloadN XX.here hx rfl (hb hby d5_55) rfl rfl k))) ?_
    show oF p e below _ (TT.setTop (mkF m 56 #[rv a1, iv 0, jv u, .second, iv 0] [(.ref a1), (.long u)]))
    obtain ⟨T1, X1, e1, st1⟩ := getF XX hx hZ hown (host := "") (Or.inl hw_17) Via.refl ee F_w (g := (mkF m 56 #[rv a1, iv 0, jv u, .second, iv 0] [(.ref a1), (.long u)])) rfl rfl (hb hby d5_56)
    refine og st1 ?_
    show oF p e below _ (T1.setTop (mkF m 59 #[rv a1, iv 0, jv u, .second, iv 0] [(.ref aw), (.long u)]))
    refine og (fun t k => XS.iload X1.here hx rfl (hb hby d5_59) rfl k) ?_
    show oF p e below _ (T1.setTop (mkF m 61 #[rv a1, iv 0, jv u, .second, iv 0] [(.int 0), (.ref aw), (.long u)]))
    obtain ⟨cl2, Ar2, q2, S2, M2, H2, G2⟩ := (id V_w)
    have hin2 : ¬ ((0 : Int32) < 0 ∨ cl2.slots.size ≤ ((0 : Int32)).toNatClampNeg) := inb_of S2 ⟨by decide, by decide⟩
    have hat2 : cl2.slots[((0 : Int32)).toNatClampNeg]? = some (.long w0) := H2.at hin2 rfl
    refine og (fun t k => X1.laload hx (j := (0 : Int32)) (v := (.long w0)) (by rw [e1]; exact Ar2.1) (State.isArrayOf_alike hZ.alike Ar2.2.1) Ar2.2.2 hin2 hat2 (g := (mkF m 61 #[rv a1, iv 0, jv u, .second, iv 0] [(.int 0), (.ref aw), (.long u)])) rfl rfl (hb hby d5_61) _ (XS.lcmp X1.here hx rfl (hb hby d5_62) rfl k)) ?_
    show oF p e below _ (T1.setTop (mkF m 63 #[rv a1, iv 0, jv u, .second, iv 0] [(.int (lcmpW u w0))]))
    by_cases hc3 : u = w0
    · skip
      refine og (fun t k => XS.ifNo X1.here hx rfl (hb hby d5_63) rfl ((if0 _ _).trans (teq ((lw_eq _ _).mpr hc3)).2) (XS.iload X1.here hx rfl (hb hby d5_66) rfl (XS.iconst X1.here hx rfl (hb hby d5_68) (XS.iadd X1.here hx rfl (hb hby d5_69) rfl (XS.goto X1.here hx rfl (pc0 := 70) (pc' := 75) rfl (hb hby d5_70) (by decide) (by decide) k))))) ?_
      show oF p e below _ (T1.setTop (mkF m 75 #[rv a1, iv 0, jv u, .second, iv 0] [(.int 1)]))
      exact oo X1 (fun h => by rw [Bd.returns] at h; cases h) Bd.notSynchronized (fun fs hr => retI X1 hx Bd.returns (hb hby d5_75) hr) ⟨(by simp [own_x0, own_x1, own_x2, own_x3, hc3]), N0, e1⟩ (by decide) (by decide)
    · skip
      refine og (fun t k => XS.ifYes X1.here hx rfl (pc0 := 63) (pc' := 73) rfl (hb hby d5_63) rfl ((if0 _ _).trans (feq (fun q => hc3 ((lw_eq _ _).mp q))).2) (by decide) (by decide) (XS.iload X1.here hx rfl (hb hby d5_73) rfl k)) ?_
      show oF p e below _ (T1.setTop (mkF m 75 #[rv a1, iv 0, jv u, .second, iv 0] [(.int 0)]))
      exact oo X1 (fun h => by rw [Bd.returns] at h; cases h) Bd.notSynchronized (fun fs hr => retI X1 hx Bd.returns (hb hby d5_75) hr) ⟨(by simp [own_x0, own_x1, own_x2, own_x3, hc3]), N0, e1⟩ (by decide) (by decide)
  refine og (fun t k => XS.iloadN X0.here hx rfl (hb hby d5_0) rfl (XS.aloadN X0.here hx rfl (hb hby d5_1) rfl rfl k)) ?_
  show oF p e below _ (s₁.setTop (mkF m 2 #[rv a1, iv 0, jv u, .second, .unset] [(.ref a1), (.int 0)]))
  obtain ⟨T4, X4, e4, st4⟩ := getF X0 hx hZ hown (host := "") (Or.inl hw_17) Via.refl e0 F_w (g := (mkF m 2 #[rv a1, iv 0, jv u, .second, .unset] [(.ref a1), (.int 0)])) rfl rfl (hb hby d5_2)
  refine og st4 ?_
  show oF p e below _ (T4.setTop (mkF m 5 #[rv a1, iv 0, jv u, .second, .unset] [(.ref aw), (.int 0)]))
  obtain ⟨cl5, Ar5, q5, S5, M5, H5, G5⟩ := (id V_w)
  refine og (fun t k => X4.arraylength hx (by rw [e4]; exact Ar5.1) (State.isArrayOf_alike hZ.alike Ar5.2.1) (g := (mkF m 5 #[rv a1, iv 0, jv u, .second, .unset] [(.ref aw), (.int 0)])) rfl rfl (hb hby d5_5) _ k) ?_
  rw [len_of S5 M5]
  show oF p e below _ (T4.setTop (mkF m 6 #[rv a1, iv 0, jv u, .second, .unset] [(.int 1), (.int 0)]))
  refine og (fun t k => XS.icmpYes X4.here hx rfl (pc0 := 6) (pc' := 20) rfl (hb hby d5_6) rfl (feq (by decide : ¬ ((0 : Int32) = (1 : Int32)))).2 (by decide) (by decide) (XS.iloadN X4.here hx rfl (hb hby d5_20) rfl (XS.istore X4.here hx rfl (hb hby d5_21) rfl (l' := #[rv a1, iv 0, jv u, .second, iv 0]) rfl k))) ?_
  exact Jg0 T4 X4 e4
theorem d5_9 : decode prog_199_method_6_code 9 = .ok (.aload_n 0, 1) := by decide +kernel
theorem d5_10 : decode prog_199_method_6_code 10 = .ok (.getfield 20, 3) := by decide +kernel
theorem d5_13 : decode prog_199_method_6_code 13 = .ok (.iload_n 1, 1) := by decide +kernel
theorem d5_14 : decode prog_199_method_6_code 14 = .ok (.iconst 1, 1) := by decide +kernel
theorem d5_15 : decode prog_199_method_6_code 15 = .ok (.isub, 1) := by decide +kernel
theorem d5_16 : decode prog_199_method_6_code 16 = .ok (.iaload, 1) := by decide +kernel
theorem d5_17 : decode prog_199_method_6_code 17 = .ok (.goto 4, 3) := by decide +kernel
theorem ef_5n1m1 (m : MethodId) (x0 : Addr) (x1 : Int32) (x2 : Int64)  : entryFrame m #[(.ref x0), (.int x1), (.long x2)] 5 = mkF m 0 #[rv x0, iv x1, jv x2, .second, .unset] [] := by first | (simp [entryFrame, mkF, argsToLocals, Value.category]; done) | rfl
set_option maxRecDepth 65536 in
set_option maxHeartbeats 40000000 in
theorem rm5n1m1 (l : Launch) (Z : State) (a0 : Array Value) (hw : ∀ d ∈ tables_1, d.before a0 Z = true) (ws : List Jvm.Cond) (a1 : Addr) (u : Int64) (aw ab : Addr) (kw kb : ClassId) (w0 : Int64) (B0 : Int32) (h0 : Heap) (n0 : Nat) (Z0 : n0 ≤ h0.size) (F_w : Fld Z h0 a1 "com/example/sound_verdict/soundverdict/UnitSearch" "wanted" "[J" (.ref aw)) (F_b : Fld Z h0 a1 "com/example/sound_verdict/soundverdict/UnitSearch" "border" "[I" (.ref ab)) (V_w : Arv Z h0 aw kw .long (1 : Int32) [(.long w0)] (.long (0 : Int64))) (V_b : Arv Z h0 ab kb .int (1 : Int32) [(.int B0)] (.int (0 : Int32))) (hB0 : B0 = (0 : Int32)) :
    MetFree l (⟨"com/example/sound_verdict/soundverdict/UnitSearch", "next", "(IJ)I"⟩ : MethodName) (head1 (Jvm.Cond.code (⟨"com/example/sound_verdict/soundverdict/UnitSearch", "next", "(IJ)I"⟩ : MethodName) prog_199_method_6_code 5 (some .int) :: ws) ({ frames := 0, cells := 0, slots := 0, locals := 0 } : Room)) (fun a U => a = #[(.ref a1), (.int 1), (.long u)] ∧ Z.Warmed39 U.vm ∧ U.heap = h0) (fun _ _ _ _ _ => True) (fun _ U o U' => ∃ v L, o = .returned v ∧ (own_P h0 n0 (.int (own_x0 w0 u))) v U'.heap L ∧ FrameEnd U o U' L ({ frames := 0, cells := 0, slots := 0, locals := 0 } : Room).cells ({ frames := 0, cells := 0, slots := 0, locals := 0 } : Room).slots) := by
  refine MetFree.of_bodySF (plainFor_of_name pn_1) hisR ?_
  intro p e s m args below meth c s₁ Bd hml0 hP hK
  obtain ⟨rfl, hZ, hh⟩ := hP
  have hx := Bd.exec
  have hby := Bd.bytes
  have hml : c.maxLocals = 5 := hml0
  have hown : s.vm.findClass "com/example/sound_verdict/soundverdict/UnitSearch" = some m.cls := findClass_of_methodNamed Bd.named
  have hnm := (name_of_methodNamed Bd.named Bd.method).1
  have X0 : Stand p l e ({ frames := 0, cells := 0, slots := 0, locals := 0 } : Room) s m #[(.ref a1), (.int 1), (.long u)] below meth c s₁ [] 0 0 := Stand.of_body Bd
  have e0 : s₁.heap = h0 := by rw [← hh, Bd.state]; rfl
  have N0 := Fr.nil n0
  have hw_17 := hw _ (List.mem_of_getElem? (i := 17) rfl)
  have hw_22 := hw _ (List.mem_of_getElem? (i := 22) rfl)
  show oF p e below (own_A s ({ frames := 0, cells := 0, slots := 0, locals := 0 } : Room).cells ({ frames := 0, cells := 0, slots := 0, locals := 0 } : Room).slots (own_P h0 n0 (.int (own_x0 w0 u)))) _
  refine og (fun t k => castTop (ef_5n1m1 m (a1) ((1 : Int32)) (u)) k) ?_
  show oF p e below _ (s₁.setTop (mkF m 0 #[rv a1, iv 1, jv u, .second, .unset] []))
  have Jg0 : ∀ (TT : State) (XX : Stand p l e ({ frames := 0, cells := 0, slots := 0, locals := 0 } : Room) s m #[(.ref a1), (.int 1), (.long u)] below meth c TT [] 0 0) (ee : TT.heap = h0), oF p e below (own_A s ({ frames := 0, cells := 0, slots := 0, locals := 0 } : Room).cells ({ frames := 0, cells := 0, slots := 0, locals := 0 } : Room).slots (own_P h0 n0 (.int (own_x0 w0 u)))) (TT.setTop (mkF m 23 #[rv a1, iv 1, jv u, .second, iv 0] [])) := by
    intro TT XX ee
    refine og (fun t k => XS.iload XX.here hx rfl (hb hby d5_23) rfl k) ?_
    show oF p e below _ (TT.setTop (mkF m 25 #[rv a1, iv 1, jv u, .second, iv 0] [(.int 0)]))
    refine og (fun t k => XS.ifYes XX.here hx rfl (pc0 := 25) (pc' := 54) rfl (hb hby d5_25) rfl ((if0 _ _).trans (flt (by decide : ¬ ((0 : Int32) < (0 : Int32)))).2.2.2) (by decide) (by decide) (XS.lloadN XX.here hx rfl (hb hby d5_54) rfl (XS.aloadN XX.here hx rfl (hb hby d5_55) rfl rfl k))) ?_
    show oF p e below _ (TT.setTop (mkF m 56 #[rv a1, iv 1, jv u, .second, iv 0] [(.ref a1), (.long u)]))
    obtain ⟨T1, X1, e1, st1⟩ := getF XX hx hZ hown (host := "") (Or.inl hw_17) Via.refl ee F_w (g := (mkF m 56 #[rv a1, iv 1, jv u, .second, iv 0] [(.ref a1), (.long u)])) rfl rfl (hb hby d5_56)
    refine og st1 ?_
    show oF p e below _ (T1.setTop (mkF m 59 #[rv a1, iv 1, jv u, .second, iv 0] [(.ref aw), (.long u)]))
    refine og (fun t k => XS.iload X1.here hx rfl (hb hby d5_59) rfl k) ?_
    show oF p e below _ (T1.setTop (mkF m 61 #[rv a1, iv 1, jv u, .second, iv 0] [(.int 0), (.ref aw), (.long u)]))
    obtain ⟨cl2, Ar2, q2, S2, M2, H2, G2⟩ := (id V_w)
    have hin2 : ¬ ((0 : Int32) < 0 ∨ cl2.slots.size ≤ ((0 : Int32)).toNatClampNeg) := inb_of S2 ⟨by decide, by decide⟩
    have hat2 : cl2.slots[((0 : Int32)).toNatClampNeg]? = some (.long w0) := H2.at hin2 rfl
    refine og (fun t k => X1.laload hx (j := (0 : Int32)) (v := (.long w0)) (by rw [e1]; exact Ar2.1) (State.isArrayOf_alike hZ.alike Ar2.2.1) Ar2.2.2 hin2 hat2 (g := (mkF m 61 #[rv a1, iv 1, jv u, .second, iv 0] [(.int 0), (.ref aw), (.long u)])) rfl rfl (hb hby d5_61) _ (XS.lcmp X1.here hx rfl (hb hby d5_62) rfl k)) ?_
    show oF p e below _ (T1.setTop (mkF m 63 #[rv a1, iv 1, jv u, .second, iv 0] [(.int (lcmpW u w0))]))
    by_cases hc3 : u = w0
    · skip
      refine og (fun t k => XS.ifNo X1.here hx rfl (hb hby d5_63) rfl ((if0 _ _).trans (teq ((lw_eq _ _).mpr hc3)).2) (XS.iload X1.here hx rfl (hb hby d5_66) rfl (XS.iconst X1.here hx rfl (hb hby d5_68) (XS.iadd X1.here hx rfl (hb hby d5_69) rfl (XS.goto X1.here hx rfl (pc0 := 70) (pc' := 75) rfl (hb hby d5_70) (by decide) (by decide) k))))) ?_
      show oF p e below _ (T1.setTop (mkF m 75 #[rv a1, iv 1, jv u, .second, iv 0] [(.int 1)]))
      exact oo X1 (fun h => by rw [Bd.returns] at h; cases h) Bd.notSynchronized (fun fs hr => retI X1 hx Bd.returns (hb hby d5_75) hr) ⟨(by simp [own_x0, own_x1, own_x2, own_x3, hc3]), N0, e1⟩ (by decide) (by decide)
    · skip
      refine og (fun t k => XS.ifYes X1.here hx rfl (pc0 := 63) (pc' := 73) rfl (hb hby d5_63) rfl ((if0 _ _).trans (feq (fun q => hc3 ((lw_eq _ _).mp q))).2) (by decide) (by decide) (XS.iload X1.here hx rfl (hb hby d5_73) rfl k)) ?_
      show oF p e below _ (T1.setTop (mkF m 75 #[rv a1, iv 1, jv u, .second, iv 0] [(.int 0)]))
      exact oo X1 (fun h => by rw [Bd.returns] at h; cases h) Bd.notSynchronized (fun fs hr => retI X1 hx Bd.returns (hb hby d5_75) hr) ⟨(by simp [own_x0, own_x1, own_x2, own_x3, hc3]), N0, e1⟩ (by decide) (by decide)
  refine og (fun t k => XS.iloadN X0.here hx rfl (hb hby d5_0) rfl (XS.aloadN X0.here hx rfl (hb hby d5_1) rfl rfl k)) ?_
  show oF p e below _ (s₁.setTop (mkF m 2 #[rv a1, iv 1, jv u, .second, .unset] [(.ref a1), (.int 1)]))
  obtain ⟨T4, X4, e4, st4⟩ := getF X0 hx hZ hown (host := "") (Or.inl hw_17) Via.refl e0 F_w (g := (mkF m 2 #[rv a1, iv 1, jv u, .second, .unset] [(.ref a1), (.int 1)])) rfl rfl (hb hby d5_2)
  refine og st4 ?_
  show oF p e below _ (T4.setTop (mkF m 5 #[rv a1, iv 1, jv u, .second, .unset] [(.ref aw), (.int 1)]))
  obtain ⟨cl5, Ar5, q5, S5, M5, H5, G5⟩ := (id V_w)
  refine og (fun t k => X4.arraylength hx (by rw [e4]; exact Ar5.1) (State.isArrayOf_alike hZ.alike Ar5.2.1) (g := (mkF m 5 #[rv a1, iv 1, jv u, .second, .unset] [(.ref aw), (.int 1)])) rfl rfl (hb hby d5_5) _ k) ?_
  rw [len_of S5 M5]
  show oF p e below _ (T4.setTop (mkF m 6 #[rv a1, iv 1, jv u, .second, .unset] [(.int 1), (.int 1)]))
  refine og (fun t k => XS.icmpNo X4.here hx rfl (hb hby d5_6) rfl (teq (by decide : (1 : Int32) = (1 : Int32))).2 (XS.aloadN X4.here hx rfl (hb hby d5_9) rfl rfl k)) ?_
  show oF p e below _ (T4.setTop (mkF m 10 #[rv a1, iv 1, jv u, .second, .unset] [(.ref a1)]))
  obtain ⟨T6, X6, e6, st6⟩ := getF X4 hx hZ hown (host := "") (Or.inl hw_22) Via.refl e4 F_b (g := (mkF m 10 #[rv a1, iv 1, jv u, .second, .unset] [(.ref a1)])) rfl rfl (hb hby d5_10)
  refine og st6 ?_
  show oF p e below _ (T6.setTop (mkF m 13 #[rv a1, iv 1, jv u, .second, .unset] [(.ref ab)]))
  refine og (fun t k => XS.iloadN X6.here hx rfl (hb hby d5_13) rfl (XS.iconst X6.here hx rfl (hb hby d5_14) (XS.isub X6.here hx rfl (hb hby d5_15) rfl k))) ?_
  show oF p e below _ (T6.setTop (mkF m 16 #[rv a1, iv 1, jv u, .second, .unset] [(.int 0), (.ref ab)]))
  obtain ⟨cl7, Ar7, q7, S7, M7, H7, G7⟩ := (id V_b)
  have hin7 : ¬ ((0 : Int32) < 0 ∨ cl7.slots.size ≤ ((0 : Int32)).toNatClampNeg) := inb_of S7 ⟨by decide, by decide⟩
  have hat7 : cl7.slots[((0 : Int32)).toNatClampNeg]? = some (.int B0) := H7.at hin7 rfl
  refine og (fun t k => X6.iaload hx (j := (0 : Int32)) (v := (.int B0)) (by rw [e6]; exact Ar7.1) (State.isArrayOf_alike hZ.alike Ar7.2.1) Ar7.2.2 hin7 hat7 (g := (mkF m 16 #[rv a1, iv 1, jv u, .second, .unset] [(.int 0), (.ref ab)])) rfl rfl (hb hby d5_16) _ (XS.goto X6.here hx rfl (pc0 := 17) (pc' := 21) rfl (hb hby d5_17) (by decide) (by decide) k)) ?_
  show oF p e below _ (T6.setTop (mkF m 21 #[rv a1, iv 1, jv u, .second, .unset] [(.int B0)]))
  have hv8 := hB0
  · skip
    rw [hv8]
    show oF p e below _ (T6.setTop (mkF m 21 #[rv a1, iv 1, jv u, .second, .unset] [(.int 0)]))
    refine og (fun t k => XS.istore X6.here hx rfl (hb hby d5_21) rfl (l' := #[rv a1, iv 1, jv u, .second, iv 0]) rfl k) ?_
    exact Jg0 T6 X6 e6
theorem ef_5n2m0 (m : MethodId) (x0 : Addr) (x1 : Int32) (x2 : Int64)  : entryFrame m #[(.ref x0), (.int x1), (.long x2)] 5 = mkF m 0 #[rv x0, iv x1, jv x2, .second, .unset] [] := by first | (simp [entryFrame, mkF, argsToLocals, Value.category]; done) | rfl
set_option maxRecDepth 65536 in
set_option maxHeartbeats 40000000 in
theorem rm5n2m0 (l : Launch) (Z : State) (a0 : Array Value) (hw : ∀ d ∈ tables_1, d.before a0 Z = true) (ws : List Jvm.Cond) (a1 : Addr) (u : Int64) (aw ab : Addr) (kw kb : ClassId) (w0 w1 : Int64) (B0 B1 : Int32) (h0 : Heap) (n0 : Nat) (Z0 : n0 ≤ h0.size) (F_w : Fld Z h0 a1 "com/example/sound_verdict/soundverdict/UnitSearch" "wanted" "[J" (.ref aw)) (F_b : Fld Z h0 a1 "com/example/sound_verdict/soundverdict/UnitSearch" "border" "[I" (.ref ab)) (V_w : Arv Z h0 aw kw .long (2 : Int32) [(.long w0), (.long w1)] (.long (0 : Int64))) (V_b : Arv Z h0 ab kb .int (2 : Int32) [(.int B0), (.int B1)] (.int (0 : Int32))) (hB0 : B0 = (0 : Int32)) (hB1 : B1 = (0 : Int32) ∨ B1 = (1 : Int32)) :
    MetFree l (⟨"com/example/sound_verdict/soundverdict/UnitSearch", "next", "(IJ)I"⟩ : MethodName) (head1 (Jvm.Cond.code (⟨"com/example/sound_verdict/soundverdict/UnitSearch", "next", "(IJ)I"⟩ : MethodName) prog_199_method_6_code 5 (some .int) :: ws) ({ frames := 0, cells := 0, slots := 0, locals := 0 } : Room)) (fun a U => a = #[(.ref a1), (.int 0), (.long u)] ∧ Z.Warmed39 U.vm ∧ U.heap = h0) (fun _ _ _ _ _ => True) (fun _ U o U' => ∃ v L, o = .returned v ∧ (own_P h0 n0 (.int (own_x0 w0 u))) v U'.heap L ∧ FrameEnd U o U' L ({ frames := 0, cells := 0, slots := 0, locals := 0 } : Room).cells ({ frames := 0, cells := 0, slots := 0, locals := 0 } : Room).slots) := by
  refine MetFree.of_bodySF (plainFor_of_name pn_1) hisR ?_
  intro p e s m args below meth c s₁ Bd hml0 hP hK
  obtain ⟨rfl, hZ, hh⟩ := hP
  have hx := Bd.exec
  have hby := Bd.bytes
  have hml : c.maxLocals = 5 := hml0
  have hown : s.vm.findClass "com/example/sound_verdict/soundverdict/UnitSearch" = some m.cls := findClass_of_methodNamed Bd.named
  have hnm := (name_of_methodNamed Bd.named Bd.method).1
  have X0 : Stand p l e ({ frames := 0, cells := 0, slots := 0, locals := 0 } : Room) s m #[(.ref a1), (.int 0), (.long u)] below meth c s₁ [] 0 0 := Stand.of_body Bd
  have e0 : s₁.heap = h0 := by rw [← hh, Bd.state]; rfl
  have N0 := Fr.nil n0
  have hw_17 := hw _ (List.mem_of_getElem? (i := 17) rfl)
  show oF p e below (own_A s ({ frames := 0, cells := 0, slots := 0, locals := 0 } : Room).cells ({ frames := 0, cells := 0, slots := 0, locals := 0 } : Room).slots (own_P h0 n0 (.int (own_x0 w0 u)))) _
  refine og (fun t k => castTop (ef_5n2m0 m (a1) ((0 : Int32)) (u)) k) ?_
  show oF p e below _ (s₁.setTop (mkF m 0 #[rv a1, iv 0, jv u, .second, .unset] []))
  have Jg0 : ∀ (TT : State) (XX : Stand p l e ({ frames := 0, cells := 0, slots := 0, locals := 0 } : Room) s m #[(.ref a1), (.int 0), (.long u)] below meth c TT [] 0 0) (ee : TT.heap = h0), oF p e below (own_A s ({ frames := 0, cells := 0, slots := 0, locals := 0 } : Room).cells ({ frames := 0, cells := 0, slots := 0, locals := 0 } : Room).slots (own_P h0 n0 (.int (own_x0 w0 u)))) (TT.setTop (mkF m 23 #[rv a1, iv 0, jv u, .second, iv 0] [])) := by
    intro TT XX ee
    refine og (fun t k => XS.iload XX.here hx rfl (hb hby d5_23) rfl k) ?_
    show oF p e below _ (TT.setTop (mkF m 25 #[rv a1, iv 0, jv u, .second, iv 0] [(.int 0)]))
    refine og (fun t k => XS.ifYes XX.here hx rfl (pc0 := 25) (pc' := 54) rfl (hb hby d5_25) rfl ((if0 _ _).trans (flt (by decide : ¬ ((0 : Int32) < (0 : Int32)))).2.2.2) (by decide) (by decide) (XS.lloadN XX.here hx rfl (hb hby d5_54) rfl (XS.aloadN XX.here hx rfl (hb hby d5_55) rfl rfl k))) ?_
    show oF p e below _ (TT.setTop (mkF m 56 #[rv a1, iv 0, jv u, .second, iv 0] [(.ref a1), (.long u)]))
    obtain ⟨T1, X1, e1, st1⟩ := getF XX hx hZ hown (host := "") (Or.inl hw_17) Via.refl ee F_w (g := (mkF m 56 #[rv a1, iv 0, jv u, .second, iv 0] [(.ref a1), (.long u)])) rfl rfl (hb hby d5_56)
    refine og st1 ?_
    show oF p e below _ (T1.setTop (mkF m 59 #[rv a1, iv 0, jv u, .second, iv 0] [(.ref aw), (.long u)]))
    refine og (fun t k => XS.iload X1.here hx rfl (hb hby d5_59) rfl k) ?_
    show oF p e below _ (T1.setTop (mkF m 61 #[rv a1, iv 0, jv u, .second, iv 0] [(.int 0), (.ref aw), (.long u)]))
    obtain ⟨cl2, Ar2, q2, S2, M2, H2, G2⟩ := (id V_w)
    have hin2 : ¬ ((0 : Int32) < 0 ∨ cl2.slots.size ≤ ((0 : Int32)).toNatClampNeg) := inb_of S2 ⟨by decide, by decide⟩
    have hat2 : cl2.slots[((0 : Int32)).toNatClampNeg]? = some (.long w0) := H2.at hin2 rfl
    refine og (fun t k => X1.laload hx (j := (0 : Int32)) (v := (.long w0)) (by rw [e1]; exact Ar2.1) (State.isArrayOf_alike hZ.alike Ar2.2.1) Ar2.2.2 hin2 hat2 (g := (mkF m 61 #[rv a1, iv 0, jv u, .second, iv 0] [(.int 0), (.ref aw), (.long u)])) rfl rfl (hb hby d5_61) _ (XS.lcmp X1.here hx rfl (hb hby d5_62) rfl k)) ?_
    show oF p e below _ (T1.setTop (mkF m 63 #[rv a1, iv 0, jv u, .second, iv 0] [(.int (lcmpW u w0))]))
    by_cases hc3 : u = w0
    · skip
      refine og (fun t k => XS.ifNo X1.here hx rfl (hb hby d5_63) rfl ((if0 _ _).trans (teq ((lw_eq _ _).mpr hc3)).2) (XS.iload X1.here hx rfl (hb hby d5_66) rfl (XS.iconst X1.here hx rfl (hb hby d5_68) (XS.iadd X1.here hx rfl (hb hby d5_69) rfl (XS.goto X1.here hx rfl (pc0 := 70) (pc' := 75) rfl (hb hby d5_70) (by decide) (by decide) k))))) ?_
      show oF p e below _ (T1.setTop (mkF m 75 #[rv a1, iv 0, jv u, .second, iv 0] [(.int 1)]))
      exact oo X1 (fun h => by rw [Bd.returns] at h; cases h) Bd.notSynchronized (fun fs hr => retI X1 hx Bd.returns (hb hby d5_75) hr) ⟨(by simp [own_x0, own_x1, own_x2, own_x3, hc3]), N0, e1⟩ (by decide) (by decide)
    · skip
      refine og (fun t k => XS.ifYes X1.here hx rfl (pc0 := 63) (pc' := 73) rfl (hb hby d5_63) rfl ((if0 _ _).trans (feq (fun q => hc3 ((lw_eq _ _).mp q))).2) (by decide) (by decide) (XS.iload X1.here hx rfl (hb hby d5_73) rfl k)) ?_
      show oF p e below _ (T1.setTop (mkF m 75 #[rv a1, iv 0, jv u, .second, iv 0] [(.int 0)]))
      exact oo X1 (fun h => by rw [Bd.returns] at h; cases h) Bd.notSynchronized (fun fs hr => retI X1 hx Bd.returns (hb hby d5_75) hr) ⟨(by simp [own_x0, own_x1, own_x2, own_x3, hc3]), N0, e1⟩ (by decide) (by decide)
  refine og (fun t k => XS.iloadN X0.here hx rfl (hb hby d5_0) rfl (XS.aloadN X0.here hx rfl (hb hby d5_1) rfl rfl k)) ?_
  show oF p e below _ (s₁.setTop (mkF m 2 #[rv a1, iv 0, jv u, .second, .unset] [(.ref a1), (.int 0)]))
  obtain ⟨T4, X4, e4, st4⟩ := getF X0 hx hZ hown (host := "") (Or.inl hw_17) Via.refl e0 F_w (g := (mkF m 2 #[rv a1, iv 0, jv u, .second, .unset] [(.ref a1), (.int 0)])) rfl rfl (hb hby d5_2)
  refine og st4 ?_
  show oF p e below _ (T4.setTop (mkF m 5 #[rv a1, iv 0, jv u, .second, .unset] [(.ref aw), (.int 0)]))
  obtain ⟨cl5, Ar5, q5, S5, M5, H5, G5⟩ := (id V_w)
  refine og (fun t k => X4.arraylength hx (by rw [e4]; exact Ar5.1) (State.isArrayOf_alike hZ.alike Ar5.2.1) (g := (mkF m 5 #[rv a1, iv 0, jv u, .second, .unset] [(.ref aw), (.int 0)])) rfl rfl (hb hby d5_5) _ k) ?_
  rw [len_of S5 M5]
  show oF p e below _ (T4.setTop (mkF m 6 #[rv a1, iv 0, jv u, .second, .unset] [(.int 2), (.int 0)]))
  refine og (fun t k => XS.icmpYes X4.here hx rfl (pc0 := 6) (pc' := 20) rfl (hb hby d5_6) rfl (feq (by decide : ¬ ((0 : Int32) = (2 : Int32)))).2 (by decide) (by decide) (XS.iloadN X4.here hx rfl (hb hby d5_20) rfl (XS.istore X4.here hx rfl (hb hby d5_21) rfl (l' := #[rv a1, iv 0, jv u, .second, iv 0]) rfl k))) ?_
  exact Jg0 T4 X4 e4
theorem d5_28 : decode prog_199_method_6_code 28 = .ok (.lload_n 2, 1) := by decide +kernel
theorem d5_29 : decode prog_199_method_6_code 29 = .ok (.aload_n 0, 1) := by decide +kernel
theorem d5_30 : decode prog_199_method_6_code 30 = .ok (.getfield 12, 3) := by decide +kernel
theorem d5_33 : decode prog_199_method_6_code 33 = .ok (.iload 4, 2) := by decide +kernel
theorem d5_35 : decode prog_199_method_6_code 35 = .ok (.laload, 1) := by decide +kernel
theorem d5_36 : decode prog_199_method_6_code 36 = .ok (.lcmp, 1) := by decide +kernel
theorem d5_37 : decode prog_199_method_6_code 37 = .ok (.ifCond .eq 17, 3) := by decide +kernel
theorem d5_40 : decode prog_199_method_6_code 40 = .ok (.aload_n 0, 1) := by decide +kernel
theorem d5_41 : decode prog_199_method_6_code 41 = .ok (.getfield 20, 3) := by decide +kernel
theorem d5_44 : decode prog_199_method_6_code 44 = .ok (.iload 4, 2) := by decide +kernel
theorem d5_46 : decode prog_199_method_6_code 46 = .ok (.iconst 1, 1) := by decide +kernel
theorem d5_47 : decode prog_199_method_6_code 47 = .ok (.isub, 1) := by decide +kernel
theorem d5_48 : decode prog_199_method_6_code 48 = .ok (.iaload, 1) := by decide +kernel
theorem d5_49 : decode prog_199_method_6_code 49 = .ok (.istore 4, 2) := by decide +kernel
theorem d5_51 : decode prog_199_method_6_code 51 = .ok (.goto (-28), 3) := by decide +kernel
theorem ef_5n2m1 (m : MethodId) (x0 : Addr) (x1 : Int32) (x2 : Int64)  : entryFrame m #[(.ref x0), (.int x1), (.long x2)] 5 = mkF m 0 #[rv x0, iv x1, jv x2, .second, .unset] [] := by first | (simp [entryFrame, mkF, argsToLocals, Value.category]; done) | rfl
set_option maxRecDepth 65536 in
set_option maxHeartbeats 40000000 in
theorem rm5n2m1 (l : Launch) (Z : State) (a0 : Array Value) (hw : ∀ d ∈ tables_1, d.before a0 Z = true) (ws : List Jvm.Cond) (a1 : Addr) (u : Int64) (aw ab : Addr) (kw kb : ClassId) (w0 w1 : Int64) (B0 B1 : Int32) (h0 : Heap) (n0 : Nat) (Z0 : n0 ≤ h0.size) (F_w : Fld Z h0 a1 "com/example/sound_verdict/soundverdict/UnitSearch" "wanted" "[J" (.ref aw)) (F_b : Fld Z h0 a1 "com/example/sound_verdict/soundverdict/UnitSearch" "border" "[I" (.ref ab)) (V_w : Arv Z h0 aw kw .long (2 : Int32) [(.long w0), (.long w1)] (.long (0 : Int64))) (V_b : Arv Z h0 ab kb .int (2 : Int32) [(.int B0), (.int B1)] (.int (0 : Int32))) (hB0 : B0 = (0 : Int32)) (hB1 : B1 = (0 : Int32) ∨ B1 = (1 : Int32)) :
    MetFree l (⟨"com/example/sound_verdict/soundverdict/UnitSearch", "next", "(IJ)I"⟩ : MethodName) (head1 (Jvm.Cond.code (⟨"com/example/sound_verdict/soundverdict/UnitSearch", "next", "(IJ)I"⟩ : MethodName) prog_199_method_6_code 5 (some .int) :: ws) ({ frames := 0, cells := 0, slots := 0, locals := 0 } : Room)) (fun a U => a = #[(.ref a1), (.int 1), (.long u)] ∧ Z.Warmed39 U.vm ∧ U.heap = h0) (fun _ _ _ _ _ => True) (fun _ U o U' => ∃ v L, o = .returned v ∧ (own_P h0 n0 (.int (own_x1 w0 w1 u))) v U'.heap L ∧ FrameEnd U o U' L ({ frames := 0, cells := 0, slots := 0, locals := 0 } : Room).cells ({ frames := 0, cells := 0, slots := 0, locals := 0 } : Room).slots) := by
  refine MetFree.of_bodySF (plainFor_of_name pn_1) hisR ?_
  intro p e s m args below meth c s₁ Bd hml0 hP hK
  obtain ⟨rfl, hZ, hh⟩ := hP
  have hx := Bd.exec
  have hby := Bd.bytes
  have hml : c.maxLocals = 5 := hml0
  have hown : s.vm.findClass "com/example/sound_verdict/soundverdict/UnitSearch" = some m.cls := findClass_of_methodNamed Bd.named
  have hnm := (name_of_methodNamed Bd.named Bd.method).1
  have X0 : Stand p l e ({ frames := 0, cells := 0, slots := 0, locals := 0 } : Room) s m #[(.ref a1), (.int 1), (.long u)] below meth c s₁ [] 0 0 := Stand.of_body Bd
  have e0 : s₁.heap = h0 := by rw [← hh, Bd.state]; rfl
  have N0 := Fr.nil n0
  have hw_17 := hw _ (List.mem_of_getElem? (i := 17) rfl)
  have hw_22 := hw _ (List.mem_of_getElem? (i := 22) rfl)
  show oF p e below (own_A s ({ frames := 0, cells := 0, slots := 0, locals := 0 } : Room).cells ({ frames := 0, cells := 0, slots := 0, locals := 0 } : Room).slots (own_P h0 n0 (.int (own_x1 w0 w1 u)))) _
  refine og (fun t k => castTop (ef_5n2m1 m (a1) ((1 : Int32)) (u)) k) ?_
  show oF p e below _ (s₁.setTop (mkF m 0 #[rv a1, iv 1, jv u, .second, .unset] []))
  have Jg0 : ∀ (TT : State) (XX : Stand p l e ({ frames := 0, cells := 0, slots := 0, locals := 0 } : Room) s m #[(.ref a1), (.int 1), (.long u)] below meth c TT [] 0 0) (ee : TT.heap = h0), oF p e below (own_A s ({ frames := 0, cells := 0, slots := 0, locals := 0 } : Room).cells ({ frames := 0, cells := 0, slots := 0, locals := 0 } : Room).slots (own_P h0 n0 (.int (own_x0 w0 u)))) (TT.setTop (mkF m 23 #[rv a1, iv 1, jv u, .second, iv 0] [])) := by
    intro TT XX ee
    refine og (fun t k => XS.iload XX.here hx rfl (hb hby d5_23) rfl k) ?_
    show oF p e below _ (TT.setTop (mkF m 25 #[rv a1, iv 1, jv u, .second, iv 0] [(.int 0)]))
    refine og (fun t k => XS.ifYes XX.here hx rfl (pc0 := 25) (pc' := 54) rfl (hb hby d5_25) rfl ((if0 _ _).trans (flt (by decide : ¬ ((0 : Int32) < (0 : Int32)))).2.2.2) (by decide) (by decide) (XS.lloadN XX.here hx rfl (hb hby d5_54) rfl (XS.aloadN XX.here hx rfl (hb hby d5_55) rfl rfl k))) ?_
    show oF p e below _ (TT.setTop (mkF m 56 #[rv a1, iv 1, jv u, .second, iv 0] [(.ref a1), (.long u)]))
    obtain ⟨T1, X1, e1, st1⟩ := getF XX hx hZ hown (host := "") (Or.inl hw_17) Via.refl ee F_w (g := (mkF m 56 #[rv a1, iv 1, jv u, .second, iv 0] [(.ref a1), (.long u)])) rfl rfl (hb hby d5_56)
    refine og st1 ?_
    show oF p e below _ (T1.setTop (mkF m 59 #[rv a1, iv 1, jv u, .second, iv 0] [(.ref aw), (.long u)]))
    refine og (fun t k => XS.iload X1.here hx rfl (hb hby d5_59) rfl k) ?_
    show oF p e below _ (T1.setTop (mkF m 61 #[rv a1, iv 1, jv u, .second, iv 0] [(.int 0), (.ref aw), (.long u)]))
    obtain ⟨cl2, Ar2, q2, S2, M2, H2, G2⟩ := (id V_w)
    have hin2 : ¬ ((0 : Int32) < 0 ∨ cl2.slots.size ≤ ((0 : Int32)).toNatClampNeg) := inb_of S2 ⟨by decide, by decide⟩
    have hat2 : cl2.slots[((0 : Int32)).toNatClampNeg]? = some (.long w0) := H2.at hin2 rfl
    refine og (fun t k => X1.laload hx (j := (0 : Int32)) (v := (.long w0)) (by rw [e1]; exact Ar2.1) (State.isArrayOf_alike hZ.alike Ar2.2.1) Ar2.2.2 hin2 hat2 (g := (mkF m 61 #[rv a1, iv 1, jv u, .second, iv 0] [(.int 0), (.ref aw), (.long u)])) rfl rfl (hb hby d5_61) _ (XS.lcmp X1.here hx rfl (hb hby d5_62) rfl k)) ?_
    show oF p e below _ (T1.setTop (mkF m 63 #[rv a1, iv 1, jv u, .second, iv 0] [(.int (lcmpW u w0))]))
    by_cases hc3 : u = w0
    · skip
      refine og (fun t k => XS.ifNo X1.here hx rfl (hb hby d5_63) rfl ((if0 _ _).trans (teq ((lw_eq _ _).mpr hc3)).2) (XS.iload X1.here hx rfl (hb hby d5_66) rfl (XS.iconst X1.here hx rfl (hb hby d5_68) (XS.iadd X1.here hx rfl (hb hby d5_69) rfl (XS.goto X1.here hx rfl (pc0 := 70) (pc' := 75) rfl (hb hby d5_70) (by decide) (by decide) k))))) ?_
      show oF p e below _ (T1.setTop (mkF m 75 #[rv a1, iv 1, jv u, .second, iv 0] [(.int 1)]))
      exact oo X1 (fun h => by rw [Bd.returns] at h; cases h) Bd.notSynchronized (fun fs hr => retI X1 hx Bd.returns (hb hby d5_75) hr) ⟨(by simp [own_x0, own_x1, own_x2, own_x3, hc3]), N0, e1⟩ (by decide) (by decide)
    · skip
      refine og (fun t k => XS.ifYes X1.here hx rfl (pc0 := 63) (pc' := 73) rfl (hb hby d5_63) rfl ((if0 _ _).trans (feq (fun q => hc3 ((lw_eq _ _).mp q))).2) (by decide) (by decide) (XS.iload X1.here hx rfl (hb hby d5_73) rfl k)) ?_
      show oF p e below _ (T1.setTop (mkF m 75 #[rv a1, iv 1, jv u, .second, iv 0] [(.int 0)]))
      exact oo X1 (fun h => by rw [Bd.returns] at h; cases h) Bd.notSynchronized (fun fs hr => retI X1 hx Bd.returns (hb hby d5_75) hr) ⟨(by simp [own_x0, own_x1, own_x2, own_x3, hc3]), N0, e1⟩ (by decide) (by decide)
  have Jg1 : ∀ (TT : State) (XX : Stand p l e ({ frames := 0, cells := 0, slots := 0, locals := 0 } : Room) s m #[(.ref a1), (.int 1), (.long u)] below meth c TT [] 0 0) (ee : TT.heap = h0), oF p e below (own_A s ({ frames := 0, cells := 0, slots := 0, locals := 0 } : Room).cells ({ frames := 0, cells := 0, slots := 0, locals := 0 } : Room).slots (own_P h0 n0 (.int (own_x1 w0 w1 u)))) (TT.setTop (mkF m 23 #[rv a1, iv 1, jv u, .second, iv 1] [])) := by
    intro TT XX ee
    refine og (fun t k => XS.iload XX.here hx rfl (hb hby d5_23) rfl k) ?_
    show oF p e below _ (TT.setTop (mkF m 25 #[rv a1, iv 1, jv u, .second, iv 1] [(.int 1)]))
    refine og (fun t k => XS.ifNo XX.here hx rfl (hb hby d5_25) rfl ((if0 _ _).trans (tlt (by decide : (0 : Int32) < (1 : Int32))).2.2.2) (XS.lloadN XX.here hx rfl (hb hby d5_28) rfl (XS.aloadN XX.here hx rfl (hb hby d5_29) rfl rfl k))) ?_
    show oF p e below _ (TT.setTop (mkF m 30 #[rv a1, iv 1, jv u, .second, iv 1] [(.ref a1), (.long u)]))
    obtain ⟨T4, X4, e4, st4⟩ := getF XX hx hZ hown (host := "") (Or.inl hw_17) Via.refl ee F_w (g := (mkF m 30 #[rv a1, iv 1, jv u, .second, iv 1] [(.ref a1), (.long u)])) rfl rfl (hb hby d5_30)
    refine og st4 ?_
    show oF p e below _ (T4.setTop (mkF m 33 #[rv a1, iv 1, jv u, .second, iv 1] [(.ref aw), (.long u)]))
    refine og (fun t k => XS.iload X4.here hx rfl (hb hby d5_33) rfl k) ?_
    show oF p e below _ (T4.setTop (mkF m 35 #[rv a1, iv 1, jv u, .second, iv 1] [(.int 1), (.ref aw), (.long u)]))
    obtain ⟨cl5, Ar5, q5, S5, M5, H5, G5⟩ := (id V_w)
    have hin5 : ¬ ((1 : Int32) < 0 ∨ cl5.slots.size ≤ ((1 : Int32)).toNatClampNeg) := inb_of S5 ⟨by decide, by decide⟩
    have hat5 : cl5.slots[((1 : Int32)).toNatClampNeg]? = some (.long w1) := H5.at hin5 rfl
    refine og (fun t k => X4.laload hx (j := (1 : Int32)) (v := (.long w1)) (by rw [e4]; exact Ar5.1) (State.isArrayOf_alike hZ.alike Ar5.2.1) Ar5.2.2 hin5 hat5 (g := (mkF m 35 #[rv a1, iv 1, jv u, .second, iv 1] [(.int 1), (.ref aw), (.long u)])) rfl rfl (hb hby d5_35) _ (XS.lcmp X4.here hx rfl (hb hby d5_36) rfl k)) ?_
    show oF p e below _ (T4.setTop (mkF m 37 #[rv a1, iv 1, jv u, .second, iv 1] [(.int (lcmpW u w1))]))
    by_cases hc6 : u = w1
    · skip
      refine og (fun t k => XS.ifYes X4.here hx rfl (pc0 := 37) (pc' := 54) rfl (hb hby d5_37) rfl ((if0 _ _).trans (teq ((lw_eq _ _).mpr hc6)).1) (by decide) (by decide) (XS.lloadN X4.here hx rfl (hb hby d5_54) rfl (XS.aloadN X4.here hx rfl (hb hby d5_55) rfl rfl k))) ?_
      show oF p e below _ (T4.setTop (mkF m 56 #[rv a1, iv 1, jv u, .second, iv 1] [(.ref a1), (.long u)]))
      obtain ⟨T7, X7, e7, st7⟩ := getF X4 hx hZ hown (host := "") (Or.inl hw_17) Via.refl e4 F_w (g := (mkF m 56 #[rv a1, iv 1, jv u, .second, iv 1] [(.ref a1), (.long u)])) rfl rfl (hb hby d5_56)
      refine og st7 ?_
      show oF p e below _ (T7.setTop (mkF m 59 #[rv a1, iv 1, jv u, .second, iv 1] [(.ref aw), (.long u)]))
      refine og (fun t k => XS.iload X7.here hx rfl (hb hby d5_59) rfl k) ?_
      show oF p e below _ (T7.setTop (mkF m 61 #[rv a1, iv 1, jv u, .second, iv 1] [(.int 1), (.ref aw), (.long u)]))
      obtain ⟨cl8, Ar8, q8, S8, M8, H8, G8⟩ := (id V_w)
      have hin8 : ¬ ((1 : Int32) < 0 ∨ cl8.slots.size ≤ ((1 : Int32)).toNatClampNeg) := inb_of S8 ⟨by decide, by decide⟩
      have hat8 : cl8.slots[((1 : Int32)).toNatClampNeg]? = some (.long w1) := H8.at hin8 rfl
      refine og (fun t k => X7.laload hx (j := (1 : Int32)) (v := (.long w1)) (by rw [e7]; exact Ar8.1) (State.isArrayOf_alike hZ.alike Ar8.2.1) Ar8.2.2 hin8 hat8 (g := (mkF m 61 #[rv a1, iv 1, jv u, .second, iv 1] [(.int 1), (.ref aw), (.long u)])) rfl rfl (hb hby d5_61) _ (XS.lcmp X7.here hx rfl (hb hby d5_62) rfl k)) ?_
      show oF p e below _ (T7.setTop (mkF m 63 #[rv a1, iv 1, jv u, .second, iv 1] [(.int (lcmpW u w1))]))
      refine og (fun t k => XS.ifNo X7.here hx rfl (hb hby d5_63) rfl ((if0 _ _).trans (teq ((lw_eq _ _).mpr hc6)).2) (XS.iload X7.here hx rfl (hb hby d5_66) rfl (XS.iconst X7.here hx rfl (hb hby d5_68) (XS.iadd X7.here hx rfl (hb hby d5_69) rfl (XS.goto X7.here hx rfl (pc0 := 70) (pc' := 75) rfl (hb hby d5_70) (by decide) (by decide) k))))) ?_
      show oF p e below _ (T7.setTop (mkF m 75 #[rv a1, iv 1, jv u, .second, iv 1] [(.int 2)]))
      exact oo X7 (fun h => by rw [Bd.returns] at h; cases h) Bd.notSynchronized (fun fs hr => retI X7 hx Bd.returns (hb hby d5_75) hr) ⟨(by simp [own_x0, own_x1, own_x2, own_x3, hc6]), N0, e7⟩ (by decide) (by decide)
    · skip
      refine og (fun t k => XS.ifNo X4.here hx rfl (hb hby d5_37) rfl ((if0 _ _).trans (feq (fun q => hc6 ((lw_eq _ _).mp q))).1) (XS.aloadN X4.here hx rfl (hb hby d5_40) rfl rfl k)) ?_
      show oF p e below _ (T4.setTop (mkF m 41 #[rv a1, iv 1, jv u, .second, iv 1] [(.ref a1)]))
      obtain ⟨T9, X9, e9, st9⟩ := getF X4 hx hZ hown (host := "") (Or.inl hw_22) Via.refl e4 F_b (g := (mkF m 41 #[rv a1, iv 1, jv u, .second, iv 1] [(.ref a1)])) rfl rfl (hb hby d5_41)
      refine og st9 ?_
      show oF p e below _ (T9.setTop (mkF m 44 #[rv a1, iv 1, jv u, .second, iv 1] [(.ref ab)]))
      refine og (fun t k => XS.iload X9.here hx rfl (hb hby d5_44) rfl (XS.iconst X9.here hx rfl (hb hby d5_46) (XS.isub X9.here hx rfl (hb hby d5_47) rfl k))) ?_
      show oF p e below _ (T9.setTop (mkF m 48 #[rv a1, iv 1, jv u, .second, iv 1] [(.int 0), (.ref ab)]))
      obtain ⟨cl10, Ar10, q10, S10, M10, H10, G10⟩ := (id V_b)
      have hin10 : ¬ ((0 : Int32) < 0 ∨ cl10.slots.size ≤ ((0 : Int32)).toNatClampNeg) := inb_of S10 ⟨by decide, by decide⟩
      have hat10 : cl10.slots[((0 : Int32)).toNatClampNeg]? = some (.int B0) := H10.at hin10 rfl
      refine og (fun t k => X9.iaload hx (j := (0 : Int32)) (v := (.int B0)) (by rw [e9]; exact Ar10.1) (State.isArrayOf_alike hZ.alike Ar10.2.1) Ar10.2.2 hin10 hat10 (g := (mkF m 48 #[rv a1, iv 1, jv u, .second, iv 1] [(.int 0), (.ref ab)])) rfl rfl (hb hby d5_48) _ k) ?_
      show oF p e below _ (T9.setTop (mkF m 49 #[rv a1, iv 1, jv u, .second, iv 1] [(.int B0)]))
      have hv11 := hB0
      · skip
        rw [hv11]
        show oF p e below _ (T9.setTop (mkF m 49 #[rv a1, iv 1, jv u, .second, iv 1] [(.int 0)]))
        refine og (fun t k => XS.istore X9.here hx rfl (hb hby d5_49) rfl (l' := #[rv a1, iv 1, jv u, .second, iv 0]) rfl (XS.goto X9.here hx rfl (pc0 := 51) (pc' := 23) rfl (hb hby d5_51) (by decide) (by decide) k)) ?_
        rw [show (own_x1 w0 w1 u) = (own_x0 w0 u) from by simp [own_x0, own_x1, own_x2, own_x3, hc6, hv11]]
        exact Jg0 T9 X9 e9
  refine og (fun t k => XS.iloadN X0.here hx rfl (hb hby d5_0) rfl (XS.aloadN X0.here hx rfl (hb hby d5_1) rfl rfl k)) ?_
  show oF p e below _ (s₁.setTop (mkF m 2 #[rv a1, iv 1, jv u, .second, .unset] [(.ref a1), (.int 1)]))
  obtain ⟨T12, X12, e12, st12⟩ := getF X0 hx hZ hown (host := "") (Or.inl hw_17) Via.refl e0 F_w (g := (mkF m 2 #[rv a1, iv 1, jv u, .second, .unset] [(.ref a1), (.int 1)])) rfl rfl (hb hby d5_2)
  refine og st12 ?_
  show oF p e below _ (T12.setTop (mkF m 5 #[rv a1, iv 1, jv u, .second, .unset] [(.ref aw), (.int 1)]))
  obtain ⟨cl13, Ar13, q13, S13, M13, H13, G13⟩ := (id V_w)
  refine og (fun t k => X12.arraylength hx (by rw [e12]; exact Ar13.1) (State.isArrayOf_alike hZ.alike Ar13.2.1) (g := (mkF m 5 #[rv a1, iv 1, jv u, .second, .unset] [(.ref aw), (.int 1)])) rfl rfl (hb hby d5_5) _ k) ?_
  rw [len_of S13 M13]
  show oF p e below _ (T12.setTop (mkF m 6 #[rv a1, iv 1, jv u, .second, .unset] [(.int 2), (.int 1)]))
  refine og (fun t k => XS.icmpYes X12.here hx rfl (pc0 := 6) (pc' := 20) rfl (hb hby d5_6) rfl (feq (by decide : ¬ ((1 : Int32) = (2 : Int32)))).2 (by decide) (by decide) (XS.iloadN X12.here hx rfl (hb hby d5_20) rfl (XS.istore X12.here hx rfl (hb hby d5_21) rfl (l' := #[rv a1, iv 1, jv u, .second, iv 1]) rfl k))) ?_
  exact Jg1 T12 X12 e12
theorem ef_5n2m2 (m : MethodId) (x0 : Addr) (x1 : Int32) (x2 : Int64)  : entryFrame m #[(.ref x0), (.int x1), (.long x2)] 5 = mkF m 0 #[rv x0, iv x1, jv x2, .second, .unset] [] := by first | (simp [entryFrame, mkF, argsToLocals, Value.category]; done) | rfl
set_option maxRecDepth 65536 in
set_option maxHeartbeats 40000000 in
theorem rm5n2m2 (l : Launch) (Z : State) (a0 : Array Value) (hw : ∀ d ∈ tables_1, d.before a0 Z = true) (ws : List Jvm.Cond) (a1 : Addr) (u : Int64) (aw ab : Addr) (kw kb : ClassId) (w0 w1 : Int64) (B0 B1 : Int32) (h0 : Heap) (n0 : Nat) (Z0 : n0 ≤ h0.size) (F_w : Fld Z h0 a1 "com/example/sound_verdict/soundverdict/UnitSearch" "wanted" "[J" (.ref aw)) (F_b : Fld Z h0 a1 "com/example/sound_verdict/soundverdict/UnitSearch" "border" "[I" (.ref ab)) (V_w : Arv Z h0 aw kw .long (2 : Int32) [(.long w0), (.long w1)] (.long (0 : Int64))) (V_b : Arv Z h0 ab kb .int (2 : Int32) [(.int B0), (.int B1)] (.int (0 : Int32))) (hB0 : B0 = (0 : Int32)) (hB1 : B1 = (0 : Int32) ∨ B1 = (1 : Int32)) :
    MetFree l (⟨"com/example/sound_verdict/soundverdict/UnitSearch", "next", "(IJ)I"⟩ : MethodName) (head1 (Jvm.Cond.code (⟨"com/example/sound_verdict/soundverdict/UnitSearch", "next", "(IJ)I"⟩ : MethodName) prog_199_method_6_code 5 (some .int) :: ws) ({ frames := 0, cells := 0, slots := 0, locals := 0 } : Room)) (fun a U => a = #[(.ref a1), (.int 2), (.long u)] ∧ Z.Warmed39 U.vm ∧ U.heap = h0) (fun _ _ _ _ _ => True) (fun _ U o U' => ∃ v L, o = .returned v ∧ (own_P h0 n0 (.int (if B1 = (0 : Int32) then (own_x0 w0 u) else (own_x1 w0 w1 u)))) v U'.heap L ∧ FrameEnd U o U' L ({ frames := 0, cells := 0, slots := 0, locals := 0 } : Room).cells ({ frames := 0, cells := 0, slots := 0, locals := 0 } : Room).slots) := by
  refine MetFree.of_bodySF (plainFor_of_name pn_1) hisR ?_
  intro p e s m args below meth c s₁ Bd hml0 hP hK
  obtain ⟨rfl, hZ, hh⟩ := hP
  have hx := Bd.exec
  have hby := Bd.bytes
  have hml : c.maxLocals = 5 := hml0
  have hown : s.vm.findClass "com/example/sound_verdict/soundverdict/UnitSearch" = some m.cls := findClass_of_methodNamed Bd.named
  have hnm := (name_of_methodNamed Bd.named Bd.method).1
  have X0 : Stand p l e ({ frames := 0, cells := 0, slots := 0, locals := 0 } : Room) s m #[(.ref a1), (.int 2), (.long u)] below meth c s₁ [] 0 0 := Stand.of_body Bd
  have e0 : s₁.heap = h0 := by rw [← hh, Bd.state]; rfl
  have N0 := Fr.nil n0
  have hw_17 := hw _ (List.mem_of_getElem? (i := 17) rfl)
  have hw_22 := hw _ (List.mem_of_getElem? (i := 22) rfl)
  show oF p e below (own_A s ({ frames := 0, cells := 0, slots := 0, locals := 0 } : Room).cells ({ frames := 0, cells := 0, slots := 0, locals := 0 } : Room).slots (own_P h0 n0 (.int (if B1 = (0 : Int32) then (own_x0 w0 u) else (own_x1 w0 w1 u))))) _
  refine og (fun t k => castTop (ef_5n2m2 m (a1) ((2 : Int32)) (u)) k) ?_
  show oF p e below _ (s₁.setTop (mkF m 0 #[rv a1, iv 2, jv u, .second, .unset] []))
  have Jg0 : ∀ (TT : State) (XX : Stand p l e ({ frames := 0, cells := 0, slots := 0, locals := 0 } : Room) s m #[(.ref a1), (.int 2), (.long u)] below meth c TT [] 0 0) (ee : TT.heap = h0), oF p e below (own_A s ({ frames := 0, cells := 0, slots := 0, locals := 0 } : Room).cells ({ frames := 0, cells := 0, slots := 0, locals := 0 } : Room).slots (own_P h0 n0 (.int (own_x0 w0 u)))) (TT.setTop (mkF m 23 #[rv a1, iv 2, jv u, .second, iv 0] [])) := by
    intro TT XX ee
    refine og (fun t k => XS.iload XX.here hx rfl (hb hby d5_23) rfl k) ?_
    show oF p e below _ (TT.setTop (mkF m 25 #[rv a1, iv 2, jv u, .second, iv 0] [(.int 0)]))
    refine og (fun t k => XS.ifYes XX.here hx rfl (pc0 := 25) (pc' := 54) rfl (hb hby d5_25) rfl ((if0 _ _).trans (flt (by decide : ¬ ((0 : Int32) < (0 : Int32)))).2.2.2) (by decide) (by decide) (XS.lloadN XX.here hx rfl (hb hby d5_54) rfl (XS.aloadN XX.here hx rfl (hb hby d5_55) rfl rfl k))) ?_
    show oF p e below _ (TT.setTop (mkF m 56 #[rv a1, iv 2, jv u, .second, iv 0] [(.ref a1), (.long u)]))
    obtain ⟨T1, X1, e1, st1⟩ := getF XX hx hZ hown (host := "") (Or.inl hw_17) Via.refl ee F_w (g := (mkF m 56 #[rv a1, iv 2, jv u, .second, iv 0] [(.ref a1), (.long u)])) rfl rfl (hb hby d5_56)
    refine og st1 ?_
    show oF p e below _ (T1.setTop (mkF m 59 #[rv a1, iv 2, jv u, .second, iv 0] [(.ref aw), (.long u)]))
    refine og (fun t k => XS.iload X1.here hx rfl (hb hby d5_59) rfl k) ?_
    show oF p e below _ (T1.setTop (mkF m 61 #[rv a1, iv 2, jv u, .second, iv 0] [(.int 0), (.ref aw), (.long u)]))
    obtain ⟨cl2, Ar2, q2, S2, M2, H2, G2⟩ := (id V_w)
    have hin2 : ¬ ((0 : Int32) < 0 ∨ cl2.slots.size ≤ ((0 : Int32)).toNatClampNeg) := inb_of S2 ⟨by decide, by decide⟩
    have hat2 : cl2.slots[((0 : Int32)).toNatClampNeg]? = some (.long w0) := H2.at hin2 rfl
    refine og (fun t k => X1.laload hx (j := (0 : Int32)) (v := (.long w0)) (by rw [e1]; exact Ar2.1) (State.isArrayOf_alike hZ.alike Ar2.2.1) Ar2.2.2 hin2 hat2 (g := (mkF m 61 #[rv a1, iv 2, jv u, .second, iv 0] [(.int 0), (.ref aw), (.long u)])) rfl rfl (hb hby d5_61) _ (XS.lcmp X1.here hx rfl (hb hby d5_62) rfl k)) ?_
    show oF p e below _ (T1.setTop (mkF m 63 #[rv a1, iv 2, jv u, .second, iv 0] [(.int (lcmpW u w0))]))
    by_cases hc3 : u = w0
    · skip
      refine og (fun t k => XS.ifNo X1.here hx rfl (hb hby d5_63) rfl ((if0 _ _).trans (teq ((lw_eq _ _).mpr hc3)).2) (XS.iload X1.here hx rfl (hb hby d5_66) rfl (XS.iconst X1.here hx rfl (hb hby d5_68) (XS.iadd X1.here hx rfl (hb hby d5_69) rfl (XS.goto X1.here hx rfl (pc0 := 70) (pc' := 75) rfl (hb hby d5_70) (by decide) (by decide) k))))) ?_
      show oF p e below _ (T1.setTop (mkF m 75 #[rv a1, iv 2, jv u, .second, iv 0] [(.int 1)]))
      exact oo X1 (fun h => by rw [Bd.returns] at h; cases h) Bd.notSynchronized (fun fs hr => retI X1 hx Bd.returns (hb hby d5_75) hr) ⟨(by simp [own_x0, own_x1, own_x2, own_x3, hc3]), N0, e1⟩ (by decide) (by decide)
    · skip
      refine og (fun t k => XS.ifYes X1.here hx rfl (pc0 := 63) (pc' := 73) rfl (hb hby d5_63) rfl ((if0 _ _).trans (feq (fun q => hc3 ((lw_eq _ _).mp q))).2) (by decide) (by decide) (XS.iload X1.here hx rfl (hb hby d5_73) rfl k)) ?_
      show oF p e below _ (T1.setTop (mkF m 75 #[rv a1, iv 2, jv u, .second, iv 0] [(.int 0)]))
      exact oo X1 (fun h => by rw [Bd.returns] at h; cases h) Bd.notSynchronized (fun fs hr => retI X1 hx Bd.returns (hb hby d5_75) hr) ⟨(by simp [own_x0, own_x1, own_x2, own_x3, hc3]), N0, e1⟩ (by decide) (by decide)
  have Jg1 : ∀ (TT : State) (XX : Stand p l e ({ frames := 0, cells := 0, slots := 0, locals := 0 } : Room) s m #[(.ref a1), (.int 2), (.long u)] below meth c TT [] 0 0) (ee : TT.heap = h0), oF p e below (own_A s ({ frames := 0, cells := 0, slots := 0, locals := 0 } : Room).cells ({ frames := 0, cells := 0, slots := 0, locals := 0 } : Room).slots (own_P h0 n0 (.int (own_x1 w0 w1 u)))) (TT.setTop (mkF m 23 #[rv a1, iv 2, jv u, .second, iv 1] [])) := by
    intro TT XX ee
    refine og (fun t k => XS.iload XX.here hx rfl (hb hby d5_23) rfl k) ?_
    show oF p e below _ (TT.setTop (mkF m 25 #[rv a1, iv 2, jv u, .second, iv 1] [(.int 1)]))
    refine og (fun t k => XS.ifNo XX.here hx rfl (hb hby d5_25) rfl ((if0 _ _).trans (tlt (by decide : (0 : Int32) < (1 : Int32))).2.2.2) (XS.lloadN XX.here hx rfl (hb hby d5_28) rfl (XS.aloadN XX.here hx rfl (hb hby d5_29) rfl rfl k))) ?_
    show oF p e below _ (TT.setTop (mkF m 30 #[rv a1, iv 2, jv u, .second, iv 1] [(.ref a1), (.long u)]))
    obtain ⟨T4, X4, e4, st4⟩ := getF XX hx hZ hown (host := "") (Or.inl hw_17) Via.refl ee F_w (g := (mkF m 30 #[rv a1, iv 2, jv u, .second, iv 1] [(.ref a1), (.long u)])) rfl rfl (hb hby d5_30)
    refine og st4 ?_
    show oF p e below _ (T4.setTop (mkF m 33 #[rv a1, iv 2, jv u, .second, iv 1] [(.ref aw), (.long u)]))
    refine og (fun t k => XS.iload X4.here hx rfl (hb hby d5_33) rfl k) ?_
    show oF p e below _ (T4.setTop (mkF m 35 #[rv a1, iv 2, jv u, .second, iv 1] [(.int 1), (.ref aw), (.long u)]))
    obtain ⟨cl5, Ar5, q5, S5, M5, H5, G5⟩ := (id V_w)
    have hin5 : ¬ ((1 : Int32) < 0 ∨ cl5.slots.size ≤ ((1 : Int32)).toNatClampNeg) := inb_of S5 ⟨by decide, by decide⟩
    have hat5 : cl5.slots[((1 : Int32)).toNatClampNeg]? = some (.long w1) := H5.at hin5 rfl
    refine og (fun t k => X4.laload hx (j := (1 : Int32)) (v := (.long w1)) (by rw [e4]; exact Ar5.1) (State.isArrayOf_alike hZ.alike Ar5.2.1) Ar5.2.2 hin5 hat5 (g := (mkF m 35 #[rv a1, iv 2, jv u, .second, iv 1] [(.int 1), (.ref aw), (.long u)])) rfl rfl (hb hby d5_35) _ (XS.lcmp X4.here hx rfl (hb hby d5_36) rfl k)) ?_
    show oF p e below _ (T4.setTop (mkF m 37 #[rv a1, iv 2, jv u, .second, iv 1] [(.int (lcmpW u w1))]))
    by_cases hc6 : u = w1
    · skip
      refine og (fun t k => XS.ifYes X4.here hx rfl (pc0 := 37) (pc' := 54) rfl (hb hby d5_37) rfl ((if0 _ _).trans (teq ((lw_eq _ _).mpr hc6)).1) (by decide) (by decide) (XS.lloadN X4.here hx rfl (hb hby d5_54) rfl (XS.aloadN X4.here hx rfl (hb hby d5_55) rfl rfl k))) ?_
      show oF p e below _ (T4.setTop (mkF m 56 #[rv a1, iv 2, jv u, .second, iv 1] [(.ref a1), (.long u)]))
      obtain ⟨T7, X7, e7, st7⟩ := getF X4 hx hZ hown (host := "") (Or.inl hw_17) Via.refl e4 F_w (g := (mkF m 56 #[rv a1, iv 2, jv u, .second, iv 1] [(.ref a1), (.long u)])) rfl rfl (hb hby d5_56)
      refine og st7 ?_
      show oF p e below _ (T7.setTop (mkF m 59 #[rv a1, iv 2, jv u, .second, iv 1] [(.ref aw), (.long u)]))
      refine og (fun t k => XS.iload X7.here hx rfl (hb hby d5_59) rfl k) ?_
      show oF p e below _ (T7.setTop (mkF m 61 #[rv a1, iv 2, jv u, .second, iv 1] [(.int 1), (.ref aw), (.long u)]))
      obtain ⟨cl8, Ar8, q8, S8, M8, H8, G8⟩ := (id V_w)
      have hin8 : ¬ ((1 : Int32) < 0 ∨ cl8.slots.size ≤ ((1 : Int32)).toNatClampNeg) := inb_of S8 ⟨by decide, by decide⟩
      have hat8 : cl8.slots[((1 : Int32)).toNatClampNeg]? = some (.long w1) := H8.at hin8 rfl
      refine og (fun t k => X7.laload hx (j := (1 : Int32)) (v := (.long w1)) (by rw [e7]; exact Ar8.1) (State.isArrayOf_alike hZ.alike Ar8.2.1) Ar8.2.2 hin8 hat8 (g := (mkF m 61 #[rv a1, iv 2, jv u, .second, iv 1] [(.int 1), (.ref aw), (.long u)])) rfl rfl (hb hby d5_61) _ (XS.lcmp X7.here hx rfl (hb hby d5_62) rfl k)) ?_
      show oF p e below _ (T7.setTop (mkF m 63 #[rv a1, iv 2, jv u, .second, iv 1] [(.int (lcmpW u w1))]))
      refine og (fun t k => XS.ifNo X7.here hx rfl (hb hby d5_63) rfl ((if0 _ _).trans (teq ((lw_eq _ _).mpr hc6)).2) (XS.iload X7.here hx rfl (hb hby d5_66) rfl (XS.iconst X7.here hx rfl (hb hby d5_68) (XS.iadd X7.here hx rfl (hb hby d5_69) rfl (XS.goto X7.here hx rfl (pc0 := 70) (pc' := 75) rfl (hb hby d5_70) (by decide) (by decide) k))))) ?_
      show oF p e below _ (T7.setTop (mkF m 75 #[rv a1, iv 2, jv u, .second, iv 1] [(.int 2)]))
      exact oo X7 (fun h => by rw [Bd.returns] at h; cases h) Bd.notSynchronized (fun fs hr => retI X7 hx Bd.returns (hb hby d5_75) hr) ⟨(by simp [own_x0, own_x1, own_x2, own_x3, hc6]), N0, e7⟩ (by decide) (by decide)
    · skip
      refine og (fun t k => XS.ifNo X4.here hx rfl (hb hby d5_37) rfl ((if0 _ _).trans (feq (fun q => hc6 ((lw_eq _ _).mp q))).1) (XS.aloadN X4.here hx rfl (hb hby d5_40) rfl rfl k)) ?_
      show oF p e below _ (T4.setTop (mkF m 41 #[rv a1, iv 2, jv u, .second, iv 1] [(.ref a1)]))
      obtain ⟨T9, X9, e9, st9⟩ := getF X4 hx hZ hown (host := "") (Or.inl hw_22) Via.refl e4 F_b (g := (mkF m 41 #[rv a1, iv 2, jv u, .second, iv 1] [(.ref a1)])) rfl rfl (hb hby d5_41)
      refine og st9 ?_
      show oF p e below _ (T9.setTop (mkF m 44 #[rv a1, iv 2, jv u, .second, iv 1] [(.ref ab)]))
      refine og (fun t k => XS.iload X9.here hx rfl (hb hby d5_44) rfl (XS.iconst X9.here hx rfl (hb hby d5_46) (XS.isub X9.here hx rfl (hb hby d5_47) rfl k))) ?_
      show oF p e below _ (T9.setTop (mkF m 48 #[rv a1, iv 2, jv u, .second, iv 1] [(.int 0), (.ref ab)]))
      obtain ⟨cl10, Ar10, q10, S10, M10, H10, G10⟩ := (id V_b)
      have hin10 : ¬ ((0 : Int32) < 0 ∨ cl10.slots.size ≤ ((0 : Int32)).toNatClampNeg) := inb_of S10 ⟨by decide, by decide⟩
      have hat10 : cl10.slots[((0 : Int32)).toNatClampNeg]? = some (.int B0) := H10.at hin10 rfl
      refine og (fun t k => X9.iaload hx (j := (0 : Int32)) (v := (.int B0)) (by rw [e9]; exact Ar10.1) (State.isArrayOf_alike hZ.alike Ar10.2.1) Ar10.2.2 hin10 hat10 (g := (mkF m 48 #[rv a1, iv 2, jv u, .second, iv 1] [(.int 0), (.ref ab)])) rfl rfl (hb hby d5_48) _ k) ?_
      show oF p e below _ (T9.setTop (mkF m 49 #[rv a1, iv 2, jv u, .second, iv 1] [(.int B0)]))
      have hv11 := hB0
      · skip
        rw [hv11]
        show oF p e below _ (T9.setTop (mkF m 49 #[rv a1, iv 2, jv u, .second, iv 1] [(.int 0)]))
        refine og (fun t k => XS.istore X9.here hx rfl (hb hby d5_49) rfl (l' := #[rv a1, iv 2, jv u, .second, iv 0]) rfl (XS.goto X9.here hx rfl (pc0 := 51) (pc' := 23) rfl (hb hby d5_51) (by decide) (by decide) k)) ?_
        rw [show (own_x1 w0 w1 u) = (own_x0 w0 u) from by simp [own_x0, own_x1, own_x2, own_x3, hc6, hv11]]
        exact Jg0 T9 X9 e9
  refine og (fun t k => XS.iloadN X0.here hx rfl (hb hby d5_0) rfl (XS.aloadN X0.here hx rfl (hb hby d5_1) rfl rfl k)) ?_
  show oF p e below _ (s₁.setTop (mkF m 2 #[rv a1, iv 2, jv u, .second, .unset] [(.ref a1), (.int 2)]))
  obtain ⟨T12, X12, e12, st12⟩ := getF X0 hx hZ hown (host := "") (Or.inl hw_17) Via.refl e0 F_w (g := (mkF m 2 #[rv a1, iv 2, jv u, .second, .unset] [(.ref a1), (.int 2)])) rfl rfl (hb hby d5_2)
  refine og st12 ?_
  show oF p e below _ (T12.setTop (mkF m 5 #[rv a1, iv 2, jv u, .second, .unset] [(.ref aw), (.int 2)]))
  obtain ⟨cl13, Ar13, q13, S13, M13, H13, G13⟩ := (id V_w)
  refine og (fun t k => X12.arraylength hx (by rw [e12]; exact Ar13.1) (State.isArrayOf_alike hZ.alike Ar13.2.1) (g := (mkF m 5 #[rv a1, iv 2, jv u, .second, .unset] [(.ref aw), (.int 2)])) rfl rfl (hb hby d5_5) _ k) ?_
  rw [len_of S13 M13]
  show oF p e below _ (T12.setTop (mkF m 6 #[rv a1, iv 2, jv u, .second, .unset] [(.int 2), (.int 2)]))
  refine og (fun t k => XS.icmpNo X12.here hx rfl (hb hby d5_6) rfl (teq (by decide : (2 : Int32) = (2 : Int32))).2 (XS.aloadN X12.here hx rfl (hb hby d5_9) rfl rfl k)) ?_
  show oF p e below _ (T12.setTop (mkF m 10 #[rv a1, iv 2, jv u, .second, .unset] [(.ref a1)]))
  obtain ⟨T14, X14, e14, st14⟩ := getF X12 hx hZ hown (host := "") (Or.inl hw_22) Via.refl e12 F_b (g := (mkF m 10 #[rv a1, iv 2, jv u, .second, .unset] [(.ref a1)])) rfl rfl (hb hby d5_10)
  refine og st14 ?_
  show oF p e below _ (T14.setTop (mkF m 13 #[rv a1, iv 2, jv u, .second, .unset] [(.ref ab)]))
  refine og (fun t k => XS.iloadN X14.here hx rfl (hb hby d5_13) rfl (XS.iconst X14.here hx rfl (hb hby d5_14) (XS.isub X14.here hx rfl (hb hby d5_15) rfl k))) ?_
  show oF p e below _ (T14.setTop (mkF m 16 #[rv a1, iv 2, jv u, .second, .unset] [(.int 1), (.ref ab)]))
  obtain ⟨cl15, Ar15, q15, S15, M15, H15, G15⟩ := (id V_b)
  have hin15 : ¬ ((1 : Int32) < 0 ∨ cl15.slots.size ≤ ((1 : Int32)).toNatClampNeg) := inb_of S15 ⟨by decide, by decide⟩
  have hat15 : cl15.slots[((1 : Int32)).toNatClampNeg]? = some (.int B1) := H15.at hin15 rfl
  refine og (fun t k => X14.iaload hx (j := (1 : Int32)) (v := (.int B1)) (by rw [e14]; exact Ar15.1) (State.isArrayOf_alike hZ.alike Ar15.2.1) Ar15.2.2 hin15 hat15 (g := (mkF m 16 #[rv a1, iv 2, jv u, .second, .unset] [(.int 1), (.ref ab)])) rfl rfl (hb hby d5_16) _ (XS.goto X14.here hx rfl (pc0 := 17) (pc' := 21) rfl (hb hby d5_17) (by decide) (by decide) k)) ?_
  show oF p e below _ (T14.setTop (mkF m 21 #[rv a1, iv 2, jv u, .second, .unset] [(.int B1)]))
  rcases hB1 with hv16 | hv17
  · skip
    rw [hv16]
    show oF p e below _ (T14.setTop (mkF m 21 #[rv a1, iv 2, jv u, .second, .unset] [(.int 0)]))
    refine og (fun t k => XS.istore X14.here hx rfl (hb hby d5_21) rfl (l' := #[rv a1, iv 2, jv u, .second, iv 0]) rfl k) ?_
    rw [show (if (0 : Int32) = (0 : Int32) then (own_x0 w0 u) else (own_x1 w0 w1 u)) = (own_x0 w0 u) from by simp [own_x0, own_x1, own_x2, own_x3, hv16]]
    exact Jg0 T14 X14 e14
  · skip
    rw [hv17]
    show oF p e below _ (T14.setTop (mkF m 21 #[rv a1, iv 2, jv u, .second, .unset] [(.int 1)]))
    refine og (fun t k => XS.istore X14.here hx rfl (hb hby d5_21) rfl (l' := #[rv a1, iv 2, jv u, .second, iv 1]) rfl k) ?_
    rw [show (if (1 : Int32) = (0 : Int32) then (own_x0 w0 u) else (own_x1 w0 w1 u)) = (own_x1 w0 w1 u) from by simp [own_x0, own_x1, own_x2, own_x3, hv17]]
    exact Jg1 T14 X14 e14
theorem ef_5n3m0 (m : MethodId) (x0 : Addr) (x1 : Int32) (x2 : Int64)  : entryFrame m #[(.ref x0), (.int x1), (.long x2)] 5 = mkF m 0 #[rv x0, iv x1, jv x2, .second, .unset] [] := by first | (simp [entryFrame, mkF, argsToLocals, Value.category]; done) | rfl
set_option maxRecDepth 65536 in
set_option maxHeartbeats 40000000 in
theorem rm5n3m0 (l : Launch) (Z : State) (a0 : Array Value) (hw : ∀ d ∈ tables_1, d.before a0 Z = true) (ws : List Jvm.Cond) (a1 : Addr) (u : Int64) (aw ab : Addr) (kw kb : ClassId) (w0 w1 w2 : Int64) (B0 B1 B2 : Int32) (h0 : Heap) (n0 : Nat) (Z0 : n0 ≤ h0.size) (F_w : Fld Z h0 a1 "com/example/sound_verdict/soundverdict/UnitSearch" "wanted" "[J" (.ref aw)) (F_b : Fld Z h0 a1 "com/example/sound_verdict/soundverdict/UnitSearch" "border" "[I" (.ref ab)) (V_w : Arv Z h0 aw kw .long (3 : Int32) [(.long w0), (.long w1), (.long w2)] (.long (0 : Int64))) (V_b : Arv Z h0 ab kb .int (3 : Int32) [(.int B0), (.int B1), (.int B2)] (.int (0 : Int32))) (hB0 : B0 = (0 : Int32)) (hB1 : B1 = (0 : Int32) ∨ B1 = (1 : Int32)) (hB2 : B2 = (0 : Int32) ∨ B2 = (1 : Int32) ∨ B2 = (2 : Int32)) :
    MetFree l (⟨"com/example/sound_verdict/soundverdict/UnitSearch", "next", "(IJ)I"⟩ : MethodName) (head1 (Jvm.Cond.code (⟨"com/example/sound_verdict/soundverdict/UnitSearch", "next", "(IJ)I"⟩ : MethodName) prog_199_method_6_code 5 (some .int) :: ws) ({ frames := 0, cells := 0, slots := 0, locals := 0 } : Room)) (fun a U => a = #[(.ref a1), (.int 0), (.long u)] ∧ Z.Warmed39 U.vm ∧ U.heap = h0) (fun _ _ _ _ _ => True) (fun _ U o U' => ∃ v L, o = .returned v ∧ (own_P h0 n0 (.int (own_x0 w0 u))) v U'.heap L ∧ FrameEnd U o U' L ({ frames := 0, cells := 0, slots := 0, locals := 0 } : Room).cells ({ frames := 0, cells := 0, slots := 0, locals := 0 } : Room).slots) := by
  refine MetFree.of_bodySF (plainFor_of_name pn_1) hisR ?_
  intro p e s m args below meth c s₁ Bd hml0 hP hK
  obtain ⟨rfl, hZ, hh⟩ := hP
  have hx := Bd.exec
  have hby := Bd.bytes
  have hml : c.maxLocals = 5 := hml0
  have hown : s.vm.findClass "com/example/sound_verdict/soundverdict/UnitSearch" = some m.cls := findClass_of_methodNamed Bd.named
  have hnm := (name_of_methodNamed Bd.named Bd.method).1
  have X0 : Stand p l e ({ frames := 0, cells := 0, slots := 0, locals := 0 } : Room) s m #[(.ref a1), (.int 0), (.long u)] below meth c s₁ [] 0 0 := Stand.of_body Bd
  have e0 : s₁.heap = h0 := by rw [← hh, Bd.state]; rfl
  have N0 := Fr.nil n0
  have hw_17 := hw _ (List.mem_of_getElem? (i := 17) rfl)
  show oF p e below (own_A s ({ frames := 0, cells := 0, slots := 0, locals := 0 } : Room).cells ({ frames := 0, cells := 0, slots := 0, locals := 0 } : Room).slots (own_P h0 n0 (.int (own_x0 w0 u)))) _
  refine og (fun t k => castTop (ef_5n3m0 m (a1) ((0 : Int32)) (u)) k) ?_
  show oF p e below _ (s₁.setTop (mkF m 0 #[rv a1, iv 0, jv u, .second, .unset] []))
  have Jg0 : ∀ (TT : State) (XX : Stand p l e ({ frames := 0, cells := 0, slots := 0, locals := 0 } : Room) s m #[(.ref a1), (.int 0), (.long u)] below meth c TT [] 0 0) (ee : TT.heap = h0), oF p e below (own_A s ({ frames := 0, cells := 0, slots := 0, locals := 0 } : Room).cells ({ frames := 0, cells := 0, slots := 0, locals := 0 } : Room).slots (own_P h0 n0 (.int (own_x0 w0 u)))) (TT.setTop (mkF m 23 #[rv a1, iv 0, jv u, .second, iv 0] [])) := by
    intro TT XX ee
    refine og (fun t k => XS.iload XX.here hx rfl (hb hby d5_23) rfl k) ?_
    show oF p e below _ (TT.setTop (mkF m 25 #[rv a1, iv 0, jv u, .second, iv 0] [(.int 0)]))
    refine og (fun t k => XS.ifYes XX.here hx rfl (pc0 := 25) (pc' := 54) rfl (hb hby d5_25) rfl ((if0 _ _).trans (flt (by decide : ¬ ((0 : Int32) < (0 : Int32)))).2.2.2) (by decide) (by decide) (XS.lloadN XX.here hx rfl (hb hby d5_54) rfl (XS.aloadN XX.here hx rfl (hb hby d5_55) rfl rfl k))) ?_
    show oF p e below _ (TT.setTop (mkF m 56 #[rv a1, iv 0, jv u, .second, iv 0] [(.ref a1), (.long u)]))
    obtain ⟨T1, X1, e1, st1⟩ := getF XX hx hZ hown (host := "") (Or.inl hw_17) Via.refl ee F_w (g := (mkF m 56 #[rv a1, iv 0, jv u, .second, iv 0] [(.ref a1), (.long u)])) rfl rfl (hb hby d5_56)
    refine og st1 ?_
    show oF p e below _ (T1.setTop (mkF m 59 #[rv a1, iv 0, jv u, .second, iv 0] [(.ref aw), (.long u)]))
    refine og (fun t k => XS.iload X1.here hx rfl (hb hby d5_59) rfl k) ?_
    show oF p e below _ (T1.setTop (mkF m 61 #[rv a1, iv 0, jv u, .second, iv 0] [(.int 0), (.ref aw), (.long u)]))
    obtain ⟨cl2, Ar2, q2, S2, M2, H2, G2⟩ := (id V_w)
    have hin2 : ¬ ((0 : Int32) < 0 ∨ cl2.slots.size ≤ ((0 : Int32)).toNatClampNeg) := inb_of S2 ⟨by decide, by decide⟩
    have hat2 : cl2.slots[((0 : Int32)).toNatClampNeg]? = some (.long w0) := H2.at hin2 rfl
    refine og (fun t k => X1.laload hx (j := (0 : Int32)) (v := (.long w0)) (by rw [e1]; exact Ar2.1) (State.isArrayOf_alike hZ.alike Ar2.2.1) Ar2.2.2 hin2 hat2 (g := (mkF m 61 #[rv a1, iv 0, jv u, .second, iv 0] [(.int 0), (.ref aw), (.long u)])) rfl rfl (hb hby d5_61) _ (XS.lcmp X1.here hx rfl (hb hby d5_62) rfl k)) ?_
    show oF p e below _ (T1.setTop (mkF m 63 #[rv a1, iv 0, jv u, .second, iv 0] [(.int (lcmpW u w0))]))
    by_cases hc3 : u = w0
    · skip
      refine og (fun t k => XS.ifNo X1.here hx rfl (hb hby d5_63) rfl ((if0 _ _).trans (teq ((lw_eq _ _).mpr hc3)).2) (XS.iload X1.here hx rfl (hb hby d5_66) rfl (XS.iconst X1.here hx rfl (hb hby d5_68) (XS.iadd X1.here hx rfl (hb hby d5_69) rfl (XS.goto X1.here hx rfl (pc0 := 70) (pc' := 75) rfl (hb hby d5_70) (by decide) (by decide) k))))) ?_
      show oF p e below _ (T1.setTop (mkF m 75 #[rv a1, iv 0, jv u, .second, iv 0] [(.int 1)]))
      exact oo X1 (fun h => by rw [Bd.returns] at h; cases h) Bd.notSynchronized (fun fs hr => retI X1 hx Bd.returns (hb hby d5_75) hr) ⟨(by simp [own_x0, own_x1, own_x2, own_x3, hc3]), N0, e1⟩ (by decide) (by decide)
    · skip
      refine og (fun t k => XS.ifYes X1.here hx rfl (pc0 := 63) (pc' := 73) rfl (hb hby d5_63) rfl ((if0 _ _).trans (feq (fun q => hc3 ((lw_eq _ _).mp q))).2) (by decide) (by decide) (XS.iload X1.here hx rfl (hb hby d5_73) rfl k)) ?_
      show oF p e below _ (T1.setTop (mkF m 75 #[rv a1, iv 0, jv u, .second, iv 0] [(.int 0)]))
      exact oo X1 (fun h => by rw [Bd.returns] at h; cases h) Bd.notSynchronized (fun fs hr => retI X1 hx Bd.returns (hb hby d5_75) hr) ⟨(by simp [own_x0, own_x1, own_x2, own_x3, hc3]), N0, e1⟩ (by decide) (by decide)
  refine og (fun t k => XS.iloadN X0.here hx rfl (hb hby d5_0) rfl (XS.aloadN X0.here hx rfl (hb hby d5_1) rfl rfl k)) ?_
  show oF p e below _ (s₁.setTop (mkF m 2 #[rv a1, iv 0, jv u, .second, .unset] [(.ref a1), (.int 0)]))
  obtain ⟨T4, X4, e4, st4⟩ := getF X0 hx hZ hown (host := "") (Or.inl hw_17) Via.refl e0 F_w (g := (mkF m 2 #[rv a1, iv 0, jv u, .second, .unset] [(.ref a1), (.int 0)])) rfl rfl (hb hby d5_2)
  refine og st4 ?_
  show oF p e below _ (T4.setTop (mkF m 5 #[rv a1, iv 0, jv u, .second, .unset] [(.ref aw), (.int 0)]))
  obtain ⟨cl5, Ar5, q5, S5, M5, H5, G5⟩ := (id V_w)
  refine og (fun t k => X4.arraylength hx (by rw [e4]; exact Ar5.1) (State.isArrayOf_alike hZ.alike Ar5.2.1) (g := (mkF m 5 #[rv a1, iv 0, jv u, .second, .unset] [(.ref aw), (.int 0)])) rfl rfl (hb hby d5_5) _ k) ?_
  rw [len_of S5 M5]
  show oF p e below _ (T4.setTop (mkF m 6 #[rv a1, iv 0, jv u, .second, .unset] [(.int 3), (.int 0)]))
  refine og (fun t k => XS.icmpYes X4.here hx rfl (pc0 := 6) (pc' := 20) rfl (hb hby d5_6) rfl (feq (by decide : ¬ ((0 : Int32) = (3 : Int32)))).2 (by decide) (by decide) (XS.iloadN X4.here hx rfl (hb hby d5_20) rfl (XS.istore X4.here hx rfl (hb hby d5_21) rfl (l' := #[rv a1, iv 0, jv u, .second, iv 0]) rfl k))) ?_
  exact Jg0 T4 X4 e4
theorem ef_5n3m1 (m : MethodId) (x0 : Addr) (x1 : Int32) (x2 : Int64)  : entryFrame m #[(.ref x0), (.int x1), (.long x2)] 5 = mkF m 0 #[rv x0, iv x1, jv x2, .second, .unset] [] := by first | (simp [entryFrame, mkF, argsToLocals, Value.category]; done) | rfl
set_option maxRecDepth 65536 in
set_option maxHeartbeats 40000000 in
theorem rm5n3m1 (l : Launch) (Z : State) (a0 : Array Value) (hw : ∀ d ∈ tables_1, d.before a0 Z = true) (ws : List Jvm.Cond) (a1 : Addr) (u : Int64) (aw ab : Addr) (kw kb : ClassId) (w0 w1 w2 : Int64) (B0 B1 B2 : Int32) (h0 : Heap) (n0 : Nat) (Z0 : n0 ≤ h0.size) (F_w : Fld Z h0 a1 "com/example/sound_verdict/soundverdict/UnitSearch" "wanted" "[J" (.ref aw)) (F_b : Fld Z h0 a1 "com/example/sound_verdict/soundverdict/UnitSearch" "border" "[I" (.ref ab)) (V_w : Arv Z h0 aw kw .long (3 : Int32) [(.long w0), (.long w1), (.long w2)] (.long (0 : Int64))) (V_b : Arv Z h0 ab kb .int (3 : Int32) [(.int B0), (.int B1), (.int B2)] (.int (0 : Int32))) (hB0 : B0 = (0 : Int32)) (hB1 : B1 = (0 : Int32) ∨ B1 = (1 : Int32)) (hB2 : B2 = (0 : Int32) ∨ B2 = (1 : Int32) ∨ B2 = (2 : Int32)) :
    MetFree l (⟨"com/example/sound_verdict/soundverdict/UnitSearch", "next", "(IJ)I"⟩ : MethodName) (head1 (Jvm.Cond.code (⟨"com/example/sound_verdict/soundverdict/UnitSearch", "next", "(IJ)I"⟩ : MethodName) prog_199_method_6_code 5 (some .int) :: ws) ({ frames := 0, cells := 0, slots := 0, locals := 0 } : Room)) (fun a U => a = #[(.ref a1), (.int 1), (.long u)] ∧ Z.Warmed39 U.vm ∧ U.heap = h0) (fun _ _ _ _ _ => True) (fun _ U o U' => ∃ v L, o = .returned v ∧ (own_P h0 n0 (.int (own_x1 w0 w1 u))) v U'.heap L ∧ FrameEnd U o U' L ({ frames := 0, cells := 0, slots := 0, locals := 0 } : Room).cells ({ frames := 0, cells := 0, slots := 0, locals := 0 } : Room).slots) := by
  refine MetFree.of_bodySF (plainFor_of_name pn_1) hisR ?_
  intro p e s m args below meth c s₁ Bd hml0 hP hK
  obtain ⟨rfl, hZ, hh⟩ := hP
  have hx := Bd.exec
  have hby := Bd.bytes
  have hml : c.maxLocals = 5 := hml0
  have hown : s.vm.findClass "com/example/sound_verdict/soundverdict/UnitSearch" = some m.cls := findClass_of_methodNamed Bd.named
  have hnm := (name_of_methodNamed Bd.named Bd.method).1
  have X0 : Stand p l e ({ frames := 0, cells := 0, slots := 0, locals := 0 } : Room) s m #[(.ref a1), (.int 1), (.long u)] below meth c s₁ [] 0 0 := Stand.of_body Bd
  have e0 : s₁.heap = h0 := by rw [← hh, Bd.state]; rfl
  have N0 := Fr.nil n0
  have hw_17 := hw _ (List.mem_of_getElem? (i := 17) rfl)
  have hw_22 := hw _ (List.mem_of_getElem? (i := 22) rfl)
  show oF p e below (own_A s ({ frames := 0, cells := 0, slots := 0, locals := 0 } : Room).cells ({ frames := 0, cells := 0, slots := 0, locals := 0 } : Room).slots (own_P h0 n0 (.int (own_x1 w0 w1 u)))) _
  refine og (fun t k => castTop (ef_5n3m1 m (a1) ((1 : Int32)) (u)) k) ?_
  show oF p e below _ (s₁.setTop (mkF m 0 #[rv a1, iv 1, jv u, .second, .unset] []))
  have Jg0 : ∀ (TT : State) (XX : Stand p l e ({ frames := 0, cells := 0, slots := 0, locals := 0 } : Room) s m #[(.ref a1), (.int 1), (.long u)] below meth c TT [] 0 0) (ee : TT.heap = h0), oF p e below (own_A s ({ frames := 0, cells := 0, slots := 0, locals := 0 } : Room).cells ({ frames := 0, cells := 0, slots := 0, locals := 0 } : Room).slots (own_P h0 n0 (.int (own_x0 w0 u)))) (TT.setTop (mkF m 23 #[rv a1, iv 1, jv u, .second, iv 0] [])) := by
    intro TT XX ee
    refine og (fun t k => XS.iload XX.here hx rfl (hb hby d5_23) rfl k) ?_
    show oF p e below _ (TT.setTop (mkF m 25 #[rv a1, iv 1, jv u, .second, iv 0] [(.int 0)]))
    refine og (fun t k => XS.ifYes XX.here hx rfl (pc0 := 25) (pc' := 54) rfl (hb hby d5_25) rfl ((if0 _ _).trans (flt (by decide : ¬ ((0 : Int32) < (0 : Int32)))).2.2.2) (by decide) (by decide) (XS.lloadN XX.here hx rfl (hb hby d5_54) rfl (XS.aloadN XX.here hx rfl (hb hby d5_55) rfl rfl k))) ?_
    show oF p e below _ (TT.setTop (mkF m 56 #[rv a1, iv 1, jv u, .second, iv 0] [(.ref a1), (.long u)]))
    obtain ⟨T1, X1, e1, st1⟩ := getF XX hx hZ hown (host := "") (Or.inl hw_17) Via.refl ee F_w (g := (mkF m 56 #[rv a1, iv 1, jv u, .second, iv 0] [(.ref a1), (.long u)])) rfl rfl (hb hby d5_56)
    refine og st1 ?_
    show oF p e below _ (T1.setTop (mkF m 59 #[rv a1, iv 1, jv u, .second, iv 0] [(.ref aw), (.long u)]))
    refine og (fun t k => XS.iload X1.here hx rfl (hb hby d5_59) rfl k) ?_
    show oF p e below _ (T1.setTop (mkF m 61 #[rv a1, iv 1, jv u, .second, iv 0] [(.int 0), (.ref aw), (.long u)]))
    obtain ⟨cl2, Ar2, q2, S2, M2, H2, G2⟩ := (id V_w)
    have hin2 : ¬ ((0 : Int32) < 0 ∨ cl2.slots.size ≤ ((0 : Int32)).toNatClampNeg) := inb_of S2 ⟨by decide, by decide⟩
    have hat2 : cl2.slots[((0 : Int32)).toNatClampNeg]? = some (.long w0) := H2.at hin2 rfl
    refine og (fun t k => X1.laload hx (j := (0 : Int32)) (v := (.long w0)) (by rw [e1]; exact Ar2.1) (State.isArrayOf_alike hZ.alike Ar2.2.1) Ar2.2.2 hin2 hat2 (g := (mkF m 61 #[rv a1, iv 1, jv u, .second, iv 0] [(.int 0), (.ref aw), (.long u)])) rfl rfl (hb hby d5_61) _ (XS.lcmp X1.here hx rfl (hb hby d5_62) rfl k)) ?_
    show oF p e below _ (T1.setTop (mkF m 63 #[rv a1, iv 1, jv u, .second, iv 0] [(.int (lcmpW u w0))]))
    by_cases hc3 : u = w0
    · skip
      refine og (fun t k => XS.ifNo X1.here hx rfl (hb hby d5_63) rfl ((if0 _ _).trans (teq ((lw_eq _ _).mpr hc3)).2) (XS.iload X1.here hx rfl (hb hby d5_66) rfl (XS.iconst X1.here hx rfl (hb hby d5_68) (XS.iadd X1.here hx rfl (hb hby d5_69) rfl (XS.goto X1.here hx rfl (pc0 := 70) (pc' := 75) rfl (hb hby d5_70) (by decide) (by decide) k))))) ?_
      show oF p e below _ (T1.setTop (mkF m 75 #[rv a1, iv 1, jv u, .second, iv 0] [(.int 1)]))
      exact oo X1 (fun h => by rw [Bd.returns] at h; cases h) Bd.notSynchronized (fun fs hr => retI X1 hx Bd.returns (hb hby d5_75) hr) ⟨(by simp [own_x0, own_x1, own_x2, own_x3, hc3]), N0, e1⟩ (by decide) (by decide)
    · skip
      refine og (fun t k => XS.ifYes X1.here hx rfl (pc0 := 63) (pc' := 73) rfl (hb hby d5_63) rfl ((if0 _ _).trans (feq (fun q => hc3 ((lw_eq _ _).mp q))).2) (by decide) (by decide) (XS.iload X1.here hx rfl (hb hby d5_73) rfl k)) ?_
      show oF p e below _ (T1.setTop (mkF m 75 #[rv a1, iv 1, jv u, .second, iv 0] [(.int 0)]))
      exact oo X1 (fun h => by rw [Bd.returns] at h; cases h) Bd.notSynchronized (fun fs hr => retI X1 hx Bd.returns (hb hby d5_75) hr) ⟨(by simp [own_x0, own_x1, own_x2, own_x3, hc3]), N0, e1⟩ (by decide) (by decide)
  have Jg1 : ∀ (TT : State) (XX : Stand p l e ({ frames := 0, cells := 0, slots := 0, locals := 0 } : Room) s m #[(.ref a1), (.int 1), (.long u)] below meth c TT [] 0 0) (ee : TT.heap = h0), oF p e below (own_A s ({ frames := 0, cells := 0, slots := 0, locals := 0 } : Room).cells ({ frames := 0, cells := 0, slots := 0, locals := 0 } : Room).slots (own_P h0 n0 (.int (own_x1 w0 w1 u)))) (TT.setTop (mkF m 23 #[rv a1, iv 1, jv u, .second, iv 1] [])) := by
    intro TT XX ee
    refine og (fun t k => XS.iload XX.here hx rfl (hb hby d5_23) rfl k) ?_
    show oF p e below _ (TT.setTop (mkF m 25 #[rv a1, iv 1, jv u, .second, iv 1] [(.int 1)]))
    refine og (fun t k => XS.ifNo XX.here hx rfl (hb hby d5_25) rfl ((if0 _ _).trans (tlt (by decide : (0 : Int32) < (1 : Int32))).2.2.2) (XS.lloadN XX.here hx rfl (hb hby d5_28) rfl (XS.aloadN XX.here hx rfl (hb hby d5_29) rfl rfl k))) ?_
    show oF p e below _ (TT.setTop (mkF m 30 #[rv a1, iv 1, jv u, .second, iv 1] [(.ref a1), (.long u)]))
    obtain ⟨T4, X4, e4, st4⟩ := getF XX hx hZ hown (host := "") (Or.inl hw_17) Via.refl ee F_w (g := (mkF m 30 #[rv a1, iv 1, jv u, .second, iv 1] [(.ref a1), (.long u)])) rfl rfl (hb hby d5_30)
    refine og st4 ?_
    show oF p e below _ (T4.setTop (mkF m 33 #[rv a1, iv 1, jv u, .second, iv 1] [(.ref aw), (.long u)]))
    refine og (fun t k => XS.iload X4.here hx rfl (hb hby d5_33) rfl k) ?_
    show oF p e below _ (T4.setTop (mkF m 35 #[rv a1, iv 1, jv u, .second, iv 1] [(.int 1), (.ref aw), (.long u)]))
    obtain ⟨cl5, Ar5, q5, S5, M5, H5, G5⟩ := (id V_w)
    have hin5 : ¬ ((1 : Int32) < 0 ∨ cl5.slots.size ≤ ((1 : Int32)).toNatClampNeg) := inb_of S5 ⟨by decide, by decide⟩
    have hat5 : cl5.slots[((1 : Int32)).toNatClampNeg]? = some (.long w1) := H5.at hin5 rfl
    refine og (fun t k => X4.laload hx (j := (1 : Int32)) (v := (.long w1)) (by rw [e4]; exact Ar5.1) (State.isArrayOf_alike hZ.alike Ar5.2.1) Ar5.2.2 hin5 hat5 (g := (mkF m 35 #[rv a1, iv 1, jv u, .second, iv 1] [(.int 1), (.ref aw), (.long u)])) rfl rfl (hb hby d5_35) _ (XS.lcmp X4.here hx rfl (hb hby d5_36) rfl k)) ?_
    show oF p e below _ (T4.setTop (mkF m 37 #[rv a1, iv 1, jv u, .second, iv 1] [(.int (lcmpW u w1))]))
    by_cases hc6 : u = w1
    · skip
      refine og (fun t k => XS.ifYes X4.here hx rfl (pc0 := 37) (pc' := 54) rfl (hb hby d5_37) rfl ((if0 _ _).trans (teq ((lw_eq _ _).mpr hc6)).1) (by decide) (by decide) (XS.lloadN X4.here hx rfl (hb hby d5_54) rfl (XS.aloadN X4.here hx rfl (hb hby d5_55) rfl rfl k))) ?_
      show oF p e below _ (T4.setTop (mkF m 56 #[rv a1, iv 1, jv u, .second, iv 1] [(.ref a1), (.long u)]))
      obtain ⟨T7, X7, e7, st7⟩ := getF X4 hx hZ hown (host := "") (Or.inl hw_17) Via.refl e4 F_w (g := (mkF m 56 #[rv a1, iv 1, jv u, .second, iv 1] [(.ref a1), (.long u)])) rfl rfl (hb hby d5_56)
      refine og st7 ?_
      show oF p e below _ (T7.setTop (mkF m 59 #[rv a1, iv 1, jv u, .second, iv 1] [(.ref aw), (.long u)]))
      refine og (fun t k => XS.iload X7.here hx rfl (hb hby d5_59) rfl k) ?_
      show oF p e below _ (T7.setTop (mkF m 61 #[rv a1, iv 1, jv u, .second, iv 1] [(.int 1), (.ref aw), (.long u)]))
      obtain ⟨cl8, Ar8, q8, S8, M8, H8, G8⟩ := (id V_w)
      have hin8 : ¬ ((1 : Int32) < 0 ∨ cl8.slots.size ≤ ((1 : Int32)).toNatClampNeg) := inb_of S8 ⟨by decide, by decide⟩
      have hat8 : cl8.slots[((1 : Int32)).toNatClampNeg]? = some (.long w1) := H8.at hin8 rfl
      refine og (fun t k => X7.laload hx (j := (1 : Int32)) (v := (.long w1)) (by rw [e7]; exact Ar8.1) (State.isArrayOf_alike hZ.alike Ar8.2.1) Ar8.2.2 hin8 hat8 (g := (mkF m 61 #[rv a1, iv 1, jv u, .second, iv 1] [(.int 1), (.ref aw), (.long u)])) rfl rfl (hb hby d5_61) _ (XS.lcmp X7.here hx rfl (hb hby d5_62) rfl k)) ?_
      show oF p e below _ (T7.setTop (mkF m 63 #[rv a1, iv 1, jv u, .second, iv 1] [(.int (lcmpW u w1))]))
      refine og (fun t k => XS.ifNo X7.here hx rfl (hb hby d5_63) rfl ((if0 _ _).trans (teq ((lw_eq _ _).mpr hc6)).2) (XS.iload X7.here hx rfl (hb hby d5_66) rfl (XS.iconst X7.here hx rfl (hb hby d5_68) (XS.iadd X7.here hx rfl (hb hby d5_69) rfl (XS.goto X7.here hx rfl (pc0 := 70) (pc' := 75) rfl (hb hby d5_70) (by decide) (by decide) k))))) ?_
      show oF p e below _ (T7.setTop (mkF m 75 #[rv a1, iv 1, jv u, .second, iv 1] [(.int 2)]))
      exact oo X7 (fun h => by rw [Bd.returns] at h; cases h) Bd.notSynchronized (fun fs hr => retI X7 hx Bd.returns (hb hby d5_75) hr) ⟨(by simp [own_x0, own_x1, own_x2, own_x3, hc6]), N0, e7⟩ (by decide) (by decide)
    · skip
      refine og (fun t k => XS.ifNo X4.here hx rfl (hb hby d5_37) rfl ((if0 _ _).trans (feq (fun q => hc6 ((lw_eq _ _).mp q))).1) (XS.aloadN X4.here hx rfl (hb hby d5_40) rfl rfl k)) ?_
      show oF p e below _ (T4.setTop (mkF m 41 #[rv a1, iv 1, jv u, .second, iv 1] [(.ref a1)]))
      obtain ⟨T9, X9, e9, st9⟩ := getF X4 hx hZ hown (host := "") (Or.inl hw_22) Via.refl e4 F_b (g := (mkF m 41 #[rv a1, iv 1, jv u, .second, iv 1] [(.ref a1)])) rfl rfl (hb hby d5_41)
      refine og st9 ?_
      show oF p e below _ (T9.setTop (mkF m 44 #[rv a1, iv 1, jv u, .second, iv 1] [(.ref ab)]))
      refine og (fun t k => XS.iload X9.here hx rfl (hb hby d5_44) rfl (XS.iconst X9.here hx rfl (hb hby d5_46) (XS.isub X9.here hx rfl (hb hby d5_47) rfl k))) ?_
      show oF p e below _ (T9.setTop (mkF m 48 #[rv a1, iv 1, jv u, .second, iv 1] [(.int 0), (.ref ab)]))
      obtain ⟨cl10, Ar10, q10, S10, M10, H10, G10⟩ := (id V_b)
      have hin10 : ¬ ((0 : Int32) < 0 ∨ cl10.slots.size ≤ ((0 : Int32)).toNatClampNeg) := inb_of S10 ⟨by decide, by decide⟩
      have hat10 : cl10.slots[((0 : Int32)).toNatClampNeg]? = some (.int B0) := H10.at hin10 rfl
      refine og (fun t k => X9.iaload hx (j := (0 : Int32)) (v := (.int B0)) (by rw [e9]; exact Ar10.1) (State.isArrayOf_alike hZ.alike Ar10.2.1) Ar10.2.2 hin10 hat10 (g := (mkF m 48 #[rv a1, iv 1, jv u, .second, iv 1] [(.int 0), (.ref ab)])) rfl rfl (hb hby d5_48) _ k) ?_
      show oF p e below _ (T9.setTop (mkF m 49 #[rv a1, iv 1, jv u, .second, iv 1] [(.int B0)]))
      have hv11 := hB0
      · skip
        rw [hv11]
        show oF p e below _ (T9.setTop (mkF m 49 #[rv a1, iv 1, jv u, .second, iv 1] [(.int 0)]))
        refine og (fun t k => XS.istore X9.here hx rfl (hb hby d5_49) rfl (l' := #[rv a1, iv 1, jv u, .second, iv 0]) rfl (XS.goto X9.here hx rfl (pc0 := 51) (pc' := 23) rfl (hb hby d5_51) (by decide) (by decide) k)) ?_
        rw [show (own_x1 w0 w1 u) = (own_x0 w0 u) from by simp [own_x0, own_x1, own_x2, own_x3, hc6, hv11]]
        exact Jg0 T9 X9 e9
  refine og (fun t k => XS.iloadN X0.here hx rfl (hb hby d5_0) rfl (XS.aloadN X0.here hx rfl (hb hby d5_1) rfl rfl k)) ?_
  show oF p e below _ (s₁.setTop (mkF m 2 #[rv a1, iv 1, jv u, .second, .unset] [(.ref a1), (.int 1)]))
  obtain ⟨T12, X12, e12, st12⟩ := getF X0 hx hZ hown (host := "") (Or.inl hw_17) Via.refl e0 F_w (g := (mkF m 2 #[rv a1, iv 1, jv u, .second, .unset] [(.ref a1), (.int 1)])) rfl rfl (hb hby d5_2)
  refine og st12 ?_
  show oF p e below _ (T12.setTop (mkF m 5 #[rv a1, iv 1, jv u, .second, .unset] [(.ref aw), (.int 1)]))
  obtain ⟨cl13, Ar13, q13, S13, M13, H13, G13⟩ := (id V_w)
  refine og (fun t k => X12.arraylength hx (by rw [e12]; exact Ar13.1) (State.isArrayOf_alike hZ.alike Ar13.2.1) (g := (mkF m 5 #[rv a1, iv 1, jv u, .second, .unset] [(.ref aw), (.int 1)])) rfl rfl (hb hby d5_5) _ k) ?_
  rw [len_of S13 M13]
  show oF p e below _ (T12.setTop (mkF m 6 #[rv a1, iv 1, jv u, .second, .unset] [(.int 3), (.int 1)]))
  refine og (fun t k => XS.icmpYes X12.here hx rfl (pc0 := 6) (pc' := 20) rfl (hb hby d5_6) rfl (feq (by decide : ¬ ((1 : Int32) = (3 : Int32)))).2 (by decide) (by decide) (XS.iloadN X12.here hx rfl (hb hby d5_20) rfl (XS.istore X12.here hx rfl (hb hby d5_21) rfl (l' := #[rv a1, iv 1, jv u, .second, iv 1]) rfl k))) ?_
  exact Jg1 T12 X12 e12
theorem ef_5n3m2 (m : MethodId) (x0 : Addr) (x1 : Int32) (x2 : Int64)  : entryFrame m #[(.ref x0), (.int x1), (.long x2)] 5 = mkF m 0 #[rv x0, iv x1, jv x2, .second, .unset] [] := by first | (simp [entryFrame, mkF, argsToLocals, Value.category]; done) | rfl
set_option maxRecDepth 65536 in
set_option maxHeartbeats 40000000 in
theorem rm5n3m2 (l : Launch) (Z : State) (a0 : Array Value) (hw : ∀ d ∈ tables_1, d.before a0 Z = true) (ws : List Jvm.Cond) (a1 : Addr) (u : Int64) (aw ab : Addr) (kw kb : ClassId) (w0 w1 w2 : Int64) (B0 B1 B2 : Int32) (h0 : Heap) (n0 : Nat) (Z0 : n0 ≤ h0.size) (F_w : Fld Z h0 a1 "com/example/sound_verdict/soundverdict/UnitSearch" "wanted" "[J" (.ref aw)) (F_b : Fld Z h0 a1 "com/example/sound_verdict/soundverdict/UnitSearch" "border" "[I" (.ref ab)) (V_w : Arv Z h0 aw kw .long (3 : Int32) [(.long w0), (.long w1), (.long w2)] (.long (0 : Int64))) (V_b : Arv Z h0 ab kb .int (3 : Int32) [(.int B0), (.int B1), (.int B2)] (.int (0 : Int32))) (hB0 : B0 = (0 : Int32)) (hB1 : B1 = (0 : Int32) ∨ B1 = (1 : Int32)) (hB2 : B2 = (0 : Int32) ∨ B2 = (1 : Int32) ∨ B2 = (2 : Int32)) :
    MetFree l (⟨"com/example/sound_verdict/soundverdict/UnitSearch", "next", "(IJ)I"⟩ : MethodName) (head1 (Jvm.Cond.code (⟨"com/example/sound_verdict/soundverdict/UnitSearch", "next", "(IJ)I"⟩ : MethodName) prog_199_method_6_code 5 (some .int) :: ws) ({ frames := 0, cells := 0, slots := 0, locals := 0 } : Room)) (fun a U => a = #[(.ref a1), (.int 2), (.long u)] ∧ Z.Warmed39 U.vm ∧ U.heap = h0) (fun _ _ _ _ _ => True) (fun _ U o U' => ∃ v L, o = .returned v ∧ (own_P h0 n0 (.int (own_x2 w0 w1 w2 B1 u))) v U'.heap L ∧ FrameEnd U o U' L ({ frames := 0, cells := 0, slots := 0, locals := 0 } : Room).cells ({ frames := 0, cells := 0, slots := 0, locals := 0 } : Room).slots) := by
  refine MetFree.of_bodySF (plainFor_of_name pn_1) hisR ?_
  intro p e s m args below meth c s₁ Bd hml0 hP hK
  obtain ⟨rfl, hZ, hh⟩ := hP
  have hx := Bd.exec
  have hby := Bd.bytes
  have hml : c.maxLocals = 5 := hml0
  have hown : s.vm.findClass "com/example/sound_verdict/soundverdict/UnitSearch" = some m.cls := findClass_of_methodNamed Bd.named
  have hnm := (name_of_methodNamed Bd.named Bd.method).1
  have X0 : Stand p l e ({ frames := 0, cells := 0, slots := 0, locals := 0 } : Room) s m #[(.ref a1), (.int 2), (.long u)] below meth c s₁ [] 0 0 := Stand.of_body Bd
  have e0 : s₁.heap = h0 := by rw [← hh, Bd.state]; rfl
  have N0 := Fr.nil n0
  have hw_17 := hw _ (List.mem_of_getElem? (i := 17) rfl)
  have hw_22 := hw _ (List.mem_of_getElem? (i := 22) rfl)
  show oF p e below (own_A s ({ frames := 0, cells := 0, slots := 0, locals := 0 } : Room).cells ({ frames := 0, cells := 0, slots := 0, locals := 0 } : Room).slots (own_P h0 n0 (.int (own_x2 w0 w1 w2 B1 u)))) _
  refine og (fun t k => castTop (ef_5n3m2 m (a1) ((2 : Int32)) (u)) k) ?_
  show oF p e below _ (s₁.setTop (mkF m 0 #[rv a1, iv 2, jv u, .second, .unset] []))
  have Jg0 : ∀ (TT : State) (XX : Stand p l e ({ frames := 0, cells := 0, slots := 0, locals := 0 } : Room) s m #[(.ref a1), (.int 2), (.long u)] below meth c TT [] 0 0) (ee : TT.heap = h0), oF p e below (own_A s ({ frames := 0, cells := 0, slots := 0, locals := 0 } : Room).cells ({ frames := 0, cells := 0, slots := 0, locals := 0 } : Room).slots (own_P h0 n0 (.int (own_x0 w0 u)))) (TT.setTop (mkF m 23 #[rv a1, iv 2, jv u, .second, iv 0] [])) := by
    intro TT XX ee
    refine og (fun t k => XS.iload XX.here hx rfl (hb hby d5_23) rfl k) ?_
    show oF p e below _ (TT.setTop (mkF m 25 #[rv a1, iv 2, jv u, .second, iv 0] [(.int 0)]))
    refine og (fun t k => XS.ifYes XX.here hx rfl (pc0 := 25) (pc' := 54) rfl (hb hby d5_25) rfl ((if0 _ _).trans (flt (by decide : ¬ ((0 : Int32) < (0 : Int32)))).2.2.2) (by decide) (by decide) (XS.lloadN XX.here hx rfl (hb hby d5_54) rfl (XS.aloadN XX.here hx rfl (hb hby d5_55) rfl rfl k))) ?_
    show oF p e below _ (TT.setTop (mkF m 56 #[rv a1, iv 2, jv u, .second, iv 0] [(.ref a1), (.long u)]))
    obtain ⟨T1, X1, e1, st1⟩ := getF XX hx hZ hown (host := "") (Or.inl hw_17) Via.refl ee F_w (g := (mkF m 56 #[rv a1, iv 2, jv u, .second, iv 0] [(.ref a1), (.long u)])) rfl rfl (hb hby d5_56)
    refine og st1 ?_
    show oF p e below _ (T1.setTop (mkF m 59 #[rv a1, iv 2, jv u, .second, iv 0] [(.ref aw), (.long u)]))
    refine og (fun t k => XS.iload X1.here hx rfl (hb hby d5_59) rfl k) ?_
    show oF p e below _ (T1.setTop (mkF m 61 #[rv a1, iv 2, jv u, .second, iv 0] [(.int 0), (.ref aw), (.long u)]))
    obtain ⟨cl2, Ar2, q2, S2, M2, H2, G2⟩ := (id V_w)
    have hin2 : ¬ ((0 : Int32) < 0 ∨ cl2.slots.size ≤ ((0 : Int32)).toNatClampNeg) := inb_of S2 ⟨by decide, by decide⟩
    have hat2 : cl2.slots[((0 : Int32)).toNatClampNeg]? = some (.long w0) := H2.at hin2 rfl
    refine og (fun t k => X1.laload hx (j := (0 : Int32)) (v := (.long w0)) (by rw [e1]; exact Ar2.1) (State.isArrayOf_alike hZ.alike Ar2.2.1) Ar2.2.2 hin2 hat2 (g := (mkF m 61 #[rv a1, iv 2, jv u, .second, iv 0] [(.int 0), (.ref aw), (.long u)])) rfl rfl (hb hby d5_61) _ (XS.lcmp X1.here hx rfl (hb hby d5_62) rfl k)) ?_
    show oF p e below _ (T1.setTop (mkF m 63 #[rv a1, iv 2, jv u, .second, iv 0] [(.int (lcmpW u w0))]))
    by_cases hc3 : u = w0
    · skip
      refine og (fun t k => XS.ifNo X1.here hx rfl (hb hby d5_63) rfl ((if0 _ _).trans (teq ((lw_eq _ _).mpr hc3)).2) (XS.iload X1.here hx rfl (hb hby d5_66) rfl (XS.iconst X1.here hx rfl (hb hby d5_68) (XS.iadd X1.here hx rfl (hb hby d5_69) rfl (XS.goto X1.here hx rfl (pc0 := 70) (pc' := 75) rfl (hb hby d5_70) (by decide) (by decide) k))))) ?_
      show oF p e below _ (T1.setTop (mkF m 75 #[rv a1, iv 2, jv u, .second, iv 0] [(.int 1)]))
      exact oo X1 (fun h => by rw [Bd.returns] at h; cases h) Bd.notSynchronized (fun fs hr => retI X1 hx Bd.returns (hb hby d5_75) hr) ⟨(by simp [own_x0, own_x1, own_x2, own_x3, hc3]), N0, e1⟩ (by decide) (by decide)
    · skip
      refine og (fun t k => XS.ifYes X1.here hx rfl (pc0 := 63) (pc' := 73) rfl (hb hby d5_63) rfl ((if0 _ _).trans (feq (fun q => hc3 ((lw_eq _ _).mp q))).2) (by decide) (by decide) (XS.iload X1.here hx rfl (hb hby d5_73) rfl k)) ?_
      show oF p e below _ (T1.setTop (mkF m 75 #[rv a1, iv 2, jv u, .second, iv 0] [(.int 0)]))
      exact oo X1 (fun h => by rw [Bd.returns] at h; cases h) Bd.notSynchronized (fun fs hr => retI X1 hx Bd.returns (hb hby d5_75) hr) ⟨(by simp [own_x0, own_x1, own_x2, own_x3, hc3]), N0, e1⟩ (by decide) (by decide)
  have Jg1 : ∀ (TT : State) (XX : Stand p l e ({ frames := 0, cells := 0, slots := 0, locals := 0 } : Room) s m #[(.ref a1), (.int 2), (.long u)] below meth c TT [] 0 0) (ee : TT.heap = h0), oF p e below (own_A s ({ frames := 0, cells := 0, slots := 0, locals := 0 } : Room).cells ({ frames := 0, cells := 0, slots := 0, locals := 0 } : Room).slots (own_P h0 n0 (.int (own_x1 w0 w1 u)))) (TT.setTop (mkF m 23 #[rv a1, iv 2, jv u, .second, iv 1] [])) := by
    intro TT XX ee
    refine og (fun t k => XS.iload XX.here hx rfl (hb hby d5_23) rfl k) ?_
    show oF p e below _ (TT.setTop (mkF m 25 #[rv a1, iv 2, jv u, .second, iv 1] [(.int 1)]))
    refine og (fun t k => XS.ifNo XX.here hx rfl (hb hby d5_25) rfl ((if0 _ _).trans (tlt (by decide : (0 : Int32) < (1 : Int32))).2.2.2) (XS.lloadN XX.here hx rfl (hb hby d5_28) rfl (XS.aloadN XX.here hx rfl (hb hby d5_29) rfl rfl k))) ?_
    show oF p e below _ (TT.setTop (mkF m 30 #[rv a1, iv 2, jv u, .second, iv 1] [(.ref a1), (.long u)]))
    obtain ⟨T4, X4, e4, st4⟩ := getF XX hx hZ hown (host := "") (Or.inl hw_17) Via.refl ee F_w (g := (mkF m 30 #[rv a1, iv 2, jv u, .second, iv 1] [(.ref a1), (.long u)])) rfl rfl (hb hby d5_30)
    refine og st4 ?_
    show oF p e below _ (T4.setTop (mkF m 33 #[rv a1, iv 2, jv u, .second, iv 1] [(.ref aw), (.long u)]))
    refine og (fun t k => XS.iload X4.here hx rfl (hb hby d5_33) rfl k) ?_
    show oF p e below _ (T4.setTop (mkF m 35 #[rv a1, iv 2, jv u, .second, iv 1] [(.int 1), (.ref aw), (.long u)]))
    obtain ⟨cl5, Ar5, q5, S5, M5, H5, G5⟩ := (id V_w)
    have hin5 : ¬ ((1 : Int32) < 0 ∨ cl5.slots.size ≤ ((1 : Int32)).toNatClampNeg) := inb_of S5 ⟨by decide, by decide⟩
    have hat5 : cl5.slots[((1 : Int32)).toNatClampNeg]? = some (.long w1) := H5.at hin5 rfl
    refine og (fun t k => X4.laload hx (j := (1 : Int32)) (v := (.long w1)) (by rw [e4]; exact Ar5.1) (State.isArrayOf_alike hZ.alike Ar5.2.1) Ar5.2.2 hin5 hat5 (g := (mkF m 35 #[rv a1, iv 2, jv u, .second, iv 1] [(.int 1), (.ref aw), (.long u)])) rfl rfl (hb hby d5_35) _ (XS.lcmp X4.here hx rfl (hb hby d5_36) rfl k)) ?_
    show oF p e below _ (T4.setTop (mkF m 37 #[rv a1, iv 2, jv u, .second, iv 1] [(.int (lcmpW u w1))]))
    by_cases hc6 : u = w1
    · skip
      refine og (fun t k => XS.ifYes X4.here hx rfl (pc0 := 37) (pc' := 54) rfl (hb hby d5_37) rfl ((if0 _ _).trans (teq ((lw_eq _ _).mpr hc6)).1) (by decide) (by decide) (XS.lloadN X4.here hx rfl (hb hby d5_54) rfl (XS.aloadN X4.here hx rfl (hb hby d5_55) rfl rfl k))) ?_
      show oF p e below _ (T4.setTop (mkF m 56 #[rv a1, iv 2, jv u, .second, iv 1] [(.ref a1), (.long u)]))
      obtain ⟨T7, X7, e7, st7⟩ := getF X4 hx hZ hown (host := "") (Or.inl hw_17) Via.refl e4 F_w (g := (mkF m 56 #[rv a1, iv 2, jv u, .second, iv 1] [(.ref a1), (.long u)])) rfl rfl (hb hby d5_56)
      refine og st7 ?_
      show oF p e below _ (T7.setTop (mkF m 59 #[rv a1, iv 2, jv u, .second, iv 1] [(.ref aw), (.long u)]))
      refine og (fun t k => XS.iload X7.here hx rfl (hb hby d5_59) rfl k) ?_
      show oF p e below _ (T7.setTop (mkF m 61 #[rv a1, iv 2, jv u, .second, iv 1] [(.int 1), (.ref aw), (.long u)]))
      obtain ⟨cl8, Ar8, q8, S8, M8, H8, G8⟩ := (id V_w)
      have hin8 : ¬ ((1 : Int32) < 0 ∨ cl8.slots.size ≤ ((1 : Int32)).toNatClampNeg) := inb_of S8 ⟨by decide, by decide⟩
      have hat8 : cl8.slots[((1 : Int32)).toNatClampNeg]? = some (.long w1) := H8.at hin8 rfl
      refine og (fun t k => X7.laload hx (j := (1 : Int32)) (v := (.long w1)) (by rw [e7]; exact Ar8.1) (State.isArrayOf_alike hZ.alike Ar8.2.1) Ar8.2.2 hin8 hat8 (g := (mkF m 61 #[rv a1, iv 2, jv u, .second, iv 1] [(.int 1), (.ref aw), (.long u)])) rfl rfl (hb hby d5_61) _ (XS.lcmp X7.here hx rfl (hb hby d5_62) rfl k)) ?_
      show oF p e below _ (T7.setTop (mkF m 63 #[rv a1, iv 2, jv u, .second, iv 1] [(.int (lcmpW u w1))]))
      refine og (fun t k => XS.ifNo X7.here hx rfl (hb hby d5_63) rfl ((if0 _ _).trans (teq ((lw_eq _ _).mpr hc6)).2) (XS.iload X7.here hx rfl (hb hby d5_66) rfl (XS.iconst X7.here hx rfl (hb hby d5_68) (XS.iadd X7.here hx rfl (hb hby d5_69) rfl (XS.goto X7.here hx rfl (pc0 := 70) (pc' := 75) rfl (hb hby d5_70) (by decide) (by decide) k))))) ?_
      show oF p e below _ (T7.setTop (mkF m 75 #[rv a1, iv 2, jv u, .second, iv 1] [(.int 2)]))
      exact oo X7 (fun h => by rw [Bd.returns] at h; cases h) Bd.notSynchronized (fun fs hr => retI X7 hx Bd.returns (hb hby d5_75) hr) ⟨(by simp [own_x0, own_x1, own_x2, own_x3, hc6]), N0, e7⟩ (by decide) (by decide)
    · skip
      refine og (fun t k => XS.ifNo X4.here hx rfl (hb hby d5_37) rfl ((if0 _ _).trans (feq (fun q => hc6 ((lw_eq _ _).mp q))).1) (XS.aloadN X4.here hx rfl (hb hby d5_40) rfl rfl k)) ?_
      show oF p e below _ (T4.setTop (mkF m 41 #[rv a1, iv 2, jv u, .second, iv 1] [(.ref a1)]))
      obtain ⟨T9, X9, e9, st9⟩ := getF X4 hx hZ hown (host := "") (Or.inl hw_22) Via.refl e4 F_b (g := (mkF m 41 #[rv a1, iv 2, jv u, .second, iv 1] [(.ref a1)])) rfl rfl (hb hby d5_41)
      refine og st9 ?_
      show oF p e below _ (T9.setTop (mkF m 44 #[rv a1, iv 2, jv u, .second, iv 1] [(.ref ab)]))
      refine og (fun t k => XS.iload X9.here hx rfl (hb hby d5_44) rfl (XS.iconst X9.here hx rfl (hb hby d5_46) (XS.isub X9.here hx rfl (hb hby d5_47) rfl k))) ?_
      show oF p e below _ (T9.setTop (mkF m 48 #[rv a1, iv 2, jv u, .second, iv 1] [(.int 0), (.ref ab)]))
      obtain ⟨cl10, Ar10, q10, S10, M10, H10, G10⟩ := (id V_b)
      have hin10 : ¬ ((0 : Int32) < 0 ∨ cl10.slots.size ≤ ((0 : Int32)).toNatClampNeg) := inb_of S10 ⟨by decide, by decide⟩
      have hat10 : cl10.slots[((0 : Int32)).toNatClampNeg]? = some (.int B0) := H10.at hin10 rfl
      refine og (fun t k => X9.iaload hx (j := (0 : Int32)) (v := (.int B0)) (by rw [e9]; exact Ar10.1) (State.isArrayOf_alike hZ.alike Ar10.2.1) Ar10.2.2 hin10 hat10 (g := (mkF m 48 #[rv a1, iv 2, jv u, .second, iv 1] [(.int 0), (.ref ab)])) rfl rfl (hb hby d5_48) _ k) ?_
      show oF p e below _ (T9.setTop (mkF m 49 #[rv a1, iv 2, jv u, .second, iv 1] [(.int B0)]))
      have hv11 := hB0
      · skip
        rw [hv11]
        show oF p e below _ (T9.setTop (mkF m 49 #[rv a1, iv 2, jv u, .second, iv 1] [(.int 0)]))
        refine og (fun t k => XS.istore X9.here hx rfl (hb hby d5_49) rfl (l' := #[rv a1, iv 2, jv u, .second, iv 0]) rfl (XS.goto X9.here hx rfl (pc0 := 51) (pc' := 23) rfl (hb hby d5_51) (by decide) (by decide) k)) ?_
        rw [show (own_x1 w0 w1 u) = (own_x0 w0 u) from by simp [own_x0, own_x1, own_x2, own_x3, hc6, hv11]]
        exact Jg0 T9 X9 e9
  have Jg2 : ∀ (TT : State) (XX : Stand p l e ({ frames := 0, cells := 0, slots := 0, locals := 0 } : Room) s m #[(.ref a1), (.int 2), (.long u)] below meth c TT [] 0 0) (ee : TT.heap = h0), oF p e below (own_A s ({ frames := 0, cells := 0, slots := 0, locals := 0 } : Room).cells ({ frames := 0, cells := 0, slots := 0, locals := 0 } : Room).slots (own_P h0 n0 (.int (own_x2 w0 w1 w2 B1 u)))) (TT.setTop (mkF m 23 #[rv a1, iv 2, jv u, .second, iv 2] [])) := by
    intro TT XX ee
    refine og (fun t k => XS.iload XX.here hx rfl (hb hby d5_23) rfl k) ?_
    show oF p e below _ (TT.setTop (mkF m 25 #[rv a1, iv 2, jv u, .second, iv 2] [(.int 2)]))
    refine og (fun t k => XS.ifNo XX.here hx rfl (hb hby d5_25) rfl ((if0 _ _).trans (tlt (by decide : (0 : Int32) < (2 : Int32))).2.2.2) (XS.lloadN XX.here hx rfl (hb hby d5_28) rfl (XS.aloadN XX.here hx rfl (hb hby d5_29) rfl rfl k))) ?_
    show oF p e below _ (TT.setTop (mkF m 30 #[rv a1, iv 2, jv u, .second, iv 2] [(.ref a1), (.long u)]))
    obtain ⟨T12, X12, e12, st12⟩ := getF XX hx hZ hown (host := "") (Or.inl hw_17) Via.refl ee F_w (g := (mkF m 30 #[rv a1, iv 2, jv u, .second, iv 2] [(.ref a1), (.long u)])) rfl rfl (hb hby d5_30)
    refine og st12 ?_
    show oF p e below _ (T12.setTop (mkF m 33 #[rv a1, iv 2, jv u, .second, iv 2] [(.ref aw), (.long u)]))
    refine og (fun t k => XS.iload X12.here hx rfl (hb hby d5_33) rfl k) ?_
    show oF p e below _ (T12.setTop (mkF m 35 #[rv a1, iv 2, jv u, .second, iv 2] [(.int 2), (.ref aw), (.long u)]))
    obtain ⟨cl13, Ar13, q13, S13, M13, H13, G13⟩ := (id V_w)
    have hin13 : ¬ ((2 : Int32) < 0 ∨ cl13.slots.size ≤ ((2 : Int32)).toNatClampNeg) := inb_of S13 ⟨by decide, by decide⟩
    have hat13 : cl13.slots[((2 : Int32)).toNatClampNeg]? = some (.long w2) := H13.at hin13 rfl
    refine og (fun t k => X12.laload hx (j := (2 : Int32)) (v := (.long w2)) (by rw [e12]; exact Ar13.1) (State.isArrayOf_alike hZ.alike Ar13.2.1) Ar13.2.2 hin13 hat13 (g := (mkF m 35 #[rv a1, iv 2, jv u, .second, iv 2] [(.int 2), (.ref aw), (.long u)])) rfl rfl (hb hby d5_35) _ (XS.lcmp X12.here hx rfl (hb hby d5_36) rfl k)) ?_
    show oF p e below _ (T12.setTop (mkF m 37 #[rv a1, iv 2, jv u, .second, iv 2] [(.int (lcmpW u w2))]))
    by_cases hc14 : u = w2
    · skip
      refine og (fun t k => XS.ifYes X12.here hx rfl (pc0 := 37) (pc' := 54) rfl (hb hby d5_37) rfl ((if0 _ _).trans (teq ((lw_eq _ _).mpr hc14)).1) (by decide) (by decide) (XS.lloadN X12.here hx rfl (hb hby d5_54) rfl (XS.aloadN X12.here hx rfl (hb hby d5_55) rfl rfl k))) ?_
      show oF p e below _ (T12.setTop (mkF m 56 #[rv a1, iv 2, jv u, .second, iv 2] [(.ref a1), (.long u)]))
      obtain ⟨T15, X15, e15, st15⟩ := getF X12 hx hZ hown (host := "") (Or.inl hw_17) Via.refl e12 F_w (g := (mkF m 56 #[rv a1, iv 2, jv u, .second, iv 2] [(.ref a1), (.long u)])) rfl rfl (hb hby d5_56)
      refine og st15 ?_
      show oF p e below _ (T15.setTop (mkF m 59 #[rv a1, iv 2, jv u, .second, iv 2] [(.ref aw), (.long u)]))
      refine og (fun t k => XS.iload X15.here hx rfl (hb hby d5_59) rfl k) ?_
      show oF p e below _ (T15.setTop (mkF m 61 #[rv a1, iv 2, jv u, .second, iv 2] [(.int 2), (.ref aw), (.long u)]))
      obtain ⟨cl16, Ar16, q16, S16, M16, H16, G16⟩ := (id V_w)
      have hin16 : ¬ ((2 : Int32) < 0 ∨ cl16.slots.size ≤ ((2 : Int32)).toNatClampNeg) := inb_of S16 ⟨by decide, by decide⟩
      have hat16 : cl16.slots[((2 : Int32)).toNatClampNeg]? = some (.long w2) := H16.at hin16 rfl
      refine og (fun t k => X15.laload hx (j := (2 : Int32)) (v := (.long w2)) (by rw [e15]; exact Ar16.1) (State.isArrayOf_alike hZ.alike Ar16.2.1) Ar16.2.2 hin16 hat16 (g := (mkF m 61 #[rv a1, iv 2, jv u, .second, iv 2] [(.int 2), (.ref aw), (.long u)])) rfl rfl (hb hby d5_61) _ (XS.lcmp X15.here hx rfl (hb hby d5_62) rfl k)) ?_
      show oF p e below _ (T15.setTop (mkF m 63 #[rv a1, iv 2, jv u, .second, iv 2] [(.int (lcmpW u w2))]))
      refine og (fun t k => XS.ifNo X15.here hx rfl (hb hby d5_63) rfl ((if0 _ _).trans (teq ((lw_eq _ _).mpr hc14)).2) (XS.iload X15.here hx rfl (hb hby d5_66) rfl (XS.iconst X15.here hx rfl (hb hby d5_68) (XS.iadd X15.here hx rfl (hb hby d5_69) rfl (XS.goto X15.here hx rfl (pc0 := 70) (pc' := 75) rfl (hb hby d5_70) (by decide) (by decide) k))))) ?_
      show oF p e below _ (T15.setTop (mkF m 75 #[rv a1, iv 2, jv u, .second, iv 2] [(.int 3)]))
      exact oo X15 (fun h => by rw [Bd.returns] at h; cases h) Bd.notSynchronized (fun fs hr => retI X15 hx Bd.returns (hb hby d5_75) hr) ⟨(by simp [own_x0, own_x1, own_x2, own_x3, hc14]), N0, e15⟩ (by decide) (by decide)
    · skip
      refine og (fun t k => XS.ifNo X12.here hx rfl (hb hby d5_37) rfl ((if0 _ _).trans (feq (fun q => hc14 ((lw_eq _ _).mp q))).1) (XS.aloadN X12.here hx rfl (hb hby d5_40) rfl rfl k)) ?_
      show oF p e below _ (T12.setTop (mkF m 41 #[rv a1, iv 2, jv u, .second, iv 2] [(.ref a1)]))
      obtain ⟨T17, X17, e17, st17⟩ := getF X12 hx hZ hown (host := "") (Or.inl hw_22) Via.refl e12 F_b (g := (mkF m 41 #[rv a1, iv 2, jv u, .second, iv 2] [(.ref a1)])) rfl rfl (hb hby d5_41)
      refine og st17 ?_
      show oF p e below _ (T17.setTop (mkF m 44 #[rv a1, iv 2, jv u, .second, iv 2] [(.ref ab)]))
      refine og (fun t k => XS.iload X17.here hx rfl (hb hby d5_44) rfl (XS.iconst X17.here hx rfl (hb hby d5_46) (XS.isub X17.here hx rfl (hb hby d5_47) rfl k))) ?_
      show oF p e below _ (T17.setTop (mkF m 48 #[rv a1, iv 2, jv u, .second, iv 2] [(.int 1), (.ref ab)]))
      obtain ⟨cl18, Ar18, q18, S18, M18, H18, G18⟩ := (id V_b)
      have hin18 : ¬ ((1 : Int32) < 0 ∨ cl18.slots.size ≤ ((1 : Int32)).toNatClampNeg) := inb_of S18 ⟨by decide, by decide⟩
      have hat18 : cl18.slots[((1 : Int32)).toNatClampNeg]? = some (.int B1) := H18.at hin18 rfl
      refine og (fun t k => X17.iaload hx (j := (1 : Int32)) (v := (.int B1)) (by rw [e17]; exact Ar18.1) (State.isArrayOf_alike hZ.alike Ar18.2.1) Ar18.2.2 hin18 hat18 (g := (mkF m 48 #[rv a1, iv 2, jv u, .second, iv 2] [(.int 1), (.ref ab)])) rfl rfl (hb hby d5_48) _ k) ?_
      show oF p e below _ (T17.setTop (mkF m 49 #[rv a1, iv 2, jv u, .second, iv 2] [(.int B1)]))
      rcases hB1 with hv19 | hv20
      · skip
        rw [hv19]
        show oF p e below _ (T17.setTop (mkF m 49 #[rv a1, iv 2, jv u, .second, iv 2] [(.int 0)]))
        refine og (fun t k => XS.istore X17.here hx rfl (hb hby d5_49) rfl (l' := #[rv a1, iv 2, jv u, .second, iv 0]) rfl (XS.goto X17.here hx rfl (pc0 := 51) (pc' := 23) rfl (hb hby d5_51) (by decide) (by decide) k)) ?_
        rw [show (own_x2 w0 w1 w2 (0 : Int32) u) = (own_x0 w0 u) from by simp [own_x0, own_x1, own_x2, own_x3, hc14, hv19]]
        exact Jg0 T17 X17 e17
      · skip
        rw [hv20]
        show oF p e below _ (T17.setTop (mkF m 49 #[rv a1, iv 2, jv u, .second, iv 2] [(.int 1)]))
        refine og (fun t k => XS.istore X17.here hx rfl (hb hby d5_49) rfl (l' := #[rv a1, iv 2, jv u, .second, iv 1]) rfl (XS.goto X17.here hx rfl (pc0 := 51) (pc' := 23) rfl (hb hby d5_51) (by decide) (by decide) k)) ?_
        rw [show (own_x2 w0 w1 w2 (1 : Int32) u) = (own_x1 w0 w1 u) from by simp [own_x0, own_x1, own_x2, own_x3, hc14, hv20]]
        exact Jg1 T17 X17 e17
  refine og (fun t k => XS.iloadN X0.here hx rfl (hb hby d5_0) rfl (XS.aloadN X0.here hx rfl (hb hby d5_1) rfl rfl k)) ?_
  show oF p e below _ (s₁.setTop (mkF m 2 #[rv a1, iv 2, jv u, .second, .unset] [(.ref a1), (.int 2)]))
  obtain ⟨T21, X21, e21, st21⟩ := getF X0 hx hZ hown (host := "") (Or.inl hw_17) Via.refl e0 F_w (g := (mkF m 2 #[rv a1, iv 2, jv u, .second, .unset] [(.ref a1), (.int 2)])) rfl rfl (hb hby d5_2)
  refine og st21 ?_
  show oF p e below _ (T21.setTop (mkF m 5 #[rv a1, iv 2, jv u, .second, .unset] [(.ref aw), (.int 2)]))
  obtain ⟨cl22, Ar22, q22, S22, M22, H22, G22⟩ := (id V_w)
  refine og (fun t k => X21.arraylength hx (by rw [e21]; exact Ar22.1) (State.isArrayOf_alike hZ.alike Ar22.2.1) (g := (mkF m 5 #[rv a1, iv 2, jv u, .second, .unset] [(.ref aw), (.int 2)])) rfl rfl (hb hby d5_5) _ k) ?_
  rw [len_of S22 M22]
  show oF p e below _ (T21.setTop (mkF m 6 #[rv a1, iv 2, jv u, .second, .unset] [(.int 3), (.int 2)]))
  refine og (fun t k => XS.icmpYes X21.here hx rfl (pc0 := 6) (pc' := 20) rfl (hb hby d5_6) rfl (feq (by decide : ¬ ((2 : Int32) = (3 : Int32)))).2 (by decide) (by decide) (XS.iloadN X21.here hx rfl (hb hby d5_20) rfl (XS.istore X21.here hx rfl (hb hby d5_21) rfl (l' := #[rv a1, iv 2, jv u, .second, iv 2]) rfl k))) ?_
  exact Jg2 T21 X21 e21
theorem ef_5n3m3 (m : MethodId) (x0 : Addr) (x1 : Int32) (x2 : Int64)  : entryFrame m #[(.ref x0), (.int x1), (.long x2)] 5 = mkF m 0 #[rv x0, iv x1, jv x2, .second, .unset] [] := by first | (simp [entryFrame, mkF, argsToLocals, Value.category]; done) | rfl
set_option maxRecDepth 65536 in
set_option maxHeartbeats 40000000 in
theorem rm5n3m3 (l : Launch) (Z : State) (a0 : Array Value) (hw : ∀ d ∈ tables_1, d.before a0 Z = true) (ws : List Jvm.Cond) (a1 : Addr) (u : Int64) (aw ab : Addr) (kw kb : ClassId) (w0 w1 w2 : Int64) (B0 B1 B2 : Int32) (h0 : Heap) (n0 : Nat) (Z0 : n0 ≤ h0.size) (F_w : Fld Z h0 a1 "com/example/sound_verdict/soundverdict/UnitSearch" "wanted" "[J" (.ref aw)) (F_b : Fld Z h0 a1 "com/example/sound_verdict/soundverdict/UnitSearch" "border" "[I" (.ref ab)) (V_w : Arv Z h0 aw kw .long (3 : Int32) [(.long w0), (.long w1), (.long w2)] (.long (0 : Int64))) (V_b : Arv Z h0 ab kb .int (3 : Int32) [(.int B0), (.int B1), (.int B2)] (.int (0 : Int32))) (hB0 : B0 = (0 : Int32)) (hB1 : B1 = (0 : Int32) ∨ B1 = (1 : Int32)) (hB2 : B2 = (0 : Int32) ∨ B2 = (1 : Int32) ∨ B2 = (2 : Int32)) :
    MetFree l (⟨"com/example/sound_verdict/soundverdict/UnitSearch", "next", "(IJ)I"⟩ : MethodName) (head1 (Jvm.Cond.code (⟨"com/example/sound_verdict/soundverdict/UnitSearch", "next", "(IJ)I"⟩ : MethodName) prog_199_method_6_code 5 (some .int) :: ws) ({ frames := 0, cells := 0, slots := 0, locals := 0 } : Room)) (fun a U => a = #[(.ref a1), (.int 3), (.long u)] ∧ Z.Warmed39 U.vm ∧ U.heap = h0) (fun _ _ _ _ _ => True) (fun _ U o U' => ∃ v L, o = .returned v ∧ (own_P h0 n0 (.int (if B2 = (0 : Int32) then (own_x0 w0 u) else (if B2 = (1 : Int32) then (own_x1 w0 w1 u) else (own_x2 w0 w1 w2 B1 u))))) v U'.heap L ∧ FrameEnd U o U' L ({ frames := 0, cells := 0, slots := 0, locals := 0 } : Room).cells ({ frames := 0, cells := 0, slots := 0, locals := 0 } : Room).slots) := by
  refine MetFree.of_bodySF (plainFor_of_name pn_1) hisR ?_
  intro p e s m args below meth c s₁ Bd hml0 hP hK
  obtain ⟨rfl, hZ, hh⟩ := hP
  have hx := Bd.exec
  have hby := Bd.bytes
  have hml : c.maxLocals = 5 := hml0
  have hown : s.vm.findClass "com/example/sound_verdict/soundverdict/UnitSearch" = some m.cls := findClass_of_methodNamed Bd.named
  have hnm := (name_of_methodNamed Bd.named Bd.method).1
  have X0 : Stand p l e ({ frames := 0, cells := 0, slots := 0, locals := 0 } : Room) s m #[(.ref a1), (.int 3), (.long u)] below meth c s₁ [] 0 0 := Stand.of_body Bd
  have e0 : s₁.heap = h0 := by rw [← hh, Bd.state]; rfl
  have N0 := Fr.nil n0
  have hw_17 := hw _ (List.mem_of_getElem? (i := 17) rfl)
  have hw_22 := hw _ (List.mem_of_getElem? (i := 22) rfl)
  show oF p e below (own_A s ({ frames := 0, cells := 0, slots := 0, locals := 0 } : Room).cells ({ frames := 0, cells := 0, slots := 0, locals := 0 } : Room).slots (own_P h0 n0 (.int (if B2 = (0 : Int32) then (own_x0 w0 u) else (if B2 = (1 : Int32) then (own_x1 w0 w1 u) else (own_x2 w0 w1 w2 B1 u)))))) _
  refine og (fun t k => castTop (ef_5n3m3 m (a1) ((3 : Int32)) (u)) k) ?_
  show oF p e below _ (s₁.setTop (mkF m 0 #[rv a1, iv 3, jv u, .second, .unset] []))
  have Jg0 : ∀ (TT : State) (XX : Stand p l e ({ frames := 0, cells := 0, slots := 0, locals := 0 } : Room) s m #[(.ref a1), (.int 3), (.long u)] below meth c TT [] 0 0) (ee : TT.heap = h0), oF p e below (own_A s ({ frames := 0, cells := 0, slots := 0, locals := 0 } : Room).cells ({ frames := 0, cells := 0, slots := 0, locals := 0 } : Room).slots (own_P h0 n0 (.int (own_x0 w0 u)))) (TT.setTop (mkF m 23 #[rv a1, iv 3, jv u, .second, iv 0] [])) := by
    intro TT XX ee
    refine og (fun t k => XS.iload XX.here hx rfl (hb hby d5_23) rfl k) ?_
    show oF p e below _ (TT.setTop (mkF m 25 #[rv a1, iv 3, jv u, .second, iv 0] [(.int 0)]))
    refine og (fun t k => XS.ifYes XX.here hx rfl (pc0 := 25) (pc' := 54) rfl (hb hby d5_25) rfl ((if0 _ _).trans (flt (by decide : ¬ ((0 : Int32) < (0 : Int32)))).2.2.2) (by decide) (by decide) (XS.lloadN XX.here hx rfl (hb hby d5_54) rfl (XS.aloadN XX.here hx rfl (hb hby d5_55) rfl rfl k))) ?_
    show oF p e below _ (TT.setTop (mkF m 56 #[rv a1, iv 3, jv u, .second, iv 0] [(.ref a1), (.long u)]))
    obtain ⟨T1, X1, e1, st1⟩ := getF XX hx hZ hown (host := "") (Or.inl hw_17) Via.refl ee F_w (g := (mkF m 56 #[rv a1, iv 3, jv u, .second, iv 0] [(.ref a1), (.long u)])) rfl rfl (hb hby d5_56)
    refine og st1 ?_
    show oF p e below _ (T1.setTop (mkF m 59 #[rv a1, iv 3, jv u, .second, iv 0] [(.ref aw), (.long u)]))
    refine og (fun t k => XS.iload X1.here hx rfl (hb hby d5_59) rfl k) ?_
    show oF p e below _ (T1.setTop (mkF m 61 #[rv a1, iv 3, jv u, .second, iv 0] [(.int 0), (.ref aw), (.long u)]))
    obtain ⟨cl2, Ar2, q2, S2, M2, H2, G2⟩ := (id V_w)
    have hin2 : ¬ ((0 : Int32) < 0 ∨ cl2.slots.size ≤ ((0 : Int32)).toNatClampNeg) := inb_of S2 ⟨by decide, by decide⟩
    have hat2 : cl2.slots[((0 : Int32)).toNatClampNeg]? = some (.long w0) := H2.at hin2 rfl
    refine og (fun t k => X1.laload hx (j := (0 : Int32)) (v := (.long w0)) (by rw [e1]; exact Ar2.1) (State.isArrayOf_alike hZ.alike Ar2.2.1) Ar2.2.2 hin2 hat2 (g := (mkF m 61 #[rv a1, iv 3, jv u, .second, iv 0] [(.int 0), (.ref aw), (.long u)])) rfl rfl (hb hby d5_61) _ (XS.lcmp X1.here hx rfl (hb hby d5_62) rfl k)) ?_
    show oF p e below _ (T1.setTop (mkF m 63 #[rv a1, iv 3, jv u, .second, iv 0] [(.int (lcmpW u w0))]))
    by_cases hc3 : u = w0
    · skip
      refine og (fun t k => XS.ifNo X1.here hx rfl (hb hby d5_63) rfl ((if0 _ _).trans (teq ((lw_eq _ _).mpr hc3)).2) (XS.iload X1.here hx rfl (hb hby d5_66) rfl (XS.iconst X1.here hx rfl (hb hby d5_68) (XS.iadd X1.here hx rfl (hb hby d5_69) rfl (XS.goto X1.here hx rfl (pc0 := 70) (pc' := 75) rfl (hb hby d5_70) (by decide) (by decide) k))))) ?_
      show oF p e below _ (T1.setTop (mkF m 75 #[rv a1, iv 3, jv u, .second, iv 0] [(.int 1)]))
      exact oo X1 (fun h => by rw [Bd.returns] at h; cases h) Bd.notSynchronized (fun fs hr => retI X1 hx Bd.returns (hb hby d5_75) hr) ⟨(by simp [own_x0, own_x1, own_x2, own_x3, hc3]), N0, e1⟩ (by decide) (by decide)
    · skip
      refine og (fun t k => XS.ifYes X1.here hx rfl (pc0 := 63) (pc' := 73) rfl (hb hby d5_63) rfl ((if0 _ _).trans (feq (fun q => hc3 ((lw_eq _ _).mp q))).2) (by decide) (by decide) (XS.iload X1.here hx rfl (hb hby d5_73) rfl k)) ?_
      show oF p e below _ (T1.setTop (mkF m 75 #[rv a1, iv 3, jv u, .second, iv 0] [(.int 0)]))
      exact oo X1 (fun h => by rw [Bd.returns] at h; cases h) Bd.notSynchronized (fun fs hr => retI X1 hx Bd.returns (hb hby d5_75) hr) ⟨(by simp [own_x0, own_x1, own_x2, own_x3, hc3]), N0, e1⟩ (by decide) (by decide)
  have Jg1 : ∀ (TT : State) (XX : Stand p l e ({ frames := 0, cells := 0, slots := 0, locals := 0 } : Room) s m #[(.ref a1), (.int 3), (.long u)] below meth c TT [] 0 0) (ee : TT.heap = h0), oF p e below (own_A s ({ frames := 0, cells := 0, slots := 0, locals := 0 } : Room).cells ({ frames := 0, cells := 0, slots := 0, locals := 0 } : Room).slots (own_P h0 n0 (.int (own_x1 w0 w1 u)))) (TT.setTop (mkF m 23 #[rv a1, iv 3, jv u, .second, iv 1] [])) := by
    intro TT XX ee
    refine og (fun t k => XS.iload XX.here hx rfl (hb hby d5_23) rfl k) ?_
    show oF p e below _ (TT.setTop (mkF m 25 #[rv a1, iv 3, jv u, .second, iv 1] [(.int 1)]))
    refine og (fun t k => XS.ifNo XX.here hx rfl (hb hby d5_25) rfl ((if0 _ _).trans (tlt (by decide : (0 : Int32) < (1 : Int32))).2.2.2) (XS.lloadN XX.here hx rfl (hb hby d5_28) rfl (XS.aloadN XX.here hx rfl (hb hby d5_29) rfl rfl k))) ?_
    show oF p e below _ (TT.setTop (mkF m 30 #[rv a1, iv 3, jv u, .second, iv 1] [(.ref a1), (.long u)]))
    obtain ⟨T4, X4, e4, st4⟩ := getF XX hx hZ hown (host := "") (Or.inl hw_17) Via.refl ee F_w (g := (mkF m 30 #[rv a1, iv 3, jv u, .second, iv 1] [(.ref a1), (.long u)])) rfl rfl (hb hby d5_30)
    refine og st4 ?_
    show oF p e below _ (T4.setTop (mkF m 33 #[rv a1, iv 3, jv u, .second, iv 1] [(.ref aw), (.long u)]))
    refine og (fun t k => XS.iload X4.here hx rfl (hb hby d5_33) rfl k) ?_
    show oF p e below _ (T4.setTop (mkF m 35 #[rv a1, iv 3, jv u, .second, iv 1] [(.int 1), (.ref aw), (.long u)]))
    obtain ⟨cl5, Ar5, q5, S5, M5, H5, G5⟩ := (id V_w)
    have hin5 : ¬ ((1 : Int32) < 0 ∨ cl5.slots.size ≤ ((1 : Int32)).toNatClampNeg) := inb_of S5 ⟨by decide, by decide⟩
    have hat5 : cl5.slots[((1 : Int32)).toNatClampNeg]? = some (.long w1) := H5.at hin5 rfl
    refine og (fun t k => X4.laload hx (j := (1 : Int32)) (v := (.long w1)) (by rw [e4]; exact Ar5.1) (State.isArrayOf_alike hZ.alike Ar5.2.1) Ar5.2.2 hin5 hat5 (g := (mkF m 35 #[rv a1, iv 3, jv u, .second, iv 1] [(.int 1), (.ref aw), (.long u)])) rfl rfl (hb hby d5_35) _ (XS.lcmp X4.here hx rfl (hb hby d5_36) rfl k)) ?_
    show oF p e below _ (T4.setTop (mkF m 37 #[rv a1, iv 3, jv u, .second, iv 1] [(.int (lcmpW u w1))]))
    by_cases hc6 : u = w1
    · skip
      refine og (fun t k => XS.ifYes X4.here hx rfl (pc0 := 37) (pc' := 54) rfl (hb hby d5_37) rfl ((if0 _ _).trans (teq ((lw_eq _ _).mpr hc6)).1) (by decide) (by decide) (XS.lloadN X4.here hx rfl (hb hby d5_54) rfl (XS.aloadN X4.here hx rfl (hb hby d5_55) rfl rfl k))) ?_
      show oF p e below _ (T4.setTop (mkF m 56 #[rv a1, iv 3, jv u, .second, iv 1] [(.ref a1), (.long u)]))
      obtain ⟨T7, X7, e7, st7⟩ := getF X4 hx hZ hown (host := "") (Or.inl hw_17) Via.refl e4 F_w (g := (mkF m 56 #[rv a1, iv 3, jv u, .second, iv 1] [(.ref a1), (.long u)])) rfl rfl (hb hby d5_56)
      refine og st7 ?_
      show oF p e below _ (T7.setTop (mkF m 59 #[rv a1, iv 3, jv u, .second, iv 1] [(.ref aw), (.long u)]))
      refine og (fun t k => XS.iload X7.here hx rfl (hb hby d5_59) rfl k) ?_
      show oF p e below _ (T7.setTop (mkF m 61 #[rv a1, iv 3, jv u, .second, iv 1] [(.int 1), (.ref aw), (.long u)]))
      obtain ⟨cl8, Ar8, q8, S8, M8, H8, G8⟩ := (id V_w)
      have hin8 : ¬ ((1 : Int32) < 0 ∨ cl8.slots.size ≤ ((1 : Int32)).toNatClampNeg) := inb_of S8 ⟨by decide, by decide⟩
      have hat8 : cl8.slots[((1 : Int32)).toNatClampNeg]? = some (.long w1) := H8.at hin8 rfl
      refine og (fun t k => X7.laload hx (j := (1 : Int32)) (v := (.long w1)) (by rw [e7]; exact Ar8.1) (State.isArrayOf_alike hZ.alike Ar8.2.1) Ar8.2.2 hin8 hat8 (g := (mkF m 61 #[rv a1, iv 3, jv u, .second, iv 1] [(.int 1), (.ref aw), (.long u)])) rfl rfl (hb hby d5_61) _ (XS.lcmp X7.here hx rfl (hb hby d5_62) rfl k)) ?_
      show oF p e below _ (T7.setTop (mkF m 63 #[rv a1, iv 3, jv u, .second, iv 1] [(.int (lcmpW u w1))]))
      refine og (fun t k => XS.ifNo X7.here hx rfl (hb hby d5_63) rfl ((if0 _ _).trans (teq ((lw_eq _ _).mpr hc6)).2) (XS.iload X7.here hx rfl (hb hby d5_66) rfl (XS.iconst X7.here hx rfl (hb hby d5_68) (XS.iadd X7.here hx rfl (hb hby d5_69) rfl (XS.goto X7.here hx rfl (pc0 := 70) (pc' := 75) rfl (hb hby d5_70) (by decide) (by decide) k))))) ?_
      show oF p e below _ (T7.setTop (mkF m 75 #[rv a1, iv 3, jv u, .second, iv 1] [(.int 2)]))
      exact oo X7 (fun h => by rw [Bd.returns] at h; cases h) Bd.notSynchronized (fun fs hr => retI X7 hx Bd.returns (hb hby d5_75) hr) ⟨(by simp [own_x0, own_x1, own_x2, own_x3, hc6]), N0, e7⟩ (by decide) (by decide)
    · skip
      refine og (fun t k => XS.ifNo X4.here hx rfl (hb hby d5_37) rfl ((if0 _ _).trans (feq (fun q => hc6 ((lw_eq _ _).mp q))).1) (XS.aloadN X4.here hx rfl (hb hby d5_40) rfl rfl k)) ?_
      show oF p e below _ (T4.setTop (mkF m 41 #[rv a1, iv 3, jv u, .second, iv 1] [(.ref a1)]))
      obtain ⟨T9, X9, e9, st9⟩ := getF X4 hx hZ hown (host := "") (Or.inl hw_22) Via.refl e4 F_b (g := (mkF m 41 #[rv a1, iv 3, jv u, .second, iv 1] [(.ref a1)])) rfl rfl (hb hby d5_41)
      refine og st9 ?_
      show oF p e below _ (T9.setTop (mkF m 44 #[rv a1, iv 3, jv u, .second, iv 1] [(.ref ab)]))
      refine og (fun t k => XS.iload X9.here hx rfl (hb hby d5_44) rfl (XS.iconst X9.here hx rfl (hb hby d5_46) (XS.isub X9.here hx rfl (hb hby d5_47) rfl k))) ?_
      show oF p e below _ (T9.setTop (mkF m 48 #[rv a1, iv 3, jv u, .second, iv 1] [(.int 0), (.ref ab)]))
      obtain ⟨cl10, Ar10, q10, S10, M10, H10, G10⟩ := (id V_b)
      have hin10 : ¬ ((0 : Int32) < 0 ∨ cl10.slots.size ≤ ((0 : Int32)).toNatClampNeg) := inb_of S10 ⟨by decide, by decide⟩
      have hat10 : cl10.slots[((0 : Int32)).toNatClampNeg]? = some (.int B0) := H10.at hin10 rfl
      refine og (fun t k => X9.iaload hx (j := (0 : Int32)) (v := (.int B0)) (by rw [e9]; exact Ar10.1) (State.isArrayOf_alike hZ.alike Ar10.2.1) Ar10.2.2 hin10 hat10 (g := (mkF m 48 #[rv a1, iv 3, jv u, .second, iv 1] [(.int 0), (.ref ab)])) rfl rfl (hb hby d5_48) _ k) ?_
      show oF p e below _ (T9.setTop (mkF m 49 #[rv a1, iv 3, jv u, .second, iv 1] [(.int B0)]))
      have hv11 := hB0
      · skip
        rw [hv11]
        show oF p e below _ (T9.setTop (mkF m 49 #[rv a1, iv 3, jv u, .second, iv 1] [(.int 0)]))
        refine og (fun t k => XS.istore X9.here hx rfl (hb hby d5_49) rfl (l' := #[rv a1, iv 3, jv u, .second, iv 0]) rfl (XS.goto X9.here hx rfl (pc0 := 51) (pc' := 23) rfl (hb hby d5_51) (by decide) (by decide) k)) ?_
        rw [show (own_x1 w0 w1 u) = (own_x0 w0 u) from by simp [own_x0, own_x1, own_x2, own_x3, hc6, hv11]]
        exact Jg0 T9 X9 e9
  have Jg2 : ∀ (TT : State) (XX : Stand p l e ({ frames := 0, cells := 0, slots := 0, locals := 0 } : Room) s m #[(.ref a1), (.int 3), (.long u)] below meth c TT [] 0 0) (ee : TT.heap = h0), oF p e below (own_A s ({ frames := 0, cells := 0, slots := 0, locals := 0 } : Room).cells ({ frames := 0, cells := 0, slots := 0, locals := 0 } : Room).slots (own_P h0 n0 (.int (own_x2 w0 w1 w2 B1 u)))) (TT.setTop (mkF m 23 #[rv a1, iv 3, jv u, .second, iv 2] [])) := by
    intro TT XX ee
    refine og (fun t k => XS.iload XX.here hx rfl (hb hby d5_23) rfl k) ?_
    show oF p e below _ (TT.setTop (mkF m 25 #[rv a1, iv 3, jv u, .second, iv 2] [(.int 2)]))
    refine og (fun t k => XS.ifNo XX.here hx rfl (hb hby d5_25) rfl ((if0 _ _).trans (tlt (by decide : (0 : Int32) < (2 : Int32))).2.2.2) (XS.lloadN XX.here hx rfl (hb hby d5_28) rfl (XS.aloadN XX.here hx rfl (hb hby d5_29) rfl rfl k))) ?_
    show oF p e below _ (TT.setTop (mkF m 30 #[rv a1, iv 3, jv u, .second, iv 2] [(.ref a1), (.long u)]))
    obtain ⟨T12, X12, e12, st12⟩ := getF XX hx hZ hown (host := "") (Or.inl hw_17) Via.refl ee F_w (g := (mkF m 30 #[rv a1, iv 3, jv u, .second, iv 2] [(.ref a1), (.long u)])) rfl rfl (hb hby d5_30)
    refine og st12 ?_
    show oF p e below _ (T12.setTop (mkF m 33 #[rv a1, iv 3, jv u, .second, iv 2] [(.ref aw), (.long u)]))
    refine og (fun t k => XS.iload X12.here hx rfl (hb hby d5_33) rfl k) ?_
    show oF p e below _ (T12.setTop (mkF m 35 #[rv a1, iv 3, jv u, .second, iv 2] [(.int 2), (.ref aw), (.long u)]))
    obtain ⟨cl13, Ar13, q13, S13, M13, H13, G13⟩ := (id V_w)
    have hin13 : ¬ ((2 : Int32) < 0 ∨ cl13.slots.size ≤ ((2 : Int32)).toNatClampNeg) := inb_of S13 ⟨by decide, by decide⟩
    have hat13 : cl13.slots[((2 : Int32)).toNatClampNeg]? = some (.long w2) := H13.at hin13 rfl
    refine og (fun t k => X12.laload hx (j := (2 : Int32)) (v := (.long w2)) (by rw [e12]; exact Ar13.1) (State.isArrayOf_alike hZ.alike Ar13.2.1) Ar13.2.2 hin13 hat13 (g := (mkF m 35 #[rv a1, iv 3, jv u, .second, iv 2] [(.int 2), (.ref aw), (.long u)])) rfl rfl (hb hby d5_35) _ (XS.lcmp X12.here hx rfl (hb hby d5_36) rfl k)) ?_
    show oF p e below _ (T12.setTop (mkF m 37 #[rv a1, iv 3, jv u, .second, iv 2] [(.int (lcmpW u w2))]))
    by_cases hc14 : u = w2
    · skip
      refine og (fun t k => XS.ifYes X12.here hx rfl (pc0 := 37) (pc' := 54) rfl (hb hby d5_37) rfl ((if0 _ _).trans (teq ((lw_eq _ _).mpr hc14)).1) (by decide) (by decide) (XS.lloadN X12.here hx rfl (hb hby d5_54) rfl (XS.aloadN X12.here hx rfl (hb hby d5_55) rfl rfl k))) ?_
      show oF p e below _ (T12.setTop (mkF m 56 #[rv a1, iv 3, jv u, .second, iv 2] [(.ref a1), (.long u)]))
      obtain ⟨T15, X15, e15, st15⟩ := getF X12 hx hZ hown (host := "") (Or.inl hw_17) Via.refl e12 F_w (g := (mkF m 56 #[rv a1, iv 3, jv u, .second, iv 2] [(.ref a1), (.long u)])) rfl rfl (hb hby d5_56)
      refine og st15 ?_
      show oF p e below _ (T15.setTop (mkF m 59 #[rv a1, iv 3, jv u, .second, iv 2] [(.ref aw), (.long u)]))
      refine og (fun t k => XS.iload X15.here hx rfl (hb hby d5_59) rfl k) ?_
      show oF p e below _ (T15.setTop (mkF m 61 #[rv a1, iv 3, jv u, .second, iv 2] [(.int 2), (.ref aw), (.long u)]))
      obtain ⟨cl16, Ar16, q16, S16, M16, H16, G16⟩ := (id V_w)
      have hin16 : ¬ ((2 : Int32) < 0 ∨ cl16.slots.size ≤ ((2 : Int32)).toNatClampNeg) := inb_of S16 ⟨by decide, by decide⟩
      have hat16 : cl16.slots[((2 : Int32)).toNatClampNeg]? = some (.long w2) := H16.at hin16 rfl
      refine og (fun t k => X15.laload hx (j := (2 : Int32)) (v := (.long w2)) (by rw [e15]; exact Ar16.1) (State.isArrayOf_alike hZ.alike Ar16.2.1) Ar16.2.2 hin16 hat16 (g := (mkF m 61 #[rv a1, iv 3, jv u, .second, iv 2] [(.int 2), (.ref aw), (.long u)])) rfl rfl (hb hby d5_61) _ (XS.lcmp X15.here hx rfl (hb hby d5_62) rfl k)) ?_
      show oF p e below _ (T15.setTop (mkF m 63 #[rv a1, iv 3, jv u, .second, iv 2] [(.int (lcmpW u w2))]))
      refine og (fun t k => XS.ifNo X15.here hx rfl (hb hby d5_63) rfl ((if0 _ _).trans (teq ((lw_eq _ _).mpr hc14)).2) (XS.iload X15.here hx rfl (hb hby d5_66) rfl (XS.iconst X15.here hx rfl (hb hby d5_68) (XS.iadd X15.here hx rfl (hb hby d5_69) rfl (XS.goto X15.here hx rfl (pc0 := 70) (pc' := 75) rfl (hb hby d5_70) (by decide) (by decide) k))))) ?_
      show oF p e below _ (T15.setTop (mkF m 75 #[rv a1, iv 3, jv u, .second, iv 2] [(.int 3)]))
      exact oo X15 (fun h => by rw [Bd.returns] at h; cases h) Bd.notSynchronized (fun fs hr => retI X15 hx Bd.returns (hb hby d5_75) hr) ⟨(by simp [own_x0, own_x1, own_x2, own_x3, hc14]), N0, e15⟩ (by decide) (by decide)
    · skip
      refine og (fun t k => XS.ifNo X12.here hx rfl (hb hby d5_37) rfl ((if0 _ _).trans (feq (fun q => hc14 ((lw_eq _ _).mp q))).1) (XS.aloadN X12.here hx rfl (hb hby d5_40) rfl rfl k)) ?_
      show oF p e below _ (T12.setTop (mkF m 41 #[rv a1, iv 3, jv u, .second, iv 2] [(.ref a1)]))
      obtain ⟨T17, X17, e17, st17⟩ := getF X12 hx hZ hown (host := "") (Or.inl hw_22) Via.refl e12 F_b (g := (mkF m 41 #[rv a1, iv 3, jv u, .second, iv 2] [(.ref a1)])) rfl rfl (hb hby d5_41)
      refine og st17 ?_
      show oF p e below _ (T17.setTop (mkF m 44 #[rv a1, iv 3, jv u, .second, iv 2] [(.ref ab)]))
      refine og (fun t k => XS.iload X17.here hx rfl (hb hby d5_44) rfl (XS.iconst X17.here hx rfl (hb hby d5_46) (XS.isub X17.here hx rfl (hb hby d5_47) rfl k))) ?_
      show oF p e below _ (T17.setTop (mkF m 48 #[rv a1, iv 3, jv u, .second, iv 2] [(.int 1), (.ref ab)]))
      obtain ⟨cl18, Ar18, q18, S18, M18, H18, G18⟩ := (id V_b)
      have hin18 : ¬ ((1 : Int32) < 0 ∨ cl18.slots.size ≤ ((1 : Int32)).toNatClampNeg) := inb_of S18 ⟨by decide, by decide⟩
      have hat18 : cl18.slots[((1 : Int32)).toNatClampNeg]? = some (.int B1) := H18.at hin18 rfl
      refine og (fun t k => X17.iaload hx (j := (1 : Int32)) (v := (.int B1)) (by rw [e17]; exact Ar18.1) (State.isArrayOf_alike hZ.alike Ar18.2.1) Ar18.2.2 hin18 hat18 (g := (mkF m 48 #[rv a1, iv 3, jv u, .second, iv 2] [(.int 1), (.ref ab)])) rfl rfl (hb hby d5_48) _ k) ?_
      show oF p e below _ (T17.setTop (mkF m 49 #[rv a1, iv 3, jv u, .second, iv 2] [(.int B1)]))
      rcases hB1 with hv19 | hv20
      · skip
        rw [hv19]
        show oF p e below _ (T17.setTop (mkF m 49 #[rv a1, iv 3, jv u, .second, iv 2] [(.int 0)]))
        refine og (fun t k => XS.istore X17.here hx rfl (hb hby d5_49) rfl (l' := #[rv a1, iv 3, jv u, .second, iv 0]) rfl (XS.goto X17.here hx rfl (pc0 := 51) (pc' := 23) rfl (hb hby d5_51) (by decide) (by decide) k)) ?_
        rw [show (own_x2 w0 w1 w2 (0 : Int32) u) = (own_x0 w0 u) from by simp [own_x0, own_x1, own_x2, own_x3, hc14, hv19]]
        exact Jg0 T17 X17 e17
      · skip
        rw [hv20]
        show oF p e below _ (T17.setTop (mkF m 49 #[rv a1, iv 3, jv u, .second, iv 2] [(.int 1)]))
        refine og (fun t k => XS.istore X17.here hx rfl (hb hby d5_49) rfl (l' := #[rv a1, iv 3, jv u, .second, iv 1]) rfl (XS.goto X17.here hx rfl (pc0 := 51) (pc' := 23) rfl (hb hby d5_51) (by decide) (by decide) k)) ?_
        rw [show (own_x2 w0 w1 w2 (1 : Int32) u) = (own_x1 w0 w1 u) from by simp [own_x0, own_x1, own_x2, own_x3, hc14, hv20]]
        exact Jg1 T17 X17 e17
  refine og (fun t k => XS.iloadN X0.here hx rfl (hb hby d5_0) rfl (XS.aloadN X0.here hx rfl (hb hby d5_1) rfl rfl k)) ?_
  show oF p e below _ (s₁.setTop (mkF m 2 #[rv a1, iv 3, jv u, .second, .unset] [(.ref a1), (.int 3)]))
  obtain ⟨T21, X21, e21, st21⟩ := getF X0 hx hZ hown (host := "") (Or.inl hw_17) Via.refl e0 F_w (g := (mkF m 2 #[rv a1, iv 3, jv u, .second, .unset] [(.ref a1), (.int 3)])) rfl rfl (hb hby d5_2)
  refine og st21 ?_
  show oF p e below _ (T21.setTop (mkF m 5 #[rv a1, iv 3, jv u, .second, .unset] [(.ref aw), (.int 3)]))
  obtain ⟨cl22, Ar22, q22, S22, M22, H22, G22⟩ := (id V_w)
  refine og (fun t k => X21.arraylength hx (by rw [e21]; exact Ar22.1) (State.isArrayOf_alike hZ.alike Ar22.2.1) (g := (mkF m 5 #[rv a1, iv 3, jv u, .second, .unset] [(.ref aw), (.int 3)])) rfl rfl (hb hby d5_5) _ k) ?_
  rw [len_of S22 M22]
  show oF p e below _ (T21.setTop (mkF m 6 #[rv a1, iv 3, jv u, .second, .unset] [(.int 3), (.int 3)]))
  refine og (fun t k => XS.icmpNo X21.here hx rfl (hb hby d5_6) rfl (teq (by decide : (3 : Int32) = (3 : Int32))).2 (XS.aloadN X21.here hx rfl (hb hby d5_9) rfl rfl k)) ?_
  show oF p e below _ (T21.setTop (mkF m 10 #[rv a1, iv 3, jv u, .second, .unset] [(.ref a1)]))
  obtain ⟨T23, X23, e23, st23⟩ := getF X21 hx hZ hown (host := "") (Or.inl hw_22) Via.refl e21 F_b (g := (mkF m 10 #[rv a1, iv 3, jv u, .second, .unset] [(.ref a1)])) rfl rfl (hb hby d5_10)
  refine og st23 ?_
  show oF p e below _ (T23.setTop (mkF m 13 #[rv a1, iv 3, jv u, .second, .unset] [(.ref ab)]))
  refine og (fun t k => XS.iloadN X23.here hx rfl (hb hby d5_13) rfl (XS.iconst X23.here hx rfl (hb hby d5_14) (XS.isub X23.here hx rfl (hb hby d5_15) rfl k))) ?_
  show oF p e below _ (T23.setTop (mkF m 16 #[rv a1, iv 3, jv u, .second, .unset] [(.int 2), (.ref ab)]))
  obtain ⟨cl24, Ar24, q24, S24, M24, H24, G24⟩ := (id V_b)
  have hin24 : ¬ ((2 : Int32) < 0 ∨ cl24.slots.size ≤ ((2 : Int32)).toNatClampNeg) := inb_of S24 ⟨by decide, by decide⟩
  have hat24 : cl24.slots[((2 : Int32)).toNatClampNeg]? = some (.int B2) := H24.at hin24 rfl
  refine og (fun t k => X23.iaload hx (j := (2 : Int32)) (v := (.int B2)) (by rw [e23]; exact Ar24.1) (State.isArrayOf_alike hZ.alike Ar24.2.1) Ar24.2.2 hin24 hat24 (g := (mkF m 16 #[rv a1, iv 3, jv u, .second, .unset] [(.int 2), (.ref ab)])) rfl rfl (hb hby d5_16) _ (XS.goto X23.here hx rfl (pc0 := 17) (pc' := 21) rfl (hb hby d5_17) (by decide) (by decide) k)) ?_
  show oF p e below _ (T23.setTop (mkF m 21 #[rv a1, iv 3, jv u, .second, .unset] [(.int B2)]))
  rcases hB2 with hv25 | hv26 | hv27
  · skip
    rw [hv25]
    show oF p e below _ (T23.setTop (mkF m 21 #[rv a1, iv 3, jv u, .second, .unset] [(.int 0)]))
    refine og (fun t k => XS.istore X23.here hx rfl (hb hby d5_21) rfl (l' := #[rv a1, iv 3, jv u, .second, iv 0]) rfl k) ?_
    rw [show (if (0 : Int32) = (0 : Int32) then (own_x0 w0 u) else (if (0 : Int32) = (1 : Int32) then (own_x1 w0 w1 u) else (own_x2 w0 w1 w2 B1 u))) = (own_x0 w0 u) from by simp [own_x0, own_x1, own_x2, own_x3, hv25]]
    exact Jg0 T23 X23 e23
  · skip
    rw [hv26]
    show oF p e below _ (T23.setTop (mkF m 21 #[rv a1, iv 3, jv u, .second, .unset] [(.int 1)]))
    refine og (fun t k => XS.istore X23.here hx rfl (hb hby d5_21) rfl (l' := #[rv a1, iv 3, jv u, .second, iv 1]) rfl k) ?_
    rw [show (if (1 : Int32) = (0 : Int32) then (own_x0 w0 u) else (if (1 : Int32) = (1 : Int32) then (own_x1 w0 w1 u) else (own_x2 w0 w1 w2 B1 u))) = (own_x1 w0 w1 u) from by simp [own_x0, own_x1, own_x2, own_x3, hv26]]
    exact Jg1 T23 X23 e23
  · skip
    rw [hv27]
    show oF p e below _ (T23.setTop (mkF m 21 #[rv a1, iv 3, jv u, .second, .unset] [(.int 2)]))
    refine og (fun t k => XS.istore X23.here hx rfl (hb hby d5_21) rfl (l' := #[rv a1, iv 3, jv u, .second, iv 2]) rfl k) ?_
    rw [show (if (2 : Int32) = (0 : Int32) then (own_x0 w0 u) else (if (2 : Int32) = (1 : Int32) then (own_x1 w0 w1 u) else (own_x2 w0 w1 w2 B1 u))) = (own_x2 w0 w1 w2 B1 u) from by simp [own_x0, own_x1, own_x2, own_x3, hv27]]
    exact Jg2 T23 X23 e23
theorem ef_5n4m0 (m : MethodId) (x0 : Addr) (x1 : Int32) (x2 : Int64)  : entryFrame m #[(.ref x0), (.int x1), (.long x2)] 5 = mkF m 0 #[rv x0, iv x1, jv x2, .second, .unset] [] := by first | (simp [entryFrame, mkF, argsToLocals, Value.category]; done) | rfl
set_option maxRecDepth 65536 in
set_option maxHeartbeats 40000000 in
theorem rm5n4m0 (l : Launch) (Z : State) (a0 : Array Value) (hw : ∀ d ∈ tables_1, d.before a0 Z = true) (ws : List Jvm.Cond) (a1 : Addr) (u : Int64) (aw ab : Addr) (kw kb : ClassId) (w0 w1 w2 w3 : Int64) (B0 B1 B2 B3 : Int32) (h0 : Heap) (n0 : Nat) (Z0 : n0 ≤ h0.size) (F_w : Fld Z h0 a1 "com/example/sound_verdict/soundverdict/UnitSearch" "wanted" "[J" (.ref aw)) (F_b : Fld Z h0 a1 "com/example/sound_verdict/soundverdict/UnitSearch" "border" "[I" (.ref ab)) (V_w : Arv Z h0 aw kw .long (4 : Int32) [(.long w0), (.long w1), (.long w2), (.long w3)] (.long (0 : Int64))) (V_b : Arv Z h0 ab kb .int (4 : Int32) [(.int B0), (.int B1), (.int B2), (.int B3)] (.int (0 : Int32))) (hB0 : B0 = (0 : Int32)) (hB1 : B1 = (0 : Int32) ∨ B1 = (1 : Int32)) (hB2 : B2 = (0 : Int32) ∨ B2 = (1 : Int32) ∨ B2 = (2 : Int32)) (hB3 : B3 = (0 : Int32) ∨ B3 = (1 : Int32) ∨ B3 = (2 : Int32) ∨ B3 = (3 : Int32)) :
    MetFree l (⟨"com/example/sound_verdict/soundverdict/UnitSearch", "next", "(IJ)I"⟩ : MethodName) (head1 (Jvm.Cond.code (⟨"com/example/sound_verdict/soundverdict/UnitSearch", "next", "(IJ)I"⟩ : MethodName) prog_199_method_6_code 5 (some .int) :: ws) ({ frames := 0, cells := 0, slots := 0, locals := 0 } : Room)) (fun a U => a = #[(.ref a1), (.int 0), (.long u)] ∧ Z.Warmed39 U.vm ∧ U.heap = h0) (fun _ _ _ _ _ => True) (fun _ U o U' => ∃ v L, o = .returned v ∧ (own_P h0 n0 (.int (own_x0 w0 u))) v U'.heap L ∧ FrameEnd U o U' L ({ frames := 0, cells := 0, slots := 0, locals := 0 } : Room).cells ({ frames := 0, cells := 0, slots := 0, locals := 0 } : Room).slots) := by
  refine MetFree.of_bodySF (plainFor_of_name pn_1) hisR ?_
  intro p e s m args below meth c s₁ Bd hml0 hP hK
  obtain ⟨rfl, hZ, hh⟩ := hP
  have hx := Bd.exec
  have hby := Bd.bytes
  have hml : c.maxLocals = 5 := hml0
  have hown : s.vm.findClass "com/example/sound_verdict/soundverdict/UnitSearch" = some m.cls := findClass_of_methodNamed Bd.named
  have hnm := (name_of_methodNamed Bd.named Bd.method).1
  have X0 : Stand p l e ({ frames := 0, cells := 0, slots := 0, locals := 0 } : Room) s m #[(.ref a1), (.int 0), (.long u)] below meth c s₁ [] 0 0 := Stand.of_body Bd
  have e0 : s₁.heap = h0 := by rw [← hh, Bd.state]; rfl
  have N0 := Fr.nil n0
  have hw_17 := hw _ (List.mem_of_getElem? (i := 17) rfl)
  show oF p e below (own_A s ({ frames := 0, cells := 0, slots := 0, locals := 0 } : Room).cells ({ frames := 0, cells := 0, slots := 0, locals := 0 } : Room).slots (own_P h0 n0 (.int (own_x0 w0 u)))) _
  refine og (fun t k => castTop (ef_5n4m0 m (a1) ((0 : Int32)) (u)) k) ?_
  show oF p e below _ (s₁.setTop (mkF m 0 #[rv a1, iv 0, jv u, .second, .unset] []))
  have Jg0 : ∀ (TT : State) (XX : Stand p l e ({ frames := 0, cells := 0, slots := 0, locals := 0 } : Room) s m #[(.ref a1), (.int 0), (.long u)] below meth c TT [] 0 0) (ee : TT.heap = h0), oF p e below (own_A s ({ frames := 0, cells := 0, slots := 0, locals := 0 } : Room).cells ({ frames := 0, cells := 0, slots := 0, locals := 0 } : Room).slots (own_P h0 n0 (.int (own_x0 w0 u)))) (TT.setTop (mkF m 23 #[rv a1, iv 0, jv u, .second, iv 0] [])) := by
    intro TT XX ee
    refine og (fun t k => XS.iload XX.here hx rfl (hb hby d5_23) rfl k) ?_
    show oF p e below _ (TT.setTop (mkF m 25 #[rv a1, iv 0, jv u, .second, iv 0] [(.int 0)]))
    refine og (fun t k => XS.ifYes XX.here hx rfl (pc0 := 25) (pc' := 54) rfl (hb hby d5_25) rfl ((if0 _ _).trans (flt (by decide : ¬ ((0 : Int32) < (0 : Int32)))).2.2.2) (by decide) (by decide) (XS.lloadN XX.here hx rfl (hb hby d5_54) rfl (XS.aloadN XX.here hx rfl (hb hby d5_55) rfl rfl k))) ?_
    show oF p e below _ (TT.setTop (mkF m 56 #[rv a1, iv 0, jv u, .second, iv 0] [(.ref a1), (.long u)]))
    obtain ⟨T1, X1, e1, st1⟩ := getF XX hx hZ hown (host := "") (Or.inl hw_17) Via.refl ee F_w (g := (mkF m 56 #[rv a1, iv 0, jv u, .second, iv 0] [(.ref a1), (.long u)])) rfl rfl (hb hby d5_56)
    refine og st1 ?_
    show oF p e below _ (T1.setTop (mkF m 59 #[rv a1, iv 0, jv u, .second, iv 0] [(.ref aw), (.long u)]))
    refine og (fun t k => XS.iload X1.here hx rfl (hb hby d5_59) rfl k) ?_
    show oF p e below _ (T1.setTop (mkF m 61 #[rv a1, iv 0, jv u, .second, iv 0] [(.int 0), (.ref aw), (.long u)]))
    obtain ⟨cl2, Ar2, q2, S2, M2, H2, G2⟩ := (id V_w)
    have hin2 : ¬ ((0 : Int32) < 0 ∨ cl2.slots.size ≤ ((0 : Int32)).toNatClampNeg) := inb_of S2 ⟨by decide, by decide⟩
    have hat2 : cl2.slots[((0 : Int32)).toNatClampNeg]? = some (.long w0) := H2.at hin2 rfl
    refine og (fun t k => X1.laload hx (j := (0 : Int32)) (v := (.long w0)) (by rw [e1]; exact Ar2.1) (State.isArrayOf_alike hZ.alike Ar2.2.1) Ar2.2.2 hin2 hat2 (g := (mkF m 61 #[rv a1, iv 0, jv u, .second, iv 0] [(.int 0), (.ref aw), (.long u)])) rfl rfl (hb hby d5_61) _ (XS.lcmp X1.here hx rfl (hb hby d5_62) rfl k)) ?_
    show oF p e below _ (T1.setTop (mkF m 63 #[rv a1, iv 0, jv u, .second, iv 0] [(.int (lcmpW u w0))]))
    by_cases hc3 : u = w0
    · skip
      refine og (fun t k => XS.ifNo X1.here hx rfl (hb hby d5_63) rfl ((if0 _ _).trans (teq ((lw_eq _ _).mpr hc3)).2) (XS.iload X1.here hx rfl (hb hby d5_66) rfl (XS.iconst X1.here hx rfl (hb hby d5_68) (XS.iadd X1.here hx rfl (hb hby d5_69) rfl (XS.goto X1.here hx rfl (pc0 := 70) (pc' := 75) rfl (hb hby d5_70) (by decide) (by decide) k))))) ?_
      show oF p e below _ (T1.setTop (mkF m 75 #[rv a1, iv 0, jv u, .second, iv 0] [(.int 1)]))
      exact oo X1 (fun h => by rw [Bd.returns] at h; cases h) Bd.notSynchronized (fun fs hr => retI X1 hx Bd.returns (hb hby d5_75) hr) ⟨(by simp [own_x0, own_x1, own_x2, own_x3, hc3]), N0, e1⟩ (by decide) (by decide)
    · skip
      refine og (fun t k => XS.ifYes X1.here hx rfl (pc0 := 63) (pc' := 73) rfl (hb hby d5_63) rfl ((if0 _ _).trans (feq (fun q => hc3 ((lw_eq _ _).mp q))).2) (by decide) (by decide) (XS.iload X1.here hx rfl (hb hby d5_73) rfl k)) ?_
      show oF p e below _ (T1.setTop (mkF m 75 #[rv a1, iv 0, jv u, .second, iv 0] [(.int 0)]))
      exact oo X1 (fun h => by rw [Bd.returns] at h; cases h) Bd.notSynchronized (fun fs hr => retI X1 hx Bd.returns (hb hby d5_75) hr) ⟨(by simp [own_x0, own_x1, own_x2, own_x3, hc3]), N0, e1⟩ (by decide) (by decide)
  refine og (fun t k => XS.iloadN X0.here hx rfl (hb hby d5_0) rfl (XS.aloadN X0.here hx rfl (hb hby d5_1) rfl rfl k)) ?_
  show oF p e below _ (s₁.setTop (mkF m 2 #[rv a1, iv 0, jv u, .second, .unset] [(.ref a1), (.int 0)]))
  obtain ⟨T4, X4, e4, st4⟩ := getF X0 hx hZ hown (host := "") (Or.inl hw_17) Via.refl e0 F_w (g := (mkF m 2 #[rv a1, iv 0, jv u, .second, .unset] [(.ref a1), (.int 0)])) rfl rfl (hb hby d5_2)
  refine og st4 ?_
  show oF p e below _ (T4.setTop (mkF m 5 #[rv a1, iv 0, jv u, .second, .unset] [(.ref aw), (.int 0)]))
  obtain ⟨cl5, Ar5, q5, S5, M5, H5, G5⟩ := (id V_w)
  refine og (fun t k => X4.arraylength hx (by rw [e4]; exact Ar5.1) (State.isArrayOf_alike hZ.alike Ar5.2.1) (g := (mkF m 5 #[rv a1, iv 0, jv u, .second, .unset] [(.ref aw), (.int 0)])) rfl rfl (hb hby d5_5) _ k) ?_
  rw [len_of S5 M5]
  show oF p e below _ (T4.setTop (mkF m 6 #[rv a1, iv 0, jv u, .second, .unset] [(.int 4), (.int 0)]))
  refine og (fun t k => XS.icmpYes X4.here hx rfl (pc0 := 6) (pc' := 20) rfl (hb hby d5_6) rfl (feq (by decide : ¬ ((0 : Int32) = (4 : Int32)))).2 (by decide) (by decide) (XS.iloadN X4.here hx rfl (hb hby d5_20) rfl (XS.istore X4.here hx rfl (hb hby d5_21) rfl (l' := #[rv a1, iv 0, jv u, .second, iv 0]) rfl k))) ?_
  exact Jg0 T4 X4 e4
theorem ef_5n4m1 (m : MethodId) (x0 : Addr) (x1 : Int32) (x2 : Int64)  : entryFrame m #[(.ref x0), (.int x1), (.long x2)] 5 = mkF m 0 #[rv x0, iv x1, jv x2, .second, .unset] [] := by first | (simp [entryFrame, mkF, argsToLocals, Value.category]; done) | rfl
set_option maxRecDepth 65536 in
set_option maxHeartbeats 40000000 in
theorem rm5n4m1 (l : Launch) (Z : State) (a0 : Array Value) (hw : ∀ d ∈ tables_1, d.before a0 Z = true) (ws : List Jvm.Cond) (a1 : Addr) (u : Int64) (aw ab : Addr) (kw kb : ClassId) (w0 w1 w2 w3 : Int64) (B0 B1 B2 B3 : Int32) (h0 : Heap) (n0 : Nat) (Z0 : n0 ≤ h0.size) (F_w : Fld Z h0 a1 "com/example/sound_verdict/soundverdict/UnitSearch" "wanted" "[J" (.ref aw)) (F_b : Fld Z h0 a1 "com/example/sound_verdict/soundverdict/UnitSearch" "border" "[I" (.ref ab)) (V_w : Arv Z h0 aw kw .long (4 : Int32) [(.long w0), (.long w1), (.long w2), (.long w3)] (.long (0 : Int64))) (V_b : Arv Z h0 ab kb .int (4 : Int32) [(.int B0), (.int B1), (.int B2), (.int B3)] (.int (0 : Int32))) (hB0 : B0 = (0 : Int32)) (hB1 : B1 = (0 : Int32) ∨ B1 = (1 : Int32)) (hB2 : B2 = (0 : Int32) ∨ B2 = (1 : Int32) ∨ B2 = (2 : Int32)) (hB3 : B3 = (0 : Int32) ∨ B3 = (1 : Int32) ∨ B3 = (2 : Int32) ∨ B3 = (3 : Int32)) :
    MetFree l (⟨"com/example/sound_verdict/soundverdict/UnitSearch", "next", "(IJ)I"⟩ : MethodName) (head1 (Jvm.Cond.code (⟨"com/example/sound_verdict/soundverdict/UnitSearch", "next", "(IJ)I"⟩ : MethodName) prog_199_method_6_code 5 (some .int) :: ws) ({ frames := 0, cells := 0, slots := 0, locals := 0 } : Room)) (fun a U => a = #[(.ref a1), (.int 1), (.long u)] ∧ Z.Warmed39 U.vm ∧ U.heap = h0) (fun _ _ _ _ _ => True) (fun _ U o U' => ∃ v L, o = .returned v ∧ (own_P h0 n0 (.int (own_x1 w0 w1 u))) v U'.heap L ∧ FrameEnd U o U' L ({ frames := 0, cells := 0, slots := 0, locals := 0 } : Room).cells ({ frames := 0, cells := 0, slots := 0, locals := 0 } : Room).slots) := by
  refine MetFree.of_bodySF (plainFor_of_name pn_1) hisR ?_
  intro p e s m args below meth c s₁ Bd hml0 hP hK
  obtain ⟨rfl, hZ, hh⟩ := hP
  have hx := Bd.exec
  have hby := Bd.bytes
  have hml : c.maxLocals = 5 := hml0
  have hown : s.vm.findClass "com/example/sound_verdict/soundverdict/UnitSearch" = some m.cls := findClass_of_methodNamed Bd.named
  have hnm := (name_of_methodNamed Bd.named Bd.method).1
  have X0 : Stand p l e ({ frames := 0, cells := 0, slots := 0, locals := 0 } : Room) s m #[(.ref a1), (.int 1), (.long u)] below meth c s₁ [] 0 0 := Stand.of_body Bd
  have e0 : s₁.heap = h0 := by rw [← hh, Bd.state]; rfl
  have N0 := Fr.nil n0
  have hw_17 := hw _ (List.mem_of_getElem? (i := 17) rfl)
  have hw_22 := hw _ (List.mem_of_getElem? (i := 22) rfl)
  show oF p e below (own_A s ({ frames := 0, cells := 0, slots := 0, locals := 0 } : Room).cells ({ frames := 0, cells := 0, slots := 0, locals := 0 } : Room).slots (own_P h0 n0 (.int (own_x1 w0 w1 u)))) _
  refine og (fun t k => castTop (ef_5n4m1 m (a1) ((1 : Int32)) (u)) k) ?_
  show oF p e below _ (s₁.setTop (mkF m 0 #[rv a1, iv 1, jv u, .second, .unset] []))
  have Jg0 : ∀ (TT : State) (XX : Stand p l e ({ frames := 0, cells := 0, slots := 0, locals := 0 } : Room) s m #[(.ref a1), (.int 1), (.long u)] below meth c TT [] 0 0) (ee : TT.heap = h0), oF p e below (own_A s ({ frames := 0, cells := 0, slots := 0, locals := 0 } : Room).cells ({ frames := 0, cells := 0, slots := 0, locals := 0 } : Room).slots (own_P h0 n0 (.int (own_x0 w0 u)))) (TT.setTop (mkF m 23 #[rv a1, iv 1, jv u, .second, iv 0] [])) := by
    intro TT XX ee
    refine og (fun t k => XS.iload XX.here hx rfl (hb hby d5_23) rfl k) ?_
    show oF p e below _ (TT.setTop (mkF m 25 #[rv a1, iv 1, jv u, .second, iv 0] [(.int 0)]))
    refine og (fun t k => XS.ifYes XX.here hx rfl (pc0 := 25) (pc' := 54) rfl (hb hby d5_25) rfl ((if0 _ _).trans (flt (by decide : ¬ ((0 : Int32) < (0 : Int32)))).2.2.2) (by decide) (by decide) (XS.lloadN XX.here hx rfl (hb hby d5_54) rfl (XS.aloadN XX.here hx rfl (hb hby d5_55) rfl rfl k))) ?_
    show oF p e below _ (TT.setTop (mkF m 56 #[rv a1, iv 1, jv u, .second, iv 0] [(.ref a1), (.long u)]))
    obtain ⟨T1, X1, e1, st1⟩ := getF XX hx hZ hown (host := "") (Or.inl hw_17) Via.refl ee F_w (g := (mkF m 56 #[rv a1, iv 1, jv u, .second, iv 0] [(.ref a1), (.long u)])) rfl rfl (hb hby d5_56)
    refine og st1 ?_
    show oF p e below _ (T1.setTop (mkF m 59 #[rv a1, iv 1, jv u, .second, iv 0] [(.ref aw), (.long u)]))
    refine og (fun t k => XS.iload X1.here hx rfl (hb hby d5_59) rfl k) ?_
    show oF p e below _ (T1.setTop (mkF m 61 #[rv a1, iv 1, jv u, .second, iv 0] [(.int 0), (.ref aw), (.long u)]))
    obtain ⟨cl2, Ar2, q2, S2, M2, H2, G2⟩ := (id V_w)
    have hin2 : ¬ ((0 : Int32) < 0 ∨ cl2.slots.size ≤ ((0 : Int32)).toNatClampNeg) := inb_of S2 ⟨by decide, by decide⟩
    have hat2 : cl2.slots[((0 : Int32)).toNatClampNeg]? = some (.long w0) := H2.at hin2 rfl
    refine og (fun t k => X1.laload hx (j := (0 : Int32)) (v := (.long w0)) (by rw [e1]; exact Ar2.1) (State.isArrayOf_alike hZ.alike Ar2.2.1) Ar2.2.2 hin2 hat2 (g := (mkF m 61 #[rv a1, iv 1, jv u, .second, iv 0] [(.int 0), (.ref aw), (.long u)])) rfl rfl (hb hby d5_61) _ (XS.lcmp X1.here hx rfl (hb hby d5_62) rfl k)) ?_
    show oF p e below _ (T1.setTop (mkF m 63 #[rv a1, iv 1, jv u, .second, iv 0] [(.int (lcmpW u w0))]))
    by_cases hc3 : u = w0
    · skip
      refine og (fun t k => XS.ifNo X1.here hx rfl (hb hby d5_63) rfl ((if0 _ _).trans (teq ((lw_eq _ _).mpr hc3)).2) (XS.iload X1.here hx rfl (hb hby d5_66) rfl (XS.iconst X1.here hx rfl (hb hby d5_68) (XS.iadd X1.here hx rfl (hb hby d5_69) rfl (XS.goto X1.here hx rfl (pc0 := 70) (pc' := 75) rfl (hb hby d5_70) (by decide) (by decide) k))))) ?_
      show oF p e below _ (T1.setTop (mkF m 75 #[rv a1, iv 1, jv u, .second, iv 0] [(.int 1)]))
      exact oo X1 (fun h => by rw [Bd.returns] at h; cases h) Bd.notSynchronized (fun fs hr => retI X1 hx Bd.returns (hb hby d5_75) hr) ⟨(by simp [own_x0, own_x1, own_x2, own_x3, hc3]), N0, e1⟩ (by decide) (by decide)
    · skip
      refine og (fun t k => XS.ifYes X1.here hx rfl (pc0 := 63) (pc' := 73) rfl (hb hby d5_63) rfl ((if0 _ _).trans (feq (fun q => hc3 ((lw_eq _ _).mp q))).2) (by decide) (by decide) (XS.iload X1.here hx rfl (hb hby d5_73) rfl k)) ?_
      show oF p e below _ (T1.setTop (mkF m 75 #[rv a1, iv 1, jv u, .second, iv 0] [(.int 0)]))
      exact oo X1 (fun h => by rw [Bd.returns] at h; cases h) Bd.notSynchronized (fun fs hr => retI X1 hx Bd.returns (hb hby d5_75) hr) ⟨(by simp [own_x0, own_x1, own_x2, own_x3, hc3]), N0, e1⟩ (by decide) (by decide)
  have Jg1 : ∀ (TT : State) (XX : Stand p l e ({ frames := 0, cells := 0, slots := 0, locals := 0 } : Room) s m #[(.ref a1), (.int 1), (.long u)] below meth c TT [] 0 0) (ee : TT.heap = h0), oF p e below (own_A s ({ frames := 0, cells := 0, slots := 0, locals := 0 } : Room).cells ({ frames := 0, cells := 0, slots := 0, locals := 0 } : Room).slots (own_P h0 n0 (.int (own_x1 w0 w1 u)))) (TT.setTop (mkF m 23 #[rv a1, iv 1, jv u, .second, iv 1] [])) := by
    intro TT XX ee
    refine og (fun t k => XS.iload XX.here hx rfl (hb hby d5_23) rfl k) ?_
    show oF p e below _ (TT.setTop (mkF m 25 #[rv a1, iv 1, jv u, .second, iv 1] [(.int 1)]))
    refine og (fun t k => XS.ifNo XX.here hx rfl (hb hby d5_25) rfl ((if0 _ _).trans (tlt (by decide : (0 : Int32) < (1 : Int32))).2.2.2) (XS.lloadN XX.here hx rfl (hb hby d5_28) rfl (XS.aloadN XX.here hx rfl (hb hby d5_29) rfl rfl k))) ?_
    show oF p e below _ (TT.setTop (mkF m 30 #[rv a1, iv 1, jv u, .second, iv 1] [(.ref a1), (.long u)]))
    obtain ⟨T4, X4, e4, st4⟩ := getF XX hx hZ hown (host := "") (Or.inl hw_17) Via.refl ee F_w (g := (mkF m 30 #[rv a1, iv 1, jv u, .second, iv 1] [(.ref a1), (.long u)])) rfl rfl (hb hby d5_30)
    refine og st4 ?_
    show oF p e below _ (T4.setTop (mkF m 33 #[rv a1, iv 1, jv u, .second, iv 1] [(.ref aw), (.long u)]))
    refine og (fun t k => XS.iload X4.here hx rfl (hb hby d5_33) rfl k) ?_
    show oF p e below _ (T4.setTop (mkF m 35 #[rv a1, iv 1, jv u, .second, iv 1] [(.int 1), (.ref aw), (.long u)]))
    obtain ⟨cl5, Ar5, q5, S5, M5, H5, G5⟩ := (id V_w)
    have hin5 : ¬ ((1 : Int32) < 0 ∨ cl5.slots.size ≤ ((1 : Int32)).toNatClampNeg) := inb_of S5 ⟨by decide, by decide⟩
    have hat5 : cl5.slots[((1 : Int32)).toNatClampNeg]? = some (.long w1) := H5.at hin5 rfl
    refine og (fun t k => X4.laload hx (j := (1 : Int32)) (v := (.long w1)) (by rw [e4]; exact Ar5.1) (State.isArrayOf_alike hZ.alike Ar5.2.1) Ar5.2.2 hin5 hat5 (g := (mkF m 35 #[rv a1, iv 1, jv u, .second, iv 1] [(.int 1), (.ref aw), (.long u)])) rfl rfl (hb hby d5_35) _ (XS.lcmp X4.here hx rfl (hb hby d5_36) rfl k)) ?_
    show oF p e below _ (T4.setTop (mkF m 37 #[rv a1, iv 1, jv u, .second, iv 1] [(.int (lcmpW u w1))]))
    by_cases hc6 : u = w1
    · skip
      refine og (fun t k => XS.ifYes X4.here hx rfl (pc0 := 37) (pc' := 54) rfl (hb hby d5_37) rfl ((if0 _ _).trans (teq ((lw_eq _ _).mpr hc6)).1) (by decide) (by decide) (XS.lloadN X4.here hx rfl (hb hby d5_54) rfl (XS.aloadN X4.here hx rfl (hb hby d5_55) rfl rfl k))) ?_
      show oF p e below _ (T4.setTop (mkF m 56 #[rv a1, iv 1, jv u, .second, iv 1] [(.ref a1), (.long u)]))
      obtain ⟨T7, X7, e7, st7⟩ := getF X4 hx hZ hown (host := "") (Or.inl hw_17) Via.refl e4 F_w (g := (mkF m 56 #[rv a1, iv 1, jv u, .second, iv 1] [(.ref a1), (.long u)])) rfl rfl (hb hby d5_56)
      refine og st7 ?_
      show oF p e below _ (T7.setTop (mkF m 59 #[rv a1, iv 1, jv u, .second, iv 1] [(.ref aw), (.long u)]))
      refine og (fun t k => XS.iload X7.here hx rfl (hb hby d5_59) rfl k) ?_
      show oF p e below _ (T7.setTop (mkF m 61 #[rv a1, iv 1, jv u, .second, iv 1] [(.int 1), (.ref aw), (.long u)]))
      obtain ⟨cl8, Ar8, q8, S8, M8, H8, G8⟩ := (id V_w)
      have hin8 : ¬ ((1 : Int32) < 0 ∨ cl8.slots.size ≤ ((1 : Int32)).toNatClampNeg) := inb_of S8 ⟨by decide, by decide⟩
      have hat8 : cl8.slots[((1 : Int32)).toNatClampNeg]? = some (.long w1) := H8.at hin8 rfl
      refine og (fun t k => X7.laload hx (j := (1 : Int32)) (v := (.long w1)) (by rw [e7]; exact Ar8.1) (State.isArrayOf_alike hZ.alike Ar8.2.1) Ar8.2.2 hin8 hat8 (g := (mkF m 61 #[rv a1, iv 1, jv u, .second, iv 1] [(.int 1), (.ref aw), (.long u)])) rfl rfl (hb hby d5_61) _ (XS.lcmp X7.here hx rfl (hb hby d5_62) rfl k)) ?_
      show oF p e below _ (T7.setTop (mkF m 63 #[rv a1, iv 1, jv u, .second, iv 1] [(.int (lcmpW u w1))]))
      refine og (fun t k => XS.ifNo X7.here hx rfl (hb hby d5_63) rfl ((if0 _ _).trans (teq ((lw_eq _ _).mpr hc6)).2) (XS.iload X7.here hx rfl (hb hby d5_66) rfl (XS.iconst X7.here hx rfl (hb hby d5_68) (XS.iadd X7.here hx rfl (hb hby d5_69) rfl (XS.goto X7.here hx rfl (pc0 := 70) (pc' := 75) rfl (hb hby d5_70) (by decide) (by decide) k))))) ?_
      show oF p e below _ (T7.setTop (mkF m 75 #[rv a1, iv 1, jv u, .second, iv 1] [(.int 2)]))
      exact oo X7 (fun h => by rw [Bd.returns] at h; cases h) Bd.notSynchronized (fun fs hr => retI X7 hx Bd.returns (hb hby d5_75) hr) ⟨(by simp [own_x0, own_x1, own_x2, own_x3, hc6]), N0, e7⟩ (by decide) (by decide)
    · skip
      refine og (fun t k => XS.ifNo X4.here hx rfl (hb hby d5_37) rfl ((if0 _ _).trans (feq (fun q => hc6 ((lw_eq _ _).mp q))).1) (XS.aloadN X4.here hx rfl (hb hby d5_40) rfl rfl k)) ?_
      show oF p e below _ (T4.setTop (mkF m 41 #[rv a1, iv 1, jv u, .second, iv 1] [(.ref a1)]))
      obtain ⟨T9, X9, e9, st9⟩ := getF X4 hx hZ hown (host := "") (Or.inl hw_22) Via.refl e4 F_b (g := (mkF m 41 #[rv a1, iv 1, jv u, .second, iv 1] [(.ref a1)])) rfl rfl (hb hby d5_41)
      refine og st9 ?_
      show oF p e below _ (T9.setTop (mkF m 44 #[rv a1, iv 1, jv u, .second, iv 1] [(.ref ab)]))
      refine og (fun t k => XS.iload X9.here hx rfl (hb hby d5_44) rfl (XS.iconst X9.here hx rfl (hb hby d5_46) (XS.isub X9.here hx rfl (hb hby d5_47) rfl k))) ?_
      show oF p e below _ (T9.setTop (mkF m 48 #[rv a1, iv 1, jv u, .second, iv 1] [(.int 0), (.ref ab)]))
      obtain ⟨cl10, Ar10, q10, S10, M10, H10, G10⟩ := (id V_b)
      have hin10 : ¬ ((0 : Int32) < 0 ∨ cl10.slots.size ≤ ((0 : Int32)).toNatClampNeg) := inb_of S10 ⟨by decide, by decide⟩
      have hat10 : cl10.slots[((0 : Int32)).toNatClampNeg]? = some (.int B0) := H10.at hin10 rfl
      refine og (fun t k => X9.iaload hx (j := (0 : Int32)) (v := (.int B0)) (by rw [e9]; exact Ar10.1) (State.isArrayOf_alike hZ.alike Ar10.2.1) Ar10.2.2 hin10 hat10 (g := (mkF m 48 #[rv a1, iv 1, jv u, .second, iv 1] [(.int 0), (.ref ab)])) rfl rfl (hb hby d5_48) _ k) ?_
      show oF p e below _ (T9.setTop (mkF m 49 #[rv a1, iv 1, jv u, .second, iv 1] [(.int B0)]))
      have hv11 := hB0
      · skip
        rw [hv11]
        show oF p e below _ (T9.setTop (mkF m 49 #[rv a1, iv 1, jv u, .second, iv 1] [(.int 0)]))
        refine og (fun t k => XS.istore X9.here hx rfl (hb hby d5_49) rfl (l' := #[rv a1, iv 1, jv u, .second, iv 0]) rfl (XS.goto X9.here hx rfl (pc0 := 51) (pc' := 23) rfl (hb hby d5_51) (by decide) (by decide) k)) ?_
        rw [show (own_x1 w0 w1 u) = (own_x0 w0 u) from by simp [own_x0, own_x1, own_x2, own_x3, hc6, hv11]]
        exact Jg0 T9 X9 e9
  refine og (fun t k => XS.iloadN X0.here hx rfl (hb hby d5_0) rfl (XS.aloadN X0.here hx rfl (hb hby d5_1) rfl rfl k)) ?_
  show oF p e below _ (s₁.setTop (mkF m 2 #[rv a1, iv 1, jv u, .second, .unset] [(.ref a1), (.int 1)]))
  obtain ⟨T12, X12, e12, st12⟩ := getF X0 hx hZ hown (host := "") (Or.inl hw_17) Via.refl e0 F_w (g := (mkF m 2 #[rv a1, iv 1, jv u, .second, .unset] [(.ref a1), (.int 1)])) rfl rfl (hb hby d5_2)
  refine og st12 ?_
  show oF p e below _ (T12.setTop (mkF m 5 #[rv a1, iv 1, jv u, .second, .unset] [(.ref aw), (.int 1)]))
  obtain ⟨cl13, Ar13, q13, S13, M13, H13, G13⟩ := (id V_w)
  refine og (fun t k => X12.arraylength hx (by rw [e12]; exact Ar13.1) (State.isArrayOf_alike hZ.alike Ar13.2.1) (g := (mkF m 5 #[rv a1, iv 1, jv u, .second, .unset] [(.ref aw), (.int 1)])) rfl rfl (hb hby d5_5) _ k) ?_
  rw [len_of S13 M13]
  show oF p e below _ (T12.setTop (mkF m 6 #[rv a1, iv 1, jv u, .second, .unset] [(.int 4), (.int 1)]))
  refine og (fun t k => XS.icmpYes X12.here hx rfl (pc0 := 6) (pc' := 20) rfl (hb hby d5_6) rfl (feq (by decide : ¬ ((1 : Int32) = (4 : Int32)))).2 (by decide) (by decide) (XS.iloadN X12.here hx rfl (hb hby d5_20) rfl (XS.istore X12.here hx rfl (hb hby d5_21) rfl (l' := #[rv a1, iv 1, jv u, .second, iv 1]) rfl k))) ?_
  exact Jg1 T12 X12 e12
theorem ef_5n4m2 (m : MethodId) (x0 : Addr) (x1 : Int32) (x2 : Int64)  : entryFrame m #[(.ref x0), (.int x1), (.long x2)] 5 = mkF m 0 #[rv x0, iv x1, jv x2, .second, .unset] [] := by first | (simp [entryFrame, mkF, argsToLocals, Value.category]; done) | rfl
set_option maxRecDepth 65536 in
set_option maxHeartbeats 40000000 in
theorem rm5n4m2 (l : Launch) (Z : State) (a0 : Array Value) (hw : ∀ d ∈ tables_1, d.before a0 Z = true) (ws : List Jvm.Cond) (a1 : Addr) (u : Int64) (aw ab : Addr) (kw kb : ClassId) (w0 w1 w2 w3 : Int64) (B0 B1 B2 B3 : Int32) (h0 : Heap) (n0 : Nat) (Z0 : n0 ≤ h0.size) (F_w : Fld Z h0 a1 "com/example/sound_verdict/soundverdict/UnitSearch" "wanted" "[J" (.ref aw)) (F_b : Fld Z h0 a1 "com/example/sound_verdict/soundverdict/UnitSearch" "border" "[I" (.ref ab)) (V_w : Arv Z h0 aw kw .long (4 : Int32) [(.long w0), (.long w1), (.long w2), (.long w3)] (.long (0 : Int64))) (V_b : Arv Z h0 ab kb .int (4 : Int32) [(.int B0), (.int B1), (.int B2), (.int B3)] (.int (0 : Int32))) (hB0 : B0 = (0 : Int32)) (hB1 : B1 = (0 : Int32) ∨ B1 = (1 : Int32)) (hB2 : B2 = (0 : Int32) ∨ B2 = (1 : Int32) ∨ B2 = (2 : Int32)) (hB3 : B3 = (0 : Int32) ∨ B3 = (1 : Int32) ∨ B3 = (2 : Int32) ∨ B3 = (3 : Int32)) :
    MetFree l (⟨"com/example/sound_verdict/soundverdict/UnitSearch", "next", "(IJ)I"⟩ : MethodName) (head1 (Jvm.Cond.code (⟨"com/example/sound_verdict/soundverdict/UnitSearch", "next", "(IJ)I"⟩ : MethodName) prog_199_method_6_code 5 (some .int) :: ws) ({ frames := 0, cells := 0, slots := 0, locals := 0 } : Room)) (fun a U => a = #[(.ref a1), (.int 2), (.long u)] ∧ Z.Warmed39 U.vm ∧ U.heap = h0) (fun _ _ _ _ _ => True) (fun _ U o U' => ∃ v L, o = .returned v ∧ (own_P h0 n0 (.int (own_x2 w0 w1 w2 B1 u))) v U'.heap L ∧ FrameEnd U o U' L ({ frames := 0, cells := 0, slots := 0, locals := 0 } : Room).cells ({ frames := 0, cells := 0, slots := 0, locals := 0 } : Room).slots) := by
  refine MetFree.of_bodySF (plainFor_of_name pn_1) hisR ?_
  intro p e s m args below meth c s₁ Bd hml0 hP hK
  obtain ⟨rfl, hZ, hh⟩ := hP
  have hx := Bd.exec
  have hby := Bd.bytes
  have hml : c.maxLocals = 5 := hml0
  have hown : s.vm.findClass "com/example/sound_verdict/soundverdict/UnitSearch" = some m.cls := findClass_of_methodNamed Bd.named
  have hnm := (name_of_methodNamed Bd.named Bd.method).1
  have X0 : Stand p l e ({ frames := 0, cells := 0, slots := 0, locals := 0 } : Room) s m #[(.ref a1), (.int 2), (.long u)] below meth c s₁ [] 0 0 := Stand.of_body Bd
  have e0 : s₁.heap = h0 := by rw [← hh, Bd.state]; rfl
  have N0 := Fr.nil n0
  have hw_17 := hw _ (List.mem_of_getElem? (i := 17) rfl)
  have hw_22 := hw _ (List.mem_of_getElem? (i := 22) rfl)
  show oF p e below (own_A s ({ frames := 0, cells := 0, slots := 0, locals := 0 } : Room).cells ({ frames := 0, cells := 0, slots := 0, locals := 0 } : Room).slots (own_P h0 n0 (.int (own_x2 w0 w1 w2 B1 u)))) _
  refine og (fun t k => castTop (ef_5n4m2 m (a1) ((2 : Int32)) (u)) k) ?_
  show oF p e below _ (s₁.setTop (mkF m 0 #[rv a1, iv 2, jv u, .second, .unset] []))
  have Jg0 : ∀ (TT : State) (XX : Stand p l e ({ frames := 0, cells := 0, slots := 0, locals := 0 } : Room) s m #[(.ref a1), (.int 2), (.long u)] below meth c TT [] 0 0) (ee : TT.heap = h0), oF p e below (own_A s ({ frames := 0, cells := 0, slots := 0, locals := 0 } : Room).cells ({ frames := 0, cells := 0, slots := 0, locals := 0 } : Room).slots (own_P h0 n0 (.int (own_x0 w0 u)))) (TT.setTop (mkF m 23 #[rv a1, iv 2, jv u, .second, iv 0] [])) := by
    intro TT XX ee
    refine og (fun t k => XS.iload XX.here hx rfl (hb hby d5_23) rfl k) ?_
    show oF p e below _ (TT.setTop (mkF m 25 #[rv a1, iv 2, jv u, .second, iv 0] [(.int 0)]))
    refine og (fun t k => XS.ifYes XX.here hx rfl (pc0 := 25) (pc' := 54) rfl (hb hby d5_25) rfl ((if0 _ _).trans (flt (by decide : ¬ ((0 : Int32) < (0 : Int32)))).2.2.2) (by decide) (by decide) (XS.lloadN XX.here hx rfl (hb hby d5_54) rfl (XS.aloadN XX.here hx rfl (hb hby d5_55) rfl rfl k))) ?_
    show oF p e below _ (TT.setTop (mkF m 56 #[rv a1, iv 2, jv u, .second, iv 0] [(.ref a1), (.long u)]))
    obtain ⟨T1, X1, e1, st1⟩ := getF XX hx hZ hown (host := "") (Or.inl hw_17) Via.refl ee F_w (g := (mkF m 56 #[rv a1, iv 2, jv u, .second, iv 0] [(.ref a1), (.long u)])) rfl rfl (hb hby d5_56)
    refine og st1 ?_
    show oF p e below _ (T1.setTop (mkF m 59 #[rv a1, iv 2, jv u, .second, iv 0] [(.ref aw), (.long u)]))
    refine og (fun t k => XS.iload X1.here hx rfl (hb hby d5_59) rfl k) ?_
    show oF p e below _ (T1.setTop (mkF m 61 #[rv a1, iv 2, jv u, .second, iv 0] [(.int 0), (.ref aw), (.long u)]))
    obtain ⟨cl2, Ar2, q2, S2, M2, H2, G2⟩ := (id V_w)
    have hin2 : ¬ ((0 : Int32) < 0 ∨ cl2.slots.size ≤ ((0 : Int32)).toNatClampNeg) := inb_of S2 ⟨by decide, by decide⟩
    have hat2 : cl2.slots[((0 : Int32)).toNatClampNeg]? = some (.long w0) := H2.at hin2 rfl
    refine og (fun t k => X1.laload hx (j := (0 : Int32)) (v := (.long w0)) (by rw [e1]; exact Ar2.1) (State.isArrayOf_alike hZ.alike Ar2.2.1) Ar2.2.2 hin2 hat2 (g := (mkF m 61 #[rv a1, iv 2, jv u, .second, iv 0] [(.int 0), (.ref aw), (.long u)])) rfl rfl (hb hby d5_61) _ (XS.lcmp X1.here hx rfl (hb hby d5_62) rfl k)) ?_
    show oF p e below _ (T1.setTop (mkF m 63 #[rv a1, iv 2, jv u, .second, iv 0] [(.int (lcmpW u w0))]))
    by_cases hc3 : u = w0
    · skip
      refine og (fun t k => XS.ifNo X1.here hx rfl (hb hby d5_63) rfl ((if0 _ _).trans (teq ((lw_eq _ _).mpr hc3)).2) (XS.iload X1.here hx rfl (hb hby d5_66) rfl (XS.iconst X1.here hx rfl (hb hby d5_68) (XS.iadd X1.here hx rfl (hb hby d5_69) rfl (XS.goto X1.here hx rfl (pc0 := 70) (pc' := 75) rfl (hb hby d5_70) (by decide) (by decide) k))))) ?_
      show oF p e below _ (T1.setTop (mkF m 75 #[rv a1, iv 2, jv u, .second, iv 0] [(.int 1)]))
      exact oo X1 (fun h => by rw [Bd.returns] at h; cases h) Bd.notSynchronized (fun fs hr => retI X1 hx Bd.returns (hb hby d5_75) hr) ⟨(by simp [own_x0, own_x1, own_x2, own_x3, hc3]), N0, e1⟩ (by decide) (by decide)
    · skip
      refine og (fun t k => XS.ifYes X1.here hx rfl (pc0 := 63) (pc' := 73) rfl (hb hby d5_63) rfl ((if0 _ _).trans (feq (fun q => hc3 ((lw_eq _ _).mp q))).2) (by decide) (by decide) (XS.iload X1.here hx rfl (hb hby d5_73) rfl k)) ?_
      show oF p e below _ (T1.setTop (mkF m 75 #[rv a1, iv 2, jv u, .second, iv 0] [(.int 0)]))
      exact oo X1 (fun h => by rw [Bd.returns] at h; cases h) Bd.notSynchronized (fun fs hr => retI X1 hx Bd.returns (hb hby d5_75) hr) ⟨(by simp [own_x0, own_x1, own_x2, own_x3, hc3]), N0, e1⟩ (by decide) (by decide)
  have Jg1 : ∀ (TT : State) (XX : Stand p l e ({ frames := 0, cells := 0, slots := 0, locals := 0 } : Room) s m #[(.ref a1), (.int 2), (.long u)] below meth c TT [] 0 0) (ee : TT.heap = h0), oF p e below (own_A s ({ frames := 0, cells := 0, slots := 0, locals := 0 } : Room).cells ({ frames := 0, cells := 0, slots := 0, locals := 0 } : Room).slots (own_P h0 n0 (.int (own_x1 w0 w1 u)))) (TT.setTop (mkF m 23 #[rv a1, iv 2, jv u, .second, iv 1] [])) := by
    intro TT XX ee
    refine og (fun t k => XS.iload XX.here hx rfl (hb hby d5_23) rfl k) ?_
    show oF p e below _ (TT.setTop (mkF m 25 #[rv a1, iv 2, jv u, .second, iv 1] [(.int 1)]))
    refine og (fun t k => XS.ifNo XX.here hx rfl (hb hby d5_25) rfl ((if0 _ _).trans (tlt (by decide : (0 : Int32) < (1 : Int32))).2.2.2) (XS.lloadN XX.here hx rfl (hb hby d5_28) rfl (XS.aloadN XX.here hx rfl (hb hby d5_29) rfl rfl k))) ?_
    show oF p e below _ (TT.setTop (mkF m 30 #[rv a1, iv 2, jv u, .second, iv 1] [(.ref a1), (.long u)]))
    obtain ⟨T4, X4, e4, st4⟩ := getF XX hx hZ hown (host := "") (Or.inl hw_17) Via.refl ee F_w (g := (mkF m 30 #[rv a1, iv 2, jv u, .second, iv 1] [(.ref a1), (.long u)])) rfl rfl (hb hby d5_30)
    refine og st4 ?_
    show oF p e below _ (T4.setTop (mkF m 33 #[rv a1, iv 2, jv u, .second, iv 1] [(.ref aw), (.long u)]))
    refine og (fun t k => XS.iload X4.here hx rfl (hb hby d5_33) rfl k) ?_
    show oF p e below _ (T4.setTop (mkF m 35 #[rv a1, iv 2, jv u, .second, iv 1] [(.int 1), (.ref aw), (.long u)]))
    obtain ⟨cl5, Ar5, q5, S5, M5, H5, G5⟩ := (id V_w)
    have hin5 : ¬ ((1 : Int32) < 0 ∨ cl5.slots.size ≤ ((1 : Int32)).toNatClampNeg) := inb_of S5 ⟨by decide, by decide⟩
    have hat5 : cl5.slots[((1 : Int32)).toNatClampNeg]? = some (.long w1) := H5.at hin5 rfl
    refine og (fun t k => X4.laload hx (j := (1 : Int32)) (v := (.long w1)) (by rw [e4]; exact Ar5.1) (State.isArrayOf_alike hZ.alike Ar5.2.1) Ar5.2.2 hin5 hat5 (g := (mkF m 35 #[rv a1, iv 2, jv u, .second, iv 1] [(.int 1), (.ref aw), (.long u)])) rfl rfl (hb hby d5_35) _ (XS.lcmp X4.here hx rfl (hb hby d5_36) rfl k)) ?_
    show oF p e below _ (T4.setTop (mkF m 37 #[rv a1, iv 2, jv u, .second, iv 1] [(.int (lcmpW u w1))]))
    by_cases hc6 : u = w1
    · skip
      refine og (fun t k => XS.ifYes X4.here hx rfl (pc0 := 37) (pc' := 54) rfl (hb hby d5_37) rfl ((if0 _ _).trans (teq ((lw_eq _ _).mpr hc6)).1) (by decide) (by decide) (XS.lloadN X4.here hx rfl (hb hby d5_54) rfl (XS.aloadN X4.here hx rfl (hb hby d5_55) rfl rfl k))) ?_
      show oF p e below _ (T4.setTop (mkF m 56 #[rv a1, iv 2, jv u, .second, iv 1] [(.ref a1), (.long u)]))
      obtain ⟨T7, X7, e7, st7⟩ := getF X4 hx hZ hown (host := "") (Or.inl hw_17) Via.refl e4 F_w (g := (mkF m 56 #[rv a1, iv 2, jv u, .second, iv 1] [(.ref a1), (.long u)])) rfl rfl (hb hby d5_56)
      refine og st7 ?_
      show oF p e below _ (T7.setTop (mkF m 59 #[rv a1, iv 2, jv u, .second, iv 1] [(.ref aw), (.long u)]))
      refine og (fun t k => XS.iload X7.here hx rfl (hb hby d5_59) rfl k) ?_
      show oF p e below _ (T7.setTop (mkF m 61 #[rv a1, iv 2, jv u, .second, iv 1] [(.int 1), (.ref aw), (.long u)]))
      obtain ⟨cl8, Ar8, q8, S8, M8, H8, G8⟩ := (id V_w)
      have hin8 : ¬ ((1 : Int32) < 0 ∨ cl8.slots.size ≤ ((1 : Int32)).toNatClampNeg) := inb_of S8 ⟨by decide, by decide⟩
      have hat8 : cl8.slots[((1 : Int32)).toNatClampNeg]? = some (.long w1) := H8.at hin8 rfl
      refine og (fun t k => X7.laload hx (j := (1 : Int32)) (v := (.long w1)) (by rw [e7]; exact Ar8.1) (State.isArrayOf_alike hZ.alike Ar8.2.1) Ar8.2.2 hin8 hat8 (g := (mkF m 61 #[rv a1, iv 2, jv u, .second, iv 1] [(.int 1), (.ref aw), (.long u)])) rfl rfl (hb hby d5_61) _ (XS.lcmp X7.here hx rfl (hb hby d5_62) rfl k)) ?_
      show oF p e below _ (T7.setTop (mkF m 63 #[rv a1, iv 2, jv u, .second, iv 1] [(.int (lcmpW u w1))]))
      refine og (fun t k => XS.ifNo X7.here hx rfl (hb hby d5_63) rfl ((if0 _ _).trans (teq ((lw_eq _ _).mpr hc6)).2) (XS.iload X7.here hx rfl (hb hby d5_66) rfl (XS.iconst X7.here hx rfl (hb hby d5_68) (XS.iadd X7.here hx rfl (hb hby d5_69) rfl (XS.goto X7.here hx rfl (pc0 := 70) (pc' := 75) rfl (hb hby d5_70) (by decide) (by decide) k))))) ?_
      show oF p e below _ (T7.setTop (mkF m 75 #[rv a1, iv 2, jv u, .second, iv 1] [(.int 2)]))
      exact oo X7 (fun h => by rw [Bd.returns] at h; cases h) Bd.notSynchronized (fun fs hr => retI X7 hx Bd.returns (hb hby d5_75) hr) ⟨(by simp [own_x0, own_x1, own_x2, own_x3, hc6]), N0, e7⟩ (by decide) (by decide)
    · skip
      refine og (fun t k => XS.ifNo X4.here hx rfl (hb hby d5_37) rfl ((if0 _ _).trans (feq (fun q => hc6 ((lw_eq _ _).mp q))).1) (XS.aloadN X4.here hx rfl (hb hby d5_40) rfl rfl k)) ?_
      show oF p e below _ (T4.setTop (mkF m 41 #[rv a1, iv 2, jv u, .second, iv 1] [(.ref a1)]))
      obtain ⟨T9, X9, e9, st9⟩ := getF X4 hx hZ hown (host := "") (Or.inl hw_22) Via.refl e4 F_b (g := (mkF m 41 #[rv a1, iv 2, jv u, .second, iv 1] [(.ref a1)])) rfl rfl (hb hby d5_41)
      refine og st9 ?_
      show oF p e below _ (T9.setTop (mkF m 44 #[rv a1, iv 2, jv u, .second, iv 1] [(.ref ab)]))
      refine og (fun t k => XS.iload X9.here hx rfl (hb hby d5_44) rfl (XS.iconst X9.here hx rfl (hb hby d5_46) (XS.isub X9.here hx rfl (hb hby d5_47) rfl k))) ?_
      show oF p e below _ (T9.setTop (mkF m 48 #[rv a1, iv 2, jv u, .second, iv 1] [(.int 0), (.ref ab)]))
      obtain ⟨cl10, Ar10, q10, S10, M10, H10, G10⟩ := (id V_b)
      have hin10 : ¬ ((0 : Int32) < 0 ∨ cl10.slots.size ≤ ((0 : Int32)).toNatClampNeg) := inb_of S10 ⟨by decide, by decide⟩
      have hat10 : cl10.slots[((0 : Int32)).toNatClampNeg]? = some (.int B0) := H10.at hin10 rfl
      refine og (fun t k => X9.iaload hx (j := (0 : Int32)) (v := (.int B0)) (by rw [e9]; exact Ar10.1) (State.isArrayOf_alike hZ.alike Ar10.2.1) Ar10.2.2 hin10 hat10 (g := (mkF m 48 #[rv a1, iv 2, jv u, .second, iv 1] [(.int 0), (.ref ab)])) rfl rfl (hb hby d5_48) _ k) ?_
      show oF p e below _ (T9.setTop (mkF m 49 #[rv a1, iv 2, jv u, .second, iv 1] [(.int B0)]))
      have hv11 := hB0
      · skip
        rw [hv11]
        show oF p e below _ (T9.setTop (mkF m 49 #[rv a1, iv 2, jv u, .second, iv 1] [(.int 0)]))
        refine og (fun t k => XS.istore X9.here hx rfl (hb hby d5_49) rfl (l' := #[rv a1, iv 2, jv u, .second, iv 0]) rfl (XS.goto X9.here hx rfl (pc0 := 51) (pc' := 23) rfl (hb hby d5_51) (by decide) (by decide) k)) ?_
        rw [show (own_x1 w0 w1 u) = (own_x0 w0 u) from by simp [own_x0, own_x1, own_x2, own_x3, hc6, hv11]]
        exact Jg0 T9 X9 e9
  have Jg2 : ∀ (TT : State) (XX : Stand p l e ({ frames := 0, cells := 0, slots := 0, locals := 0 } : Room) s m #[(.ref a1), (.int 2), (.long u)] below meth c TT [] 0 0) (ee : TT.heap = h0), oF p e below (own_A s ({ frames := 0, cells := 0, slots := 0, locals := 0 } : Room).cells ({ frames := 0, cells := 0, slots := 0, locals := 0 } : Room).slots (own_P h0 n0 (.int (own_x2 w0 w1 w2 B1 u)))) (TT.setTop (mkF m 23 #[rv a1, iv 2, jv u, .second, iv 2] [])) := by
    intro TT XX ee
    refine og (fun t k => XS.iload XX.here hx rfl (hb hby d5_23) rfl k) ?_
    show oF p e below _ (TT.setTop (mkF m 25 #[rv a1, iv 2, jv u, .second, iv 2] [(.int 2)]))
    refine og (fun t k => XS.ifNo XX.here hx rfl (hb hby d5_25) rfl ((if0 _ _).trans (tlt (by decide : (0 : Int32) < (2 : Int32))).2.2.2) (XS.lloadN XX.here hx rfl (hb hby d5_28) rfl (XS.aloadN XX.here hx rfl (hb hby d5_29) rfl rfl k))) ?_
    show oF p e below _ (TT.setTop (mkF m 30 #[rv a1, iv 2, jv u, .second, iv 2] [(.ref a1), (.long u)]))
    obtain ⟨T12, X12, e12, st12⟩ := getF XX hx hZ hown (host := "") (Or.inl hw_17) Via.refl ee F_w (g := (mkF m 30 #[rv a1, iv 2, jv u, .second, iv 2] [(.ref a1), (.long u)])) rfl rfl (hb hby d5_30)
    refine og st12 ?_
    show oF p e below _ (T12.setTop (mkF m 33 #[rv a1, iv 2, jv u, .second, iv 2] [(.ref aw), (.long u)]))
    refine og (fun t k => XS.iload X12.here hx rfl (hb hby d5_33) rfl k) ?_
    show oF p e below _ (T12.setTop (mkF m 35 #[rv a1, iv 2, jv u, .second, iv 2] [(.int 2), (.ref aw), (.long u)]))
    obtain ⟨cl13, Ar13, q13, S13, M13, H13, G13⟩ := (id V_w)
    have hin13 : ¬ ((2 : Int32) < 0 ∨ cl13.slots.size ≤ ((2 : Int32)).toNatClampNeg) := inb_of S13 ⟨by decide, by decide⟩
    have hat13 : cl13.slots[((2 : Int32)).toNatClampNeg]? = some (.long w2) := H13.at hin13 rfl
    refine og (fun t k => X12.laload hx (j := (2 : Int32)) (v := (.long w2)) (by rw [e12]; exact Ar13.1) (State.isArrayOf_alike hZ.alike Ar13.2.1) Ar13.2.2 hin13 hat13 (g := (mkF m 35 #[rv a1, iv 2, jv u, .second, iv 2] [(.int 2), (.ref aw), (.long u)])) rfl rfl (hb hby d5_35) _ (XS.lcmp X12.here hx rfl (hb hby d5_36) rfl k)) ?_
    show oF p e below _ (T12.setTop (mkF m 37 #[rv a1, iv 2, jv u, .second, iv 2] [(.int (lcmpW u w2))]))
    by_cases hc14 : u = w2
    · skip
      refine og (fun t k => XS.ifYes X12.here hx rfl (pc0 := 37) (pc' := 54) rfl (hb hby d5_37) rfl ((if0 _ _).trans (teq ((lw_eq _ _).mpr hc14)).1) (by decide) (by decide) (XS.lloadN X12.here hx rfl (hb hby d5_54) rfl (XS.aloadN X12.here hx rfl (hb hby d5_55) rfl rfl k))) ?_
      show oF p e below _ (T12.setTop (mkF m 56 #[rv a1, iv 2, jv u, .second, iv 2] [(.ref a1), (.long u)]))
      obtain ⟨T15, X15, e15, st15⟩ := getF X12 hx hZ hown (host := "") (Or.inl hw_17) Via.refl e12 F_w (g := (mkF m 56 #[rv a1, iv 2, jv u, .second, iv 2] [(.ref a1), (.long u)])) rfl rfl (hb hby d5_56)
      refine og st15 ?_
      show oF p e below _ (T15.setTop (mkF m 59 #[rv a1, iv 2, jv u, .second, iv 2] [(.ref aw), (.long u)]))
      refine og (fun t k => XS.iload X15.here hx rfl (hb hby d5_59) rfl k) ?_
      show oF p e below _ (T15.setTop (mkF m 61 #[rv a1, iv 2, jv u, .second, iv 2] [(.int 2), (.ref aw), (.long u)]))
      obtain ⟨cl16, Ar16, q16, S16, M16, H16, G16⟩ := (id V_w)
      have hin16 : ¬ ((2 : Int32) < 0 ∨ cl16.slots.size ≤ ((2 : Int32)).toNatClampNeg) := inb_of S16 ⟨by decide, by decide⟩
      have hat16 : cl16.slots[((2 : Int32)).toNatClampNeg]? = some (.long w2) := H16.at hin16 rfl
      refine og (fun t k => X15.laload hx (j := (2 : Int32)) (v := (.long w2)) (by rw [e15]; exact Ar16.1) (State.isArrayOf_alike hZ.alike Ar16.2.1) Ar16.2.2 hin16 hat16 (g := (mkF m 61 #[rv a1, iv 2, jv u, .second, iv 2] [(.int 2), (.ref aw), (.long u)])) rfl rfl (hb hby d5_61) _ (XS.lcmp X15.here hx rfl (hb hby d5_62) rfl k)) ?_
      show oF p e below _ (T15.setTop (mkF m 63 #[rv a1, iv 2, jv u, .second, iv 2] [(.int (lcmpW u w2))]))
      refine og (fun t k => XS.ifNo X15.here hx rfl (hb hby d5_63) rfl ((if0 _ _).trans (teq ((lw_eq _ _).mpr hc14)).2) (XS.iload X15.here hx rfl (hb hby d5_66) rfl (XS.iconst X15.here hx rfl (hb hby d5_68) (XS.iadd X15.here hx rfl (hb hby d5_69) rfl (XS.goto X15.here hx rfl (pc0 := 70) (pc' := 75) rfl (hb hby d5_70) (by decide) (by decide) k))))) ?_
      show oF p e below _ (T15.setTop (mkF m 75 #[rv a1, iv 2, jv u, .second, iv 2] [(.int 3)]))
      exact oo X15 (fun h => by rw [Bd.returns] at h; cases h) Bd.notSynchronized (fun fs hr => retI X15 hx Bd.returns (hb hby d5_75) hr) ⟨(by simp [own_x0, own_x1, own_x2, own_x3, hc14]), N0, e15⟩ (by decide) (by decide)
    · skip
      refine og (fun t k => XS.ifNo X12.here hx rfl (hb hby d5_37) rfl ((if0 _ _).trans (feq (fun q => hc14 ((lw_eq _ _).mp q))).1) (XS.aloadN X12.here hx rfl (hb hby d5_40) rfl rfl k)) ?_
      show oF p e below _ (T12.setTop (mkF m 41 #[rv a1, iv 2, jv u, .second, iv 2] [(.ref a1)]))
      obtain ⟨T17, X17, e17, st17⟩ := getF X12 hx hZ hown (host := "") (Or.inl hw_22) Via.refl e12 F_b (g := (mkF m 41 #[rv a1, iv 2, jv u, .second, iv 2] [(.ref a1)])) rfl rfl (hb hby d5_41)
      refine og st17 ?_
      show oF p e below _ (T17.setTop (mkF m 44 #[rv a1, iv 2, jv u, .second, iv 2] [(.ref ab)]))
      refine og (fun t k => XS.iload X17.here hx rfl (hb hby d5_44) rfl (XS.iconst X17.here hx rfl (hb hby d5_46) (XS.isub X17.here hx rfl (hb hby d5_47) rfl k))) ?_
      show oF p e below _ (T17.setTop (mkF m 48 #[rv a1, iv 2, jv u, .second, iv 2] [(.int 1), (.ref ab)]))
      obtain ⟨cl18, Ar18, q18, S18, M18, H18, G18⟩ := (id V_b)
      have hin18 : ¬ ((1 : Int32) < 0 ∨ cl18.slots.size ≤ ((1 : Int32)).toNatClampNeg) := inb_of S18 ⟨by decide, by decide⟩
      have hat18 : cl18.slots[((1 : Int32)).toNatClampNeg]? = some (.int B1) := H18.at hin18 rfl
      refine og (fun t k => X17.iaload hx (j := (1 : Int32)) (v := (.int B1)) (by rw [e17]; exact Ar18.1) (State.isArrayOf_alike hZ.alike Ar18.2.1) Ar18.2.2 hin18 hat18 (g := (mkF m 48 #[rv a1, iv 2, jv u, .second, iv 2] [(.int 1), (.ref ab)])) rfl rfl (hb hby d5_48) _ k) ?_
      show oF p e below _ (T17.setTop (mkF m 49 #[rv a1, iv 2, jv u, .second, iv 2] [(.int B1)]))
      rcases hB1 with hv19 | hv20
      · skip
        rw [hv19]
        show oF p e below _ (T17.setTop (mkF m 49 #[rv a1, iv 2, jv u, .second, iv 2] [(.int 0)]))
        refine og (fun t k => XS.istore X17.here hx rfl (hb hby d5_49) rfl (l' := #[rv a1, iv 2, jv u, .second, iv 0]) rfl (XS.goto X17.here hx rfl (pc0 := 51) (pc' := 23) rfl (hb hby d5_51) (by decide) (by decide) k)) ?_
        rw [show (own_x2 w0 w1 w2 (0 : Int32) u) = (own_x0 w0 u) from by simp [own_x0, own_x1, own_x2, own_x3, hc14, hv19]]
        exact Jg0 T17 X17 e17
      · skip
        rw [hv20]
        show oF p e below _ (T17.setTop (mkF m 49 #[rv a1, iv 2, jv u, .second, iv 2] [(.int 1)]))
        refine og (fun t k => XS.istore X17.here hx rfl (hb hby d5_49) rfl (l' := #[rv a1, iv 2, jv u, .second, iv 1]) rfl (XS.goto X17.here hx rfl (pc0 := 51) (pc' := 23) rfl (hb hby d5_51) (by decide) (by decide) k)) ?_
        rw [show (own_x2 w0 w1 w2 (1 : Int32) u) = (own_x1 w0 w1 u) from by simp [own_x0, own_x1, own_x2, own_x3, hc14, hv20]]
        exact Jg1 T17 X17 e17
  refine og (fun t k => XS.iloadN X0.here hx rfl (hb hby d5_0) rfl (XS.aloadN X0.here hx rfl (hb hby d5_1) rfl rfl k)) ?_
  show oF p e below _ (s₁.setTop (mkF m 2 #[rv a1, iv 2, jv u, .second, .unset] [(.ref a1), (.int 2)]))
  obtain ⟨T21, X21, e21, st21⟩ := getF X0 hx hZ hown (host := "") (Or.inl hw_17) Via.refl e0 F_w (g := (mkF m 2 #[rv a1, iv 2, jv u, .second, .unset] [(.ref a1), (.int 2)])) rfl rfl (hb hby d5_2)
  refine og st21 ?_
  show oF p e below _ (T21.setTop (mkF m 5 #[rv a1, iv 2, jv u, .second, .unset] [(.ref aw), (.int 2)]))
  obtain ⟨cl22, Ar22, q22, S22, M22, H22, G22⟩ := (id V_w)
  refine og (fun t k => X21.arraylength hx (by rw [e21]; exact Ar22.1) (State.isArrayOf_alike hZ.alike Ar22.2.1) (g := (mkF m 5 #[rv a1, iv 2, jv u, .second, .unset] [(.ref aw), (.int 2)])) rfl rfl (hb hby d5_5) _ k) ?_
  rw [len_of S22 M22]
  show oF p e below _ (T21.setTop (mkF m 6 #[rv a1, iv 2, jv u, .second, .unset] [(.int 4), (.int 2)]))
  refine og (fun t k => XS.icmpYes X21.here hx rfl (pc0 := 6) (pc' := 20) rfl (hb hby d5_6) rfl (feq (by decide : ¬ ((2 : Int32) = (4 : Int32)))).2 (by decide) (by decide) (XS.iloadN X21.here hx rfl (hb hby d5_20) rfl (XS.istore X21.here hx rfl (hb hby d5_21) rfl (l' := #[rv a1, iv 2, jv u, .second, iv 2]) rfl k))) ?_
  exact Jg2 T21 X21 e21
theorem ef_5n4m3 (m : MethodId) (x0 : Addr) (x1 : Int32) (x2 : Int64)  : entryFrame m #[(.ref x0), (.int x1), (.long x2)] 5 = mkF m 0 #[rv x0, iv x1, jv x2, .second, .unset] [] := by first | (simp [entryFrame, mkF, argsToLocals, Value.category]; done) | rfl
set_option maxRecDepth 65536 in
set_option maxHeartbeats 40000000 in
theorem rm5n4m3 (l : Launch) (Z : State) (a0 : Array Value) (hw : ∀ d ∈ tables_1, d.before a0 Z = true) (ws : List Jvm.Cond) (a1 : Addr) (u : Int64) (aw ab : Addr) (kw kb : ClassId) (w0 w1 w2 w3 : Int64) (B0 B1 B2 B3 : Int32) (h0 : Heap) (n0 : Nat) (Z0 : n0 ≤ h0.size) (F_w : Fld Z h0 a1 "com/example/sound_verdict/soundverdict/UnitSearch" "wanted" "[J" (.ref aw)) (F_b : Fld Z h0 a1 "com/example/sound_verdict/soundverdict/UnitSearch" "border" "[I" (.ref ab)) (V_w : Arv Z h0 aw kw .long (4 : Int32) [(.long w0), (.long w1), (.long w2), (.long w3)] (.long (0 : Int64))) (V_b : Arv Z h0 ab kb .int (4 : Int32) [(.int B0), (.int B1), (.int B2), (.int B3)] (.int (0 : Int32))) (hB0 : B0 = (0 : Int32)) (hB1 : B1 = (0 : Int32) ∨ B1 = (1 : Int32)) (hB2 : B2 = (0 : Int32) ∨ B2 = (1 : Int32) ∨ B2 = (2 : Int32)) (hB3 : B3 = (0 : Int32) ∨ B3 = (1 : Int32) ∨ B3 = (2 : Int32) ∨ B3 = (3 : Int32)) :
    MetFree l (⟨"com/example/sound_verdict/soundverdict/UnitSearch", "next", "(IJ)I"⟩ : MethodName) (head1 (Jvm.Cond.code (⟨"com/example/sound_verdict/soundverdict/UnitSearch", "next", "(IJ)I"⟩ : MethodName) prog_199_method_6_code 5 (some .int) :: ws) ({ frames := 0, cells := 0, slots := 0, locals := 0 } : Room)) (fun a U => a = #[(.ref a1), (.int 3), (.long u)] ∧ Z.Warmed39 U.vm ∧ U.heap = h0) (fun _ _ _ _ _ => True) (fun _ U o U' => ∃ v L, o = .returned v ∧ (own_P h0 n0 (.int (own_x3 w0 w1 w2 w3 B1 B2 u))) v U'.heap L ∧ FrameEnd U o U' L ({ frames := 0, cells := 0, slots := 0, locals := 0 } : Room).cells ({ frames := 0, cells := 0, slots := 0, locals := 0 } : Room).slots) := by
  refine MetFree.of_bodySF (plainFor_of_name pn_1) hisR ?_
  intro p e s m args below meth c s₁ Bd hml0 hP hK
  obtain ⟨rfl, hZ, hh⟩ := hP
  have hx := Bd.exec
  have hby := Bd.bytes
  have hml : c.maxLocals = 5 := hml0
  have hown : s.vm.findClass "com/example/sound_verdict/soundverdict/UnitSearch" = some m.cls := findClass_of_methodNamed Bd.named
  have hnm := (name_of_methodNamed Bd.named Bd.method).1
  have X0 : Stand p l e ({ frames := 0, cells := 0, slots := 0, locals := 0 } : Room) s m #[(.ref a1), (.int 3), (.long u)] below meth c s₁ [] 0 0 := Stand.of_body Bd
  have e0 : s₁.heap = h0 := by rw [← hh, Bd.state]; rfl
  have N0 := Fr.nil n0
  have hw_17 := hw _ (List.mem_of_getElem? (i := 17) rfl)
  have hw_22 := hw _ (List.mem_of_getElem? (i := 22) rfl)
  show oF p e below (own_A s ({ frames := 0, cells := 0, slots := 0, locals := 0 } : Room).cells ({ frames := 0, cells := 0, slots := 0, locals := 0 } : Room).slots (own_P h0 n0 (.int (own_x3 w0 w1 w2 w3 B1 B2 u)))) _
  refine og (fun t k => castTop (ef_5n4m3 m (a1) ((3 : Int32)) (u)) k) ?_
  show oF p e below _ (s₁.setTop (mkF m 0 #[rv a1, iv 3, jv u, .second, .unset] []))
  have Jg0 : ∀ (TT : State) (XX : Stand p l e ({ frames := 0, cells := 0, slots := 0, locals := 0 } : Room) s m #[(.ref a1), (.int 3), (.long u)] below meth c TT [] 0 0) (ee : TT.heap = h0), oF p e below (own_A s ({ frames := 0, cells := 0, slots := 0, locals := 0 } : Room).cells ({ frames := 0, cells := 0, slots := 0, locals := 0 } : Room).slots (own_P h0 n0 (.int (own_x0 w0 u)))) (TT.setTop (mkF m 23 #[rv a1, iv 3, jv u, .second, iv 0] [])) := by
    intro TT XX ee
    refine og (fun t k => XS.iload XX.here hx rfl (hb hby d5_23) rfl k) ?_
    show oF p e below _ (TT.setTop (mkF m 25 #[rv a1, iv 3, jv u, .second, iv 0] [(.int 0)]))
    refine og (fun t k => XS.ifYes XX.here hx rfl (pc0 := 25) (pc' := 54) rfl (hb hby d5_25) rfl ((if0 _ _).trans (flt (by decide : ¬ ((0 : Int32) < (0 : Int32)))).2.2.2) (by decide) (by decide) (XS.lloadN XX.here hx rfl (hb hby d5_54) rfl (XS.aloadN XX.here hx rfl (hb hby d5_55) rfl rfl k))) ?_
    show oF p e below _ (TT.setTop (mkF m 56 #[rv a1, iv 3, jv u, .second, iv 0] [(.ref a1), (.long u)]))
    obtain ⟨T1, X1, e1, st1⟩ := getF XX hx hZ hown (host := "") (Or.inl hw_17) Via.refl ee F_w (g := (mkF m 56 #[rv a1, iv 3, jv u, .second, iv 0] [(.ref a1), (.long u)])) rfl rfl (hb hby d5_56)
    refine og st1 ?_
    show oF p e below _ (T1.setTop (mkF m 59 #[rv a1, iv 3, jv u, .second, iv 0] [(.ref aw), (.long u)]))
    refine og (fun t k => XS.iload X1.here hx rfl (hb hby d5_59) rfl k) ?_
    show oF p e below _ (T1.setTop (mkF m 61 #[rv a1, iv 3, jv u, .second, iv 0] [(.int 0), (.ref aw), (.long u)]))
    obtain ⟨cl2, Ar2, q2, S2, M2, H2, G2⟩ := (id V_w)
    have hin2 : ¬ ((0 : Int32) < 0 ∨ cl2.slots.size ≤ ((0 : Int32)).toNatClampNeg) := inb_of S2 ⟨by decide, by decide⟩
    have hat2 : cl2.slots[((0 : Int32)).toNatClampNeg]? = some (.long w0) := H2.at hin2 rfl
    refine og (fun t k => X1.laload hx (j := (0 : Int32)) (v := (.long w0)) (by rw [e1]; exact Ar2.1) (State.isArrayOf_alike hZ.alike Ar2.2.1) Ar2.2.2 hin2 hat2 (g := (mkF m 61 #[rv a1, iv 3, jv u, .second, iv 0] [(.int 0), (.ref aw), (.long u)])) rfl rfl (hb hby d5_61) _ (XS.lcmp X1.here hx rfl (hb hby d5_62) rfl k)) ?_
    show oF p e below _ (T1.setTop (mkF m 63 #[rv a1, iv 3, jv u, .second, iv 0] [(.int (lcmpW u w0))]))
    by_cases hc3 : u = w0
    · skip
      refine og (fun t k => XS.ifNo X1.here hx rfl (hb hby d5_63) rfl ((if0 _ _).trans (teq ((lw_eq _ _).mpr hc3)).2) (XS.iload X1.here hx rfl (hb hby d5_66) rfl (XS.iconst X1.here hx rfl (hb hby d5_68) (XS.iadd X1.here hx rfl (hb hby d5_69) rfl (XS.goto X1.here hx rfl (pc0 := 70) (pc' := 75) rfl (hb hby d5_70) (by decide) (by decide) k))))) ?_
      show oF p e below _ (T1.setTop (mkF m 75 #[rv a1, iv 3, jv u, .second, iv 0] [(.int 1)]))
      exact oo X1 (fun h => by rw [Bd.returns] at h; cases h) Bd.notSynchronized (fun fs hr => retI X1 hx Bd.returns (hb hby d5_75) hr) ⟨(by simp [own_x0, own_x1, own_x2, own_x3, hc3]), N0, e1⟩ (by decide) (by decide)
    · skip
      refine og (fun t k => XS.ifYes X1.here hx rfl (pc0 := 63) (pc' := 73) rfl (hb hby d5_63) rfl ((if0 _ _).trans (feq (fun q => hc3 ((lw_eq _ _).mp q))).2) (by decide) (by decide) (XS.iload X1.here hx rfl (hb hby d5_73) rfl k)) ?_
      show oF p e below _ (T1.setTop (mkF m 75 #[rv a1, iv 3, jv u, .second, iv 0] [(.int 0)]))
      exact oo X1 (fun h => by rw [Bd.returns] at h; cases h) Bd.notSynchronized (fun fs hr => retI X1 hx Bd.returns (hb hby d5_75) hr) ⟨(by simp [own_x0, own_x1, own_x2, own_x3, hc3]), N0, e1⟩ (by decide) (by decide)
  have Jg1 : ∀ (TT : State) (XX : Stand p l e ({ frames := 0, cells := 0, slots := 0, locals := 0 } : Room) s m #[(.ref a1), (.int 3), (.long u)] below meth c TT [] 0 0) (ee : TT.heap = h0), oF p e below (own_A s ({ frames := 0, cells := 0, slots := 0, locals := 0 } : Room).cells ({ frames := 0, cells := 0, slots := 0, locals := 0 } : Room).slots (own_P h0 n0 (.int (own_x1 w0 w1 u)))) (TT.setTop (mkF m 23 #[rv a1, iv 3, jv u, .second, iv 1] [])) := by
    intro TT XX ee
    refine og (fun t k => XS.iload XX.here hx rfl (hb hby d5_23) rfl k) ?_
    show oF p e below _ (TT.setTop (mkF m 25 #[rv a1, iv 3, jv u, .second, iv 1] [(.int 1)]))
    refine og (fun t k => XS.ifNo XX.here hx rfl (hb hby d5_25) rfl ((if0 _ _).trans (tlt (by decide : (0 : Int32) < (1 : Int32))).2.2.2) (XS.lloadN XX.here hx rfl (hb hby d5_28) rfl (XS.aloadN XX.here hx rfl (hb hby d5_29) rfl rfl k))) ?_
    show oF p e below _ (TT.setTop (mkF m 30 #[rv a1, iv 3, jv u, .second, iv 1] [(.ref a1), (.long u)]))
    obtain ⟨T4, X4, e4, st4⟩ := getF XX hx hZ hown (host := "") (Or.inl hw_17) Via.refl ee F_w (g := (mkF m 30 #[rv a1, iv 3, jv u, .second, iv 1] [(.ref a1), (.long u)])) rfl rfl (hb hby d5_30)
    refine og st4 ?_
    show oF p e below _ (T4.setTop (mkF m 33 #[rv a1, iv 3, jv u, .second, iv 1] [(.ref aw), (.long u)]))
    refine og (fun t k => XS.iload X4.here hx rfl (hb hby d5_33) rfl k) ?_
    show oF p e below _ (T4.setTop (mkF m 35 #[rv a1, iv 3, jv u, .second, iv 1] [(.int 1), (.ref aw), (.long u)]))
    obtain ⟨cl5, Ar5, q5, S5, M5, H5, G5⟩ := (id V_w)
    have hin5 : ¬ ((1 : Int32) < 0 ∨ cl5.slots.size ≤ ((1 : Int32)).toNatClampNeg) := inb_of S5 ⟨by decide, by decide⟩
    have hat5 : cl5.slots[((1 : Int32)).toNatClampNeg]? = some (.long w1) := H5.at hin5 rfl
    refine og (fun t k => X4.laload hx (j := (1 : Int32)) (v := (.long w1)) (by rw [e4]; exact Ar5.1) (State.isArrayOf_alike hZ.alike Ar5.2.1) Ar5.2.2 hin5 hat5 (g := (mkF m 35 #[rv a1, iv 3, jv u, .second, iv 1] [(.int 1), (.ref aw), (.long u)])) rfl rfl (hb hby d5_35) _ (XS.lcmp X4.here hx rfl (hb hby d5_36) rfl k)) ?_
    show oF p e below _ (T4.setTop (mkF m 37 #[rv a1, iv 3, jv u, .second, iv 1] [(.int (lcmpW u w1))]))
    by_cases hc6 : u = w1
    · skip
      refine og (fun t k => XS.ifYes X4.here hx rfl (pc0 := 37) (pc' := 54) rfl (hb hby d5_37) rfl ((if0 _ _).trans (teq ((lw_eq _ _).mpr hc6)).1) (by decide) (by decide) (XS.lloadN X4.here hx rfl (hb hby d5_54) rfl (XS.aloadN X4.here hx rfl (hb hby d5_55) rfl rfl k))) ?_
      show oF p e below _ (T4.setTop (mkF m 56 #[rv a1, iv 3, jv u, .second, iv 1] [(.ref a1), (.long u)]))
      obtain ⟨T7, X7, e7, st7⟩ := getF X4 hx hZ hown (host := "") (Or.inl hw_17) Via.refl e4 F_w (g := (mkF m 56 #[rv a1, iv 3, jv u, .second, iv 1] [(.ref a1), (.long u)])) rfl rfl (hb hby d5_56)
      refine og st7 ?_
      show oF p e below _ (T7.setTop (mkF m 59 #[rv a1, iv 3, jv u, .second, iv 1] [(.ref aw), (.long u)]))
      refine og (fun t k => XS.iload X7.here hx rfl (hb hby d5_59) rfl k) ?_
      show oF p e below _ (T7.setTop (mkF m 61 #[rv a1, iv 3, jv u, .second, iv 1] [(.int 1), (.ref aw), (.long u)]))
      obtain ⟨cl8, Ar8, q8, S8, M8, H8, G8⟩ := (id V_w)
      have hin8 : ¬ ((1 : Int32) < 0 ∨ cl8.slots.size ≤ ((1 : Int32)).toNatClampNeg) := inb_of S8 ⟨by decide, by decide⟩
      have hat8 : cl8.slots[((1 : Int32)).toNatClampNeg]? = some (.long w1) := H8.at hin8 rfl
      refine og (fun t k => X7.laload hx (j := (1 : Int32)) (v := (.long w1)) (by rw [e7]; exact Ar8.1) (State.isArrayOf_alike hZ.alike Ar8.2.1) Ar8.2.2 hin8 hat8 (g := (mkF m 61 #[rv a1, iv 3, jv u, .second, iv 1] [(.int 1), (.ref aw), (.long u)])) rfl rfl (hb hby d5_61) _ (XS.lcmp X7.here hx rfl (hb hby d5_62) rfl k)) ?_
      show oF p e below _ (T7.setTop (mkF m 63 #[rv a1, iv 3, jv u, .second, iv 1] [(.int (lcmpW u w1))]))
      refine og (fun t k => XS.ifNo X7.here hx rfl (hb hby d5_63) rfl ((if0 _ _).trans (teq ((lw_eq _ _).mpr hc6)).2) (XS.iload X7.here hx rfl (hb hby d5_66) rfl (XS.iconst X7.here hx rfl (hb hby d5_68) (XS.iadd X7.here hx rfl (hb hby d5_69) rfl (XS.goto X7.here hx rfl (pc0 := 70) (pc' := 75) rfl (hb hby d5_70) (by decide) (by decide) k))))) ?_
      show oF p e below _ (T7.setTop (mkF m 75 #[rv a1, iv 3, jv u, .second, iv 1] [(.int 2)]))
      exact oo X7 (fun h => by rw [Bd.returns] at h; cases h) Bd.notSynchronized (fun fs hr => retI X7 hx Bd.returns (hb hby d5_75) hr) ⟨(by simp [own_x0, own_x1, own_x2, own_x3, hc6]), N0, e7⟩ (by decide) (by decide)
    · skip
      refine og (fun t k => XS.ifNo X4.here hx rfl (hb hby d5_37) rfl ((if0 _ _).trans (feq (fun q => hc6 ((lw_eq _ _).mp q))).1) (XS.aloadN X4.here hx rfl (hb hby d5_40) rfl rfl k)) ?_
      show oF p e below _ (T4.setTop (mkF m 41 #[rv a1, iv 3, jv u, .second, iv 1] [(.ref a1)]))
      obtain ⟨T9, X9, e9, st9⟩ := getF X4 hx hZ hown (host := "") (Or.inl hw_22) Via.refl e4 F_b (g := (mkF m 41 #[rv a1, iv 3, jv u, .second, iv 1] [(.ref a1)])) rfl rfl (hb hby d5_41)
      refine og st9 ?_
      show oF p e below _ (T9.setTop (mkF m 44 #[rv a1, iv 3, jv u, .second, iv 1] [(.ref ab)]))
      refine og (fun t k => XS.iload X9.here hx rfl (hb hby d5_44) rfl (XS.iconst X9.here hx rfl (hb hby d5_46) (XS.isub X9.here hx rfl (hb hby d5_47) rfl k))) ?_
      show oF p e below _ (T9.setTop (mkF m 48 #[rv a1, iv 3, jv u, .second, iv 1] [(.int 0), (.ref ab)]))
      obtain ⟨cl10, Ar10, q10, S10, M10, H10, G10⟩ := (id V_b)
      have hin10 : ¬ ((0 : Int32) < 0 ∨ cl10.slots.size ≤ ((0 : Int32)).toNatClampNeg) := inb_of S10 ⟨by decide, by decide⟩
      have hat10 : cl10.slots[((0 : Int32)).toNatClampNeg]? = some (.int B0) := H10.at hin10 rfl
      refine og (fun t k => X9.iaload hx (j := (0 : Int32)) (v := (.int B0)) (by rw [e9]; exact Ar10.1) (State.isArrayOf_alike hZ.alike Ar10.2.1) Ar10.2.2 hin10 hat10 (g := (mkF m 48 #[rv a1, iv 3, jv u, .second, iv 1] [(.int 0), (.ref ab)])) rfl rfl (hb hby d5_48) _ k) ?_
      show oF p e below _ (T9.setTop (mkF m 49 #[rv a1, iv 3, jv u, .second, iv 1] [(.int B0)]))
      have hv11 := hB0
      · skip
        rw [hv11]
        show oF p e below _ (T9.setTop (mkF m 49 #[rv a1, iv 3, jv u, .second, iv 1] [(.int 0)]))
        refine og (fun t k => XS.istore X9.here hx rfl (hb hby d5_49) rfl (l' := #[rv a1, iv 3, jv u, .second, iv 0]) rfl (XS.goto X9.here hx rfl (pc0 := 51) (pc' := 23) rfl (hb hby d5_51) (by decide) (by decide) k)) ?_
        rw [show (own_x1 w0 w1 u) = (own_x0 w0 u) from by simp [own_x0, own_x1, own_x2, own_x3, hc6, hv11]]
        exact Jg0 T9 X9 e9
  have Jg2 : ∀ (TT : State) (XX : Stand p l e ({ frames := 0, cells := 0, slots := 0, locals := 0 } : Room) s m #[(.ref a1), (.int 3), (.long u)] below meth c TT [] 0 0) (ee : TT.heap = h0), oF p e below (own_A s ({ frames := 0, cells := 0, slots := 0, locals := 0 } : Room).cells ({ frames := 0, cells := 0, slots := 0, locals := 0 } : Room).slots (own_P h0 n0 (.int (own_x2 w0 w1 w2 B1 u)))) (TT.setTop (mkF m 23 #[rv a1, iv 3, jv u, .second, iv 2] [])) := by
    intro TT XX ee
    refine og (fun t k => XS.iload XX.here hx rfl (hb hby d5_23) rfl k) ?_
    show oF p e below _ (TT.setTop (mkF m 25 #[rv a1, iv 3, jv u, .second, iv 2] [(.int 2)]))
    refine og (fun t k => XS.ifNo XX.here hx rfl (hb hby d5_25) rfl ((if0 _ _).trans (tlt (by decide : (0 : Int32) < (2 : Int32))).2.2.2) (XS.lloadN XX.here hx rfl (hb hby d5_28) rfl (XS.aloadN XX.here hx rfl (hb hby d5_29) rfl rfl k))) ?_
    show oF p e below _ (TT.setTop (mkF m 30 #[rv a1, iv 3, jv u, .second, iv 2] [(.ref a1), (.long u)]))
    obtain ⟨T12, X12, e12, st12⟩ := getF XX hx hZ hown (host := "") (Or.inl hw_17) Via.refl ee F_w (g := (mkF m 30 #[rv a1, iv 3, jv u, .second, iv 2] [(.ref a1), (.long u)])) rfl rfl (hb hby d5_30)
    refine og st12 ?_
    show oF p e below _ (T12.setTop (mkF m 33 #[rv a1, iv 3, jv u, .second, iv 2] [(.ref aw), (.long u)]))
    refine og (fun t k => XS.iload X12.here hx rfl (hb hby d5_33) rfl k) ?_
    show oF p e below _ (T12.setTop (mkF m 35 #[rv a1, iv 3, jv u, .second, iv 2] [(.int 2), (.ref aw), (.long u)]))
    obtain ⟨cl13, Ar13, q13, S13, M13, H13, G13⟩ := (id V_w)
    have hin13 : ¬ ((2 : Int32) < 0 ∨ cl13.slots.size ≤ ((2 : Int32)).toNatClampNeg) := inb_of S13 ⟨by decide, by decide⟩
    have hat13 : cl13.slots[((2 : Int32)).toNatClampNeg]? = some (.long w2) := H13.at hin13 rfl
    refine og (fun t k => X12.laload hx (j := (2 : Int32)) (v := (.long w2)) (by rw [e12]; exact Ar13.1) (State.isArrayOf_alike hZ.alike Ar13.2.1) Ar13.2.2 hin13 hat13 (g := (mkF m 35 #[rv a1, iv 3, jv u, .second, iv 2] [(.int 2), (.ref aw), (.long u)])) rfl rfl (hb hby d5_35) _ (XS.lcmp X12.here hx rfl (hb hby d5_36) rfl k)) ?_
    show oF p e below _ (T12.setTop (mkF m 37 #[rv a1, iv 3, jv u, .second, iv 2] [(.int (lcmpW u w2))]))
    by_cases hc14 : u = w2
    · skip
      refine og (fun t k => XS.ifYes X12.here hx rfl (pc0 := 37) (pc' := 54) rfl (hb hby d5_37) rfl ((if0 _ _).trans (teq ((lw_eq _ _).mpr hc14)).1) (by decide) (by decide) (XS.lloadN X12.here hx rfl (hb hby d5_54) rfl (XS.aloadN X12.here hx rfl (hb hby d5_55) rfl rfl k))) ?_
      show oF p e below _ (T12.setTop (mkF m 56 #[rv a1, iv 3, jv u, .second, iv 2] [(.ref a1), (.long u)]))
      obtain ⟨T15, X15, e15, st15⟩ := getF X12 hx hZ hown (host := "") (Or.inl hw_17) Via.refl e12 F_w (g := (mkF m 56 #[rv a1, iv 3, jv u, .second, iv 2] [(.ref a1), (.long u)])) rfl rfl (hb hby d5_56)
      refine og st15 ?_
      show oF p e below _ (T15.setTop (mkF m 59 #[rv a1, iv 3, jv u, .second, iv 2] [(.ref aw), (.long u)]))
      refine og (fun t k => XS.iload X15.here hx rfl (hb hby d5_59) rfl k) ?_
      show oF p e below _ (T15.setTop (mkF m 61 #[rv a1, iv 3, jv u, .second, iv 2] [(.int 2), (.ref aw), (.long u)]))
      obtain ⟨cl16, Ar16, q16, S16, M16, H16, G16⟩ := (id V_w)
      have hin16 : ¬ ((2 : Int32) < 0 ∨ cl16.slots.size ≤ ((2 : Int32)).toNatClampNeg) := inb_of S16 ⟨by decide, by decide⟩
      have hat16 : cl16.slots[((2 : Int32)).toNatClampNeg]? = some (.long w2) := H16.at hin16 rfl
      refine og (fun t k => X15.laload hx (j := (2 : Int32)) (v := (.long w2)) (by rw [e15]; exact Ar16.1) (State.isArrayOf_alike hZ.alike Ar16.2.1) Ar16.2.2 hin16 hat16 (g := (mkF m 61 #[rv a1, iv 3, jv u, .second, iv 2] [(.int 2), (.ref aw), (.long u)])) rfl rfl (hb hby d5_61) _ (XS.lcmp X15.here hx rfl (hb hby d5_62) rfl k)) ?_
      show oF p e below _ (T15.setTop (mkF m 63 #[rv a1, iv 3, jv u, .second, iv 2] [(.int (lcmpW u w2))]))
      refine og (fun t k => XS.ifNo X15.here hx rfl (hb hby d5_63) rfl ((if0 _ _).trans (teq ((lw_eq _ _).mpr hc14)).2) (XS.iload X15.here hx rfl (hb hby d5_66) rfl (XS.iconst X15.here hx rfl (hb hby d5_68) (XS.iadd X15.here hx rfl (hb hby d5_69) rfl (XS.goto X15.here hx rfl (pc0 := 70) (pc' := 75) rfl (hb hby d5_70) (by decide) (by decide) k))))) ?_
      show oF p e below _ (T15.setTop (mkF m 75 #[rv a1, iv 3, jv u, .second, iv 2] [(.int 3)]))
      exact oo X15 (fun h => by rw [Bd.returns] at h; cases h) Bd.notSynchronized (fun fs hr => retI X15 hx Bd.returns (hb hby d5_75) hr) ⟨(by simp [own_x0, own_x1, own_x2, own_x3, hc14]), N0, e15⟩ (by decide) (by decide)
    · skip
      refine og (fun t k => XS.ifNo X12.here hx rfl (hb hby d5_37) rfl ((if0 _ _).trans (feq (fun q => hc14 ((lw_eq _ _).mp q))).1) (XS.aloadN X12.here hx rfl (hb hby d5_40) rfl rfl k)) ?_
      show oF p e below _ (T12.setTop (mkF m 41 #[rv a1, iv 3, jv u, .second, iv 2] [(.ref a1)]))
      obtain ⟨T17, X17, e17, st17⟩ := getF X12 hx hZ hown (host := "") (Or.inl hw_22) Via.refl e12 F_b (g := (mkF m 41 #[rv a1, iv 3, jv u, .second, iv 2] [(.ref a1)])) rfl rfl (hb hby d5_41)
      refine og st17 ?_
      show oF p e below _ (T17.setTop (mkF m 44 #[rv a1, iv 3, jv u, .second, iv 2] [(.ref ab)]))
      refine og (fun t k => XS.iload X17.here hx rfl (hb hby d5_44) rfl (XS.iconst X17.here hx rfl (hb hby d5_46) (XS.isub X17.here hx rfl (hb hby d5_47) rfl k))) ?_
      show oF p e below _ (T17.setTop (mkF m 48 #[rv a1, iv 3, jv u, .second, iv 2] [(.int 1), (.ref ab)]))
      obtain ⟨cl18, Ar18, q18, S18, M18, H18, G18⟩ := (id V_b)
      have hin18 : ¬ ((1 : Int32) < 0 ∨ cl18.slots.size ≤ ((1 : Int32)).toNatClampNeg) := inb_of S18 ⟨by decide, by decide⟩
      have hat18 : cl18.slots[((1 : Int32)).toNatClampNeg]? = some (.int B1) := H18.at hin18 rfl
      refine og (fun t k => X17.iaload hx (j := (1 : Int32)) (v := (.int B1)) (by rw [e17]; exact Ar18.1) (State.isArrayOf_alike hZ.alike Ar18.2.1) Ar18.2.2 hin18 hat18 (g := (mkF m 48 #[rv a1, iv 3, jv u, .second, iv 2] [(.int 1), (.ref ab)])) rfl rfl (hb hby d5_48) _ k) ?_
      show oF p e below _ (T17.setTop (mkF m 49 #[rv a1, iv 3, jv u, .second, iv 2] [(.int B1)]))
      rcases hB1 with hv19 | hv20
      · skip
        rw [hv19]
        show oF p e below _ (T17.setTop (mkF m 49 #[rv a1, iv 3, jv u, .second, iv 2] [(.int 0)]))
        refine og (fun t k => XS.istore X17.here hx rfl (hb hby d5_49) rfl (l' := #[rv a1, iv 3, jv u, .second, iv 0]) rfl (XS.goto X17.here hx rfl (pc0 := 51) (pc' := 23) rfl (hb hby d5_51) (by decide) (by decide) k)) ?_
        rw [show (own_x2 w0 w1 w2 (0 : Int32) u) = (own_x0 w0 u) from by simp [own_x0, own_x1, own_x2, own_x3, hc14, hv19]]
        exact Jg0 T17 X17 e17
      · skip
        rw [hv20]
        show oF p e below _ (T17.setTop (mkF m 49 #[rv a1, iv 3, jv u, .second, iv 2] [(.int 1)]))
        refine og (fun t k => XS.istore X17.here hx rfl (hb hby d5_49) rfl (l' := #[rv a1, iv 3, jv u, .second, iv 1]) rfl (XS.goto X17.here hx rfl (pc0 := 51) (pc' := 23) rfl (hb hby d5_51) (by decide) (by decide) k)) ?_
        rw [show (own_x2 w0 w1 w2 (1 : Int32) u) = (own_x1 w0 w1 u) from by simp [own_x0, own_x1, own_x2, own_x3, hc14, hv20]]
        exact Jg1 T17 X17 e17
  have Jg3 : ∀ (TT : State) (XX : Stand p l e ({ frames := 0, cells := 0, slots := 0, locals := 0 } : Room) s m #[(.ref a1), (.int 3), (.long u)] below meth c TT [] 0 0) (ee : TT.heap = h0), oF p e below (own_A s ({ frames := 0, cells := 0, slots := 0, locals := 0 } : Room).cells ({ frames := 0, cells := 0, slots := 0, locals := 0 } : Room).slots (own_P h0 n0 (.int (own_x3 w0 w1 w2 w3 B1 B2 u)))) (TT.setTop (mkF m 23 #[rv a1, iv 3, jv u, .second, iv 3] [])) := by
    intro TT XX ee
    refine og (fun t k => XS.iload XX.here hx rfl (hb hby d5_23) rfl k) ?_
    show oF p e below _ (TT.setTop (mkF m 25 #[rv a1, iv 3, jv u, .second, iv 3] [(.int 3)]))
    refine og (fun t k => XS.ifNo XX.here hx rfl (hb hby d5_25) rfl ((if0 _ _).trans (tlt (by decide : (0 : Int32) < (3 : Int32))).2.2.2) (XS.lloadN XX.here hx rfl (hb hby d5_28) rfl (XS.aloadN XX.here hx rfl (hb hby d5_29) rfl rfl k))) ?_
    show oF p e below _ (TT.setTop (mkF m 30 #[rv a1, iv 3, jv u, .second, iv 3] [(.ref a1), (.long u)]))
    obtain ⟨T21, X21, e21, st21⟩ := getF XX hx hZ hown (host := "") (Or.inl hw_17) Via.refl ee F_w (g := (mkF m 30 #[rv a1, iv 3, jv u, .second, iv 3] [(.ref a1), (.long u)])) rfl rfl (hb hby d5_30)
    refine og st21 ?_
    show oF p e below _ (T21.setTop (mkF m 33 #[rv a1, iv 3, jv u, .second, iv 3] [(.ref aw), (.long u)]))
    refine og (fun t k => XS.iload X21.here hx rfl (hb hby d5_33) rfl k) ?_
    show oF p e below _ (T21.setTop (mkF m 35 #[rv a1, iv 3, jv u, .second, iv 3] [(.int 3), (.ref aw), (.long u)]))
    obtain ⟨cl22, Ar22, q22, S22, M22, H22, G22⟩ := (id V_w)
    have hin22 : ¬ ((3 : Int32) < 0 ∨ cl22.slots.size ≤ ((3 : Int32)).toNatClampNeg) := inb_of S22 ⟨by decide, by decide⟩
    have hat22 : cl22.slots[((3 : Int32)).toNatClampNeg]? = some (.long w3) := H22.at hin22 rfl
    refine og (fun t k => X21.laload hx (j := (3 : Int32)) (v := (.long w3)) (by rw [e21]; exact Ar22.1) (State.isArrayOf_alike hZ.alike Ar22.2.1) Ar22.2.2 hin22 hat22 (g := (mkF m 35 #[rv a1, iv 3, jv u, .second, iv 3] [(.int 3), (.ref aw), (.long u)])) rfl rfl (hb hby d5_35) _ (XS.lcmp X21.here hx rfl (hb hby d5_36) rfl k)) ?_
    show oF p e below _ (T21.setTop (mkF m 37 #[rv a1, iv 3, jv u, .second, iv 3] [(.int (lcmpW u w3))]))
    by_cases hc23 : u = w3
    · skip
      refine og (fun t k => XS.ifYes X21.here hx rfl (pc0 := 37) (pc' := 54) rfl (hb hby d5_37) rfl ((if0 _ _).trans (teq ((lw_eq _ _).mpr hc23)).1) (by decide) (by decide) (XS.lloadN X21.here hx rfl (hb hby d5_54) rfl (XS.aloadN X21.here hx rfl (hb hby d5_55) rfl rfl k))) ?_
      show oF p e below _ (T21.setTop (mkF m 56 #[rv a1, iv 3, jv u, .second, iv 3] [(.ref a1), (.long u)]))
      obtain ⟨T24, X24, e24, st24⟩ := getF X21 hx hZ hown (host := "") (Or.inl hw_17) Via.refl e21 F_w (g := (mkF m 56 #[rv a1, iv 3, jv u, .second, iv 3] [(.ref a1), (.long u)])) rfl rfl (hb hby d5_56)
      refine og st24 ?_
      show oF p e below _ (T24.setTop (mkF m 59 #[rv a1, iv 3, jv u, .second, iv 3] [(.ref aw), (.long u)]))
      refine og (fun t k => XS.iload X24.here hx rfl (hb hby d5_59) rfl k) ?_
      show oF p e below _ (T24.setTop (mkF m 61 #[rv a1, iv 3, jv u, .second, iv 3] [(.int 3), (.ref aw), (.long u)]))
      obtain ⟨cl25, Ar25, q25, S25, M25, H25, G25⟩ := (id V_w)
      have hin25 : ¬ ((3 : Int32) < 0 ∨ cl25.slots.size ≤ ((3 : Int32)).toNatClampNeg) := inb_of S25 ⟨by decide, by decide⟩
      have hat25 : cl25.slots[((3 : Int32)).toNatClampNeg]? = some (.long w3) := H25.at hin25 rfl
      refine og (fun t k => X24.laload hx (j := (3 : Int32)) (v := (.long w3)) (by rw [e24]; exact Ar25.1) (State.isArrayOf_alike hZ.alike Ar25.2.1) Ar25.2.2 hin25 hat25 (g := (mkF m 61 #[rv a1, iv 3, jv u, .second, iv 3] [(.int 3), (.ref aw), (.long u)])) rfl rfl (hb hby d5_61) _ (XS.lcmp X24.here hx rfl (hb hby d5_62) rfl k)) ?_
      show oF p e below _ (T24.setTop (mkF m 63 #[rv a1, iv 3, jv u, .second, iv 3] [(.int (lcmpW u w3))]))
      refine og (fun t k => XS.ifNo X24.here hx rfl (hb hby d5_63) rfl ((if0 _ _).trans (teq ((lw_eq _ _).mpr hc23)).2) (XS.iload X24.here hx rfl (hb hby d5_66) rfl (XS.iconst X24.here hx rfl (hb hby d5_68) (XS.iadd X24.here hx rfl (hb hby d5_69) rfl (XS.goto X24.here hx rfl (pc0 := 70) (pc' := 75) rfl (hb hby d5_70) (by decide) (by decide) k))))) ?_
      show oF p e below _ (T24.setTop (mkF m 75 #[rv a1, iv 3, jv u, .second, iv 3] [(.int 4)]))
      exact oo X24 (fun h => by rw [Bd.returns] at h; cases h) Bd.notSynchronized (fun fs hr => retI X24 hx Bd.returns (hb hby d5_75) hr) ⟨(by simp [own_x0, own_x1, own_x2, own_x3, hc23]), N0, e24⟩ (by decide) (by decide)
    · skip
      refine og (fun t k => XS.ifNo X21.here hx rfl (hb hby d5_37) rfl ((if0 _ _).trans (feq (fun q => hc23 ((lw_eq _ _).mp q))).1) (XS.aloadN X21.here hx rfl (hb hby d5_40) rfl rfl k)) ?_
      show oF p e below _ (T21.setTop (mkF m 41 #[rv a1, iv 3, jv u, .second, iv 3] [(.ref a1)]))
      obtain ⟨T26, X26, e26, st26⟩ := getF X21 hx hZ hown (host := "") (Or.inl hw_22) Via.refl e21 F_b (g := (mkF m 41 #[rv a1, iv 3, jv u, .second, iv 3] [(.ref a1)])) rfl rfl (hb hby d5_41)
      refine og st26 ?_
      show oF p e below _ (T26.setTop (mkF m 44 #[rv a1, iv 3, jv u, .second, iv 3] [(.ref ab)]))
      refine og (fun t k => XS.iload X26.here hx rfl (hb hby d5_44) rfl (XS.iconst X26.here hx rfl (hb hby d5_46) (XS.isub X26.here hx rfl (hb hby d5_47) rfl k))) ?_
      show oF p e below _ (T26.setTop (mkF m 48 #[rv a1, iv 3, jv u, .second, iv 3] [(.int 2), (.ref ab)]))
      obtain ⟨cl27, Ar27, q27, S27, M27, H27, G27⟩ := (id V_b)
      have hin27 : ¬ ((2 : Int32) < 0 ∨ cl27.slots.size ≤ ((2 : Int32)).toNatClampNeg) := inb_of S27 ⟨by decide, by decide⟩
      have hat27 : cl27.slots[((2 : Int32)).toNatClampNeg]? = some (.int B2) := H27.at hin27 rfl
      refine og (fun t k => X26.iaload hx (j := (2 : Int32)) (v := (.int B2)) (by rw [e26]; exact Ar27.1) (State.isArrayOf_alike hZ.alike Ar27.2.1) Ar27.2.2 hin27 hat27 (g := (mkF m 48 #[rv a1, iv 3, jv u, .second, iv 3] [(.int 2), (.ref ab)])) rfl rfl (hb hby d5_48) _ k) ?_
      show oF p e below _ (T26.setTop (mkF m 49 #[rv a1, iv 3, jv u, .second, iv 3] [(.int B2)]))
      rcases hB2 with hv28 | hv29 | hv30
      · skip
        rw [hv28]
        show oF p e below _ (T26.setTop (mkF m 49 #[rv a1, iv 3, jv u, .second, iv 3] [(.int 0)]))
        refine og (fun t k => XS.istore X26.here hx rfl (hb hby d5_49) rfl (l' := #[rv a1, iv 3, jv u, .second, iv 0]) rfl (XS.goto X26.here hx rfl (pc0 := 51) (pc' := 23) rfl (hb hby d5_51) (by decide) (by decide) k)) ?_
        rw [show (own_x3 w0 w1 w2 w3 B1 (0 : Int32) u) = (own_x0 w0 u) from by simp [own_x0, own_x1, own_x2, own_x3, hc23, hv28]]
        exact Jg0 T26 X26 e26
      · skip
        rw [hv29]
        show oF p e below _ (T26.setTop (mkF m 49 #[rv a1, iv 3, jv u, .second, iv 3] [(.int 1)]))
        refine og (fun t k => XS.istore X26.here hx rfl (hb hby d5_49) rfl (l' := #[rv a1, iv 3, jv u, .second, iv 1]) rfl (XS.goto X26.here hx rfl (pc0 := 51) (pc' := 23) rfl (hb hby d5_51) (by decide) (by decide) k)) ?_
        rw [show (own_x3 w0 w1 w2 w3 B1 (1 : Int32) u) = (own_x1 w0 w1 u) from by simp [own_x0, own_x1, own_x2, own_x3, hc23, hv29]]
        exact Jg1 T26 X26 e26
      · skip
        rw [hv30]
        show oF p e below _ (T26.setTop (mkF m 49 #[rv a1, iv 3, jv u, .second, iv 3] [(.int 2)]))
        refine og (fun t k => XS.istore X26.here hx rfl (hb hby d5_49) rfl (l' := #[rv a1, iv 3, jv u, .second, iv 2]) rfl (XS.goto X26.here hx rfl (pc0 := 51) (pc' := 23) rfl (hb hby d5_51) (by decide) (by decide) k)) ?_
        rw [show (own_x3 w0 w1 w2 w3 B1 (2 : Int32) u) = (own_x2 w0 w1 w2 B1 u) from by simp [own_x0, own_x1, own_x2, own_x3, hc23, hv30]]
        exact Jg2 T26 X26 e26
  refine og (fun t k => XS.iloadN X0.here hx rfl (hb hby d5_0) rfl (XS.aloadN X0.here hx rfl (hb hby d5_1) rfl rfl k)) ?_
  show oF p e below _ (s₁.setTop (mkF m 2 #[rv a1, iv 3, jv u, .second, .unset] [(.ref a1), (.int 3)]))
  obtain ⟨T31, X31, e31, st31⟩ := getF X0 hx hZ hown (host := "") (Or.inl hw_17) Via.refl e0 F_w (g := (mkF m 2 #[rv a1, iv 3, jv u, .second, .unset] [(.ref a1), (.int 3)])) rfl rfl (hb hby d5_2)
  refine og st31 ?_
  show oF p e below _ (T31.setTop (mkF m 5 #[rv a1, iv 3, jv u, .second, .unset] [(.ref aw), (.int 3)]))
  obtain ⟨cl32, Ar32, q32, S32, M32, H32, G32⟩ := (id V_w)
  refine og (fun t k => X31.arraylength hx (by rw [e31]; exact Ar32.1) (State.isArrayOf_alike hZ.alike Ar32.2.1) (g := (mkF m 5 #[rv a1, iv 3, jv u, .second, .unset] [(.ref aw), (.int 3)])) rfl rfl (hb hby d5_5) _ k) ?_
  rw [len_of S32 M32]
  show oF p e below _ (T31.setTop (mkF m 6 #[rv a1, iv 3, jv u, .second, .unset] [(.int 4), (.int 3)]))
  refine og (fun t k => XS.icmpYes X31.here hx rfl (pc0 := 6) (pc' := 20) rfl (hb hby d5_6) rfl (feq (by decide : ¬ ((3 : Int32) = (4 : Int32)))).2 (by decide) (by decide) (XS.iloadN X31.here hx rfl (hb hby d5_20) rfl (XS.istore X31.here hx rfl (hb hby d5_21) rfl (l' := #[rv a1, iv 3, jv u, .second, iv 3]) rfl k))) ?_
  exact Jg3 T31 X31 e31
theorem ef_5n4m4 (m : MethodId) (x0 : Addr) (x1 : Int32) (x2 : Int64)  : entryFrame m #[(.ref x0), (.int x1), (.long x2)] 5 = mkF m 0 #[rv x0, iv x1, jv x2, .second, .unset] [] := by first | (simp [entryFrame, mkF, argsToLocals, Value.category]; done) | rfl
set_option maxRecDepth 65536 in
set_option maxHeartbeats 40000000 in
theorem rm5n4m4 (l : Launch) (Z : State) (a0 : Array Value) (hw : ∀ d ∈ tables_1, d.before a0 Z = true) (ws : List Jvm.Cond) (a1 : Addr) (u : Int64) (aw ab : Addr) (kw kb : ClassId) (w0 w1 w2 w3 : Int64) (B0 B1 B2 B3 : Int32) (h0 : Heap) (n0 : Nat) (Z0 : n0 ≤ h0.size) (F_w : Fld Z h0 a1 "com/example/sound_verdict/soundverdict/UnitSearch" "wanted" "[J" (.ref aw)) (F_b : Fld Z h0 a1 "com/example/sound_verdict/soundverdict/UnitSearch" "border" "[I" (.ref ab)) (V_w : Arv Z h0 aw kw .long (4 : Int32) [(.long w0), (.long w1), (.long w2), (.long w3)] (.long (0 : Int64))) (V_b : Arv Z h0 ab kb .int (4 : Int32) [(.int B0), (.int B1), (.int B2), (.int B3)] (.int (0 : Int32))) (hB0 : B0 = (0 : Int32)) (hB1 : B1 = (0 : Int32) ∨ B1 = (1 : Int32)) (hB2 : B2 = (0 : Int32) ∨ B2 = (1 : Int32) ∨ B2 = (2 : Int32)) (hB3 : B3 = (0 : Int32) ∨ B3 = (1 : Int32) ∨ B3 = (2 : Int32) ∨ B3 = (3 : Int32)) :
    MetFree l (⟨"com/example/sound_verdict/soundverdict/UnitSearch", "next", "(IJ)I"⟩ : MethodName) (head1 (Jvm.Cond.code (⟨"com/example/sound_verdict/soundverdict/UnitSearch", "next", "(IJ)I"⟩ : MethodName) prog_199_method_6_code 5 (some .int) :: ws) ({ frames := 0, cells := 0, slots := 0, locals := 0 } : Room)) (fun a U => a = #[(.ref a1), (.int 4), (.long u)] ∧ Z.Warmed39 U.vm ∧ U.heap = h0) (fun _ _ _ _ _ => True) (fun _ U o U' => ∃ v L, o = .returned v ∧ (own_P h0 n0 (.int (if B3 = (0 : Int32) then (own_x0 w0 u) else (if B3 = (1 : Int32) then (own_x1 w0 w1 u) else (if B3 = (2 : Int32) then (own_x2 w0 w1 w2 B1 u) else (own_x3 w0 w1 w2 w3 B1 B2 u)))))) v U'.heap L ∧ FrameEnd U o U' L ({ frames := 0, cells := 0, slots := 0, locals := 0 } : Room).cells ({ frames := 0, cells := 0, slots := 0, locals := 0 } : Room).slots) := by
  refine MetFree.of_bodySF (plainFor_of_name pn_1) hisR ?_
  intro p e s m args below meth c s₁ Bd hml0 hP hK
  obtain ⟨rfl, hZ, hh⟩ := hP
  have hx := Bd.exec
  have hby := Bd.bytes
  have hml : c.maxLocals = 5 := hml0
  have hown : s.vm.findClass "com/example/sound_verdict/soundverdict/UnitSearch" = some m.cls := findClass_of_methodNamed Bd.named
  have hnm := (name_of_methodNamed Bd.named Bd.method).1
  have X0 : Stand p l e ({ frames := 0, cells := 0, slots := 0, locals := 0 } : Room) s m #[(.ref a1), (.int 4), (.long u)] below meth c s₁ [] 0 0 := Stand.of_body Bd
  have e0 : s₁.heap = h0 := by rw [← hh, Bd.state]; rfl
  have N0 := Fr.nil n0
  have hw_17 := hw _ (List.mem_of_getElem? (i := 17) rfl)
  have hw_22 := hw _ (List.mem_of_getElem? (i := 22) rfl)
  show oF p e below (own_A s ({ frames := 0, cells := 0, slots := 0, locals := 0 } : Room).cells ({ frames := 0, cells := 0, slots := 0, locals := 0 } : Room).slots (own_P h0 n0 (.int (if B3 = (0 : Int32) then (own_x0 w0 u) else (if B3 = (1 : Int32) then (own_x1 w0 w1 u) else (if B3 = (2 : Int32) then (own_x2 w0 w1 w2 B1 u) else (own_x3 w0 w1 w2 w3 B1 B2 u))))))) _
  refine og (fun t k => castTop (ef_5n4m4 m (a1) ((4 : Int32)) (u)) k) ?_
  show oF p e below _ (s₁.setTop (mkF m 0 #[rv a1, iv 4, jv u, .second, .unset] []))
  have Jg0 : ∀ (TT : State) (XX : Stand p l e ({ frames := 0, cells := 0, slots := 0, locals := 0 } : Room) s m #[(.ref a1), (.int 4), (.long u)] below meth c TT [] 0 0) (ee : TT.heap = h0), oF p e below (own_A s ({ frames := 0, cells := 0, slots := 0, locals := 0 } : Room).cells ({ frames := 0, cells := 0, slots := 0, locals := 0 } : Room).slots (own_P h0 n0 (.int (own_x0 w0 u)))) (TT.setTop (mkF m 23 #[rv a1, iv 4, jv u, .second, iv 0] [])) := by
    intro TT XX ee
    refine og (fun t k => XS.iload XX.here hx rfl (hb hby d5_23) rfl k) ?_
    show oF p e below _ (TT.setTop (mkF m 25 #[rv a1, iv 4, jv u, .second, iv 0] [(.int 0)]))
    refine og (fun t k => XS.ifYes XX.here hx rfl (pc0 := 25) (pc' := 54) rfl (hb hby d5_25) rfl ((if0 _ _).trans (flt (by decide : ¬ ((0 : Int32) < (0 : Int32)))).2.2.2) (by decide) (by decide) (XS.lloadN XX.here hx rfl (hb hby d5_54) rfl (XS.aloadN XX.here hx rfl (hb hby d5_55) rfl rfl k))) ?_
    show oF p e below _ (TT.setTop (mkF m 56 #[rv a1, iv 4, jv u, .second, iv 0] [(.ref a1), (.long u)]))
    obtain ⟨T1, X1, e1, st1⟩ := getF XX hx hZ hown (host := "") (Or.inl hw_17) Via.refl ee F_w (g := (mkF m 56 #[rv a1, iv 4, jv u, .second, iv 0] [(.ref a1), (.long u)])) rfl rfl (hb hby d5_56)
    refine og st1 ?_
    show oF p e below _ (T1.setTop (mkF m 59 #[rv a1, iv 4, jv u, .second, iv 0] [(.ref aw), (.long u)]))
    refine og (fun t k => XS.iload X1.here hx rfl (hb hby d5_59) rfl k) ?_
    show oF p e below _ (T1.setTop (mkF m 61 #[rv a1, iv 4, jv u, .second, iv 0] [(.int 0), (.ref aw), (.long u)]))
    obtain ⟨cl2, Ar2, q2, S2, M2, H2, G2⟩ := (id V_w)
    have hin2 : ¬ ((0 : Int32) < 0 ∨ cl2.slots.size ≤ ((0 : Int32)).toNatClampNeg) := inb_of S2 ⟨by decide, by decide⟩
    have hat2 : cl2.slots[((0 : Int32)).toNatClampNeg]? = some (.long w0) := H2.at hin2 rfl
    refine og (fun t k => X1.laload hx (j := (0 : Int32)) (v := (.long w0)) (by rw [e1]; exact Ar2.1) (State.isArrayOf_alike hZ.alike Ar2.2.1) Ar2.2.2 hin2 hat2 (g := (mkF m 61 #[rv a1, iv 4, jv u, .second, iv 0] [(.int 0), (.ref aw), (.long u)])) rfl rfl (hb hby d5_61) _ (XS.lcmp X1.here hx rfl (hb hby d5_62) rfl k)) ?_
    show oF p e below _ (T1.setTop (mkF m 63 #[rv a1, iv 4, jv u, .second, iv 0] [(.int (lcmpW u w0))]))
    by_cases hc3 : u = w0
    · skip
      refine og (fun t k => XS.ifNo X1.here hx rfl (hb hby d5_63) rfl ((if0 _ _).trans (teq ((lw_eq _ _).mpr hc3)).2) (XS.iload X1.here hx rfl (hb hby d5_66) rfl (XS.iconst X1.here hx rfl (hb hby d5_68) (XS.iadd X1.here hx rfl (hb hby d5_69) rfl (XS.goto X1.here hx rfl (pc0 := 70) (pc' := 75) rfl (hb hby d5_70) (by decide) (by decide) k))))) ?_
      show oF p e below _ (T1.setTop (mkF m 75 #[rv a1, iv 4, jv u, .second, iv 0] [(.int 1)]))
      exact oo X1 (fun h => by rw [Bd.returns] at h; cases h) Bd.notSynchronized (fun fs hr => retI X1 hx Bd.returns (hb hby d5_75) hr) ⟨(by simp [own_x0, own_x1, own_x2, own_x3, hc3]), N0, e1⟩ (by decide) (by decide)
    · skip
      refine og (fun t k => XS.ifYes X1.here hx rfl (pc0 := 63) (pc' := 73) rfl (hb hby d5_63) rfl ((if0 _ _).trans (feq (fun q => hc3 ((lw_eq _ _).mp q))).2) (by decide) (by decide) (XS.iload X1.here hx rfl (hb hby d5_73) rfl k)) ?_
      show oF p e below _ (T1.setTop (mkF m 75 #[rv a1, iv 4, jv u, .second, iv 0] [(.int 0)]))
      exact oo X1 (fun h => by rw [Bd.returns] at h; cases h) Bd.notSynchronized (fun fs hr => retI X1 hx Bd.returns (hb hby d5_75) hr) ⟨(by simp [own_x0, own_x1, own_x2, own_x3, hc3]), N0, e1⟩ (by decide) (by decide)
  have Jg1 : ∀ (TT : State) (XX : Stand p l e ({ frames := 0, cells := 0, slots := 0, locals := 0 } : Room) s m #[(.ref a1), (.int 4), (.long u)] below meth c TT [] 0 0) (ee : TT.heap = h0), oF p e below (own_A s ({ frames := 0, cells := 0, slots := 0, locals := 0 } : Room).cells ({ frames := 0, cells := 0, slots := 0, locals := 0 } : Room).slots (own_P h0 n0 (.int (own_x1 w0 w1 u)))) (TT.setTop (mkF m 23 #[rv a1, iv 4, jv u, .second, iv 1] [])) := by
    intro TT XX ee
    refine og (fun t k => XS.iload XX.here hx rfl (hb hby d5_23) rfl k) ?_
    show oF p e below _ (TT.setTop (mkF m 25 #[rv a1, iv 4, jv u, .second, iv 1] [(.int 1)]))
    refine og (fun t k => XS.ifNo XX.here hx rfl (hb hby d5_25) rfl ((if0 _ _).trans (tlt (by decide : (0 : Int32) < (1 : Int32))).2.2.2) (XS.lloadN XX.here hx rfl (hb hby d5_28) rfl (XS.aloadN XX.here hx rfl (hb hby d5_29) rfl rfl k))) ?_
    show oF p e below _ (TT.setTop (mkF m 30 #[rv a1, iv 4, jv u, .second, iv 1] [(.ref a1), (.long u)]))
    obtain ⟨T4, X4, e4, st4⟩ := getF XX hx hZ hown (host := "") (Or.inl hw_17) Via.refl ee F_w (g := (mkF m 30 #[rv a1, iv 4, jv u, .second, iv 1] [(.ref a1), (.long u)])) rfl rfl (hb hby d5_30)
    refine og st4 ?_
    show oF p e below _ (T4.setTop (mkF m 33 #[rv a1, iv 4, jv u, .second, iv 1] [(.ref aw), (.long u)]))
    refine og (fun t k => XS.iload X4.here hx rfl (hb hby d5_33) rfl k) ?_
    show oF p e below _ (T4.setTop (mkF m 35 #[rv a1, iv 4, jv u, .second, iv 1] [(.int 1), (.ref aw), (.long u)]))
    obtain ⟨cl5, Ar5, q5, S5, M5, H5, G5⟩ := (id V_w)
    have hin5 : ¬ ((1 : Int32) < 0 ∨ cl5.slots.size ≤ ((1 : Int32)).toNatClampNeg) := inb_of S5 ⟨by decide, by decide⟩
    have hat5 : cl5.slots[((1 : Int32)).toNatClampNeg]? = some (.long w1) := H5.at hin5 rfl
    refine og (fun t k => X4.laload hx (j := (1 : Int32)) (v := (.long w1)) (by rw [e4]; exact Ar5.1) (State.isArrayOf_alike hZ.alike Ar5.2.1) Ar5.2.2 hin5 hat5 (g := (mkF m 35 #[rv a1, iv 4, jv u, .second, iv 1] [(.int 1), (.ref aw), (.long u)])) rfl rfl (hb hby d5_35) _ (XS.lcmp X4.here hx rfl (hb hby d5_36) rfl k)) ?_
    show oF p e below _ (T4.setTop (mkF m 37 #[rv a1, iv 4, jv u, .second, iv 1] [(.int (lcmpW u w1))]))
    by_cases hc6 : u = w1
    · skip
      refine og (fun t k => XS.ifYes X4.here hx rfl (pc0 := 37) (pc' := 54) rfl (hb hby d5_37) rfl ((if0 _ _).trans (teq ((lw_eq _ _).mpr hc6)).1) (by decide) (by decide) (XS.lloadN X4.here hx rfl (hb hby d5_54) rfl (XS.aloadN X4.here hx rfl (hb hby d5_55) rfl rfl k))) ?_
      show oF p e below _ (T4.setTop (mkF m 56 #[rv a1, iv 4, jv u, .second, iv 1] [(.ref a1), (.long u)]))
      obtain ⟨T7, X7, e7, st7⟩ := getF X4 hx hZ hown (host := "") (Or.inl hw_17) Via.refl e4 F_w (g := (mkF m 56 #[rv a1, iv 4, jv u, .second, iv 1] [(.ref a1), (.long u)])) rfl rfl (hb hby d5_56)
      refine og st7 ?_
      show oF p e below _ (T7.setTop (mkF m 59 #[rv a1, iv 4, jv u, .second, iv 1] [(.ref aw), (.long u)]))
      refine og (fun t k => XS.iload X7.here hx rfl (hb hby d5_59) rfl k) ?_
      show oF p e below _ (T7.setTop (mkF m 61 #[rv a1, iv 4, jv u, .second, iv 1] [(.int 1), (.ref aw), (.long u)]))
      obtain ⟨cl8, Ar8, q8, S8, M8, H8, G8⟩ := (id V_w)
      have hin8 : ¬ ((1 : Int32) < 0 ∨ cl8.slots.size ≤ ((1 : Int32)).toNatClampNeg) := inb_of S8 ⟨by decide, by decide⟩
      have hat8 : cl8.slots[((1 : Int32)).toNatClampNeg]? = some (.long w1) := H8.at hin8 rfl
      refine og (fun t k => X7.laload hx (j := (1 : Int32)) (v := (.long w1)) (by rw [e7]; exact Ar8.1) (State.isArrayOf_alike hZ.alike Ar8.2.1) Ar8.2.2 hin8 hat8 (g := (mkF m 61 #[rv a1, iv 4, jv u, .second, iv 1] [(.int 1), (.ref aw), (.long u)])) rfl rfl (hb hby d5_61) _ (XS.lcmp X7.here hx rfl (hb hby d5_62) rfl k)) ?_
      show oF p e below _ (T7.setTop (mkF m 63 #[rv a1, iv 4, jv u, .second, iv 1] [(.int (lcmpW u w1))]))
      refine og (fun t k => XS.ifNo X7.here hx rfl (hb hby d5_63) rfl ((if0 _ _).trans (teq ((lw_eq _ _).mpr hc6)).2) (XS.iload X7.here hx rfl (hb hby d5_66) rfl (XS.iconst X7.here hx rfl (hb hby d5_68) (XS.iadd X7.here hx rfl (hb hby d5_69) rfl (XS.goto X7.here hx rfl (pc0 := 70) (pc' := 75) rfl (hb hby d5_70) (by decide) (by decide) k))))) ?_
      show oF p e below _ (T7.setTop (mkF m 75 #[rv a1, iv 4, jv u, .second, iv 1] [(.int 2)]))
      exact oo X7 (fun h => by rw [Bd.returns] at h; cases h) Bd.notSynchronized (fun fs hr => retI X7 hx Bd.returns (hb hby d5_75) hr) ⟨(by simp [own_x0, own_x1, own_x2, own_x3, hc6]), N0, e7⟩ (by decide) (by decide)
    · skip
      refine og (fun t k => XS.ifNo X4.here hx rfl (hb hby d5_37) rfl ((if0 _ _).trans (feq (fun q => hc6 ((lw_eq _ _).mp q))).1) (XS.aloadN X4.here hx rfl (hb hby d5_40) rfl rfl k)) ?_
      show oF p e below _ (T4.setTop (mkF m 41 #[rv a1, iv 4, jv u, .second, iv 1] [(.ref a1)]))
      obtain ⟨T9, X9, e9, st9⟩ := getF X4 hx hZ hown (host := "") (Or.inl hw_22) Via.refl e4 F_b (g := (mkF m 41 #[rv a1, iv 4, jv u, .second, iv 1] [(.ref a1)])) rfl rfl (hb hby d5_41)
      refine og st9 ?_
      show oF p e below _ (T9.setTop (mkF m 44 #[rv a1, iv 4, jv u, .second, iv 1] [(.ref ab)]))
      refine og (fun t k => XS.iload X9.here hx rfl (hb hby d5_44) rfl (XS.iconst X9.here hx rfl (hb hby d5_46) (XS.isub X9.here hx rfl (hb hby d5_47) rfl k))) ?_
      show oF p e below _ (T9.setTop (mkF m 48 #[rv a1, iv 4, jv u, .second, iv 1] [(.int 0), (.ref ab)]))
      obtain ⟨cl10, Ar10, q10, S10, M10, H10, G10⟩ := (id V_b)
      have hin10 : ¬ ((0 : Int32) < 0 ∨ cl10.slots.size ≤ ((0 : Int32)).toNatClampNeg) := inb_of S10 ⟨by decide, by decide⟩
      have hat10 : cl10.slots[((0 : Int32)).toNatClampNeg]? = some (.int B0) := H10.at hin10 rfl
      refine og (fun t k => X9.iaload hx (j := (0 : Int32)) (v := (.int B0)) (by rw [e9]; exact Ar10.1) (State.isArrayOf_alike hZ.alike Ar10.2.1) Ar10.2.2 hin10 hat10 (g := (mkF m 48 #[rv a1, iv 4, jv u, .second, iv 1] [(.int 0), (.ref ab)])) rfl rfl (hb hby d5_48) _ k) ?_
      show oF p e below _ (T9.setTop (mkF m 49 #[rv a1, iv 4, jv u, .second, iv 1] [(.int B0)]))
      have hv11 := hB0
      · skip
        rw [hv11]
        show oF p e below _ (T9.setTop (mkF m 49 #[rv a1, iv 4, jv u, .second, iv 1] [(.int 0)]))
        refine og (fun t k => XS.istore X9.here hx rfl (hb hby d5_49) rfl (l' := #[rv a1, iv 4, jv u, .second, iv 0]) rfl (XS.goto X9.here hx rfl (pc0 := 51) (pc' := 23) rfl (hb hby d5_51) (by decide) (by decide) k)) ?_
        rw [show (own_x1 w0 w1 u) = (own_x0 w0 u) from by simp [own_x0, own_x1, own_x2, own_x3, hc6, hv11]]
        exact Jg0 T9 X9 e9
  have Jg2 : ∀ (TT : State) (XX : Stand p l e ({ frames := 0, cells := 0, slots := 0, locals := 0 } : Room) s m #[(.ref a1), (.int 4), (.long u)] below meth c TT [] 0 0) (ee : TT.heap = h0), oF p e below (own_A s ({ frames := 0, cells := 0, slots := 0, locals := 0 } : Room).cells ({ frames := 0, cells := 0, slots := 0, locals := 0 } : Room).slots (own_P h0 n0 (.int (own_x2 w0 w1 w2 B1 u)))) (TT.setTop (mkF m 23 #[rv a1, iv 4, jv u, .second, iv 2] [])) := by
    intro TT XX ee
    refine og (fun t k => XS.iload XX.here hx rfl (hb hby d5_23) rfl k) ?_
    show oF p e below _ (TT.setTop (mkF m 25 #[rv a1, iv 4, jv u, .second, iv 2] [(.int 2)]))
    refine og (fun t k => XS.ifNo XX.here hx rfl (hb hby d5_25) rfl ((if0 _ _).trans (tlt (by decide : (0 : Int32) < (2 : Int32))).2.2.2) (XS.lloadN XX.here hx rfl (hb hby d5_28) rfl (XS.aloadN XX.here hx rfl (hb hby d5_29) rfl rfl k))) ?_
    show oF p e below _ (TT.setTop (mkF m 30 #[rv a1, iv 4, jv u, .second, iv 2] [(.ref a1), (.long u)]))
    obtain ⟨T12, X12, e12, st12⟩ := getF XX hx hZ hown (host := "") (Or.inl hw_17) Via.refl ee F_w (g := (mkF m 30 #[rv a1, iv 4, jv u, .second, iv 2] [(.ref a1), (.long u)])) rfl rfl (hb hby d5_30)
    refine og st12 ?_
    show oF p e below _ (T12.setTop (mkF m 33 #[rv a1, iv 4, jv u, .second, iv 2] [(.ref aw), (.long u)]))
    refine og (fun t k => XS.iload X12.here hx rfl (hb hby d5_33) rfl k) ?_
    show oF p e below _ (T12.setTop (mkF m 35 #[rv a1, iv 4, jv u, .second, iv 2] [(.int 2), (.ref aw), (.long u)]))
    obtain ⟨cl13, Ar13, q13, S13, M13, H13, G13⟩ := (id V_w)
    have hin13 : ¬ ((2 : Int32) < 0 ∨ cl13.slots.size ≤ ((2 : Int32)).toNatClampNeg) := inb_of S13 ⟨by decide, by decide⟩
    have hat13 : cl13.slots[((2 : Int32)).toNatClampNeg]? = some (.long w2) := H13.at hin13 rfl
    refine og (fun t k => X12.laload hx (j := (2 : Int32)) (v := (.long w2)) (by rw [e12]; exact Ar13.1) (State.isArrayOf_alike hZ.alike Ar13.2.1) Ar13.2.2 hin13 hat13 (g := (mkF m 35 #[rv a1, iv 4, jv u, .second, iv 2] [(.int 2), (.ref aw), (.long u)])) rfl rfl (hb hby d5_35) _ (XS.lcmp X12.here hx rfl (hb hby d5_36) rfl k)) ?_
    show oF p e below _ (T12.setTop (mkF m 37 #[rv a1, iv 4, jv u, .second, iv 2] [(.int (lcmpW u w2))]))
    by_cases hc14 : u = w2
    · skip
      refine og (fun t k => XS.ifYes X12.here hx rfl (pc0 := 37) (pc' := 54) rfl (hb hby d5_37) rfl ((if0 _ _).trans (teq ((lw_eq _ _).mpr hc14)).1) (by decide) (by decide) (XS.lloadN X12.here hx rfl (hb hby d5_54) rfl (XS.aloadN X12.here hx rfl (hb hby d5_55) rfl rfl k))) ?_
      show oF p e below _ (T12.setTop (mkF m 56 #[rv a1, iv 4, jv u, .second, iv 2] [(.ref a1), (.long u)]))
      obtain ⟨T15, X15, e15, st15⟩ := getF X12 hx hZ hown (host := "") (Or.inl hw_17) Via.refl e12 F_w (g := (mkF m 56 #[rv a1, iv 4, jv u, .second, iv 2] [(.ref a1), (.long u)])) rfl rfl (hb hby d5_56)
      refine og st15 ?_
      show oF p e below _ (T15.setTop (mkF m 59 #[rv a1, iv 4, jv u, .second, iv 2] [(.ref aw), (.long u)]))
      refine og (fun t k => XS.iload X15.here hx rfl (hb hby d5_59) rfl k) ?_
      show oF p e below _ (T15.setTop (mkF m 61 #[rv a1, iv 4, jv u, .second, iv 2] [(.int 2), (.ref aw), (.long u)]))
      obtain ⟨cl16, Ar16, q16, S16, M16, H16, G16⟩ := (id V_w)
      have hin16 : ¬ ((2 : Int32) < 0 ∨ cl16.slots.size ≤ ((2 : Int32)).toNatClampNeg) := inb_of S16 ⟨by decide, by decide⟩
      have hat16 : cl16.slots[((2 : Int32)).toNatClampNeg]? = some (.long w2) := H16.at hin16 rfl
      refine og (fun t k => X15.laload hx (j := (2 : Int32)) (v := (.long w2)) (by rw [e15]; exact Ar16.1) (State.isArrayOf_alike hZ.alike Ar16.2.1) Ar16.2.2 hin16 hat16 (g := (mkF m 61 #[rv a1, iv 4, jv u, .second, iv 2] [(.int 2), (.ref aw), (.long u)])) rfl rfl (hb hby d5_61) _ (XS.lcmp X15.here hx rfl (hb hby d5_62) rfl k)) ?_
      show oF p e below _ (T15.setTop (mkF m 63 #[rv a1, iv 4, jv u, .second, iv 2] [(.int (lcmpW u w2))]))
      refine og (fun t k => XS.ifNo X15.here hx rfl (hb hby d5_63) rfl ((if0 _ _).trans (teq ((lw_eq _ _).mpr hc14)).2) (XS.iload X15.here hx rfl (hb hby d5_66) rfl (XS.iconst X15.here hx rfl (hb hby d5_68) (XS.iadd X15.here hx rfl (hb hby d5_69) rfl (XS.goto X15.here hx rfl (pc0 := 70) (pc' := 75) rfl (hb hby d5_70) (by decide) (by decide) k))))) ?_
      show oF p e below _ (T15.setTop (mkF m 75 #[rv a1, iv 4, jv u, .second, iv 2] [(.int 3)]))
      exact oo X15 (fun h => by rw [Bd.returns] at h; cases h) Bd.notSynchronized (fun fs hr => retI X15 hx Bd.returns (hb hby d5_75) hr) ⟨(by simp [own_x0, own_x1, own_x2, own_x3, hc14]), N0, e15⟩ (by decide) (by decide)
    · skip
      refine og (fun t k => XS.ifNo X12.here hx rfl (hb hby d5_37) rfl ((if0 _ _).trans (feq (fun q => hc14 ((lw_eq _ _).mp q))).1) (XS.aloadN X12.here hx rfl (hb hby d5_40) rfl rfl k)) ?_
      show oF p e below _ (T12.setTop (mkF m 41 #[rv a1, iv 4, jv u, .second, iv 2] [(.ref a1)]))
      obtain ⟨T17, X17, e17, st17⟩ := getF X12 hx hZ hown (host := "") (Or.inl hw_22) Via.refl e12 F_b (g := (mkF m 41 #[rv a1, iv 4, jv u, .second, iv 2] [(.ref a1)])) rfl rfl (hb hby d5_41)
      refine og st17 ?_
      show oF p e below _ (T17.setTop (mkF m 44 #[rv a1, iv 4, jv u, .second, iv 2] [(.ref ab)]))
      refine og (fun t k => XS.iload X17.here hx rfl (hb hby d5_44) rfl (XS.iconst X17.here hx rfl (hb hby d5_46) (XS.isub X17.here hx rfl (hb hby d5_47) rfl k))) ?_
      show oF p e below _ (T17.setTop (mkF m 48 #[rv a1, iv 4, jv u, .second, iv 2] [(.int 1), (.ref ab)]))
      obtain ⟨cl18, Ar18, q18, S18, M18, H18, G18⟩ := (id V_b)
      have hin18 : ¬ ((1 : Int32) < 0 ∨ cl18.slots.size ≤ ((1 : Int32)).toNatClampNeg) := inb_of S18 ⟨by decide, by decide⟩
      have hat18 : cl18.slots[((1 : Int32)).toNatClampNeg]? = some (.int B1) := H18.at hin18 rfl
      refine og (fun t k => X17.iaload hx (j := (1 : Int32)) (v := (.int B1)) (by rw [e17]; exact Ar18.1) (State.isArrayOf_alike hZ.alike Ar18.2.1) Ar18.2.2 hin18 hat18 (g := (mkF m 48 #[rv a1, iv 4, jv u, .second, iv 2] [(.int 1), (.ref ab)])) rfl rfl (hb hby d5_48) _ k) ?_
      show oF p e below _ (T17.setTop (mkF m 49 #[rv a1, iv 4, jv u, .second, iv 2] [(.int B1)]))
      rcases hB1 with hv19 | hv20
      · skip
        rw [hv19]
        show oF p e below _ (T17.setTop (mkF m 49 #[rv a1, iv 4, jv u, .second, iv 2] [(.int 0)]))
        refine og (fun t k => XS.istore X17.here hx rfl (hb hby d5_49) rfl (l' := #[rv a1, iv 4, jv u, .second, iv 0]) rfl (XS.goto X17.here hx rfl (pc0 := 51) (pc' := 23) rfl (hb hby d5_51) (by decide) (by decide) k)) ?_
        rw [show (own_x2 w0 w1 w2 (0 : Int32) u) = (own_x0 w0 u) from by simp [own_x0, own_x1, own_x2, own_x3, hc14, hv19]]
        exact Jg0 T17 X17 e17
      · skip
        rw [hv20]
        show oF p e below _ (T17.setTop (mkF m 49 #[rv a1, iv 4, jv u, .second, iv 2] [(.int 1)]))
        refine og (fun t k => XS.istore X17.here hx rfl (hb hby d5_49) rfl (l' := #[rv a1, iv 4, jv u, .second, iv 1]) rfl (XS.goto X17.here hx rfl (pc0 := 51) (pc' := 23) rfl (hb hby d5_51) (by decide) (by decide) k)) ?_
        rw [show (own_x2 w0 w1 w2 (1 : Int32) u) = (own_x1 w0 w1 u) from by simp [own_x0, own_x1, own_x2, own_x3, hc14, hv20]]
        exact Jg1 T17 X17 e17
  have Jg3 : ∀ (TT : State) (XX : Stand p l e ({ frames := 0, cells := 0, slots := 0, locals := 0 } : Room) s m #[(.ref a1), (.int 4), (.long u)] below meth c TT [] 0 0) (ee : TT.heap = h0), oF p e below (own_A s ({ frames := 0, cells := 0, slots := 0, locals := 0 } : Room).cells ({ frames := 0, cells := 0, slots := 0, locals := 0 } : Room).slots (own_P h0 n0 (.int (own_x3 w0 w1 w2 w3 B1 B2 u)))) (TT.setTop (mkF m 23 #[rv a1, iv 4, jv u, .second, iv 3] [])) := by
    intro TT XX ee
    refine og (fun t k => XS.iload XX.here hx rfl (hb hby d5_23) rfl k) ?_
    show oF p e below _ (TT.setTop (mkF m 25 #[rv a1, iv 4, jv u, .second, iv 3] [(.int 3)]))
    refine og (fun t k => XS.ifNo XX.here hx rfl (hb hby d5_25) rfl ((if0 _ _).trans (tlt (by decide : (0 : Int32) < (3 : Int32))).2.2.2) (XS.lloadN XX.here hx rfl (hb hby d5_28) rfl (XS.aloadN XX.here hx rfl (hb hby d5_29) rfl rfl k))) ?_
    show oF p e below _ (TT.setTop (mkF m 30 #[rv a1, iv 4, jv u, .second, iv 3] [(.ref a1), (.long u)]))
    obtain ⟨T21, X21, e21, st21⟩ := getF XX hx hZ hown (host := "") (Or.inl hw_17) Via.refl ee F_w (g := (mkF m 30 #[rv a1, iv 4, jv u, .second, iv 3] [(.ref a1), (.long u)])) rfl rfl (hb hby d5_30)
    refine og st21 ?_
    show oF p e below _ (T21.setTop (mkF m 33 #[rv a1, iv 4, jv u, .second, iv 3] [(.ref aw), (.long u)]))
    refine og (fun t k => XS.iload X21.here hx rfl (hb hby d5_33) rfl k) ?_
    show oF p e below _ (T21.setTop (mkF m 35 #[rv a1, iv 4, jv u, .second, iv 3] [(.int 3), (.ref aw), (.long u)]))
    obtain ⟨cl22, Ar22, q22, S22, M22, H22, G22⟩ := (id V_w)
    have hin22 : ¬ ((3 : Int32) < 0 ∨ cl22.slots.size ≤ ((3 : Int32)).toNatClampNeg) := inb_of S22 ⟨by decide, by decide⟩
    have hat22 : cl22.slots[((3 : Int32)).toNatClampNeg]? = some (.long w3) := H22.at hin22 rfl
    refine og (fun t k => X21.laload hx (j := (3 : Int32)) (v := (.long w3)) (by rw [e21]; exact Ar22.1) (State.isArrayOf_alike hZ.alike Ar22.2.1) Ar22.2.2 hin22 hat22 (g := (mkF m 35 #[rv a1, iv 4, jv u, .second, iv 3] [(.int 3), (.ref aw), (.long u)])) rfl rfl (hb hby d5_35) _ (XS.lcmp X21.here hx rfl (hb hby d5_36) rfl k)) ?_
    show oF p e below _ (T21.setTop (mkF m 37 #[rv a1, iv 4, jv u, .second, iv 3] [(.int (lcmpW u w3))]))
    by_cases hc23 : u = w3
    · skip
      refine og (fun t k => XS.ifYes X21.here hx rfl (pc0 := 37) (pc' := 54) rfl (hb hby d5_37) rfl ((if0 _ _).trans (teq ((lw_eq _ _).mpr hc23)).1) (by decide) (by decide) (XS.lloadN X21.here hx rfl (hb hby d5_54) rfl (XS.aloadN X21.here hx rfl (hb hby d5_55) rfl rfl k))) ?_
      show oF p e below _ (T21.setTop (mkF m 56 #[rv a1, iv 4, jv u, .second, iv 3] [(.ref a1), (.long u)]))
      obtain ⟨T24, X24, e24, st24⟩ := getF X21 hx hZ hown (host := "") (Or.inl hw_17) Via.refl e21 F_w (g := (mkF m 56 #[rv a1, iv 4, jv u, .second, iv 3] [(.ref a1), (.long u)])) rfl rfl (hb hby d5_56)
      refine og st24 ?_
      show oF p e below _ (T24.setTop (mkF m 59 #[rv a1, iv 4, jv u, .second, iv 3] [(.ref aw), (.long u)]))
      refine og (fun t k => XS.iload X24.here hx rfl (hb hby d5_59) rfl k) ?_
      show oF p e below _ (T24.setTop (mkF m 61 #[rv a1, iv 4, jv u, .second, iv 3] [(.int 3), (.ref aw), (.long u)]))
      obtain ⟨cl25, Ar25, q25, S25, M25, H25, G25⟩ := (id V_w)
      have hin25 : ¬ ((3 : Int32) < 0 ∨ cl25.slots.size ≤ ((3 : Int32)).toNatClampNeg) := inb_of S25 ⟨by decide, by decide⟩
      have hat25 : cl25.slots[((3 : Int32)).toNatClampNeg]? = some (.long w3) := H25.at hin25 rfl
      refine og (fun t k => X24.laload hx (j := (3 : Int32)) (v := (.long w3)) (by rw [e24]; exact Ar25.1) (State.isArrayOf_alike hZ.alike Ar25.2.1) Ar25.2.2 hin25 hat25 (g := (mkF m 61 #[rv a1, iv 4, jv u, .second, iv 3] [(.int 3), (.ref aw), (.long u)])) rfl rfl (hb hby d5_61) _ (XS.lcmp X24.here hx rfl (hb hby d5_62) rfl k)) ?_
      show oF p e below _ (T24.setTop (mkF m 63 #[rv a1, iv 4, jv u, .second, iv 3] [(.int (lcmpW u w3))]))
      refine og (fun t k => XS.ifNo X24.here hx rfl (hb hby d5_63) rfl ((if0 _ _).trans (teq ((lw_eq _ _).mpr hc23)).2) (XS.iload X24.here hx rfl (hb hby d5_66) rfl (XS.iconst X24.here hx rfl (hb hby d5_68) (XS.iadd X24.here hx rfl (hb hby d5_69) rfl (XS.goto X24.here hx rfl (pc0 := 70) (pc' := 75) rfl (hb hby d5_70) (by decide) (by decide) k))))) ?_
      show oF p e below _ (T24.setTop (mkF m 75 #[rv a1, iv 4, jv u, .second, iv 3] [(.int 4)]))
      exact oo X24 (fun h => by rw [Bd.returns] at h; cases h) Bd.notSynchronized (fun fs hr => retI X24 hx Bd.returns (hb hby d5_75) hr) ⟨(by simp [own_x0, own_x1, own_x2, own_x3, hc23]), N0, e24⟩ (by decide) (by decide)
    · skip
      refine og (fun t k => XS.ifNo X21.here hx rfl (hb hby d5_37) rfl ((if0 _ _).trans (feq (fun q => hc23 ((lw_eq _ _).mp q))).1) (XS.aloadN X21.here hx rfl (hb hby d5_40) rfl rfl k)) ?_
      show oF p e below _ (T21.setTop (mkF m 41 #[rv a1, iv 4, jv u, .second, iv 3] [(.ref a1)]))
      obtain ⟨T26, X26, e26, st26⟩ := getF X21 hx hZ hown (host := "") (Or.inl hw_22) Via.refl e21 F_b (g := (mkF m 41 #[rv a1, iv 4, jv u, .second, iv 3] [(.ref a1)])) rfl rfl (hb hby d5_41)
      refine og st26 ?_
      show oF p e below _ (T26.setTop (mkF m 44 #[rv a1, iv 4, jv u, .second, iv 3] [(.ref ab)]))
      refine og (fun t k => XS.iload X26.here hx rfl (hb hby d5_44) rfl (XS.iconst X26.here hx rfl (hb hby d5_46) (XS.isub X26.here hx rfl (hb hby d5_47) rfl k))) ?_
      show oF p e below _ (T26.setTop (mkF m 48 #[rv a1, iv 4, jv u, .second, iv 3] [(.int 2), (.ref ab)]))
      obtain ⟨cl27, Ar27, q27, S27, M27, H27, G27⟩ := (id V_b)
      have hin27 : ¬ ((2 : Int32) < 0 ∨ cl27.slots.size ≤ ((2 : Int32)).toNatClampNeg) := inb_of S27 ⟨by decide, by decide⟩
      have hat27 : cl27.slots[((2 : Int32)).toNatClampNeg]? = some (.int B2) := H27.at hin27 rfl
      refine og (fun t k => X26.iaload hx (j := (2 : Int32)) (v := (.int B2)) (by rw [e26]; exact Ar27.1) (State.isArrayOf_alike hZ.alike Ar27.2.1) Ar27.2.2 hin27 hat27 (g := (mkF m 48 #[rv a1, iv 4, jv u, .second, iv 3] [(.int 2), (.ref ab)])) rfl rfl (hb hby d5_48) _ k) ?_
      show oF p e below _ (T26.setTop (mkF m 49 #[rv a1, iv 4, jv u, .second, iv 3] [(.int B2)]))
      rcases hB2 with hv28 | hv29 | hv30
      · skip
        rw [hv28]
        show oF p e below _ (T26.setTop (mkF m 49 #[rv a1, iv 4, jv u, .second, iv 3] [(.int 0)]))
        refine og (fun t k => XS.istore X26.here hx rfl (hb hby d5_49) rfl (l' := #[rv a1, iv 4, jv u, .second, iv 0]) rfl (XS.goto X26.here hx rfl (pc0 := 51) (pc' := 23) rfl (hb hby d5_51) (by decide) (by decide) k)) ?_
        rw [show (own_x3 w0 w1 w2 w3 B1 (0 : Int32) u) = (own_x0 w0 u) from by simp [own_x0, own_x1, own_x2, own_x3, hc23, hv28]]
        exact Jg0 T26 X26 e26
      · skip
        rw [hv29]
        show oF p e below _ (T26.setTop (mkF m 49 #[rv a1, iv 4, jv u, .second, iv 3] [(.int 1)]))
        refine og (fun t k => XS.istore X26.here hx rfl (hb hby d5_49) rfl (l' := #[rv a1, iv 4, jv u, .second, iv 1]) rfl (XS.goto X26.here hx rfl (pc0 := 51) (pc' := 23) rfl (hb hby d5_51) (by decide) (by decide) k)) ?_
        rw [show (own_x3 w0 w1 w2 w3 B1 (1 : Int32) u) = (own_x1 w0 w1 u) from by simp [own_x0, own_x1, own_x2, own_x3, hc23, hv29]]
        exact Jg1 T26 X26 e26
      · skip
        rw [hv30]
        show oF p e below _ (T26.setTop (mkF m 49 #[rv a1, iv 4, jv u, .second, iv 3] [(.int 2)]))
        refine og (fun t k => XS.istore X26.here hx rfl (hb hby d5_49) rfl (l' := #[rv a1, iv 4, jv u, .second, iv 2]) rfl (XS.goto X26.here hx rfl (pc0 := 51) (pc' := 23) rfl (hb hby d5_51) (by decide) (by decide) k)) ?_
        rw [show (own_x3 w0 w1 w2 w3 B1 (2 : Int32) u) = (own_x2 w0 w1 w2 B1 u) from by simp [own_x0, own_x1, own_x2, own_x3, hc23, hv30]]
        exact Jg2 T26 X26 e26
  refine og (fun t k => XS.iloadN X0.here hx rfl (hb hby d5_0) rfl (XS.aloadN X0.here hx rfl (hb hby d5_1) rfl rfl k)) ?_
  show oF p e below _ (s₁.setTop (mkF m 2 #[rv a1, iv 4, jv u, .second, .unset] [(.ref a1), (.int 4)]))
  obtain ⟨T31, X31, e31, st31⟩ := getF X0 hx hZ hown (host := "") (Or.inl hw_17) Via.refl e0 F_w (g := (mkF m 2 #[rv a1, iv 4, jv u, .second, .unset] [(.ref a1), (.int 4)])) rfl rfl (hb hby d5_2)
  refine og st31 ?_
  show oF p e below _ (T31.setTop (mkF m 5 #[rv a1, iv 4, jv u, .second, .unset] [(.ref aw), (.int 4)]))
  obtain ⟨cl32, Ar32, q32, S32, M32, H32, G32⟩ := (id V_w)
  refine og (fun t k => X31.arraylength hx (by rw [e31]; exact Ar32.1) (State.isArrayOf_alike hZ.alike Ar32.2.1) (g := (mkF m 5 #[rv a1, iv 4, jv u, .second, .unset] [(.ref aw), (.int 4)])) rfl rfl (hb hby d5_5) _ k) ?_
  rw [len_of S32 M32]
  show oF p e below _ (T31.setTop (mkF m 6 #[rv a1, iv 4, jv u, .second, .unset] [(.int 4), (.int 4)]))
  refine og (fun t k => XS.icmpNo X31.here hx rfl (hb hby d5_6) rfl (teq (by decide : (4 : Int32) = (4 : Int32))).2 (XS.aloadN X31.here hx rfl (hb hby d5_9) rfl rfl k)) ?_
  show oF p e below _ (T31.setTop (mkF m 10 #[rv a1, iv 4, jv u, .second, .unset] [(.ref a1)]))
  obtain ⟨T33, X33, e33, st33⟩ := getF X31 hx hZ hown (host := "") (Or.inl hw_22) Via.refl e31 F_b (g := (mkF m 10 #[rv a1, iv 4, jv u, .second, .unset] [(.ref a1)])) rfl rfl (hb hby d5_10)
  refine og st33 ?_
  show oF p e below _ (T33.setTop (mkF m 13 #[rv a1, iv 4, jv u, .second, .unset] [(.ref ab)]))
  refine og (fun t k => XS.iloadN X33.here hx rfl (hb hby d5_13) rfl (XS.iconst X33.here hx rfl (hb hby d5_14) (XS.isub X33.here hx rfl (hb hby d5_15) rfl k))) ?_
  show oF p e below _ (T33.setTop (mkF m 16 #[rv a1, iv 4, jv u, .second, .unset] [(.int 3), (.ref ab)]))
  obtain ⟨cl34, Ar34, q34, S34, M34, H34, G34⟩ := (id V_b)
  have hin34 : ¬ ((3 : Int32) < 0 ∨ cl34.slots.size ≤ ((3 : Int32)).toNatClampNeg) := inb_of S34 ⟨by decide, by decide⟩
  have hat34 : cl34.slots[((3 : Int32)).toNatClampNeg]? = some (.int B3) := H34.at hin34 rfl
  refine og (fun t k => X33.iaload hx (j := (3 : Int32)) (v := (.int B3)) (by rw [e33]; exact Ar34.1) (State.isArrayOf_alike hZ.alike Ar34.2.1) Ar34.2.2 hin34 hat34 (g := (mkF m 16 #[rv a1, iv 4, jv u, .second, .unset] [(.int 3), (.ref ab)])) rfl rfl (hb hby d5_16) _ (XS.goto X33.here hx rfl (pc0 := 17) (pc' := 21) rfl (hb hby d5_17) (by decide) (by decide) k)) ?_
  show oF p e below _ (T33.setTop (mkF m 21 #[rv a1, iv 4, jv u, .second, .unset] [(.int B3)]))
  rcases hB3 with hv35 | hv36 | hv37 | hv38
  · skip
    rw [hv35]
    show oF p e below _ (T33.setTop (mkF m 21 #[rv a1, iv 4, jv u, .second, .unset] [(.int 0)]))
    refine og (fun t k => XS.istore X33.here hx rfl (hb hby d5_21) rfl (l' := #[rv a1, iv 4, jv u, .second, iv 0]) rfl k) ?_
    rw [show (if (0 : Int32) = (0 : Int32) then (own_x0 w0 u) else (if (0 : Int32) = (1 : Int32) then (own_x1 w0 w1 u) else (if (0 : Int32) = (2 : Int32) then (own_x2 w0 w1 w2 B1 u) else (own_x3 w0 w1 w2 w3 B1 B2 u)))) = (own_x0 w0 u) from by simp [own_x0, own_x1, own_x2, own_x3, hv35]]
    exact Jg0 T33 X33 e33
  · skip
    rw [hv36]
    show oF p e below _ (T33.setTop (mkF m 21 #[rv a1, iv 4, jv u, .second, .unset] [(.int 1)]))
    refine og (fun t k => XS.istore X33.here hx rfl (hb hby d5_21) rfl (l' := #[rv a1, iv 4, jv u, .second, iv 1]) rfl k) ?_
    rw [show (if (1 : Int32) = (0 : Int32) then (own_x0 w0 u) else (if (1 : Int32) = (1 : Int32) then (own_x1 w0 w1 u) else (if (1 : Int32) = (2 : Int32) then (own_x2 w0 w1 w2 B1 u) else (own_x3 w0 w1 w2 w3 B1 B2 u)))) = (own_x1 w0 w1 u) from by simp [own_x0, own_x1, own_x2, own_x3, hv36]]
    exact Jg1 T33 X33 e33
  · skip
    rw [hv37]
    show oF p e below _ (T33.setTop (mkF m 21 #[rv a1, iv 4, jv u, .second, .unset] [(.int 2)]))
    refine og (fun t k => XS.istore X33.here hx rfl (hb hby d5_21) rfl (l' := #[rv a1, iv 4, jv u, .second, iv 2]) rfl k) ?_
    rw [show (if (2 : Int32) = (0 : Int32) then (own_x0 w0 u) else (if (2 : Int32) = (1 : Int32) then (own_x1 w0 w1 u) else (if (2 : Int32) = (2 : Int32) then (own_x2 w0 w1 w2 B1 u) else (own_x3 w0 w1 w2 w3 B1 B2 u)))) = (own_x2 w0 w1 w2 B1 u) from by simp [own_x0, own_x1, own_x2, own_x3, hv37]]
    exact Jg2 T33 X33 e33
  · skip
    rw [hv38]
    show oF p e below _ (T33.setTop (mkF m 21 #[rv a1, iv 4, jv u, .second, .unset] [(.int 3)]))
    refine og (fun t k => XS.istore X33.here hx rfl (hb hby d5_21) rfl (l' := #[rv a1, iv 4, jv u, .second, iv 3]) rfl k) ?_
    rw [show (if (3 : Int32) = (0 : Int32) then (own_x0 w0 u) else (if (3 : Int32) = (1 : Int32) then (own_x1 w0 w1 u) else (if (3 : Int32) = (2 : Int32) then (own_x2 w0 w1 w2 B1 u) else (own_x3 w0 w1 w2 w3 B1 B2 u)))) = (own_x3 w0 w1 w2 w3 B1 B2 u) from by simp [own_x0, own_x1, own_x2, own_x3, hv38]]
    exact Jg3 T33 X33 e33
def own_g1 (p2 : Int32) (w0 : Int64) (B0 : Int32) (u : Int64) : Int32 := if p2 = (0 : Int32) then (own_x0 w0 u) else (own_x0 w0 u)
set_option maxRecDepth 65536 in
theorem rm5u1 (l : Launch) (Z : State) (a0 : Array Value) (hw : ∀ d ∈ tables_1, d.before a0 Z = true) (ws : List Jvm.Cond) (a1 : Addr) (p2 : Int32) (u : Int64) (aw ab : Addr) (kw kb : ClassId) (w0 : Int64) (B0 : Int32) (h0 : Heap) (n0 : Nat) (Z0 : n0 ≤ h0.size) (F_w : Fld Z h0 a1 "com/example/sound_verdict/soundverdict/UnitSearch" "wanted" "[J" (.ref aw)) (F_b : Fld Z h0 a1 "com/example/sound_verdict/soundverdict/UnitSearch" "border" "[I" (.ref ab)) (V_w : Arv Z h0 aw kw .long (1 : Int32) [(.long w0)] (.long (0 : Int64))) (V_b : Arv Z h0 ab kb .int (1 : Int32) [(.int B0)] (.int (0 : Int32))) (hB0 : B0 = (0 : Int32)) (hM : p2 = (0 : Int32) ∨ p2 = (1 : Int32)) :
    MetFree l (⟨"com/example/sound_verdict/soundverdict/UnitSearch", "next", "(IJ)I"⟩ : MethodName) (head1 (Jvm.Cond.code (⟨"com/example/sound_verdict/soundverdict/UnitSearch", "next", "(IJ)I"⟩ : MethodName) prog_199_method_6_code 5 (some .int) :: ws) ({ frames := 0, cells := 0, slots := 0, locals := 0 } : Room)) (fun a U => a = #[(.ref a1), (.int p2), (.long u)] ∧ Z.Warmed39 U.vm ∧ U.heap = h0) (fun _ _ _ _ _ => True) (fun _ U o U' => ∃ v L, o = .returned v ∧ (own_P h0 n0 (.int (own_g1 p2 w0 B0 u))) v U'.heap L ∧ FrameEnd U o U' L ({ frames := 0, cells := 0, slots := 0, locals := 0 } : Room).cells ({ frames := 0, cells := 0, slots := 0, locals := 0 } : Room).slots) := by
  rcases hM with rfl | rfl
  · exact rm5n1m0 l Z a0 hw ws a1 u aw ab kw kb w0 B0 h0 n0 Z0 F_w F_b V_w V_b hB0
  · exact rm5n1m1 l Z a0 hw ws a1 u aw ab kw kb w0 B0 h0 n0 Z0 F_w F_b V_w V_b hB0
def own_g2 (p2 : Int32) (w0 w1 : Int64) (B0 B1 : Int32) (u : Int64) : Int32 := if p2 = (0 : Int32) then (own_x0 w0 u) else if p2 = (1 : Int32) then (own_x1 w0 w1 u) else (if B1 = (0 : Int32) then (own_x0 w0 u) else (own_x1 w0 w1 u))
set_option maxRecDepth 65536 in
theorem rm5u2 (l : Launch) (Z : State) (a0 : Array Value) (hw : ∀ d ∈ tables_1, d.before a0 Z = true) (ws : List Jvm.Cond) (a1 : Addr) (p2 : Int32) (u : Int64) (aw ab : Addr) (kw kb : ClassId) (w0 w1 : Int64) (B0 B1 : Int32) (h0 : Heap) (n0 : Nat) (Z0 : n0 ≤ h0.size) (F_w : Fld Z h0 a1 "com/example/sound_verdict/soundverdict/UnitSearch" "wanted" "[J" (.ref aw)) (F_b : Fld Z h0 a1 "com/example/sound_verdict/soundverdict/UnitSearch" "border" "[I" (.ref ab)) (V_w : Arv Z h0 aw kw .long (2 : Int32) [(.long w0), (.long w1)] (.long (0 : Int64))) (V_b : Arv Z h0 ab kb .int (2 : Int32) [(.int B0), (.int B1)] (.int (0 : Int32))) (hB0 : B0 = (0 : Int32)) (hB1 : B1 = (0 : Int32) ∨ B1 = (1 : Int32)) (hM : p2 = (0 : Int32) ∨ p2 = (1 : Int32) ∨ p2 = (2 : Int32)) :
    MetFree l (⟨"com/example/sound_verdict/soundverdict/UnitSearch", "next", "(IJ)I"⟩ : MethodName) (head1 (Jvm.Cond.code (⟨"com/example/sound_verdict/soundverdict/UnitSearch", "next", "(IJ)I"⟩ : MethodName) prog_199_method_6_code 5 (some .int) :: ws) ({ frames := 0, cells := 0, slots := 0, locals := 0 } : Room)) (fun a U => a = #[(.ref a1), (.int p2), (.long u)] ∧ Z.Warmed39 U.vm ∧ U.heap = h0) (fun _ _ _ _ _ => True) (fun _ U o U' => ∃ v L, o = .returned v ∧ (own_P h0 n0 (.int (own_g2 p2 w0 w1 B0 B1 u))) v U'.heap L ∧ FrameEnd U o U' L ({ frames := 0, cells := 0, slots := 0, locals := 0 } : Room).cells ({ frames := 0, cells := 0, slots := 0, locals := 0 } : Room).slots) := by
  rcases hM with rfl | rfl | rfl
  · exact rm5n2m0 l Z a0 hw ws a1 u aw ab kw kb w0 w1 B0 B1 h0 n0 Z0 F_w F_b V_w V_b hB0 hB1
  · exact rm5n2m1 l Z a0 hw ws a1 u aw ab kw kb w0 w1 B0 B1 h0 n0 Z0 F_w F_b V_w V_b hB0 hB1
  · exact rm5n2m2 l Z a0 hw ws a1 u aw ab kw kb w0 w1 B0 B1 h0 n0 Z0 F_w F_b V_w V_b hB0 hB1
def own_g3 (p2 : Int32) (w0 w1 w2 : Int64) (B0 B1 B2 : Int32) (u : Int64) : Int32 := if p2 = (0 : Int32) then (own_x0 w0 u) else if p2 = (1 : Int32) then (own_x1 w0 w1 u) else if p2 = (2 : Int32) then (own_x2 w0 w1 w2 B1 u) else (if B2 = (0 : Int32) then (own_x0 w0 u) else (if B2 = (1 : Int32) then (own_x1 w0 w1 u) else (own_x2 w0 w1 w2 B1 u)))
set_option maxRecDepth 65536 in
theorem rm5u3 (l : Launch) (Z : State) (a0 : Array Value) (hw : ∀ d ∈ tables_1, d.before a0 Z = true) (ws : List Jvm.Cond) (a1 : Addr) (p2 : Int32) (u : Int64) (aw ab : Addr) (kw kb : ClassId) (w0 w1 w2 : Int64) (B0 B1 B2 : Int32) (h0 : Heap) (n0 : Nat) (Z0 : n0 ≤ h0.size) (F_w : Fld Z h0 a1 "com/example/sound_verdict/soundverdict/UnitSearch" "wanted" "[J" (.ref aw)) (F_b : Fld Z h0 a1 "com/example/sound_verdict/soundverdict/UnitSearch" "border" "[I" (.ref ab)) (V_w : Arv Z h0 aw kw .long (3 : Int32) [(.long w0), (.long w1), (.long w2)] (.long (0 : Int64))) (V_b : Arv Z h0 ab kb .int (3 : Int32) [(.int B0), (.int B1), (.int B2)] (.int (0 : Int32))) (hB0 : B0 = (0 : Int32)) (hB1 : B1 = (0 : Int32) ∨ B1 = (1 : Int32)) (hB2 : B2 = (0 : Int32) ∨ B2 = (1 : Int32) ∨ B2 = (2 : Int32)) (hM : p2 = (0 : Int32) ∨ p2 = (1 : Int32) ∨ p2 = (2 : Int32) ∨ p2 = (3 : Int32)) :
    MetFree l (⟨"com/example/sound_verdict/soundverdict/UnitSearch", "next", "(IJ)I"⟩ : MethodName) (head1 (Jvm.Cond.code (⟨"com/example/sound_verdict/soundverdict/UnitSearch", "next", "(IJ)I"⟩ : MethodName) prog_199_method_6_code 5 (some .int) :: ws) ({ frames := 0, cells := 0, slots := 0, locals := 0 } : Room)) (fun a U => a = #[(.ref a1), (.int p2), (.long u)] ∧ Z.Warmed39 U.vm ∧ U.heap = h0) (fun _ _ _ _ _ => True) (fun _ U o U' => ∃ v L, o = .returned v ∧ (own_P h0 n0 (.int (own_g3 p2 w0 w1 w2 B0 B1 B2 u))) v U'.heap L ∧ FrameEnd U o U' L ({ frames := 0, cells := 0, slots := 0, locals := 0 } : Room).cells ({ frames := 0, cells := 0, slots := 0, locals := 0 } : Room).slots) := by
  rcases hM with rfl | rfl | rfl | rfl
  · exact rm5n3m0 l Z a0 hw ws a1 u aw ab kw kb w0 w1 w2 B0 B1 B2 h0 n0 Z0 F_w F_b V_w V_b hB0 hB1 hB2
  · exact rm5n3m1 l Z a0 hw ws a1 u aw ab kw kb w0 w1 w2 B0 B1 B2 h0 n0 Z0 F_w F_b V_w V_b hB0 hB1 hB2
  · exact rm5n3m2 l Z a0 hw ws a1 u aw ab kw kb w0 w1 w2 B0 B1 B2 h0 n0 Z0 F_w F_b V_w V_b hB0 hB1 hB2
  · exact rm5n3m3 l Z a0 hw ws a1 u aw ab kw kb w0 w1 w2 B0 B1 B2 h0 n0 Z0 F_w F_b V_w V_b hB0 hB1 hB2
def own_g4 (p2 : Int32) (w0 w1 w2 w3 : Int64) (B0 B1 B2 B3 : Int32) (u : Int64) : Int32 := if p2 = (0 : Int32) then (own_x0 w0 u) else if p2 = (1 : Int32) then (own_x1 w0 w1 u) else if p2 = (2 : Int32) then (own_x2 w0 w1 w2 B1 u) else if p2 = (3 : Int32) then (own_x3 w0 w1 w2 w3 B1 B2 u) else (if B3 = (0 : Int32) then (own_x0 w0 u) else (if B3 = (1 : Int32) then (own_x1 w0 w1 u) else (if B3 = (2 : Int32) then (own_x2 w0 w1 w2 B1 u) else (own_x3 w0 w1 w2 w3 B1 B2 u))))
set_option maxRecDepth 65536 in
theorem rm5u4 (l : Launch) (Z : State) (a0 : Array Value) (hw : ∀ d ∈ tables_1, d.before a0 Z = true) (ws : List Jvm.Cond) (a1 : Addr) (p2 : Int32) (u : Int64) (aw ab : Addr) (kw kb : ClassId) (w0 w1 w2 w3 : Int64) (B0 B1 B2 B3 : Int32) (h0 : Heap) (n0 : Nat) (Z0 : n0 ≤ h0.size) (F_w : Fld Z h0 a1 "com/example/sound_verdict/soundverdict/UnitSearch" "wanted" "[J" (.ref aw)) (F_b : Fld Z h0 a1 "com/example/sound_verdict/soundverdict/UnitSearch" "border" "[I" (.ref ab)) (V_w : Arv Z h0 aw kw .long (4 : Int32) [(.long w0), (.long w1), (.long w2), (.long w3)] (.long (0 : Int64))) (V_b : Arv Z h0 ab kb .int (4 : Int32) [(.int B0), (.int B1), (.int B2), (.int B3)] (.int (0 : Int32))) (hB0 : B0 = (0 : Int32)) (hB1 : B1 = (0 : Int32) ∨ B1 = (1 : Int32)) (hB2 : B2 = (0 : Int32) ∨ B2 = (1 : Int32) ∨ B2 = (2 : Int32)) (hB3 : B3 = (0 : Int32) ∨ B3 = (1 : Int32) ∨ B3 = (2 : Int32) ∨ B3 = (3 : Int32)) (hM : p2 = (0 : Int32) ∨ p2 = (1 : Int32) ∨ p2 = (2 : Int32) ∨ p2 = (3 : Int32) ∨ p2 = (4 : Int32)) :
    MetFree l (⟨"com/example/sound_verdict/soundverdict/UnitSearch", "next", "(IJ)I"⟩ : MethodName) (head1 (Jvm.Cond.code (⟨"com/example/sound_verdict/soundverdict/UnitSearch", "next", "(IJ)I"⟩ : MethodName) prog_199_method_6_code 5 (some .int) :: ws) ({ frames := 0, cells := 0, slots := 0, locals := 0 } : Room)) (fun a U => a = #[(.ref a1), (.int p2), (.long u)] ∧ Z.Warmed39 U.vm ∧ U.heap = h0) (fun _ _ _ _ _ => True) (fun _ U o U' => ∃ v L, o = .returned v ∧ (own_P h0 n0 (.int (own_g4 p2 w0 w1 w2 w3 B0 B1 B2 B3 u))) v U'.heap L ∧ FrameEnd U o U' L ({ frames := 0, cells := 0, slots := 0, locals := 0 } : Room).cells ({ frames := 0, cells := 0, slots := 0, locals := 0 } : Room).slots) := by
  rcases hM with rfl | rfl | rfl | rfl | rfl
  · exact rm5n4m0 l Z a0 hw ws a1 u aw ab kw kb w0 w1 w2 w3 B0 B1 B2 B3 h0 n0 Z0 F_w F_b V_w V_b hB0 hB1 hB2 hB3
  · exact rm5n4m1 l Z a0 hw ws a1 u aw ab kw kb w0 w1 w2 w3 B0 B1 B2 B3 h0 n0 Z0 F_w F_b V_w V_b hB0 hB1 hB2 hB3
  · exact rm5n4m2 l Z a0 hw ws a1 u aw ab kw kb w0 w1 w2 w3 B0 B1 B2 B3 h0 n0 Z0 F_w F_b V_w V_b hB0 hB1 hB2 hB3
  · exact rm5n4m3 l Z a0 hw ws a1 u aw ab kw kb w0 w1 w2 w3 B0 B1 B2 B3 h0 n0 Z0 F_w F_b V_w V_b hB0 hB1 hB2 hB3
  · exact rm5n4m4 l Z a0 hw ws a1 u aw ab kw kb w0 w1 w2 w3 B0 B1 B2 B3 h0 n0 Z0 F_w F_b V_w V_b hB0 hB1 hB2 hB3
theorem d6_0 : decode method_4_code 0 = .ok (.iload 5, 2) := by decide +kernel
theorem d6_2 : decode method_4_code 2 = .ok (.iload_n 1, 1) := by decide +kernel
theorem d6_3 : decode method_4_code 3 = .ok (.if_icmp .gt 11, 3) := by decide +kernel
theorem d6_6 : decode method_4_code 6 = .ok (.iload 5, 2) := by decide +kernel
theorem d6_8 : decode method_4_code 8 = .ok (.iload_n 2, 1) := by decide +kernel
theorem d6_9 : decode method_4_code 9 = .ok (.iconst 1, 1) := by decide +kernel
theorem d6_10 : decode method_4_code 10 = .ok (.iadd, 1) := by decide +kernel
theorem d6_11 : decode method_4_code 11 = .ok (.if_icmp .le 5, 3) := by decide +kernel
theorem d6_16 : decode method_4_code 16 = .ok (.iload 5, 2) := by decide +kernel
theorem d6_18 : decode method_4_code 18 = .ok (.ifCond .ne 5, 3) := by decide +kernel
theorem d6_23 : decode method_4_code 23 = .ok (.aload_n 0, 1) := by decide +kernel
theorem d6_24 : decode method_4_code 24 = .ok (.iload 5, 2) := by decide +kernel
theorem d6_26 : decode method_4_code 26 = .ok (.iconst 1, 1) := by decide +kernel
theorem d6_27 : decode method_4_code 27 = .ok (.isub, 1) := by decide +kernel
theorem d6_28 : decode method_4_code 28 = .ok (.laload, 1) := by decide +kernel
theorem d6_29 : decode method_4_code 29 = .ok (.lload_n 3, 1) := by decide +kernel
theorem d6_30 : decode method_4_code 30 = .ok (.lcmp, 1) := by decide +kernel
theorem d6_31 : decode method_4_code 31 = .ok (.ifCond .eq 5, 3) := by decide +kernel
theorem d6_34 : decode method_4_code 34 = .ok (.iconst 0, 1) := by decide +kernel
theorem d6_35 : decode method_4_code 35 = .ok (.ireturn, 1) := by decide +kernel
theorem d6_36 : decode method_4_code 36 = .ok (.iload_n 2, 1) := by decide +kernel
theorem d6_37 : decode method_4_code 37 = .ok (.iload 5, 2) := by decide +kernel
theorem d6_39 : decode method_4_code 39 = .ok (.isub, 1) := by decide +kernel
theorem d6_40 : decode method_4_code 40 = .ok (.iconst 1, 1) := by decide +kernel
theorem d6_41 : decode method_4_code 41 = .ok (.iadd, 1) := by decide +kernel
theorem d6_42 : decode method_4_code 42 = .ok (.istore 6, 2) := by decide +kernel
theorem d6_44 : decode method_4_code 44 = .ok (.iload 5, 2) := by decide +kernel
theorem d6_46 : decode method_4_code 46 = .ok (.iconst 1, 1) := by decide +kernel
theorem d6_47 : decode method_4_code 47 = .ok (.isub, 1) := by decide +kernel
theorem d6_48 : decode method_4_code 48 = .ok (.ifCond .le 16, 3) := by decide +kernel
theorem d6_64 : decode method_4_code 64 = .ok (.iload 5, 2) := by decide +kernel
theorem d6_66 : decode method_4_code 66 = .ok (.iconst 1, 1) := by decide +kernel
theorem d6_67 : decode method_4_code 67 = .ok (.isub, 1) := by decide +kernel
theorem d6_68 : decode method_4_code 68 = .ok (.iconst 1, 1) := by decide +kernel
theorem d6_69 : decode method_4_code 69 = .ok (.if_icmp .le 18, 3) := by decide +kernel
theorem d6_87 : decode method_4_code 87 = .ok (.iload 5, 2) := by decide +kernel
theorem d6_89 : decode method_4_code 89 = .ok (.iconst 1, 1) := by decide +kernel
theorem d6_90 : decode method_4_code 90 = .ok (.isub, 1) := by decide +kernel
theorem d6_91 : decode method_4_code 91 = .ok (.iconst 2, 1) := by decide +kernel
theorem d6_92 : decode method_4_code 92 = .ok (.if_icmp .le 18, 3) := by decide +kernel
theorem d6_110 : decode method_4_code 110 = .ok (.iconst 1, 1) := by decide +kernel
theorem d6_111 : decode method_4_code 111 = .ok (.ireturn, 1) := by decide +kernel
theorem ef_6s01 (m : MethodId) (x0 : Addr) (x1 : Int32) (x2 : Int32) (x3 : Int64) (x4 : Int32)  : entryFrame m #[(.ref x0), (.int x1), (.int x2), (.long x3), (.int x4)] 7 = mkF m 0 #[rv x0, iv x1, iv x2, jv x3, .second, iv x4, .unset] [] := by first | (simp [entryFrame, mkF, argsToLocals, Value.category]; done) | rfl
def own_s01_31 (a1 : Addr) (p2 : Int32) (u : Int64) (w0 : Int64) (w1 : Int64) (w2 : Int64) (w3 : Int64) : Int32 := if w0 = u then (1 : Int32) else (0 : Int32)
def own_s01 (a1 : Addr) (p2 : Int32) (u : Int64) (w0 : Int64) (w1 : Int64) (w2 : Int64) (w3 : Int64) : Int32 := (own_s01_31 a1 p2 u w0 w1 w2 w3)
set_option maxRecDepth 65536 in
set_option maxHeartbeats 40000000 in
theorem rm6s01 (l : Launch) (Z : State) (a0 : Array Value) (hw : ∀ d ∈ tables_1, d.before a0 Z = true) (ws : List Jvm.Cond) (a1 : Addr) (p2 : Int32) (u : Int64) (k1 : ClassId) (w0 : Int64) (w1 : Int64) (w2 : Int64) (w3 : Int64) (h0 : Heap) (n0 : Nat) (Z0 : n0 ≤ h0.size) (V_1 : Arv Z h0 a1 k1 .long (4 : Int32) [(.long w0), (.long w1), (.long w2), (.long w3)] (.long (0 : Int64))) (hk : ¬ p2 < (1 : Int32)) :
    MetFree l (⟨"com/example/sound_verdict/soundverdict/UnitSearchNextPinLaw", "suf", "([JIIJI)Z"⟩ : MethodName) (head1 (Jvm.Cond.code (⟨"com/example/sound_verdict/soundverdict/UnitSearchNextPinLaw", "suf", "([JIIJI)Z"⟩ : MethodName) method_4_code 7 (some .boolean) :: ws) ({ frames := 0, cells := 0, slots := 0, locals := 0 } : Room)) (fun a U => a = #[(.ref a1), (.int p2), (.int 0), (.long u), (.int 1)] ∧ Z.Warmed39 U.vm ∧ U.heap = h0) (fun _ _ _ _ _ => True) (fun _ U o U' => ∃ v L, o = .returned v ∧ (own_P h0 n0 (.int (own_s01 a1 p2 u w0 w1 w2 w3))) v U'.heap L ∧ FrameEnd U o U' L ({ frames := 0, cells := 0, slots := 0, locals := 0 } : Room).cells ({ frames := 0, cells := 0, slots := 0, locals := 0 } : Room).slots) := by
  refine MetFree.of_bodySF (plainFor_of_name pn_0) hisR ?_
  intro p e s m args below meth c s₁ Bd hml0 hP hK
  obtain ⟨rfl, hZ, hh⟩ := hP
  have hx := Bd.exec
  have hby := Bd.bytes
  have hml : c.maxLocals = 7 := hml0
  have hown : s.vm.findClass "com/example/sound_verdict/soundverdict/UnitSearchNextPinLaw" = some m.cls := findClass_of_methodNamed Bd.named
  have hnm := (name_of_methodNamed Bd.named Bd.method).1
  have X0 : Stand p l e ({ frames := 0, cells := 0, slots := 0, locals := 0 } : Room) s m #[(.ref a1), (.int p2), (.int 0), (.long u), (.int 1)] below meth c s₁ [] 0 0 := Stand.of_body Bd
  have e0 : s₁.heap = h0 := by rw [← hh, Bd.state]; rfl
  have N0 := Fr.nil n0
  show oF p e below (own_A s ({ frames := 0, cells := 0, slots := 0, locals := 0 } : Room).cells ({ frames := 0, cells := 0, slots := 0, locals := 0 } : Room).slots (own_P h0 n0 (.int (own_s01 a1 p2 u w0 w1 w2 w3)))) _
  refine og (fun t k => castTop (ef_6s01 m (a1) (p2) ((0 : Int32)) (u) ((1 : Int32))) k) ?_
  show oF p e below _ (s₁.setTop (mkF m 0 #[rv a1, iv p2, iv 0, jv u, .second, iv 1, .unset] []))
  rw [show (own_s01 a1 p2 u w0 w1 w2 w3) = (own_s01_31 a1 p2 u w0 w1 w2 w3) from rfl]
  refine og (fun t k => XS.iload X0.here hx rfl (hb hby d6_0) rfl (XS.iloadN X0.here hx rfl (hb hby d6_2) rfl k)) ?_
  show oF p e below _ (s₁.setTop (mkF m 3 #[rv a1, iv p2, iv 0, jv u, .second, iv 1, .unset] [(.int p2), (.int 1)]))
  refine og (fun t k => XS.icmpNo X0.here hx rfl (hb hby d6_3) rfl (flt hk).2.2.1 (XS.iload X0.here hx rfl (hb hby d6_6) rfl (XS.iloadN X0.here hx rfl (hb hby d6_8) rfl (XS.iconst X0.here hx rfl (hb hby d6_9) (XS.iadd X0.here hx rfl (hb hby d6_10) rfl k))))) ?_
  show oF p e below _ (s₁.setTop (mkF m 11 #[rv a1, iv p2, iv 0, jv u, .second, iv 1, .unset] [(.int 1), (.int 1)]))
  refine og (fun t k => XS.icmpYes X0.here hx rfl (pc0 := 11) (pc' := 16) rfl (hb hby d6_11) rfl (flt (by decide : ¬ ((1 : Int32) < (1 : Int32)))).2.2.2 (by decide) (by decide) (XS.iload X0.here hx rfl (hb hby d6_16) rfl k)) ?_
  show oF p e below _ (s₁.setTop (mkF m 18 #[rv a1, iv p2, iv 0, jv u, .second, iv 1, .unset] [(.int 1)]))
  refine og (fun t k => XS.ifYes X0.here hx rfl (pc0 := 18) (pc' := 23) rfl (hb hby d6_18) rfl ((if0 _ _).trans (feq (by decide : ¬ ((1 : Int32) = (0 : Int32)))).2) (by decide) (by decide) (XS.aloadN X0.here hx rfl (hb hby d6_23) rfl rfl (XS.iload X0.here hx rfl (hb hby d6_24) rfl (XS.iconst X0.here hx rfl (hb hby d6_26) (XS.isub X0.here hx rfl (hb hby d6_27) rfl k))))) ?_
  show oF p e below _ (s₁.setTop (mkF m 28 #[rv a1, iv p2, iv 0, jv u, .second, iv 1, .unset] [(.int 0), (.ref a1)]))
  obtain ⟨cl1, Ar1, q1, S1, M1, H1, G1⟩ := (id V_1)
  have hin1 : ¬ ((0 : Int32) < 0 ∨ cl1.slots.size ≤ ((0 : Int32)).toNatClampNeg) := inb_of S1 ⟨by decide, by decide⟩
  have hat1 : cl1.slots[((0 : Int32)).toNatClampNeg]? = some (.long w0) := H1.at hin1 rfl
  refine og (fun t k => X0.laload hx (j := (0 : Int32)) (v := (.long w0)) (by rw [e0]; exact Ar1.1) (State.isArrayOf_alike hZ.alike Ar1.2.1) Ar1.2.2 hin1 hat1 (g := (mkF m 28 #[rv a1, iv p2, iv 0, jv u, .second, iv 1, .unset] [(.int 0), (.ref a1)])) rfl rfl (hb hby d6_28) _ (XS.lloadN X0.here hx rfl (hb hby d6_29) rfl (XS.lcmp X0.here hx rfl (hb hby d6_30) rfl k))) ?_
  show oF p e below _ (s₁.setTop (mkF m 31 #[rv a1, iv p2, iv 0, jv u, .second, iv 1, .unset] [(.int (lcmpW w0 u))]))
  by_cases hc2 : w0 = u
  · skip
    rw [(show (own_s01_31 a1 p2 u w0 w1 w2 w3) = (1 : Int32) from if_pos hc2)]
    refine og (fun t k => XS.ifYes X0.here hx rfl (pc0 := 31) (pc' := 36) rfl (hb hby d6_31) rfl ((if0 _ _).trans (teq ((lw_eq _ _).mpr hc2)).1) (by decide) (by decide) (XS.iloadN X0.here hx rfl (hb hby d6_36) rfl (XS.iload X0.here hx rfl (hb hby d6_37) rfl (XS.isub X0.here hx rfl (hb hby d6_39) rfl (XS.iconst X0.here hx rfl (hb hby d6_40) (XS.iadd X0.here hx rfl (hb hby d6_41) rfl (XS.istore X0.here hx rfl (hb hby d6_42) rfl (l' := #[rv a1, iv p2, iv 0, jv u, .second, iv 1, iv 0]) rfl (XS.iload X0.here hx rfl (hb hby d6_44) rfl (XS.iconst X0.here hx rfl (hb hby d6_46) (XS.isub X0.here hx rfl (hb hby d6_47) rfl k)))))))))) ?_
    show oF p e below _ (s₁.setTop (mkF m 48 #[rv a1, iv p2, iv 0, jv u, .second, iv 1, iv 0] [(.int 0)]))
    refine og (fun t k => XS.ifYes X0.here hx rfl (pc0 := 48) (pc' := 64) rfl (hb hby d6_48) rfl ((if0 _ _).trans (flt (by decide : ¬ ((0 : Int32) < (0 : Int32)))).2.2.2) (by decide) (by decide) (XS.iload X0.here hx rfl (hb hby d6_64) rfl (XS.iconst X0.here hx rfl (hb hby d6_66) (XS.isub X0.here hx rfl (hb hby d6_67) rfl (XS.iconst X0.here hx rfl (hb hby d6_68) k))))) ?_
    show oF p e below _ (s₁.setTop (mkF m 69 #[rv a1, iv p2, iv 0, jv u, .second, iv 1, iv 0] [(.int 1), (.int 0)]))
    refine og (fun t k => XS.icmpYes X0.here hx rfl (pc0 := 69) (pc' := 87) rfl (hb hby d6_69) rfl (flt (by decide : ¬ ((1 : Int32) < (0 : Int32)))).2.2.2 (by decide) (by decide) (XS.iload X0.here hx rfl (hb hby d6_87) rfl (XS.iconst X0.here hx rfl (hb hby d6_89) (XS.isub X0.here hx rfl (hb hby d6_90) rfl (XS.iconst X0.here hx rfl (hb hby d6_91) k))))) ?_
    show oF p e below _ (s₁.setTop (mkF m 92 #[rv a1, iv p2, iv 0, jv u, .second, iv 1, iv 0] [(.int 2), (.int 0)]))
    refine og (fun t k => XS.icmpYes X0.here hx rfl (pc0 := 92) (pc' := 110) rfl (hb hby d6_92) rfl (flt (by decide : ¬ ((2 : Int32) < (0 : Int32)))).2.2.2 (by decide) (by decide) (XS.iconst X0.here hx rfl (hb hby d6_110) k)) ?_
    show oF p e below _ (s₁.setTop (mkF m 111 #[rv a1, iv p2, iv 0, jv u, .second, iv 1, iv 0] [(.int 1)]))
    exact oo X0 (fun h => by rw [Bd.returns] at h; cases h) Bd.notSynchronized (fun fs hr => retN X0 hx (t := .boolean) Bd.returns (by simp) (hb hby d6_111) hr) ⟨rfl, N0, e0⟩ (by decide) (by decide)
  · skip
    rw [(show (own_s01_31 a1 p2 u w0 w1 w2 w3) = (0 : Int32) from if_neg hc2)]
    refine og (fun t k => XS.ifNo X0.here hx rfl (hb hby d6_31) rfl ((if0 _ _).trans (feq (fun q => hc2 ((lw_eq _ _).mp q))).1) (XS.iconst X0.here hx rfl (hb hby d6_34) k)) ?_
    show oF p e below _ (s₁.setTop (mkF m 35 #[rv a1, iv p2, iv 0, jv u, .second, iv 1, .unset] [(.int 0)]))
    exact oo X0 (fun h => by rw [Bd.returns] at h; cases h) Bd.notSynchronized (fun fs hr => retN X0 hx (t := .boolean) Bd.returns (by simp) (hb hby d6_35) hr) ⟨rfl, N0, e0⟩ (by decide) (by decide)
theorem ef_6s11 (m : MethodId) (x0 : Addr) (x1 : Int32) (x2 : Int32) (x3 : Int64) (x4 : Int32)  : entryFrame m #[(.ref x0), (.int x1), (.int x2), (.long x3), (.int x4)] 7 = mkF m 0 #[rv x0, iv x1, iv x2, jv x3, .second, iv x4, .unset] [] := by first | (simp [entryFrame, mkF, argsToLocals, Value.category]; done) | rfl
def own_s11_31 (a1 : Addr) (p2 : Int32) (u : Int64) (w0 : Int64) (w1 : Int64) (w2 : Int64) (w3 : Int64) : Int32 := if w0 = u then (1 : Int32) else (0 : Int32)
def own_s11 (a1 : Addr) (p2 : Int32) (u : Int64) (w0 : Int64) (w1 : Int64) (w2 : Int64) (w3 : Int64) : Int32 := (own_s11_31 a1 p2 u w0 w1 w2 w3)
set_option maxRecDepth 65536 in
set_option maxHeartbeats 40000000 in
theorem rm6s11 (l : Launch) (Z : State) (a0 : Array Value) (hw : ∀ d ∈ tables_1, d.before a0 Z = true) (ws : List Jvm.Cond) (a1 : Addr) (p2 : Int32) (u : Int64) (k1 : ClassId) (w0 : Int64) (w1 : Int64) (w2 : Int64) (w3 : Int64) (h0 : Heap) (n0 : Nat) (Z0 : n0 ≤ h0.size) (V_1 : Arv Z h0 a1 k1 .long (4 : Int32) [(.long w0), (.long w1), (.long w2), (.long w3)] (.long (0 : Int64))) (hk : ¬ p2 < (1 : Int32)) :
    MetFree l (⟨"com/example/sound_verdict/soundverdict/UnitSearchNextPinLaw", "suf", "([JIIJI)Z"⟩ : MethodName) (head1 (Jvm.Cond.code (⟨"com/example/sound_verdict/soundverdict/UnitSearchNextPinLaw", "suf", "([JIIJI)Z"⟩ : MethodName) method_4_code 7 (some .boolean) :: ws) ({ frames := 0, cells := 0, slots := 0, locals := 0 } : Room)) (fun a U => a = #[(.ref a1), (.int p2), (.int 1), (.long u), (.int 1)] ∧ Z.Warmed39 U.vm ∧ U.heap = h0) (fun _ _ _ _ _ => True) (fun _ U o U' => ∃ v L, o = .returned v ∧ (own_P h0 n0 (.int (own_s11 a1 p2 u w0 w1 w2 w3))) v U'.heap L ∧ FrameEnd U o U' L ({ frames := 0, cells := 0, slots := 0, locals := 0 } : Room).cells ({ frames := 0, cells := 0, slots := 0, locals := 0 } : Room).slots) := by
  refine MetFree.of_bodySF (plainFor_of_name pn_0) hisR ?_
  intro p e s m args below meth c s₁ Bd hml0 hP hK
  obtain ⟨rfl, hZ, hh⟩ := hP
  have hx := Bd.exec
  have hby := Bd.bytes
  have hml : c.maxLocals = 7 := hml0
  have hown : s.vm.findClass "com/example/sound_verdict/soundverdict/UnitSearchNextPinLaw" = some m.cls := findClass_of_methodNamed Bd.named
  have hnm := (name_of_methodNamed Bd.named Bd.method).1
  have X0 : Stand p l e ({ frames := 0, cells := 0, slots := 0, locals := 0 } : Room) s m #[(.ref a1), (.int p2), (.int 1), (.long u), (.int 1)] below meth c s₁ [] 0 0 := Stand.of_body Bd
  have e0 : s₁.heap = h0 := by rw [← hh, Bd.state]; rfl
  have N0 := Fr.nil n0
  show oF p e below (own_A s ({ frames := 0, cells := 0, slots := 0, locals := 0 } : Room).cells ({ frames := 0, cells := 0, slots := 0, locals := 0 } : Room).slots (own_P h0 n0 (.int (own_s11 a1 p2 u w0 w1 w2 w3)))) _
  refine og (fun t k => castTop (ef_6s11 m (a1) (p2) ((1 : Int32)) (u) ((1 : Int32))) k) ?_
  show oF p e below _ (s₁.setTop (mkF m 0 #[rv a1, iv p2, iv 1, jv u, .second, iv 1, .unset] []))
  rw [show (own_s11 a1 p2 u w0 w1 w2 w3) = (own_s11_31 a1 p2 u w0 w1 w2 w3) from rfl]
  refine og (fun t k => XS.iload X0.here hx rfl (hb hby d6_0) rfl (XS.iloadN X0.here hx rfl (hb hby d6_2) rfl k)) ?_
  show oF p e below _ (s₁.setTop (mkF m 3 #[rv a1, iv p2, iv 1, jv u, .second, iv 1, .unset] [(.int p2), (.int 1)]))
  refine og (fun t k => XS.icmpNo X0.here hx rfl (hb hby d6_3) rfl (flt hk).2.2.1 (XS.iload X0.here hx rfl (hb hby d6_6) rfl (XS.iloadN X0.here hx rfl (hb hby d6_8) rfl (XS.iconst X0.here hx rfl (hb hby d6_9) (XS.iadd X0.here hx rfl (hb hby d6_10) rfl k))))) ?_
  show oF p e below _ (s₁.setTop (mkF m 11 #[rv a1, iv p2, iv 1, jv u, .second, iv 1, .unset] [(.int 2), (.int 1)]))
  refine og (fun t k => XS.icmpYes X0.here hx rfl (pc0 := 11) (pc' := 16) rfl (hb hby d6_11) rfl (flt (by decide : ¬ ((2 : Int32) < (1 : Int32)))).2.2.2 (by decide) (by decide) (XS.iload X0.here hx rfl (hb hby d6_16) rfl k)) ?_
  show oF p e below _ (s₁.setTop (mkF m 18 #[rv a1, iv p2, iv 1, jv u, .second, iv 1, .unset] [(.int 1)]))
  refine og (fun t k => XS.ifYes X0.here hx rfl (pc0 := 18) (pc' := 23) rfl (hb hby d6_18) rfl ((if0 _ _).trans (feq (by decide : ¬ ((1 : Int32) = (0 : Int32)))).2) (by decide) (by decide) (XS.aloadN X0.here hx rfl (hb hby d6_23) rfl rfl (XS.iload X0.here hx rfl (hb hby d6_24) rfl (XS.iconst X0.here hx rfl (hb hby d6_26) (XS.isub X0.here hx rfl (hb hby d6_27) rfl k))))) ?_
  show oF p e below _ (s₁.setTop (mkF m 28 #[rv a1, iv p2, iv 1, jv u, .second, iv 1, .unset] [(.int 0), (.ref a1)]))
  obtain ⟨cl1, Ar1, q1, S1, M1, H1, G1⟩ := (id V_1)
  have hin1 : ¬ ((0 : Int32) < 0 ∨ cl1.slots.size ≤ ((0 : Int32)).toNatClampNeg) := inb_of S1 ⟨by decide, by decide⟩
  have hat1 : cl1.slots[((0 : Int32)).toNatClampNeg]? = some (.long w0) := H1.at hin1 rfl
  refine og (fun t k => X0.laload hx (j := (0 : Int32)) (v := (.long w0)) (by rw [e0]; exact Ar1.1) (State.isArrayOf_alike hZ.alike Ar1.2.1) Ar1.2.2 hin1 hat1 (g := (mkF m 28 #[rv a1, iv p2, iv 1, jv u, .second, iv 1, .unset] [(.int 0), (.ref a1)])) rfl rfl (hb hby d6_28) _ (XS.lloadN X0.here hx rfl (hb hby d6_29) rfl (XS.lcmp X0.here hx rfl (hb hby d6_30) rfl k))) ?_
  show oF p e below _ (s₁.setTop (mkF m 31 #[rv a1, iv p2, iv 1, jv u, .second, iv 1, .unset] [(.int (lcmpW w0 u))]))
  by_cases hc2 : w0 = u
  · skip
    rw [(show (own_s11_31 a1 p2 u w0 w1 w2 w3) = (1 : Int32) from if_pos hc2)]
    refine og (fun t k => XS.ifYes X0.here hx rfl (pc0 := 31) (pc' := 36) rfl (hb hby d6_31) rfl ((if0 _ _).trans (teq ((lw_eq _ _).mpr hc2)).1) (by decide) (by decide) (XS.iloadN X0.here hx rfl (hb hby d6_36) rfl (XS.iload X0.here hx rfl (hb hby d6_37) rfl (XS.isub X0.here hx rfl (hb hby d6_39) rfl (XS.iconst X0.here hx rfl (hb hby d6_40) (XS.iadd X0.here hx rfl (hb hby d6_41) rfl (XS.istore X0.here hx rfl (hb hby d6_42) rfl (l' := #[rv a1, iv p2, iv 1, jv u, .second, iv 1, iv 1]) rfl (XS.iload X0.here hx rfl (hb hby d6_44) rfl (XS.iconst X0.here hx rfl (hb hby d6_46) (XS.isub X0.here hx rfl (hb hby d6_47) rfl k)))))))))) ?_
    show oF p e below _ (s₁.setTop (mkF m 48 #[rv a1, iv p2, iv 1, jv u, .second, iv 1, iv 1] [(.int 0)]))
    refine og (fun t k => XS.ifYes X0.here hx rfl (pc0 := 48) (pc' := 64) rfl (hb hby d6_48) rfl ((if0 _ _).trans (flt (by decide : ¬ ((0 : Int32) < (0 : Int32)))).2.2.2) (by decide) (by decide) (XS.iload X0.here hx rfl (hb hby d6_64) rfl (XS.iconst X0.here hx rfl (hb hby d6_66) (XS.isub X0.here hx rfl (hb hby d6_67) rfl (XS.iconst X0.here hx rfl (hb hby d6_68) k))))) ?_
    show oF p e below _ (s₁.setTop (mkF m 69 #[rv a1, iv p2, iv 1, jv u, .second, iv 1, iv 1] [(.int 1), (.int 0)]))
    refine og (fun t k => XS.icmpYes X0.here hx rfl (pc0 := 69) (pc' := 87) rfl (hb hby d6_69) rfl (flt (by decide : ¬ ((1 : Int32) < (0 : Int32)))).2.2.2 (by decide) (by decide) (XS.iload X0.here hx rfl (hb hby d6_87) rfl (XS.iconst X0.here hx rfl (hb hby d6_89) (XS.isub X0.here hx rfl (hb hby d6_90) rfl (XS.iconst X0.here hx rfl (hb hby d6_91) k))))) ?_
    show oF p e below _ (s₁.setTop (mkF m 92 #[rv a1, iv p2, iv 1, jv u, .second, iv 1, iv 1] [(.int 2), (.int 0)]))
    refine og (fun t k => XS.icmpYes X0.here hx rfl (pc0 := 92) (pc' := 110) rfl (hb hby d6_92) rfl (flt (by decide : ¬ ((2 : Int32) < (0 : Int32)))).2.2.2 (by decide) (by decide) (XS.iconst X0.here hx rfl (hb hby d6_110) k)) ?_
    show oF p e below _ (s₁.setTop (mkF m 111 #[rv a1, iv p2, iv 1, jv u, .second, iv 1, iv 1] [(.int 1)]))
    exact oo X0 (fun h => by rw [Bd.returns] at h; cases h) Bd.notSynchronized (fun fs hr => retN X0 hx (t := .boolean) Bd.returns (by simp) (hb hby d6_111) hr) ⟨rfl, N0, e0⟩ (by decide) (by decide)
  · skip
    rw [(show (own_s11_31 a1 p2 u w0 w1 w2 w3) = (0 : Int32) from if_neg hc2)]
    refine og (fun t k => XS.ifNo X0.here hx rfl (hb hby d6_31) rfl ((if0 _ _).trans (feq (fun q => hc2 ((lw_eq _ _).mp q))).1) (XS.iconst X0.here hx rfl (hb hby d6_34) k)) ?_
    show oF p e below _ (s₁.setTop (mkF m 35 #[rv a1, iv p2, iv 1, jv u, .second, iv 1, .unset] [(.int 0)]))
    exact oo X0 (fun h => by rw [Bd.returns] at h; cases h) Bd.notSynchronized (fun fs hr => retN X0 hx (t := .boolean) Bd.returns (by simp) (hb hby d6_35) hr) ⟨rfl, N0, e0⟩ (by decide) (by decide)
theorem d6_51 : decode method_4_code 51 = .ok (.aload_n 0, 1) := by decide +kernel
theorem d6_52 : decode method_4_code 52 = .ok (.iconst 0, 1) := by decide +kernel
theorem d6_53 : decode method_4_code 53 = .ok (.laload, 1) := by decide +kernel
theorem d6_54 : decode method_4_code 54 = .ok (.aload_n 0, 1) := by decide +kernel
theorem d6_55 : decode method_4_code 55 = .ok (.iload 6, 2) := by decide +kernel
theorem d6_57 : decode method_4_code 57 = .ok (.laload, 1) := by decide +kernel
theorem d6_58 : decode method_4_code 58 = .ok (.lcmp, 1) := by decide +kernel
theorem d6_59 : decode method_4_code 59 = .ok (.ifCond .eq 5, 3) := by decide +kernel
theorem d6_62 : decode method_4_code 62 = .ok (.iconst 0, 1) := by decide +kernel
theorem d6_63 : decode method_4_code 63 = .ok (.ireturn, 1) := by decide +kernel
theorem ef_6s12 (m : MethodId) (x0 : Addr) (x1 : Int32) (x2 : Int32) (x3 : Int64) (x4 : Int32)  : entryFrame m #[(.ref x0), (.int x1), (.int x2), (.long x3), (.int x4)] 7 = mkF m 0 #[rv x0, iv x1, iv x2, jv x3, .second, iv x4, .unset] [] := by first | (simp [entryFrame, mkF, argsToLocals, Value.category]; done) | rfl
def own_s12_59 (a1 : Addr) (p2 : Int32) (u : Int64) (w0 : Int64) (w1 : Int64) (w2 : Int64) (w3 : Int64) : Int32 := if w0 = w0 then (1 : Int32) else (0 : Int32)
def own_s12_31 (a1 : Addr) (p2 : Int32) (u : Int64) (w0 : Int64) (w1 : Int64) (w2 : Int64) (w3 : Int64) : Int32 := if w1 = u then (own_s12_59 a1 p2 u w0 w1 w2 w3) else (0 : Int32)
def own_s12 (a1 : Addr) (p2 : Int32) (u : Int64) (w0 : Int64) (w1 : Int64) (w2 : Int64) (w3 : Int64) : Int32 := (own_s12_31 a1 p2 u w0 w1 w2 w3)
set_option maxRecDepth 65536 in
set_option maxHeartbeats 40000000 in
theorem rm6s12 (l : Launch) (Z : State) (a0 : Array Value) (hw : ∀ d ∈ tables_1, d.before a0 Z = true) (ws : List Jvm.Cond) (a1 : Addr) (p2 : Int32) (u : Int64) (k1 : ClassId) (w0 : Int64) (w1 : Int64) (w2 : Int64) (w3 : Int64) (h0 : Heap) (n0 : Nat) (Z0 : n0 ≤ h0.size) (V_1 : Arv Z h0 a1 k1 .long (4 : Int32) [(.long w0), (.long w1), (.long w2), (.long w3)] (.long (0 : Int64))) (hk : ¬ p2 < (2 : Int32)) :
    MetFree l (⟨"com/example/sound_verdict/soundverdict/UnitSearchNextPinLaw", "suf", "([JIIJI)Z"⟩ : MethodName) (head1 (Jvm.Cond.code (⟨"com/example/sound_verdict/soundverdict/UnitSearchNextPinLaw", "suf", "([JIIJI)Z"⟩ : MethodName) method_4_code 7 (some .boolean) :: ws) ({ frames := 0, cells := 0, slots := 0, locals := 0 } : Room)) (fun a U => a = #[(.ref a1), (.int p2), (.int 1), (.long u), (.int 2)] ∧ Z.Warmed39 U.vm ∧ U.heap = h0) (fun _ _ _ _ _ => True) (fun _ U o U' => ∃ v L, o = .returned v ∧ (own_P h0 n0 (.int (own_s12 a1 p2 u w0 w1 w2 w3))) v U'.heap L ∧ FrameEnd U o U' L ({ frames := 0, cells := 0, slots := 0, locals := 0 } : Room).cells ({ frames := 0, cells := 0, slots := 0, locals := 0 } : Room).slots) := by
  refine MetFree.of_bodySF (plainFor_of_name pn_0) hisR ?_
  intro p e s m args below meth c s₁ Bd hml0 hP hK
  obtain ⟨rfl, hZ, hh⟩ := hP
  have hx := Bd.exec
  have hby := Bd.bytes
  have hml : c.maxLocals = 7 := hml0
  have hown : s.vm.findClass "com/example/sound_verdict/soundverdict/UnitSearchNextPinLaw" = some m.cls := findClass_of_methodNamed Bd.named
  have hnm := (name_of_methodNamed Bd.named Bd.method).1
  have X0 : Stand p l e ({ frames := 0, cells := 0, slots := 0, locals := 0 } : Room) s m #[(.ref a1), (.int p2), (.int 1), (.long u), (.int 2)] below meth c s₁ [] 0 0 := Stand.of_body Bd
  have e0 : s₁.heap = h0 := by rw [← hh, Bd.state]; rfl
  have N0 := Fr.nil n0
  show oF p e below (own_A s ({ frames := 0, cells := 0, slots := 0, locals := 0 } : Room).cells ({ frames := 0, cells := 0, slots := 0, locals := 0 } : Room).slots (own_P h0 n0 (.int (own_s12 a1 p2 u w0 w1 w2 w3)))) _
  refine og (fun t k => castTop (ef_6s12 m (a1) (p2) ((1 : Int32)) (u) ((2 : Int32))) k) ?_
  show oF p e below _ (s₁.setTop (mkF m 0 #[rv a1, iv p2, iv 1, jv u, .second, iv 2, .unset] []))
  rw [show (own_s12 a1 p2 u w0 w1 w2 w3) = (own_s12_31 a1 p2 u w0 w1 w2 w3) from rfl]
  refine og (fun t k => XS.iload X0.here hx rfl (hb hby d6_0) rfl (XS.iloadN X0.here hx rfl (hb hby d6_2) rfl k)) ?_
  show oF p e below _ (s₁.setTop (mkF m 3 #[rv a1, iv p2, iv 1, jv u, .second, iv 2, .unset] [(.int p2), (.int 2)]))
  refine og (fun t k => XS.icmpNo X0.here hx rfl (hb hby d6_3) rfl (flt hk).2.2.1 (XS.iload X0.here hx rfl (hb hby d6_6) rfl (XS.iloadN X0.here hx rfl (hb hby d6_8) rfl (XS.iconst X0.here hx rfl (hb hby d6_9) (XS.iadd X0.here hx rfl (hb hby d6_10) rfl k))))) ?_
  show oF p e below _ (s₁.setTop (mkF m 11 #[rv a1, iv p2, iv 1, jv u, .second, iv 2, .unset] [(.int 2), (.int 2)]))
  refine og (fun t k => XS.icmpYes X0.here hx rfl (pc0 := 11) (pc' := 16) rfl (hb hby d6_11) rfl (flt (by decide : ¬ ((2 : Int32) < (2 : Int32)))).2.2.2 (by decide) (by decide) (XS.iload X0.here hx rfl (hb hby d6_16) rfl k)) ?_
  show oF p e below _ (s₁.setTop (mkF m 18 #[rv a1, iv p2, iv 1, jv u, .second, iv 2, .unset] [(.int 2)]))
  refine og (fun t k => XS.ifYes X0.here hx rfl (pc0 := 18) (pc' := 23) rfl (hb hby d6_18) rfl ((if0 _ _).trans (feq (by decide : ¬ ((2 : Int32) = (0 : Int32)))).2) (by decide) (by decide) (XS.aloadN X0.here hx rfl (hb hby d6_23) rfl rfl (XS.iload X0.here hx rfl (hb hby d6_24) rfl (XS.iconst X0.here hx rfl (hb hby d6_26) (XS.isub X0.here hx rfl (hb hby d6_27) rfl k))))) ?_
  show oF p e below _ (s₁.setTop (mkF m 28 #[rv a1, iv p2, iv 1, jv u, .second, iv 2, .unset] [(.int 1), (.ref a1)]))
  obtain ⟨cl1, Ar1, q1, S1, M1, H1, G1⟩ := (id V_1)
  have hin1 : ¬ ((1 : Int32) < 0 ∨ cl1.slots.size ≤ ((1 : Int32)).toNatClampNeg) := inb_of S1 ⟨by decide, by decide⟩
  have hat1 : cl1.slots[((1 : Int32)).toNatClampNeg]? = some (.long w1) := H1.at hin1 rfl
  refine og (fun t k => X0.laload hx (j := (1 : Int32)) (v := (.long w1)) (by rw [e0]; exact Ar1.1) (State.isArrayOf_alike hZ.alike Ar1.2.1) Ar1.2.2 hin1 hat1 (g := (mkF m 28 #[rv a1, iv p2, iv 1, jv u, .second, iv 2, .unset] [(.int 1), (.ref a1)])) rfl rfl (hb hby d6_28) _ (XS.lloadN X0.here hx rfl (hb hby d6_29) rfl (XS.lcmp X0.here hx rfl (hb hby d6_30) rfl k))) ?_
  show oF p e below _ (s₁.setTop (mkF m 31 #[rv a1, iv p2, iv 1, jv u, .second, iv 2, .unset] [(.int (lcmpW w1 u))]))
  by_cases hc2 : w1 = u
  · skip
    rw [(show (own_s12_31 a1 p2 u w0 w1 w2 w3) = (own_s12_59 a1 p2 u w0 w1 w2 w3) from if_pos hc2)]
    refine og (fun t k => XS.ifYes X0.here hx rfl (pc0 := 31) (pc' := 36) rfl (hb hby d6_31) rfl ((if0 _ _).trans (teq ((lw_eq _ _).mpr hc2)).1) (by decide) (by decide) (XS.iloadN X0.here hx rfl (hb hby d6_36) rfl (XS.iload X0.here hx rfl (hb hby d6_37) rfl (XS.isub X0.here hx rfl (hb hby d6_39) rfl (XS.iconst X0.here hx rfl (hb hby d6_40) (XS.iadd X0.here hx rfl (hb hby d6_41) rfl (XS.istore X0.here hx rfl (hb hby d6_42) rfl (l' := #[rv a1, iv p2, iv 1, jv u, .second, iv 2, iv 0]) rfl (XS.iload X0.here hx rfl (hb hby d6_44) rfl (XS.iconst X0.here hx rfl (hb hby d6_46) (XS.isub X0.here hx rfl (hb hby d6_47) rfl k)))))))))) ?_
    show oF p e below _ (s₁.setTop (mkF m 48 #[rv a1, iv p2, iv 1, jv u, .second, iv 2, iv 0] [(.int 1)]))
    refine og (fun t k => XS.ifNo X0.here hx rfl (hb hby d6_48) rfl ((if0 _ _).trans (tlt (by decide : (0 : Int32) < (1 : Int32))).2.2.2) (XS.aloadN X0.here hx rfl (hb hby d6_51) rfl rfl (XS.iconst X0.here hx rfl (hb hby d6_52) k))) ?_
    show oF p e below _ (s₁.setTop (mkF m 53 #[rv a1, iv p2, iv 1, jv u, .second, iv 2, iv 0] [(.int 0), (.ref a1)]))
    obtain ⟨cl3, Ar3, q3, S3, M3, H3, G3⟩ := (id V_1)
    have hin3 : ¬ ((0 : Int32) < 0 ∨ cl3.slots.size ≤ ((0 : Int32)).toNatClampNeg) := inb_of S3 ⟨by decide, by decide⟩
    have hat3 : cl3.slots[((0 : Int32)).toNatClampNeg]? = some (.long w0) := H3.at hin3 rfl
    refine og (fun t k => X0.laload hx (j := (0 : Int32)) (v := (.long w0)) (by rw [e0]; exact Ar3.1) (State.isArrayOf_alike hZ.alike Ar3.2.1) Ar3.2.2 hin3 hat3 (g := (mkF m 53 #[rv a1, iv p2, iv 1, jv u, .second, iv 2, iv 0] [(.int 0), (.ref a1)])) rfl rfl (hb hby d6_53) _ (XS.aloadN X0.here hx rfl (hb hby d6_54) rfl rfl (XS.iload X0.here hx rfl (hb hby d6_55) rfl k))) ?_
    show oF p e below _ (s₁.setTop (mkF m 57 #[rv a1, iv p2, iv 1, jv u, .second, iv 2, iv 0] [(.int 0), (.ref a1), (.long w0)]))
    obtain ⟨cl4, Ar4, q4, S4, M4, H4, G4⟩ := (id V_1)
    have hin4 : ¬ ((0 : Int32) < 0 ∨ cl4.slots.size ≤ ((0 : Int32)).toNatClampNeg) := inb_of S4 ⟨by decide, by decide⟩
    have hat4 : cl4.slots[((0 : Int32)).toNatClampNeg]? = some (.long w0) := H4.at hin4 rfl
    refine og (fun t k => X0.laload hx (j := (0 : Int32)) (v := (.long w0)) (by rw [e0]; exact Ar4.1) (State.isArrayOf_alike hZ.alike Ar4.2.1) Ar4.2.2 hin4 hat4 (g := (mkF m 57 #[rv a1, iv p2, iv 1, jv u, .second, iv 2, iv 0] [(.int 0), (.ref a1), (.long w0)])) rfl rfl (hb hby d6_57) _ (XS.lcmp X0.here hx rfl (hb hby d6_58) rfl k)) ?_
    show oF p e below _ (s₁.setTop (mkF m 59 #[rv a1, iv p2, iv 1, jv u, .second, iv 2, iv 0] [(.int (lcmpW w0 w0))]))
    by_cases hc5 : w0 = w0
    · skip
      rw [(show (own_s12_59 a1 p2 u w0 w1 w2 w3) = (1 : Int32) from if_pos hc5)]
      refine og (fun t k => XS.ifYes X0.here hx rfl (pc0 := 59) (pc' := 64) rfl (hb hby d6_59) rfl ((if0 _ _).trans (teq ((lw_eq _ _).mpr hc5)).1) (by decide) (by decide) (XS.iload X0.here hx rfl (hb hby d6_64) rfl (XS.iconst X0.here hx rfl (hb hby d6_66) (XS.isub X0.here hx rfl (hb hby d6_67) rfl (XS.iconst X0.here hx rfl (hb hby d6_68) k))))) ?_
      show oF p e below _ (s₁.setTop (mkF m 69 #[rv a1, iv p2, iv 1, jv u, .second, iv 2, iv 0] [(.int 1), (.int 1)]))
      refine og (fun t k => XS.icmpYes X0.here hx rfl (pc0 := 69) (pc' := 87) rfl (hb hby d6_69) rfl (flt (by decide : ¬ ((1 : Int32) < (1 : Int32)))).2.2.2 (by decide) (by decide) (XS.iload X0.here hx rfl (hb hby d6_87) rfl (XS.iconst X0.here hx rfl (hb hby d6_89) (XS.isub X0.here hx rfl (hb hby d6_90) rfl (XS.iconst X0.here hx rfl (hb hby d6_91) k))))) ?_
      show oF p e below _ (s₁.setTop (mkF m 92 #[rv a1, iv p2, iv 1, jv u, .second, iv 2, iv 0] [(.int 2), (.int 1)]))
      refine og (fun t k => XS.icmpYes X0.here hx rfl (pc0 := 92) (pc' := 110) rfl (hb hby d6_92) rfl (flt (by decide : ¬ ((2 : Int32) < (1 : Int32)))).2.2.2 (by decide) (by decide) (XS.iconst X0.here hx rfl (hb hby d6_110) k)) ?_
      show oF p e below _ (s₁.setTop (mkF m 111 #[rv a1, iv p2, iv 1, jv u, .second, iv 2, iv 0] [(.int 1)]))
      exact oo X0 (fun h => by rw [Bd.returns] at h; cases h) Bd.notSynchronized (fun fs hr => retN X0 hx (t := .boolean) Bd.returns (by simp) (hb hby d6_111) hr) ⟨rfl, N0, e0⟩ (by decide) (by decide)
    · skip
      rw [(show (own_s12_59 a1 p2 u w0 w1 w2 w3) = (0 : Int32) from if_neg hc5)]
      refine og (fun t k => XS.ifNo X0.here hx rfl (hb hby d6_59) rfl ((if0 _ _).trans (feq (fun q => hc5 ((lw_eq _ _).mp q))).1) (XS.iconst X0.here hx rfl (hb hby d6_62) k)) ?_
      show oF p e below _ (s₁.setTop (mkF m 63 #[rv a1, iv p2, iv 1, jv u, .second, iv 2, iv 0] [(.int 0)]))
      exact oo X0 (fun h => by rw [Bd.returns] at h; cases h) Bd.notSynchronized (fun fs hr => retN X0 hx (t := .boolean) Bd.returns (by simp) (hb hby d6_63) hr) ⟨rfl, N0, e0⟩ (by decide) (by decide)
  · skip
    rw [(show (own_s12_31 a1 p2 u w0 w1 w2 w3) = (0 : Int32) from if_neg hc2)]
    refine og (fun t k => XS.ifNo X0.here hx rfl (hb hby d6_31) rfl ((if0 _ _).trans (feq (fun q => hc2 ((lw_eq _ _).mp q))).1) (XS.iconst X0.here hx rfl (hb hby d6_34) k)) ?_
    show oF p e below _ (s₁.setTop (mkF m 35 #[rv a1, iv p2, iv 1, jv u, .second, iv 2, .unset] [(.int 0)]))
    exact oo X0 (fun h => by rw [Bd.returns] at h; cases h) Bd.notSynchronized (fun fs hr => retN X0 hx (t := .boolean) Bd.returns (by simp) (hb hby d6_35) hr) ⟨rfl, N0, e0⟩ (by decide) (by decide)
theorem ef_6s21 (m : MethodId) (x0 : Addr) (x1 : Int32) (x2 : Int32) (x3 : Int64) (x4 : Int32)  : entryFrame m #[(.ref x0), (.int x1), (.int x2), (.long x3), (.int x4)] 7 = mkF m 0 #[rv x0, iv x1, iv x2, jv x3, .second, iv x4, .unset] [] := by first | (simp [entryFrame, mkF, argsToLocals, Value.category]; done) | rfl
def own_s21_31 (a1 : Addr) (p2 : Int32) (u : Int64) (w0 : Int64) (w1 : Int64) (w2 : Int64) (w3 : Int64) : Int32 := if w0 = u then (1 : Int32) else (0 : Int32)
def own_s21 (a1 : Addr) (p2 : Int32) (u : Int64) (w0 : Int64) (w1 : Int64) (w2 : Int64) (w3 : Int64) : Int32 := (own_s21_31 a1 p2 u w0 w1 w2 w3)
set_option maxRecDepth 65536 in
set_option maxHeartbeats 40000000 in
theorem rm6s21 (l : Launch) (Z : State) (a0 : Array Value) (hw : ∀ d ∈ tables_1, d.before a0 Z = true) (ws : List Jvm.Cond) (a1 : Addr) (p2 : Int32) (u : Int64) (k1 : ClassId) (w0 : Int64) (w1 : Int64) (w2 : Int64) (w3 : Int64) (h0 : Heap) (n0 : Nat) (Z0 : n0 ≤ h0.size) (V_1 : Arv Z h0 a1 k1 .long (4 : Int32) [(.long w0), (.long w1), (.long w2), (.long w3)] (.long (0 : Int64))) (hk : ¬ p2 < (1 : Int32)) :
    MetFree l (⟨"com/example/sound_verdict/soundverdict/UnitSearchNextPinLaw", "suf", "([JIIJI)Z"⟩ : MethodName) (head1 (Jvm.Cond.code (⟨"com/example/sound_verdict/soundverdict/UnitSearchNextPinLaw", "suf", "([JIIJI)Z"⟩ : MethodName) method_4_code 7 (some .boolean) :: ws) ({ frames := 0, cells := 0, slots := 0, locals := 0 } : Room)) (fun a U => a = #[(.ref a1), (.int p2), (.int 2), (.long u), (.int 1)] ∧ Z.Warmed39 U.vm ∧ U.heap = h0) (fun _ _ _ _ _ => True) (fun _ U o U' => ∃ v L, o = .returned v ∧ (own_P h0 n0 (.int (own_s21 a1 p2 u w0 w1 w2 w3))) v U'.heap L ∧ FrameEnd U o U' L ({ frames := 0, cells := 0, slots := 0, locals := 0 } : Room).cells ({ frames := 0, cells := 0, slots := 0, locals := 0 } : Room).slots) := by
  refine MetFree.of_bodySF (plainFor_of_name pn_0) hisR ?_
  intro p e s m args below meth c s₁ Bd hml0 hP hK
  obtain ⟨rfl, hZ, hh⟩ := hP
  have hx := Bd.exec
  have hby := Bd.bytes
  have hml : c.maxLocals = 7 := hml0
  have hown : s.vm.findClass "com/example/sound_verdict/soundverdict/UnitSearchNextPinLaw" = some m.cls := findClass_of_methodNamed Bd.named
  have hnm := (name_of_methodNamed Bd.named Bd.method).1
  have X0 : Stand p l e ({ frames := 0, cells := 0, slots := 0, locals := 0 } : Room) s m #[(.ref a1), (.int p2), (.int 2), (.long u), (.int 1)] below meth c s₁ [] 0 0 := Stand.of_body Bd
  have e0 : s₁.heap = h0 := by rw [← hh, Bd.state]; rfl
  have N0 := Fr.nil n0
  show oF p e below (own_A s ({ frames := 0, cells := 0, slots := 0, locals := 0 } : Room).cells ({ frames := 0, cells := 0, slots := 0, locals := 0 } : Room).slots (own_P h0 n0 (.int (own_s21 a1 p2 u w0 w1 w2 w3)))) _
  refine og (fun t k => castTop (ef_6s21 m (a1) (p2) ((2 : Int32)) (u) ((1 : Int32))) k) ?_
  show oF p e below _ (s₁.setTop (mkF m 0 #[rv a1, iv p2, iv 2, jv u, .second, iv 1, .unset] []))
  rw [show (own_s21 a1 p2 u w0 w1 w2 w3) = (own_s21_31 a1 p2 u w0 w1 w2 w3) from rfl]
  refine og (fun t k => XS.iload X0.here hx rfl (hb hby d6_0) rfl (XS.iloadN X0.here hx rfl (hb hby d6_2) rfl k)) ?_
  show oF p e below _ (s₁.setTop (mkF m 3 #[rv a1, iv p2, iv 2, jv u, .second, iv 1, .unset] [(.int p2), (.int 1)]))
  refine og (fun t k => XS.icmpNo X0.here hx rfl (hb hby d6_3) rfl (flt hk).2.2.1 (XS.iload X0.here hx rfl (hb hby d6_6) rfl (XS.iloadN X0.here hx rfl (hb hby d6_8) rfl (XS.iconst X0.here hx rfl (hb hby d6_9) (XS.iadd X0.here hx rfl (hb hby d6_10) rfl k))))) ?_
  show oF p e below _ (s₁.setTop (mkF m 11 #[rv a1, iv p2, iv 2, jv u, .second, iv 1, .unset] [(.int 3), (.int 1)]))
  refine og (fun t k => XS.icmpYes X0.here hx rfl (pc0 := 11) (pc' := 16) rfl (hb hby d6_11) rfl (flt (by decide : ¬ ((3 : Int32) < (1 : Int32)))).2.2.2 (by decide) (by decide) (XS.iload X0.here hx rfl (hb hby d6_16) rfl k)) ?_
  show oF p e below _ (s₁.setTop (mkF m 18 #[rv a1, iv p2, iv 2, jv u, .second, iv 1, .unset] [(.int 1)]))
  refine og (fun t k => XS.ifYes X0.here hx rfl (pc0 := 18) (pc' := 23) rfl (hb hby d6_18) rfl ((if0 _ _).trans (feq (by decide : ¬ ((1 : Int32) = (0 : Int32)))).2) (by decide) (by decide) (XS.aloadN X0.here hx rfl (hb hby d6_23) rfl rfl (XS.iload X0.here hx rfl (hb hby d6_24) rfl (XS.iconst X0.here hx rfl (hb hby d6_26) (XS.isub X0.here hx rfl (hb hby d6_27) rfl k))))) ?_
  show oF p e below _ (s₁.setTop (mkF m 28 #[rv a1, iv p2, iv 2, jv u, .second, iv 1, .unset] [(.int 0), (.ref a1)]))
  obtain ⟨cl1, Ar1, q1, S1, M1, H1, G1⟩ := (id V_1)
  have hin1 : ¬ ((0 : Int32) < 0 ∨ cl1.slots.size ≤ ((0 : Int32)).toNatClampNeg) := inb_of S1 ⟨by decide, by decide⟩
  have hat1 : cl1.slots[((0 : Int32)).toNatClampNeg]? = some (.long w0) := H1.at hin1 rfl
  refine og (fun t k => X0.laload hx (j := (0 : Int32)) (v := (.long w0)) (by rw [e0]; exact Ar1.1) (State.isArrayOf_alike hZ.alike Ar1.2.1) Ar1.2.2 hin1 hat1 (g := (mkF m 28 #[rv a1, iv p2, iv 2, jv u, .second, iv 1, .unset] [(.int 0), (.ref a1)])) rfl rfl (hb hby d6_28) _ (XS.lloadN X0.here hx rfl (hb hby d6_29) rfl (XS.lcmp X0.here hx rfl (hb hby d6_30) rfl k))) ?_
  show oF p e below _ (s₁.setTop (mkF m 31 #[rv a1, iv p2, iv 2, jv u, .second, iv 1, .unset] [(.int (lcmpW w0 u))]))
  by_cases hc2 : w0 = u
  · skip
    rw [(show (own_s21_31 a1 p2 u w0 w1 w2 w3) = (1 : Int32) from if_pos hc2)]
    refine og (fun t k => XS.ifYes X0.here hx rfl (pc0 := 31) (pc' := 36) rfl (hb hby d6_31) rfl ((if0 _ _).trans (teq ((lw_eq _ _).mpr hc2)).1) (by decide) (by decide) (XS.iloadN X0.here hx rfl (hb hby d6_36) rfl (XS.iload X0.here hx rfl (hb hby d6_37) rfl (XS.isub X0.here hx rfl (hb hby d6_39) rfl (XS.iconst X0.here hx rfl (hb hby d6_40) (XS.iadd X0.here hx rfl (hb hby d6_41) rfl (XS.istore X0.here hx rfl (hb hby d6_42) rfl (l' := #[rv a1, iv p2, iv 2, jv u, .second, iv 1, iv 2]) rfl (XS.iload X0.here hx rfl (hb hby d6_44) rfl (XS.iconst X0.here hx rfl (hb hby d6_46) (XS.isub X0.here hx rfl (hb hby d6_47) rfl k)))))))))) ?_
    show oF p e below _ (s₁.setTop (mkF m 48 #[rv a1, iv p2, iv 2, jv u, .second, iv 1, iv 2] [(.int 0)]))
    refine og (fun t k => XS.ifYes X0.here hx rfl (pc0 := 48) (pc' := 64) rfl (hb hby d6_48) rfl ((if0 _ _).trans (flt (by decide : ¬ ((0 : Int32) < (0 : Int32)))).2.2.2) (by decide) (by decide) (XS.iload X0.here hx rfl (hb hby d6_64) rfl (XS.iconst X0.here hx rfl (hb hby d6_66) (XS.isub X0.here hx rfl (hb hby d6_67) rfl (XS.iconst X0.here hx rfl (hb hby d6_68) k))))) ?_
    show oF p e below _ (s₁.setTop (mkF m 69 #[rv a1, iv p2, iv 2, jv u, .second, iv 1, iv 2] [(.int 1), (.int 0)]))
    refine og (fun t k => XS.icmpYes X0.here hx rfl (pc0 := 69) (pc' := 87) rfl (hb hby d6_69) rfl (flt (by decide : ¬ ((1 : Int32) < (0 : Int32)))).2.2.2 (by decide) (by decide) (XS.iload X0.here hx rfl (hb hby d6_87) rfl (XS.iconst X0.here hx rfl (hb hby d6_89) (XS.isub X0.here hx rfl (hb hby d6_90) rfl (XS.iconst X0.here hx rfl (hb hby d6_91) k))))) ?_
    show oF p e below _ (s₁.setTop (mkF m 92 #[rv a1, iv p2, iv 2, jv u, .second, iv 1, iv 2] [(.int 2), (.int 0)]))
    refine og (fun t k => XS.icmpYes X0.here hx rfl (pc0 := 92) (pc' := 110) rfl (hb hby d6_92) rfl (flt (by decide : ¬ ((2 : Int32) < (0 : Int32)))).2.2.2 (by decide) (by decide) (XS.iconst X0.here hx rfl (hb hby d6_110) k)) ?_
    show oF p e below _ (s₁.setTop (mkF m 111 #[rv a1, iv p2, iv 2, jv u, .second, iv 1, iv 2] [(.int 1)]))
    exact oo X0 (fun h => by rw [Bd.returns] at h; cases h) Bd.notSynchronized (fun fs hr => retN X0 hx (t := .boolean) Bd.returns (by simp) (hb hby d6_111) hr) ⟨rfl, N0, e0⟩ (by decide) (by decide)
  · skip
    rw [(show (own_s21_31 a1 p2 u w0 w1 w2 w3) = (0 : Int32) from if_neg hc2)]
    refine og (fun t k => XS.ifNo X0.here hx rfl (hb hby d6_31) rfl ((if0 _ _).trans (feq (fun q => hc2 ((lw_eq _ _).mp q))).1) (XS.iconst X0.here hx rfl (hb hby d6_34) k)) ?_
    show oF p e below _ (s₁.setTop (mkF m 35 #[rv a1, iv p2, iv 2, jv u, .second, iv 1, .unset] [(.int 0)]))
    exact oo X0 (fun h => by rw [Bd.returns] at h; cases h) Bd.notSynchronized (fun fs hr => retN X0 hx (t := .boolean) Bd.returns (by simp) (hb hby d6_35) hr) ⟨rfl, N0, e0⟩ (by decide) (by decide)
theorem ef_6s22 (m : MethodId) (x0 : Addr) (x1 : Int32) (x2 : Int32) (x3 : Int64) (x4 : Int32)  : entryFrame m #[(.ref x0), (.int x1), (.int x2), (.long x3), (.int x4)] 7 = mkF m 0 #[rv x0, iv x1, iv x2, jv x3, .second, iv x4, .unset] [] := by first | (simp [entryFrame, mkF, argsToLocals, Value.category]; done) | rfl
def own_s22_59 (a1 : Addr) (p2 : Int32) (u : Int64) (w0 : Int64) (w1 : Int64) (w2 : Int64) (w3 : Int64) : Int32 := if w0 = w1 then (1 : Int32) else (0 : Int32)
def own_s22_31 (a1 : Addr) (p2 : Int32) (u : Int64) (w0 : Int64) (w1 : Int64) (w2 : Int64) (w3 : Int64) : Int32 := if w1 = u then (own_s22_59 a1 p2 u w0 w1 w2 w3) else (0 : Int32)
def own_s22 (a1 : Addr) (p2 : Int32) (u : Int64) (w0 : Int64) (w1 : Int64) (w2 : Int64) (w3 : Int64) : Int32 := (own_s22_31 a1 p2 u w0 w1 w2 w3)
set_option maxRecDepth 65536 in
set_option maxHeartbeats 40000000 in
theorem rm6s22 (l : Launch) (Z : State) (a0 : Array Value) (hw : ∀ d ∈ tables_1, d.before a0 Z = true) (ws : List Jvm.Cond) (a1 : Addr) (p2 : Int32) (u : Int64) (k1 : ClassId) (w0 : Int64) (w1 : Int64) (w2 : Int64) (w3 : Int64) (h0 : Heap) (n0 : Nat) (Z0 : n0 ≤ h0.size) (V_1 : Arv Z h0 a1 k1 .long (4 : Int32) [(.long w0), (.long w1), (.long w2), (.long w3)] (.long (0 : Int64))) (hk : ¬ p2 < (2 : Int32)) :
    MetFree l (⟨"com/example/sound_verdict/soundverdict/UnitSearchNextPinLaw", "suf", "([JIIJI)Z"⟩ : MethodName) (head1 (Jvm.Cond.code (⟨"com/example/sound_verdict/soundverdict/UnitSearchNextPinLaw", "suf", "([JIIJI)Z"⟩ : MethodName) method_4_code 7 (some .boolean) :: ws) ({ frames := 0, cells := 0, slots := 0, locals := 0 } : Room)) (fun a U => a = #[(.ref a1), (.int p2), (.int 2), (.long u), (.int 2)] ∧ Z.Warmed39 U.vm ∧ U.heap = h0) (fun _ _ _ _ _ => True) (fun _ U o U' => ∃ v L, o = .returned v ∧ (own_P h0 n0 (.int (own_s22 a1 p2 u w0 w1 w2 w3))) v U'.heap L ∧ FrameEnd U o U' L ({ frames := 0, cells := 0, slots := 0, locals := 0 } : Room).cells ({ frames := 0, cells := 0, slots := 0, locals := 0 } : Room).slots) := by
  refine MetFree.of_bodySF (plainFor_of_name pn_0) hisR ?_
  intro p e s m args below meth c s₁ Bd hml0 hP hK
  obtain ⟨rfl, hZ, hh⟩ := hP
  have hx := Bd.exec
  have hby := Bd.bytes
  have hml : c.maxLocals = 7 := hml0
  have hown : s.vm.findClass "com/example/sound_verdict/soundverdict/UnitSearchNextPinLaw" = some m.cls := findClass_of_methodNamed Bd.named
  have hnm := (name_of_methodNamed Bd.named Bd.method).1
  have X0 : Stand p l e ({ frames := 0, cells := 0, slots := 0, locals := 0 } : Room) s m #[(.ref a1), (.int p2), (.int 2), (.long u), (.int 2)] below meth c s₁ [] 0 0 := Stand.of_body Bd
  have e0 : s₁.heap = h0 := by rw [← hh, Bd.state]; rfl
  have N0 := Fr.nil n0
  show oF p e below (own_A s ({ frames := 0, cells := 0, slots := 0, locals := 0 } : Room).cells ({ frames := 0, cells := 0, slots := 0, locals := 0 } : Room).slots (own_P h0 n0 (.int (own_s22 a1 p2 u w0 w1 w2 w3)))) _
  refine og (fun t k => castTop (ef_6s22 m (a1) (p2) ((2 : Int32)) (u) ((2 : Int32))) k) ?_
  show oF p e below _ (s₁.setTop (mkF m 0 #[rv a1, iv p2, iv 2, jv u, .second, iv 2, .unset] []))
  rw [show (own_s22 a1 p2 u w0 w1 w2 w3) = (own_s22_31 a1 p2 u w0 w1 w2 w3) from rfl]
  refine og (fun t k => XS.iload X0.here hx rfl (hb hby d6_0) rfl (XS.iloadN X0.here hx rfl (hb hby d6_2) rfl k)) ?_
  show oF p e below _ (s₁.setTop (mkF m 3 #[rv a1, iv p2, iv 2, jv u, .second, iv 2, .unset] [(.int p2), (.int 2)]))
  refine og (fun t k => XS.icmpNo X0.here hx rfl (hb hby d6_3) rfl (flt hk).2.2.1 (XS.iload X0.here hx rfl (hb hby d6_6) rfl (XS.iloadN X0.here hx rfl (hb hby d6_8) rfl (XS.iconst X0.here hx rfl (hb hby d6_9) (XS.iadd X0.here hx rfl (hb hby d6_10) rfl k))))) ?_
  show oF p e below _ (s₁.setTop (mkF m 11 #[rv a1, iv p2, iv 2, jv u, .second, iv 2, .unset] [(.int 3), (.int 2)]))
  refine og (fun t k => XS.icmpYes X0.here hx rfl (pc0 := 11) (pc' := 16) rfl (hb hby d6_11) rfl (flt (by decide : ¬ ((3 : Int32) < (2 : Int32)))).2.2.2 (by decide) (by decide) (XS.iload X0.here hx rfl (hb hby d6_16) rfl k)) ?_
  show oF p e below _ (s₁.setTop (mkF m 18 #[rv a1, iv p2, iv 2, jv u, .second, iv 2, .unset] [(.int 2)]))
  refine og (fun t k => XS.ifYes X0.here hx rfl (pc0 := 18) (pc' := 23) rfl (hb hby d6_18) rfl ((if0 _ _).trans (feq (by decide : ¬ ((2 : Int32) = (0 : Int32)))).2) (by decide) (by decide) (XS.aloadN X0.here hx rfl (hb hby d6_23) rfl rfl (XS.iload X0.here hx rfl (hb hby d6_24) rfl (XS.iconst X0.here hx rfl (hb hby d6_26) (XS.isub X0.here hx rfl (hb hby d6_27) rfl k))))) ?_
  show oF p e below _ (s₁.setTop (mkF m 28 #[rv a1, iv p2, iv 2, jv u, .second, iv 2, .unset] [(.int 1), (.ref a1)]))
  obtain ⟨cl1, Ar1, q1, S1, M1, H1, G1⟩ := (id V_1)
  have hin1 : ¬ ((1 : Int32) < 0 ∨ cl1.slots.size ≤ ((1 : Int32)).toNatClampNeg) := inb_of S1 ⟨by decide, by decide⟩
  have hat1 : cl1.slots[((1 : Int32)).toNatClampNeg]? = some (.long w1) := H1.at hin1 rfl
  refine og (fun t k => X0.laload hx (j := (1 : Int32)) (v := (.long w1)) (by rw [e0]; exact Ar1.1) (State.isArrayOf_alike hZ.alike Ar1.2.1) Ar1.2.2 hin1 hat1 (g := (mkF m 28 #[rv a1, iv p2, iv 2, jv u, .second, iv 2, .unset] [(.int 1), (.ref a1)])) rfl rfl (hb hby d6_28) _ (XS.lloadN X0.here hx rfl (hb hby d6_29) rfl (XS.lcmp X0.here hx rfl (hb hby d6_30) rfl k))) ?_
  show oF p e below _ (s₁.setTop (mkF m 31 #[rv a1, iv p2, iv 2, jv u, .second, iv 2, .unset] [(.int (lcmpW w1 u))]))
  by_cases hc2 : w1 = u
  · skip
    rw [(show (own_s22_31 a1 p2 u w0 w1 w2 w3) = (own_s22_59 a1 p2 u w0 w1 w2 w3) from if_pos hc2)]
    refine og (fun t k => XS.ifYes X0.here hx rfl (pc0 := 31) (pc' := 36) rfl (hb hby d6_31) rfl ((if0 _ _).trans (teq ((lw_eq _ _).mpr hc2)).1) (by decide) (by decide) (XS.iloadN X0.here hx rfl (hb hby d6_36) rfl (XS.iload X0.here hx rfl (hb hby d6_37) rfl (XS.isub X0.here hx rfl (hb hby d6_39) rfl (XS.iconst X0.here hx rfl (hb hby d6_40) (XS.iadd X0.here hx rfl (hb hby d6_41) rfl (XS.istore X0.here hx rfl (hb hby d6_42) rfl (l' := #[rv a1, iv p2, iv 2, jv u, .second, iv 2, iv 1]) rfl (XS.iload X0.here hx rfl (hb hby d6_44) rfl (XS.iconst X0.here hx rfl (hb hby d6_46) (XS.isub X0.here hx rfl (hb hby d6_47) rfl k)))))))))) ?_
    show oF p e below _ (s₁.setTop (mkF m 48 #[rv a1, iv p2, iv 2, jv u, .second, iv 2, iv 1] [(.int 1)]))
    refine og (fun t k => XS.ifNo X0.here hx rfl (hb hby d6_48) rfl ((if0 _ _).trans (tlt (by decide : (0 : Int32) < (1 : Int32))).2.2.2) (XS.aloadN X0.here hx rfl (hb hby d6_51) rfl rfl (XS.iconst X0.here hx rfl (hb hby d6_52) k))) ?_
    show oF p e below _ (s₁.setTop (mkF m 53 #[rv a1, iv p2, iv 2, jv u, .second, iv 2, iv 1] [(.int 0), (.ref a1)]))
    obtain ⟨cl3, Ar3, q3, S3, M3, H3, G3⟩ := (id V_1)
    have hin3 : ¬ ((0 : Int32) < 0 ∨ cl3.slots.size ≤ ((0 : Int32)).toNatClampNeg) := inb_of S3 ⟨by decide, by decide⟩
    have hat3 : cl3.slots[((0 : Int32)).toNatClampNeg]? = some (.long w0) := H3.at hin3 rfl
    refine og (fun t k => X0.laload hx (j := (0 : Int32)) (v := (.long w0)) (by rw [e0]; exact Ar3.1) (State.isArrayOf_alike hZ.alike Ar3.2.1) Ar3.2.2 hin3 hat3 (g := (mkF m 53 #[rv a1, iv p2, iv 2, jv u, .second, iv 2, iv 1] [(.int 0), (.ref a1)])) rfl rfl (hb hby d6_53) _ (XS.aloadN X0.here hx rfl (hb hby d6_54) rfl rfl (XS.iload X0.here hx rfl (hb hby d6_55) rfl k))) ?_
    show oF p e below _ (s₁.setTop (mkF m 57 #[rv a1, iv p2, iv 2, jv u, .second, iv 2, iv 1] [(.int 1), (.ref a1), (.long w0)]))
    obtain ⟨cl4, Ar4, q4, S4, M4, H4, G4⟩ := (id V_1)
    have hin4 : ¬ ((1 : Int32) < 0 ∨ cl4.slots.size ≤ ((1 : Int32)).toNatClampNeg) := inb_of S4 ⟨by decide, by decide⟩
    have hat4 : cl4.slots[((1 : Int32)).toNatClampNeg]? = some (.long w1) := H4.at hin4 rfl
    refine og (fun t k => X0.laload hx (j := (1 : Int32)) (v := (.long w1)) (by rw [e0]; exact Ar4.1) (State.isArrayOf_alike hZ.alike Ar4.2.1) Ar4.2.2 hin4 hat4 (g := (mkF m 57 #[rv a1, iv p2, iv 2, jv u, .second, iv 2, iv 1] [(.int 1), (.ref a1), (.long w0)])) rfl rfl (hb hby d6_57) _ (XS.lcmp X0.here hx rfl (hb hby d6_58) rfl k)) ?_
    show oF p e below _ (s₁.setTop (mkF m 59 #[rv a1, iv p2, iv 2, jv u, .second, iv 2, iv 1] [(.int (lcmpW w0 w1))]))
    by_cases hc5 : w0 = w1
    · skip
      rw [(show (own_s22_59 a1 p2 u w0 w1 w2 w3) = (1 : Int32) from if_pos hc5)]
      refine og (fun t k => XS.ifYes X0.here hx rfl (pc0 := 59) (pc' := 64) rfl (hb hby d6_59) rfl ((if0 _ _).trans (teq ((lw_eq _ _).mpr hc5)).1) (by decide) (by decide) (XS.iload X0.here hx rfl (hb hby d6_64) rfl (XS.iconst X0.here hx rfl (hb hby d6_66) (XS.isub X0.here hx rfl (hb hby d6_67) rfl (XS.iconst X0.here hx rfl (hb hby d6_68) k))))) ?_
      show oF p e below _ (s₁.setTop (mkF m 69 #[rv a1, iv p2, iv 2, jv u, .second, iv 2, iv 1] [(.int 1), (.int 1)]))
      refine og (fun t k => XS.icmpYes X0.here hx rfl (pc0 := 69) (pc' := 87) rfl (hb hby d6_69) rfl (flt (by decide : ¬ ((1 : Int32) < (1 : Int32)))).2.2.2 (by decide) (by decide) (XS.iload X0.here hx rfl (hb hby d6_87) rfl (XS.iconst X0.here hx rfl (hb hby d6_89) (XS.isub X0.here hx rfl (hb hby d6_90) rfl (XS.iconst X0.here hx rfl (hb hby d6_91) k))))) ?_
      show oF p e below _ (s₁.setTop (mkF m 92 #[rv a1, iv p2, iv 2, jv u, .second, iv 2, iv 1] [(.int 2), (.int 1)]))
      refine og (fun t k => XS.icmpYes X0.here hx rfl (pc0 := 92) (pc' := 110) rfl (hb hby d6_92) rfl (flt (by decide : ¬ ((2 : Int32) < (1 : Int32)))).2.2.2 (by decide) (by decide) (XS.iconst X0.here hx rfl (hb hby d6_110) k)) ?_
      show oF p e below _ (s₁.setTop (mkF m 111 #[rv a1, iv p2, iv 2, jv u, .second, iv 2, iv 1] [(.int 1)]))
      exact oo X0 (fun h => by rw [Bd.returns] at h; cases h) Bd.notSynchronized (fun fs hr => retN X0 hx (t := .boolean) Bd.returns (by simp) (hb hby d6_111) hr) ⟨rfl, N0, e0⟩ (by decide) (by decide)
    · skip
      rw [(show (own_s22_59 a1 p2 u w0 w1 w2 w3) = (0 : Int32) from if_neg hc5)]
      refine og (fun t k => XS.ifNo X0.here hx rfl (hb hby d6_59) rfl ((if0 _ _).trans (feq (fun q => hc5 ((lw_eq _ _).mp q))).1) (XS.iconst X0.here hx rfl (hb hby d6_62) k)) ?_
      show oF p e below _ (s₁.setTop (mkF m 63 #[rv a1, iv p2, iv 2, jv u, .second, iv 2, iv 1] [(.int 0)]))
      exact oo X0 (fun h => by rw [Bd.returns] at h; cases h) Bd.notSynchronized (fun fs hr => retN X0 hx (t := .boolean) Bd.returns (by simp) (hb hby d6_63) hr) ⟨rfl, N0, e0⟩ (by decide) (by decide)
  · skip
    rw [(show (own_s22_31 a1 p2 u w0 w1 w2 w3) = (0 : Int32) from if_neg hc2)]
    refine og (fun t k => XS.ifNo X0.here hx rfl (hb hby d6_31) rfl ((if0 _ _).trans (feq (fun q => hc2 ((lw_eq _ _).mp q))).1) (XS.iconst X0.here hx rfl (hb hby d6_34) k)) ?_
    show oF p e below _ (s₁.setTop (mkF m 35 #[rv a1, iv p2, iv 2, jv u, .second, iv 2, .unset] [(.int 0)]))
    exact oo X0 (fun h => by rw [Bd.returns] at h; cases h) Bd.notSynchronized (fun fs hr => retN X0 hx (t := .boolean) Bd.returns (by simp) (hb hby d6_35) hr) ⟨rfl, N0, e0⟩ (by decide) (by decide)
theorem d6_72 : decode method_4_code 72 = .ok (.aload_n 0, 1) := by decide +kernel
theorem d6_73 : decode method_4_code 73 = .ok (.iconst 1, 1) := by decide +kernel
theorem d6_74 : decode method_4_code 74 = .ok (.laload, 1) := by decide +kernel
theorem d6_75 : decode method_4_code 75 = .ok (.aload_n 0, 1) := by decide +kernel
theorem d6_76 : decode method_4_code 76 = .ok (.iload 6, 2) := by decide +kernel
theorem d6_78 : decode method_4_code 78 = .ok (.iconst 1, 1) := by decide +kernel
theorem d6_79 : decode method_4_code 79 = .ok (.iadd, 1) := by decide +kernel
theorem d6_80 : decode method_4_code 80 = .ok (.laload, 1) := by decide +kernel
theorem d6_81 : decode method_4_code 81 = .ok (.lcmp, 1) := by decide +kernel
theorem d6_82 : decode method_4_code 82 = .ok (.ifCond .eq 5, 3) := by decide +kernel
theorem d6_85 : decode method_4_code 85 = .ok (.iconst 0, 1) := by decide +kernel
theorem d6_86 : decode method_4_code 86 = .ok (.ireturn, 1) := by decide +kernel
theorem ef_6s23 (m : MethodId) (x0 : Addr) (x1 : Int32) (x2 : Int32) (x3 : Int64) (x4 : Int32)  : entryFrame m #[(.ref x0), (.int x1), (.int x2), (.long x3), (.int x4)] 7 = mkF m 0 #[rv x0, iv x1, iv x2, jv x3, .second, iv x4, .unset] [] := by first | (simp [entryFrame, mkF, argsToLocals, Value.category]; done) | rfl
def own_s23_82 (a1 : Addr) (p2 : Int32) (u : Int64) (w0 : Int64) (w1 : Int64) (w2 : Int64) (w3 : Int64) : Int32 := if w1 = w1 then (1 : Int32) else (0 : Int32)
def own_s23_59 (a1 : Addr) (p2 : Int32) (u : Int64) (w0 : Int64) (w1 : Int64) (w2 : Int64) (w3 : Int64) : Int32 := if w0 = w0 then (own_s23_82 a1 p2 u w0 w1 w2 w3) else (0 : Int32)
def own_s23_31 (a1 : Addr) (p2 : Int32) (u : Int64) (w0 : Int64) (w1 : Int64) (w2 : Int64) (w3 : Int64) : Int32 := if w2 = u then (own_s23_59 a1 p2 u w0 w1 w2 w3) else (0 : Int32)
def own_s23 (a1 : Addr) (p2 : Int32) (u : Int64) (w0 : Int64) (w1 : Int64) (w2 : Int64) (w3 : Int64) : Int32 := (own_s23_31 a1 p2 u w0 w1 w2 w3)
set_option maxRecDepth 65536 in
set_option maxHeartbeats 40000000 in
theorem rm6s23 (l : Launch) (Z : State) (a0 : Array Value) (hw : ∀ d ∈ tables_1, d.before a0 Z = true) (ws : List Jvm.Cond) (a1 : Addr) (p2 : Int32) (u : Int64) (k1 : ClassId) (w0 : Int64) (w1 : Int64) (w2 : Int64) (w3 : Int64) (h0 : Heap) (n0 : Nat) (Z0 : n0 ≤ h0.size) (V_1 : Arv Z h0 a1 k1 .long (4 : Int32) [(.long w0), (.long w1), (.long w2), (.long w3)] (.long (0 : Int64))) (hk : ¬ p2 < (3 : Int32)) :
    MetFree l (⟨"com/example/sound_verdict/soundverdict/UnitSearchNextPinLaw", "suf", "([JIIJI)Z"⟩ : MethodName) (head1 (Jvm.Cond.code (⟨"com/example/sound_verdict/soundverdict/UnitSearchNextPinLaw", "suf", "([JIIJI)Z"⟩ : MethodName) method_4_code 7 (some .boolean) :: ws) ({ frames := 0, cells := 0, slots := 0, locals := 0 } : Room)) (fun a U => a = #[(.ref a1), (.int p2), (.int 2), (.long u), (.int 3)] ∧ Z.Warmed39 U.vm ∧ U.heap = h0) (fun _ _ _ _ _ => True) (fun _ U o U' => ∃ v L, o = .returned v ∧ (own_P h0 n0 (.int (own_s23 a1 p2 u w0 w1 w2 w3))) v U'.heap L ∧ FrameEnd U o U' L ({ frames := 0, cells := 0, slots := 0, locals := 0 } : Room).cells ({ frames := 0, cells := 0, slots := 0, locals := 0 } : Room).slots) := by
  refine MetFree.of_bodySF (plainFor_of_name pn_0) hisR ?_
  intro p e s m args below meth c s₁ Bd hml0 hP hK
  obtain ⟨rfl, hZ, hh⟩ := hP
  have hx := Bd.exec
  have hby := Bd.bytes
  have hml : c.maxLocals = 7 := hml0
  have hown : s.vm.findClass "com/example/sound_verdict/soundverdict/UnitSearchNextPinLaw" = some m.cls := findClass_of_methodNamed Bd.named
  have hnm := (name_of_methodNamed Bd.named Bd.method).1
  have X0 : Stand p l e ({ frames := 0, cells := 0, slots := 0, locals := 0 } : Room) s m #[(.ref a1), (.int p2), (.int 2), (.long u), (.int 3)] below meth c s₁ [] 0 0 := Stand.of_body Bd
  have e0 : s₁.heap = h0 := by rw [← hh, Bd.state]; rfl
  have N0 := Fr.nil n0
  show oF p e below (own_A s ({ frames := 0, cells := 0, slots := 0, locals := 0 } : Room).cells ({ frames := 0, cells := 0, slots := 0, locals := 0 } : Room).slots (own_P h0 n0 (.int (own_s23 a1 p2 u w0 w1 w2 w3)))) _
  refine og (fun t k => castTop (ef_6s23 m (a1) (p2) ((2 : Int32)) (u) ((3 : Int32))) k) ?_
  show oF p e below _ (s₁.setTop (mkF m 0 #[rv a1, iv p2, iv 2, jv u, .second, iv 3, .unset] []))
  rw [show (own_s23 a1 p2 u w0 w1 w2 w3) = (own_s23_31 a1 p2 u w0 w1 w2 w3) from rfl]
  refine og (fun t k => XS.iload X0.here hx rfl (hb hby d6_0) rfl (XS.iloadN X0.here hx rfl (hb hby d6_2) rfl k)) ?_
  show oF p e below _ (s₁.setTop (mkF m 3 #[rv a1, iv p2, iv 2, jv u, .second, iv 3, .unset] [(.int p2), (.int 3)]))
  refine og (fun t k => XS.icmpNo X0.here hx rfl (hb hby d6_3) rfl (flt hk).2.2.1 (XS.iload X0.here hx rfl (hb hby d6_6) rfl (XS.iloadN X0.here hx rfl (hb hby d6_8) rfl (XS.iconst X0.here hx rfl (hb hby d6_9) (XS.iadd X0.here hx rfl (hb hby d6_10) rfl k))))) ?_
  show oF p e below _ (s₁.setTop (mkF m 11 #[rv a1, iv p2, iv 2, jv u, .second, iv 3, .unset] [(.int 3), (.int 3)]))
  refine og (fun t k => XS.icmpYes X0.here hx rfl (pc0 := 11) (pc' := 16) rfl (hb hby d6_11) rfl (flt (by decide : ¬ ((3 : Int32) < (3 : Int32)))).2.2.2 (by decide) (by decide) (XS.iload X0.here hx rfl (hb hby d6_16) rfl k)) ?_
  show oF p e below _ (s₁.setTop (mkF m 18 #[rv a1, iv p2, iv 2, jv u, .second, iv 3, .unset] [(.int 3)]))
  refine og (fun t k => XS.ifYes X0.here hx rfl (pc0 := 18) (pc' := 23) rfl (hb hby d6_18) rfl ((if0 _ _).trans (feq (by decide : ¬ ((3 : Int32) = (0 : Int32)))).2) (by decide) (by decide) (XS.aloadN X0.here hx rfl (hb hby d6_23) rfl rfl (XS.iload X0.here hx rfl (hb hby d6_24) rfl (XS.iconst X0.here hx rfl (hb hby d6_26) (XS.isub X0.here hx rfl (hb hby d6_27) rfl k))))) ?_
  show oF p e below _ (s₁.setTop (mkF m 28 #[rv a1, iv p2, iv 2, jv u, .second, iv 3, .unset] [(.int 2), (.ref a1)]))
  obtain ⟨cl1, Ar1, q1, S1, M1, H1, G1⟩ := (id V_1)
  have hin1 : ¬ ((2 : Int32) < 0 ∨ cl1.slots.size ≤ ((2 : Int32)).toNatClampNeg) := inb_of S1 ⟨by decide, by decide⟩
  have hat1 : cl1.slots[((2 : Int32)).toNatClampNeg]? = some (.long w2) := H1.at hin1 rfl
  refine og (fun t k => X0.laload hx (j := (2 : Int32)) (v := (.long w2)) (by rw [e0]; exact Ar1.1) (State.isArrayOf_alike hZ.alike Ar1.2.1) Ar1.2.2 hin1 hat1 (g := (mkF m 28 #[rv a1, iv p2, iv 2, jv u, .second, iv 3, .unset] [(.int 2), (.ref a1)])) rfl rfl (hb hby d6_28) _ (XS.lloadN X0.here hx rfl (hb hby d6_29) rfl (XS.lcmp X0.here hx rfl (hb hby d6_30) rfl k))) ?_
  show oF p e below _ (s₁.setTop (mkF m 31 #[rv a1, iv p2, iv 2, jv u, .second, iv 3, .unset] [(.int (lcmpW w2 u))]))
  by_cases hc2 : w2 = u
  · skip
    rw [(show (own_s23_31 a1 p2 u w0 w1 w2 w3) = (own_s23_59 a1 p2 u w0 w1 w2 w3) from if_pos hc2)]
    refine og (fun t k => XS.ifYes X0.here hx rfl (pc0 := 31) (pc' := 36) rfl (hb hby d6_31) rfl ((if0 _ _).trans (teq ((lw_eq _ _).mpr hc2)).1) (by decide) (by decide) (XS.iloadN X0.here hx rfl (hb hby d6_36) rfl (XS.iload X0.here hx rfl (hb hby d6_37) rfl (XS.isub X0.here hx rfl (hb hby d6_39) rfl (XS.iconst X0.here hx rfl (hb hby d6_40) (XS.iadd X0.here hx rfl (hb hby d6_41) rfl (XS.istore X0.here hx rfl (hb hby d6_42) rfl (l' := #[rv a1, iv p2, iv 2, jv u, .second, iv 3, iv 0]) rfl (XS.iload X0.here hx rfl (hb hby d6_44) rfl (XS.iconst X0.here hx rfl (hb hby d6_46) (XS.isub X0.here hx rfl (hb hby d6_47) rfl k)))))))))) ?_
    show oF p e below _ (s₁.setTop (mkF m 48 #[rv a1, iv p2, iv 2, jv u, .second, iv 3, iv 0] [(.int 2)]))
    refine og (fun t k => XS.ifNo X0.here hx rfl (hb hby d6_48) rfl ((if0 _ _).trans (tlt (by decide : (0 : Int32) < (2 : Int32))).2.2.2) (XS.aloadN X0.here hx rfl (hb hby d6_51) rfl rfl (XS.iconst X0.here hx rfl (hb hby d6_52) k))) ?_
    show oF p e below _ (s₁.setTop (mkF m 53 #[rv a1, iv p2, iv 2, jv u, .second, iv 3, iv 0] [(.int 0), (.ref a1)]))
    obtain ⟨cl3, Ar3, q3, S3, M3, H3, G3⟩ := (id V_1)
    have hin3 : ¬ ((0 : Int32) < 0 ∨ cl3.slots.size ≤ ((0 : Int32)).toNatClampNeg) := inb_of S3 ⟨by decide, by decide⟩
    have hat3 : cl3.slots[((0 : Int32)).toNatClampNeg]? = some (.long w0) := H3.at hin3 rfl
    refine og (fun t k => X0.laload hx (j := (0 : Int32)) (v := (.long w0)) (by rw [e0]; exact Ar3.1) (State.isArrayOf_alike hZ.alike Ar3.2.1) Ar3.2.2 hin3 hat3 (g := (mkF m 53 #[rv a1, iv p2, iv 2, jv u, .second, iv 3, iv 0] [(.int 0), (.ref a1)])) rfl rfl (hb hby d6_53) _ (XS.aloadN X0.here hx rfl (hb hby d6_54) rfl rfl (XS.iload X0.here hx rfl (hb hby d6_55) rfl k))) ?_
    show oF p e below _ (s₁.setTop (mkF m 57 #[rv a1, iv p2, iv 2, jv u, .second, iv 3, iv 0] [(.int 0), (.ref a1), (.long w0)]))
    obtain ⟨cl4, Ar4, q4, S4, M4, H4, G4⟩ := (id V_1)
    have hin4 : ¬ ((0 : Int32) < 0 ∨ cl4.slots.size ≤ ((0 : Int32)).toNatClampNeg) := inb_of S4 ⟨by decide, by decide⟩
    have hat4 : cl4.slots[((0 : Int32)).toNatClampNeg]? = some (.long w0) := H4.at hin4 rfl
    refine og (fun t k => X0.laload hx (j := (0 : Int32)) (v := (.long w0)) (by rw [e0]; exact Ar4.1) (State.isArrayOf_alike hZ.alike Ar4.2.1) Ar4.2.2 hin4 hat4 (g := (mkF m 57 #[rv a1, iv p2, iv 2, jv u, .second, iv 3, iv 0] [(.int 0), (.ref a1), (.long w0)])) rfl rfl (hb hby d6_57) _ (XS.lcmp X0.here hx rfl (hb hby d6_58) rfl k)) ?_
    show oF p e below _ (s₁.setTop (mkF m 59 #[rv a1, iv p2, iv 2, jv u, .second, iv 3, iv 0] [(.int (lcmpW w0 w0))]))
    by_cases hc5 : w0 = w0
    · skip
      rw [(show (own_s23_59 a1 p2 u w0 w1 w2 w3) = (own_s23_82 a1 p2 u w0 w1 w2 w3) from if_pos hc5)]
      refine og (fun t k => XS.ifYes X0.here hx rfl (pc0 := 59) (pc' := 64) rfl (hb hby d6_59) rfl ((if0 _ _).trans (teq ((lw_eq _ _).mpr hc5)).1) (by decide) (by decide) (XS.iload X0.here hx rfl (hb hby d6_64) rfl (XS.iconst X0.here hx rfl (hb hby d6_66) (XS.isub X0.here hx rfl (hb hby d6_67) rfl (XS.iconst X0.here hx rfl (hb hby d6_68) k))))) ?_
      show oF p e below _ (s₁.setTop (mkF m 69 #[rv a1, iv p2, iv 2, jv u, .second, iv 3, iv 0] [(.int 1), (.int 2)]))
      refine og (fun t k => XS.icmpNo X0.here hx rfl (hb hby d6_69) rfl (tlt (by decide : (1 : Int32) < (2 : Int32))).2.2.2 (XS.aloadN X0.here hx rfl (hb hby d6_72) rfl rfl (XS.iconst X0.here hx rfl (hb hby d6_73) k))) ?_
      show oF p e below _ (s₁.setTop (mkF m 74 #[rv a1, iv p2, iv 2, jv u, .second, iv 3, iv 0] [(.int 1), (.ref a1)]))
      obtain ⟨cl6, Ar6, q6, S6, M6, H6, G6⟩ := (id V_1)
      have hin6 : ¬ ((1 : Int32) < 0 ∨ cl6.slots.size ≤ ((1 : Int32)).toNatClampNeg) := inb_of S6 ⟨by decide, by decide⟩
      have hat6 : cl6.slots[((1 : Int32)).toNatClampNeg]? = some (.long w1) := H6.at hin6 rfl
      refine og (fun t k => X0.laload hx (j := (1 : Int32)) (v := (.long w1)) (by rw [e0]; exact Ar6.1) (State.isArrayOf_alike hZ.alike Ar6.2.1) Ar6.2.2 hin6 hat6 (g := (mkF m 74 #[rv a1, iv p2, iv 2, jv u, .second, iv 3, iv 0] [(.int 1), (.ref a1)])) rfl rfl (hb hby d6_74) _ (XS.aloadN X0.here hx rfl (hb hby d6_75) rfl rfl (XS.iload X0.here hx rfl (hb hby d6_76) rfl (XS.iconst X0.here hx rfl (hb hby d6_78) (XS.iadd X0.here hx rfl (hb hby d6_79) rfl k))))) ?_
      show oF p e below _ (s₁.setTop (mkF m 80 #[rv a1, iv p2, iv 2, jv u, .second, iv 3, iv 0] [(.int 1), (.ref a1), (.long w1)]))
      obtain ⟨cl7, Ar7, q7, S7, M7, H7, G7⟩ := (id V_1)
      have hin7 : ¬ ((1 : Int32) < 0 ∨ cl7.slots.size ≤ ((1 : Int32)).toNatClampNeg) := inb_of S7 ⟨by decide, by decide⟩
      have hat7 : cl7.slots[((1 : Int32)).toNatClampNeg]? = some (.long w1) := H7.at hin7 rfl
      refine og (fun t k => X0.laload hx (j := (1 : Int32)) (v := (.long w1)) (by rw [e0]; exact Ar7.1) (State.isArrayOf_alike hZ.alike Ar7.2.1) Ar7.2.2 hin7 hat7 (g := (mkF m 80 #[rv a1, iv p2, iv 2, jv u, .second, iv 3, iv 0] [(.int 1), (.ref a1), (.long w1)])) rfl rfl (hb hby d6_80) _ (XS.lcmp X0.here hx rfl (hb hby d6_81) rfl k)) ?_
      show oF p e below _ (s₁.setTop (mkF m 82 #[rv a1, iv p2, iv 2, jv u, .second, iv 3, iv 0] [(.int (lcmpW w1 w1))]))
      by_cases hc8 : w1 = w1
      · skip
        rw [(show (own_s23_82 a1 p2 u w0 w1 w2 w3) = (1 : Int32) from if_pos hc8)]
        refine og (fun t k => XS.ifYes X0.here hx rfl (pc0 := 82) (pc' := 87) rfl (hb hby d6_82) rfl ((if0 _ _).trans (teq ((lw_eq _ _).mpr hc8)).1) (by decide) (by decide) (XS.iload X0.here hx rfl (hb hby d6_87) rfl (XS.iconst X0.here hx rfl (hb hby d6_89) (XS.isub X0.here hx rfl (hb hby d6_90) rfl (XS.iconst X0.here hx rfl (hb hby d6_91) k))))) ?_
        show oF p e below _ (s₁.setTop (mkF m 92 #[rv a1, iv p2, iv 2, jv u, .second, iv 3, iv 0] [(.int 2), (.int 2)]))
        refine og (fun t k => XS.icmpYes X0.here hx rfl (pc0 := 92) (pc' := 110) rfl (hb hby d6_92) rfl (flt (by decide : ¬ ((2 : Int32) < (2 : Int32)))).2.2.2 (by decide) (by decide) (XS.iconst X0.here hx rfl (hb hby d6_110) k)) ?_
        show oF p e below _ (s₁.setTop (mkF m 111 #[rv a1, iv p2, iv 2, jv u, .second, iv 3, iv 0] [(.int 1)]))
        exact oo X0 (fun h => by rw [Bd.returns] at h; cases h) Bd.notSynchronized (fun fs hr => retN X0 hx (t := .boolean) Bd.returns (by simp) (hb hby d6_111) hr) ⟨rfl, N0, e0⟩ (by decide) (by decide)
      · skip
        rw [(show (own_s23_82 a1 p2 u w0 w1 w2 w3) = (0 : Int32) from if_neg hc8)]
        refine og (fun t k => XS.ifNo X0.here hx rfl (hb hby d6_82) rfl ((if0 _ _).trans (feq (fun q => hc8 ((lw_eq _ _).mp q))).1) (XS.iconst X0.here hx rfl (hb hby d6_85) k)) ?_
        show oF p e below _ (s₁.setTop (mkF m 86 #[rv a1, iv p2, iv 2, jv u, .second, iv 3, iv 0] [(.int 0)]))
        exact oo X0 (fun h => by rw [Bd.returns] at h; cases h) Bd.notSynchronized (fun fs hr => retN X0 hx (t := .boolean) Bd.returns (by simp) (hb hby d6_86) hr) ⟨rfl, N0, e0⟩ (by decide) (by decide)
    · skip
      rw [(show (own_s23_59 a1 p2 u w0 w1 w2 w3) = (0 : Int32) from if_neg hc5)]
      refine og (fun t k => XS.ifNo X0.here hx rfl (hb hby d6_59) rfl ((if0 _ _).trans (feq (fun q => hc5 ((lw_eq _ _).mp q))).1) (XS.iconst X0.here hx rfl (hb hby d6_62) k)) ?_
      show oF p e below _ (s₁.setTop (mkF m 63 #[rv a1, iv p2, iv 2, jv u, .second, iv 3, iv 0] [(.int 0)]))
      exact oo X0 (fun h => by rw [Bd.returns] at h; cases h) Bd.notSynchronized (fun fs hr => retN X0 hx (t := .boolean) Bd.returns (by simp) (hb hby d6_63) hr) ⟨rfl, N0, e0⟩ (by decide) (by decide)
  · skip
    rw [(show (own_s23_31 a1 p2 u w0 w1 w2 w3) = (0 : Int32) from if_neg hc2)]
    refine og (fun t k => XS.ifNo X0.here hx rfl (hb hby d6_31) rfl ((if0 _ _).trans (feq (fun q => hc2 ((lw_eq _ _).mp q))).1) (XS.iconst X0.here hx rfl (hb hby d6_34) k)) ?_
    show oF p e below _ (s₁.setTop (mkF m 35 #[rv a1, iv p2, iv 2, jv u, .second, iv 3, .unset] [(.int 0)]))
    exact oo X0 (fun h => by rw [Bd.returns] at h; cases h) Bd.notSynchronized (fun fs hr => retN X0 hx (t := .boolean) Bd.returns (by simp) (hb hby d6_35) hr) ⟨rfl, N0, e0⟩ (by decide) (by decide)
theorem ef_6s31 (m : MethodId) (x0 : Addr) (x1 : Int32) (x2 : Int32) (x3 : Int64) (x4 : Int32)  : entryFrame m #[(.ref x0), (.int x1), (.int x2), (.long x3), (.int x4)] 7 = mkF m 0 #[rv x0, iv x1, iv x2, jv x3, .second, iv x4, .unset] [] := by first | (simp [entryFrame, mkF, argsToLocals, Value.category]; done) | rfl
def own_s31_31 (a1 : Addr) (p2 : Int32) (u : Int64) (w0 : Int64) (w1 : Int64) (w2 : Int64) (w3 : Int64) : Int32 := if w0 = u then (1 : Int32) else (0 : Int32)
def own_s31 (a1 : Addr) (p2 : Int32) (u : Int64) (w0 : Int64) (w1 : Int64) (w2 : Int64) (w3 : Int64) : Int32 := (own_s31_31 a1 p2 u w0 w1 w2 w3)
set_option maxRecDepth 65536 in
set_option maxHeartbeats 40000000 in
theorem rm6s31 (l : Launch) (Z : State) (a0 : Array Value) (hw : ∀ d ∈ tables_1, d.before a0 Z = true) (ws : List Jvm.Cond) (a1 : Addr) (p2 : Int32) (u : Int64) (k1 : ClassId) (w0 : Int64) (w1 : Int64) (w2 : Int64) (w3 : Int64) (h0 : Heap) (n0 : Nat) (Z0 : n0 ≤ h0.size) (V_1 : Arv Z h0 a1 k1 .long (4 : Int32) [(.long w0), (.long w1), (.long w2), (.long w3)] (.long (0 : Int64))) (hk : ¬ p2 < (1 : Int32)) :
    MetFree l (⟨"com/example/sound_verdict/soundverdict/UnitSearchNextPinLaw", "suf", "([JIIJI)Z"⟩ : MethodName) (head1 (Jvm.Cond.code (⟨"com/example/sound_verdict/soundverdict/UnitSearchNextPinLaw", "suf", "([JIIJI)Z"⟩ : MethodName) method_4_code 7 (some .boolean) :: ws) ({ frames := 0, cells := 0, slots := 0, locals := 0 } : Room)) (fun a U => a = #[(.ref a1), (.int p2), (.int 3), (.long u), (.int 1)] ∧ Z.Warmed39 U.vm ∧ U.heap = h0) (fun _ _ _ _ _ => True) (fun _ U o U' => ∃ v L, o = .returned v ∧ (own_P h0 n0 (.int (own_s31 a1 p2 u w0 w1 w2 w3))) v U'.heap L ∧ FrameEnd U o U' L ({ frames := 0, cells := 0, slots := 0, locals := 0 } : Room).cells ({ frames := 0, cells := 0, slots := 0, locals := 0 } : Room).slots) := by
  refine MetFree.of_bodySF (plainFor_of_name pn_0) hisR ?_
  intro p e s m args below meth c s₁ Bd hml0 hP hK
  obtain ⟨rfl, hZ, hh⟩ := hP
  have hx := Bd.exec
  have hby := Bd.bytes
  have hml : c.maxLocals = 7 := hml0
  have hown : s.vm.findClass "com/example/sound_verdict/soundverdict/UnitSearchNextPinLaw" = some m.cls := findClass_of_methodNamed Bd.named
  have hnm := (name_of_methodNamed Bd.named Bd.method).1
  have X0 : Stand p l e ({ frames := 0, cells := 0, slots := 0, locals := 0 } : Room) s m #[(.ref a1), (.int p2), (.int 3), (.long u), (.int 1)] below meth c s₁ [] 0 0 := Stand.of_body Bd
  have e0 : s₁.heap = h0 := by rw [← hh, Bd.state]; rfl
  have N0 := Fr.nil n0
  show oF p e below (own_A s ({ frames := 0, cells := 0, slots := 0, locals := 0 } : Room).cells ({ frames := 0, cells := 0, slots := 0, locals := 0 } : Room).slots (own_P h0 n0 (.int (own_s31 a1 p2 u w0 w1 w2 w3)))) _
  refine og (fun t k => castTop (ef_6s31 m (a1) (p2) ((3 : Int32)) (u) ((1 : Int32))) k) ?_
  show oF p e below _ (s₁.setTop (mkF m 0 #[rv a1, iv p2, iv 3, jv u, .second, iv 1, .unset] []))
  rw [show (own_s31 a1 p2 u w0 w1 w2 w3) = (own_s31_31 a1 p2 u w0 w1 w2 w3) from rfl]
  refine og (fun t k => XS.iload X0.here hx rfl (hb hby d6_0) rfl (XS.iloadN X0.here hx rfl (hb hby d6_2) rfl k)) ?_
  show oF p e below _ (s₁.setTop (mkF m 3 #[rv a1, iv p2, iv 3, jv u, .second, iv 1, .unset] [(.int p2), (.int 1)]))
  refine og (fun t k => XS.icmpNo X0.here hx rfl (hb hby d6_3) rfl (flt hk).2.2.1 (XS.iload X0.here hx rfl (hb hby d6_6) rfl (XS.iloadN X0.here hx rfl (hb hby d6_8) rfl (XS.iconst X0.here hx rfl (hb hby d6_9) (XS.iadd X0.here hx rfl (hb hby d6_10) rfl k))))) ?_
  show oF p e below _ (s₁.setTop (mkF m 11 #[rv a1, iv p2, iv 3, jv u, .second, iv 1, .unset] [(.int 4), (.int 1)]))
  refine og (fun t k => XS.icmpYes X0.here hx rfl (pc0 := 11) (pc' := 16) rfl (hb hby d6_11) rfl (flt (by decide : ¬ ((4 : Int32) < (1 : Int32)))).2.2.2 (by decide) (by decide) (XS.iload X0.here hx rfl (hb hby d6_16) rfl k)) ?_
  show oF p e below _ (s₁.setTop (mkF m 18 #[rv a1, iv p2, iv 3, jv u, .second, iv 1, .unset] [(.int 1)]))
  refine og (fun t k => XS.ifYes X0.here hx rfl (pc0 := 18) (pc' := 23) rfl (hb hby d6_18) rfl ((if0 _ _).trans (feq (by decide : ¬ ((1 : Int32) = (0 : Int32)))).2) (by decide) (by decide) (XS.aloadN X0.here hx rfl (hb hby d6_23) rfl rfl (XS.iload X0.here hx rfl (hb hby d6_24) rfl (XS.iconst X0.here hx rfl (hb hby d6_26) (XS.isub X0.here hx rfl (hb hby d6_27) rfl k))))) ?_
  show oF p e below _ (s₁.setTop (mkF m 28 #[rv a1, iv p2, iv 3, jv u, .second, iv 1, .unset] [(.int 0), (.ref a1)]))
  obtain ⟨cl1, Ar1, q1, S1, M1, H1, G1⟩ := (id V_1)
  have hin1 : ¬ ((0 : Int32) < 0 ∨ cl1.slots.size ≤ ((0 : Int32)).toNatClampNeg) := inb_of S1 ⟨by decide, by decide⟩
  have hat1 : cl1.slots[((0 : Int32)).toNatClampNeg]? = some (.long w0) := H1.at hin1 rfl
  refine og (fun t k => X0.laload hx (j := (0 : Int32)) (v := (.long w0)) (by rw [e0]; exact Ar1.1) (State.isArrayOf_alike hZ.alike Ar1.2.1) Ar1.2.2 hin1 hat1 (g := (mkF m 28 #[rv a1, iv p2, iv 3, jv u, .second, iv 1, .unset] [(.int 0), (.ref a1)])) rfl rfl (hb hby d6_28) _ (XS.lloadN X0.here hx rfl (hb hby d6_29) rfl (XS.lcmp X0.here hx rfl (hb hby d6_30) rfl k))) ?_
  show oF p e below _ (s₁.setTop (mkF m 31 #[rv a1, iv p2, iv 3, jv u, .second, iv 1, .unset] [(.int (lcmpW w0 u))]))
  by_cases hc2 : w0 = u
  · skip
    rw [(show (own_s31_31 a1 p2 u w0 w1 w2 w3) = (1 : Int32) from if_pos hc2)]
    refine og (fun t k => XS.ifYes X0.here hx rfl (pc0 := 31) (pc' := 36) rfl (hb hby d6_31) rfl ((if0 _ _).trans (teq ((lw_eq _ _).mpr hc2)).1) (by decide) (by decide) (XS.iloadN X0.here hx rfl (hb hby d6_36) rfl (XS.iload X0.here hx rfl (hb hby d6_37) rfl (XS.isub X0.here hx rfl (hb hby d6_39) rfl (XS.iconst X0.here hx rfl (hb hby d6_40) (XS.iadd X0.here hx rfl (hb hby d6_41) rfl (XS.istore X0.here hx rfl (hb hby d6_42) rfl (l' := #[rv a1, iv p2, iv 3, jv u, .second, iv 1, iv 3]) rfl (XS.iload X0.here hx rfl (hb hby d6_44) rfl (XS.iconst X0.here hx rfl (hb hby d6_46) (XS.isub X0.here hx rfl (hb hby d6_47) rfl k)))))))))) ?_
    show oF p e below _ (s₁.setTop (mkF m 48 #[rv a1, iv p2, iv 3, jv u, .second, iv 1, iv 3] [(.int 0)]))
    refine og (fun t k => XS.ifYes X0.here hx rfl (pc0 := 48) (pc' := 64) rfl (hb hby d6_48) rfl ((if0 _ _).trans (flt (by decide : ¬ ((0 : Int32) < (0 : Int32)))).2.2.2) (by decide) (by decide) (XS.iload X0.here hx rfl (hb hby d6_64) rfl (XS.iconst X0.here hx rfl (hb hby d6_66) (XS.isub X0.here hx rfl (hb hby d6_67) rfl (XS.iconst X0.here hx rfl (hb hby d6_68) k))))) ?_
    show oF p e below _ (s₁.setTop (mkF m 69 #[rv a1, iv p2, iv 3, jv u, .second, iv 1, iv 3] [(.int 1), (.int 0)]))
    refine og (fun t k => XS.icmpYes X0.here hx rfl (pc0 := 69) (pc' := 87) rfl (hb hby d6_69) rfl (flt (by decide : ¬ ((1 : Int32) < (0 : Int32)))).2.2.2 (by decide) (by decide) (XS.iload X0.here hx rfl (hb hby d6_87) rfl (XS.iconst X0.here hx rfl (hb hby d6_89) (XS.isub X0.here hx rfl (hb hby d6_90) rfl (XS.iconst X0.here hx rfl (hb hby d6_91) k))))) ?_
    show oF p e below _ (s₁.setTop (mkF m 92 #[rv a1, iv p2, iv 3, jv u, .second, iv 1, iv 3] [(.int 2), (.int 0)]))
    refine og (fun t k => XS.icmpYes X0.here hx rfl (pc0 := 92) (pc' := 110) rfl (hb hby d6_92) rfl (flt (by decide : ¬ ((2 : Int32) < (0 : Int32)))).2.2.2 (by decide) (by decide) (XS.iconst X0.here hx rfl (hb hby d6_110) k)) ?_
    show oF p e below _ (s₁.setTop (mkF m 111 #[rv a1, iv p2, iv 3, jv u, .second, iv 1, iv 3] [(.int 1)]))
    exact oo X0 (fun h => by rw [Bd.returns] at h; cases h) Bd.notSynchronized (fun fs hr => retN X0 hx (t := .boolean) Bd.returns (by simp) (hb hby d6_111) hr) ⟨rfl, N0, e0⟩ (by decide) (by decide)
  · skip
    rw [(show (own_s31_31 a1 p2 u w0 w1 w2 w3) = (0 : Int32) from if_neg hc2)]
    refine og (fun t k => XS.ifNo X0.here hx rfl (hb hby d6_31) rfl ((if0 _ _).trans (feq (fun q => hc2 ((lw_eq _ _).mp q))).1) (XS.iconst X0.here hx rfl (hb hby d6_34) k)) ?_
    show oF p e below _ (s₁.setTop (mkF m 35 #[rv a1, iv p2, iv 3, jv u, .second, iv 1, .unset] [(.int 0)]))
    exact oo X0 (fun h => by rw [Bd.returns] at h; cases h) Bd.notSynchronized (fun fs hr => retN X0 hx (t := .boolean) Bd.returns (by simp) (hb hby d6_35) hr) ⟨rfl, N0, e0⟩ (by decide) (by decide)
theorem ef_6s32 (m : MethodId) (x0 : Addr) (x1 : Int32) (x2 : Int32) (x3 : Int64) (x4 : Int32)  : entryFrame m #[(.ref x0), (.int x1), (.int x2), (.long x3), (.int x4)] 7 = mkF m 0 #[rv x0, iv x1, iv x2, jv x3, .second, iv x4, .unset] [] := by first | (simp [entryFrame, mkF, argsToLocals, Value.category]; done) | rfl
def own_s32_59 (a1 : Addr) (p2 : Int32) (u : Int64) (w0 : Int64) (w1 : Int64) (w2 : Int64) (w3 : Int64) : Int32 := if w0 = w2 then (1 : Int32) else (0 : Int32)
def own_s32_31 (a1 : Addr) (p2 : Int32) (u : Int64) (w0 : Int64) (w1 : Int64) (w2 : Int64) (w3 : Int64) : Int32 := if w1 = u then (own_s32_59 a1 p2 u w0 w1 w2 w3) else (0 : Int32)
def own_s32 (a1 : Addr) (p2 : Int32) (u : Int64) (w0 : Int64) (w1 : Int64) (w2 : Int64) (w3 : Int64) : Int32 := (own_s32_31 a1 p2 u w0 w1 w2 w3)
set_option maxRecDepth 65536 in
set_option maxHeartbeats 40000000 in
theorem rm6s32 (l : Launch) (Z : State) (a0 : Array Value) (hw : ∀ d ∈ tables_1, d.before a0 Z = true) (ws : List Jvm.Cond) (a1 : Addr) (p2 : Int32) (u : Int64) (k1 : ClassId) (w0 : Int64) (w1 : Int64) (w2 : Int64) (w3 : Int64) (h0 : Heap) (n0 : Nat) (Z0 : n0 ≤ h0.size) (V_1 : Arv Z h0 a1 k1 .long (4 : Int32) [(.long w0), (.long w1), (.long w2), (.long w3)] (.long (0 : Int64))) (hk : ¬ p2 < (2 : Int32)) :
    MetFree l (⟨"com/example/sound_verdict/soundverdict/UnitSearchNextPinLaw", "suf", "([JIIJI)Z"⟩ : MethodName) (head1 (Jvm.Cond.code (⟨"com/example/sound_verdict/soundverdict/UnitSearchNextPinLaw", "suf", "([JIIJI)Z"⟩ : MethodName) method_4_code 7 (some .boolean) :: ws) ({ frames := 0, cells := 0, slots := 0, locals := 0 } : Room)) (fun a U => a = #[(.ref a1), (.int p2), (.int 3), (.long u), (.int 2)] ∧ Z.Warmed39 U.vm ∧ U.heap = h0) (fun _ _ _ _ _ => True) (fun _ U o U' => ∃ v L, o = .returned v ∧ (own_P h0 n0 (.int (own_s32 a1 p2 u w0 w1 w2 w3))) v U'.heap L ∧ FrameEnd U o U' L ({ frames := 0, cells := 0, slots := 0, locals := 0 } : Room).cells ({ frames := 0, cells := 0, slots := 0, locals := 0 } : Room).slots) := by
  refine MetFree.of_bodySF (plainFor_of_name pn_0) hisR ?_
  intro p e s m args below meth c s₁ Bd hml0 hP hK
  obtain ⟨rfl, hZ, hh⟩ := hP
  have hx := Bd.exec
  have hby := Bd.bytes
  have hml : c.maxLocals = 7 := hml0
  have hown : s.vm.findClass "com/example/sound_verdict/soundverdict/UnitSearchNextPinLaw" = some m.cls := findClass_of_methodNamed Bd.named
  have hnm := (name_of_methodNamed Bd.named Bd.method).1
  have X0 : Stand p l e ({ frames := 0, cells := 0, slots := 0, locals := 0 } : Room) s m #[(.ref a1), (.int p2), (.int 3), (.long u), (.int 2)] below meth c s₁ [] 0 0 := Stand.of_body Bd
  have e0 : s₁.heap = h0 := by rw [← hh, Bd.state]; rfl
  have N0 := Fr.nil n0
  show oF p e below (own_A s ({ frames := 0, cells := 0, slots := 0, locals := 0 } : Room).cells ({ frames := 0, cells := 0, slots := 0, locals := 0 } : Room).slots (own_P h0 n0 (.int (own_s32 a1 p2 u w0 w1 w2 w3)))) _
  refine og (fun t k => castTop (ef_6s32 m (a1) (p2) ((3 : Int32)) (u) ((2 : Int32))) k) ?_
  show oF p e below _ (s₁.setTop (mkF m 0 #[rv a1, iv p2, iv 3, jv u, .second, iv 2, .unset] []))
  rw [show (own_s32 a1 p2 u w0 w1 w2 w3) = (own_s32_31 a1 p2 u w0 w1 w2 w3) from rfl]
  refine og (fun t k => XS.iload X0.here hx rfl (hb hby d6_0) rfl (XS.iloadN X0.here hx rfl (hb hby d6_2) rfl k)) ?_
  show oF p e below _ (s₁.setTop (mkF m 3 #[rv a1, iv p2, iv 3, jv u, .second, iv 2, .unset] [(.int p2), (.int 2)]))
  refine og (fun t k => XS.icmpNo X0.here hx rfl (hb hby d6_3) rfl (flt hk).2.2.1 (XS.iload X0.here hx rfl (hb hby d6_6) rfl (XS.iloadN X0.here hx rfl (hb hby d6_8) rfl (XS.iconst X0.here hx rfl (hb hby d6_9) (XS.iadd X0.here hx rfl (hb hby d6_10) rfl k))))) ?_
  show oF p e below _ (s₁.setTop (mkF m 11 #[rv a1, iv p2, iv 3, jv u, .second, iv 2, .unset] [(.int 4), (.int 2)]))
  refine og (fun t k => XS.icmpYes X0.here hx rfl (pc0 := 11) (pc' := 16) rfl (hb hby d6_11) rfl (flt (by decide : ¬ ((4 : Int32) < (2 : Int32)))).2.2.2 (by decide) (by decide) (XS.iload X0.here hx rfl (hb hby d6_16) rfl k)) ?_
  show oF p e below _ (s₁.setTop (mkF m 18 #[rv a1, iv p2, iv 3, jv u, .second, iv 2, .unset] [(.int 2)]))
  refine og (fun t k => XS.ifYes X0.here hx rfl (pc0 := 18) (pc' := 23) rfl (hb hby d6_18) rfl ((if0 _ _).trans (feq (by decide : ¬ ((2 : Int32) = (0 : Int32)))).2) (by decide) (by decide) (XS.aloadN X0.here hx rfl (hb hby d6_23) rfl rfl (XS.iload X0.here hx rfl (hb hby d6_24) rfl (XS.iconst X0.here hx rfl (hb hby d6_26) (XS.isub X0.here hx rfl (hb hby d6_27) rfl k))))) ?_
  show oF p e below _ (s₁.setTop (mkF m 28 #[rv a1, iv p2, iv 3, jv u, .second, iv 2, .unset] [(.int 1), (.ref a1)]))
  obtain ⟨cl1, Ar1, q1, S1, M1, H1, G1⟩ := (id V_1)
  have hin1 : ¬ ((1 : Int32) < 0 ∨ cl1.slots.size ≤ ((1 : Int32)).toNatClampNeg) := inb_of S1 ⟨by decide, by decide⟩
  have hat1 : cl1.slots[((1 : Int32)).toNatClampNeg]? = some (.long w1) := H1.at hin1 rfl
  refine og (fun t k => X0.laload hx (j := (1 : Int32)) (v := (.long w1)) (by rw [e0]; exact Ar1.1) (State.isArrayOf_alike hZ.alike Ar1.2.1) Ar1.2.2 hin1 hat1 (g := (mkF m 28 #[rv a1, iv p2, iv 3, jv u, .second, iv 2, .unset] [(.int 1), (.ref a1)])) rfl rfl (hb hby d6_28) _ (XS.lloadN X0.here hx rfl (hb hby d6_29) rfl (XS.lcmp X0.here hx rfl (hb hby d6_30) rfl k))) ?_
  show oF p e below _ (s₁.setTop (mkF m 31 #[rv a1, iv p2, iv 3, jv u, .second, iv 2, .unset] [(.int (lcmpW w1 u))]))
  by_cases hc2 : w1 = u
  · skip
    rw [(show (own_s32_31 a1 p2 u w0 w1 w2 w3) = (own_s32_59 a1 p2 u w0 w1 w2 w3) from if_pos hc2)]
    refine og (fun t k => XS.ifYes X0.here hx rfl (pc0 := 31) (pc' := 36) rfl (hb hby d6_31) rfl ((if0 _ _).trans (teq ((lw_eq _ _).mpr hc2)).1) (by decide) (by decide) (XS.iloadN X0.here hx rfl (hb hby d6_36) rfl (XS.iload X0.here hx rfl (hb hby d6_37) rfl (XS.isub X0.here hx rfl (hb hby d6_39) rfl (XS.iconst X0.here hx rfl (hb hby d6_40) (XS.iadd X0.here hx rfl (hb hby d6_41) rfl (XS.istore X0.here hx rfl (hb hby d6_42) rfl (l' := #[rv a1, iv p2, iv 3, jv u, .second, iv 2, iv 2]) rfl (XS.iload X0.here hx rfl (hb hby d6_44) rfl (XS.iconst X0.here hx rfl (hb hby d6_46) (XS.isub X0.here hx rfl (hb hby d6_47) rfl k)))))))))) ?_
    show oF p e below _ (s₁.setTop (mkF m 48 #[rv a1, iv p2, iv 3, jv u, .second, iv 2, iv 2] [(.int 1)]))
    refine og (fun t k => XS.ifNo X0.here hx rfl (hb hby d6_48) rfl ((if0 _ _).trans (tlt (by decide : (0 : Int32) < (1 : Int32))).2.2.2) (XS.aloadN X0.here hx rfl (hb hby d6_51) rfl rfl (XS.iconst X0.here hx rfl (hb hby d6_52) k))) ?_
    show oF p e below _ (s₁.setTop (mkF m 53 #[rv a1, iv p2, iv 3, jv u, .second, iv 2, iv 2] [(.int 0), (.ref a1)]))
    obtain ⟨cl3, Ar3, q3, S3, M3, H3, G3⟩ := (id V_1)
    have hin3 : ¬ ((0 : Int32) < 0 ∨ cl3.slots.size ≤ ((0 : Int32)).toNatClampNeg) := inb_of S3 ⟨by decide, by decide⟩
    have hat3 : cl3.slots[((0 : Int32)).toNatClampNeg]? = some (.long w0) := H3.at hin3 rfl
    refine og (fun t k => X0.laload hx (j := (0 : Int32)) (v := (.long w0)) (by rw [e0]; exact Ar3.1) (State.isArrayOf_alike hZ.alike Ar3.2.1) Ar3.2.2 hin3 hat3 (g := (mkF m 53 #[rv a1, iv p2, iv 3, jv u, .second, iv 2, iv 2] [(.int 0), (.ref a1)])) rfl rfl (hb hby d6_53) _ (XS.aloadN X0.here hx rfl (hb hby d6_54) rfl rfl (XS.iload X0.here hx rfl (hb hby d6_55) rfl k))) ?_
    show oF p e below _ (s₁.setTop (mkF m 57 #[rv a1, iv p2, iv 3, jv u, .second, iv 2, iv 2] [(.int 2), (.ref a1), (.long w0)]))
    obtain ⟨cl4, Ar4, q4, S4, M4, H4, G4⟩ := (id V_1)
    have hin4 : ¬ ((2 : Int32) < 0 ∨ cl4.slots.size ≤ ((2 : Int32)).toNatClampNeg) := inb_of S4 ⟨by decide, by decide⟩
    have hat4 : cl4.slots[((2 : Int32)).toNatClampNeg]? = some (.long w2) := H4.at hin4 rfl
    refine og (fun t k => X0.laload hx (j := (2 : Int32)) (v := (.long w2)) (by rw [e0]; exact Ar4.1) (State.isArrayOf_alike hZ.alike Ar4.2.1) Ar4.2.2 hin4 hat4 (g := (mkF m 57 #[rv a1, iv p2, iv 3, jv u, .second, iv 2, iv 2] [(.int 2), (.ref a1), (.long w0)])) rfl rfl (hb hby d6_57) _ (XS.lcmp X0.here hx rfl (hb hby d6_58) rfl k)) ?_
    show oF p e below _ (s₁.setTop (mkF m 59 #[rv a1, iv p2, iv 3, jv u, .second, iv 2, iv 2] [(.int (lcmpW w0 w2))]))
    by_cases hc5 : w0 = w2
    · skip
      rw [(show (own_s32_59 a1 p2 u w0 w1 w2 w3) = (1 : Int32) from if_pos hc5)]
      refine og (fun t k => XS.ifYes X0.here hx rfl (pc0 := 59) (pc' := 64) rfl (hb hby d6_59) rfl ((if0 _ _).trans (teq ((lw_eq _ _).mpr hc5)).1) (by decide) (by decide) (XS.iload X0.here hx rfl (hb hby d6_64) rfl (XS.iconst X0.here hx rfl (hb hby d6_66) (XS.isub X0.here hx rfl (hb hby d6_67) rfl (XS.iconst X0.here hx rfl (hb hby d6_68) k))))) ?_
      show oF p e below _ (s₁.setTop (mkF m 69 #[rv a1, iv p2, iv 3, jv u, .second, iv 2, iv 2] [(.int 1), (.int 1)]))
      refine og (fun t k => XS.icmpYes X0.here hx rfl (pc0 := 69) (pc' := 87) rfl (hb hby d6_69) rfl (flt (by decide : ¬ ((1 : Int32) < (1 : Int32)))).2.2.2 (by decide) (by decide) (XS.iload X0.here hx rfl (hb hby d6_87) rfl (XS.iconst X0.here hx rfl (hb hby d6_89) (XS.isub X0.here hx rfl (hb hby d6_90) rfl (XS.iconst X0.here hx rfl (hb hby d6_91) k))))) ?_
      show oF p e below _ (s₁.setTop (mkF m 92 #[rv a1, iv p2, iv 3, jv u, .second, iv 2, iv 2] [(.int 2), (.int 1)]))
      refine og (fun t k => XS.icmpYes X0.here hx rfl (pc0 := 92) (pc' := 110) rfl (hb hby d6_92) rfl (flt (by decide : ¬ ((2 : Int32) < (1 : Int32)))).2.2.2 (by decide) (by decide) (XS.iconst X0.here hx rfl (hb hby d6_110) k)) ?_
      show oF p e below _ (s₁.setTop (mkF m 111 #[rv a1, iv p2, iv 3, jv u, .second, iv 2, iv 2] [(.int 1)]))
      exact oo X0 (fun h => by rw [Bd.returns] at h; cases h) Bd.notSynchronized (fun fs hr => retN X0 hx (t := .boolean) Bd.returns (by simp) (hb hby d6_111) hr) ⟨rfl, N0, e0⟩ (by decide) (by decide)
    · skip
      rw [(show (own_s32_59 a1 p2 u w0 w1 w2 w3) = (0 : Int32) from if_neg hc5)]
      refine og (fun t k => XS.ifNo X0.here hx rfl (hb hby d6_59) rfl ((if0 _ _).trans (feq (fun q => hc5 ((lw_eq _ _).mp q))).1) (XS.iconst X0.here hx rfl (hb hby d6_62) k)) ?_
      show oF p e below _ (s₁.setTop (mkF m 63 #[rv a1, iv p2, iv 3, jv u, .second, iv 2, iv 2] [(.int 0)]))
      exact oo X0 (fun h => by rw [Bd.returns] at h; cases h) Bd.notSynchronized (fun fs hr => retN X0 hx (t := .boolean) Bd.returns (by simp) (hb hby d6_63) hr) ⟨rfl, N0, e0⟩ (by decide) (by decide)
  · skip
    rw [(show (own_s32_31 a1 p2 u w0 w1 w2 w3) = (0 : Int32) from if_neg hc2)]
    refine og (fun t k => XS.ifNo X0.here hx rfl (hb hby d6_31) rfl ((if0 _ _).trans (feq (fun q => hc2 ((lw_eq _ _).mp q))).1) (XS.iconst X0.here hx rfl (hb hby d6_34) k)) ?_
    show oF p e below _ (s₁.setTop (mkF m 35 #[rv a1, iv p2, iv 3, jv u, .second, iv 2, .unset] [(.int 0)]))
    exact oo X0 (fun h => by rw [Bd.returns] at h; cases h) Bd.notSynchronized (fun fs hr => retN X0 hx (t := .boolean) Bd.returns (by simp) (hb hby d6_35) hr) ⟨rfl, N0, e0⟩ (by decide) (by decide)
theorem ef_6s33 (m : MethodId) (x0 : Addr) (x1 : Int32) (x2 : Int32) (x3 : Int64) (x4 : Int32)  : entryFrame m #[(.ref x0), (.int x1), (.int x2), (.long x3), (.int x4)] 7 = mkF m 0 #[rv x0, iv x1, iv x2, jv x3, .second, iv x4, .unset] [] := by first | (simp [entryFrame, mkF, argsToLocals, Value.category]; done) | rfl
def own_s33_82 (a1 : Addr) (p2 : Int32) (u : Int64) (w0 : Int64) (w1 : Int64) (w2 : Int64) (w3 : Int64) : Int32 := if w1 = w2 then (1 : Int32) else (0 : Int32)
def own_s33_59 (a1 : Addr) (p2 : Int32) (u : Int64) (w0 : Int64) (w1 : Int64) (w2 : Int64) (w3 : Int64) : Int32 := if w0 = w1 then (own_s33_82 a1 p2 u w0 w1 w2 w3) else (0 : Int32)
def own_s33_31 (a1 : Addr) (p2 : Int32) (u : Int64) (w0 : Int64) (w1 : Int64) (w2 : Int64) (w3 : Int64) : Int32 := if w2 = u then (own_s33_59 a1 p2 u w0 w1 w2 w3) else (0 : Int32)
def own_s33 (a1 : Addr) (p2 : Int32) (u : Int64) (w0 : Int64) (w1 : Int64) (w2 : Int64) (w3 : Int64) : Int32 := (own_s33_31 a1 p2 u w0 w1 w2 w3)
set_option maxRecDepth 65536 in
set_option maxHeartbeats 40000000 in
theorem rm6s33 (l : Launch) (Z : State) (a0 : Array Value) (hw : ∀ d ∈ tables_1, d.before a0 Z = true) (ws : List Jvm.Cond) (a1 : Addr) (p2 : Int32) (u : Int64) (k1 : ClassId) (w0 : Int64) (w1 : Int64) (w2 : Int64) (w3 : Int64) (h0 : Heap) (n0 : Nat) (Z0 : n0 ≤ h0.size) (V_1 : Arv Z h0 a1 k1 .long (4 : Int32) [(.long w0), (.long w1), (.long w2), (.long w3)] (.long (0 : Int64))) (hk : ¬ p2 < (3 : Int32)) :
    MetFree l (⟨"com/example/sound_verdict/soundverdict/UnitSearchNextPinLaw", "suf", "([JIIJI)Z"⟩ : MethodName) (head1 (Jvm.Cond.code (⟨"com/example/sound_verdict/soundverdict/UnitSearchNextPinLaw", "suf", "([JIIJI)Z"⟩ : MethodName) method_4_code 7 (some .boolean) :: ws) ({ frames := 0, cells := 0, slots := 0, locals := 0 } : Room)) (fun a U => a = #[(.ref a1), (.int p2), (.int 3), (.long u), (.int 3)] ∧ Z.Warmed39 U.vm ∧ U.heap = h0) (fun _ _ _ _ _ => True) (fun _ U o U' => ∃ v L, o = .returned v ∧ (own_P h0 n0 (.int (own_s33 a1 p2 u w0 w1 w2 w3))) v U'.heap L ∧ FrameEnd U o U' L ({ frames := 0, cells := 0, slots := 0, locals := 0 } : Room).cells ({ frames := 0, cells := 0, slots := 0, locals := 0 } : Room).slots) := by
  refine MetFree.of_bodySF (plainFor_of_name pn_0) hisR ?_
  intro p e s m args below meth c s₁ Bd hml0 hP hK
  obtain ⟨rfl, hZ, hh⟩ := hP
  have hx := Bd.exec
  have hby := Bd.bytes
  have hml : c.maxLocals = 7 := hml0
  have hown : s.vm.findClass "com/example/sound_verdict/soundverdict/UnitSearchNextPinLaw" = some m.cls := findClass_of_methodNamed Bd.named
  have hnm := (name_of_methodNamed Bd.named Bd.method).1
  have X0 : Stand p l e ({ frames := 0, cells := 0, slots := 0, locals := 0 } : Room) s m #[(.ref a1), (.int p2), (.int 3), (.long u), (.int 3)] below meth c s₁ [] 0 0 := Stand.of_body Bd
  have e0 : s₁.heap = h0 := by rw [← hh, Bd.state]; rfl
  have N0 := Fr.nil n0
  show oF p e below (own_A s ({ frames := 0, cells := 0, slots := 0, locals := 0 } : Room).cells ({ frames := 0, cells := 0, slots := 0, locals := 0 } : Room).slots (own_P h0 n0 (.int (own_s33 a1 p2 u w0 w1 w2 w3)))) _
  refine og (fun t k => castTop (ef_6s33 m (a1) (p2) ((3 : Int32)) (u) ((3 : Int32))) k) ?_
  show oF p e below _ (s₁.setTop (mkF m 0 #[rv a1, iv p2, iv 3, jv u, .second, iv 3, .unset] []))
  rw [show (own_s33 a1 p2 u w0 w1 w2 w3) = (own_s33_31 a1 p2 u w0 w1 w2 w3) from rfl]
  refine og (fun t k => XS.iload X0.here hx rfl (hb hby d6_0) rfl (XS.iloadN X0.here hx rfl (hb hby d6_2) rfl k)) ?_
  show oF p e below _ (s₁.setTop (mkF m 3 #[rv a1, iv p2, iv 3, jv u, .second, iv 3, .unset] [(.int p2), (.int 3)]))
  refine og (fun t k => XS.icmpNo X0.here hx rfl (hb hby d6_3) rfl (flt hk).2.2.1 (XS.iload X0.here hx rfl (hb hby d6_6) rfl (XS.iloadN X0.here hx rfl (hb hby d6_8) rfl (XS.iconst X0.here hx rfl (hb hby d6_9) (XS.iadd X0.here hx rfl (hb hby d6_10) rfl k))))) ?_
  show oF p e below _ (s₁.setTop (mkF m 11 #[rv a1, iv p2, iv 3, jv u, .second, iv 3, .unset] [(.int 4), (.int 3)]))
  refine og (fun t k => XS.icmpYes X0.here hx rfl (pc0 := 11) (pc' := 16) rfl (hb hby d6_11) rfl (flt (by decide : ¬ ((4 : Int32) < (3 : Int32)))).2.2.2 (by decide) (by decide) (XS.iload X0.here hx rfl (hb hby d6_16) rfl k)) ?_
  show oF p e below _ (s₁.setTop (mkF m 18 #[rv a1, iv p2, iv 3, jv u, .second, iv 3, .unset] [(.int 3)]))
  refine og (fun t k => XS.ifYes X0.here hx rfl (pc0 := 18) (pc' := 23) rfl (hb hby d6_18) rfl ((if0 _ _).trans (feq (by decide : ¬ ((3 : Int32) = (0 : Int32)))).2) (by decide) (by decide) (XS.aloadN X0.here hx rfl (hb hby d6_23) rfl rfl (XS.iload X0.here hx rfl (hb hby d6_24) rfl (XS.iconst X0.here hx rfl (hb hby d6_26) (XS.isub X0.here hx rfl (hb hby d6_27) rfl k))))) ?_
  show oF p e below _ (s₁.setTop (mkF m 28 #[rv a1, iv p2, iv 3, jv u, .second, iv 3, .unset] [(.int 2), (.ref a1)]))
  obtain ⟨cl1, Ar1, q1, S1, M1, H1, G1⟩ := (id V_1)
  have hin1 : ¬ ((2 : Int32) < 0 ∨ cl1.slots.size ≤ ((2 : Int32)).toNatClampNeg) := inb_of S1 ⟨by decide, by decide⟩
  have hat1 : cl1.slots[((2 : Int32)).toNatClampNeg]? = some (.long w2) := H1.at hin1 rfl
  refine og (fun t k => X0.laload hx (j := (2 : Int32)) (v := (.long w2)) (by rw [e0]; exact Ar1.1) (State.isArrayOf_alike hZ.alike Ar1.2.1) Ar1.2.2 hin1 hat1 (g := (mkF m 28 #[rv a1, iv p2, iv 3, jv u, .second, iv 3, .unset] [(.int 2), (.ref a1)])) rfl rfl (hb hby d6_28) _ (XS.lloadN X0.here hx rfl (hb hby d6_29) rfl (XS.lcmp X0.here hx rfl (hb hby d6_30) rfl k))) ?_
  show oF p e below _ (s₁.setTop (mkF m 31 #[rv a1, iv p2, iv 3, jv u, .second, iv 3, .unset] [(.int (lcmpW w2 u))]))
  by_cases hc2 : w2 = u
  · skip
    rw [(show (own_s33_31 a1 p2 u w0 w1 w2 w3) = (own_s33_59 a1 p2 u w0 w1 w2 w3) from if_pos hc2)]
    refine og (fun t k => XS.ifYes X0.here hx rfl (pc0 := 31) (pc' := 36) rfl (hb hby d6_31) rfl ((if0 _ _).trans (teq ((lw_eq _ _).mpr hc2)).1) (by decide) (by decide) (XS.iloadN X0.here hx rfl (hb hby d6_36) rfl (XS.iload X0.here hx rfl (hb hby d6_37) rfl (XS.isub X0.here hx rfl (hb hby d6_39) rfl (XS.iconst X0.here hx rfl (hb hby d6_40) (XS.iadd X0.here hx rfl (hb hby d6_41) rfl (XS.istore X0.here hx rfl (hb hby d6_42) rfl (l' := #[rv a1, iv p2, iv 3, jv u, .second, iv 3, iv 1]) rfl (XS.iload X0.here hx rfl (hb hby d6_44) rfl (XS.iconst X0.here hx rfl (hb hby d6_46) (XS.isub X0.here hx rfl (hb hby d6_47) rfl k)))))))))) ?_
    show oF p e below _ (s₁.setTop (mkF m 48 #[rv a1, iv p2, iv 3, jv u, .second, iv 3, iv 1] [(.int 2)]))
    refine og (fun t k => XS.ifNo X0.here hx rfl (hb hby d6_48) rfl ((if0 _ _).trans (tlt (by decide : (0 : Int32) < (2 : Int32))).2.2.2) (XS.aloadN X0.here hx rfl (hb hby d6_51) rfl rfl (XS.iconst X0.here hx rfl (hb hby d6_52) k))) ?_
    show oF p e below _ (s₁.setTop (mkF m 53 #[rv a1, iv p2, iv 3, jv u, .second, iv 3, iv 1] [(.int 0), (.ref a1)]))
    obtain ⟨cl3, Ar3, q3, S3, M3, H3, G3⟩ := (id V_1)
    have hin3 : ¬ ((0 : Int32) < 0 ∨ cl3.slots.size ≤ ((0 : Int32)).toNatClampNeg) := inb_of S3 ⟨by decide, by decide⟩
    have hat3 : cl3.slots[((0 : Int32)).toNatClampNeg]? = some (.long w0) := H3.at hin3 rfl
    refine og (fun t k => X0.laload hx (j := (0 : Int32)) (v := (.long w0)) (by rw [e0]; exact Ar3.1) (State.isArrayOf_alike hZ.alike Ar3.2.1) Ar3.2.2 hin3 hat3 (g := (mkF m 53 #[rv a1, iv p2, iv 3, jv u, .second, iv 3, iv 1] [(.int 0), (.ref a1)])) rfl rfl (hb hby d6_53) _ (XS.aloadN X0.here hx rfl (hb hby d6_54) rfl rfl (XS.iload X0.here hx rfl (hb hby d6_55) rfl k))) ?_
    show oF p e below _ (s₁.setTop (mkF m 57 #[rv a1, iv p2, iv 3, jv u, .second, iv 3, iv 1] [(.int 1), (.ref a1), (.long w0)]))
    obtain ⟨cl4, Ar4, q4, S4, M4, H4, G4⟩ := (id V_1)
    have hin4 : ¬ ((1 : Int32) < 0 ∨ cl4.slots.size ≤ ((1 : Int32)).toNatClampNeg) := inb_of S4 ⟨by decide, by decide⟩
    have hat4 : cl4.slots[((1 : Int32)).toNatClampNeg]? = some (.long w1) := H4.at hin4 rfl
    refine og (fun t k => X0.laload hx (j := (1 : Int32)) (v := (.long w1)) (by rw [e0]; exact Ar4.1) (State.isArrayOf_alike hZ.alike Ar4.2.1) Ar4.2.2 hin4 hat4 (g := (mkF m 57 #[rv a1, iv p2, iv 3, jv u, .second, iv 3, iv 1] [(.int 1), (.ref a1), (.long w0)])) rfl rfl (hb hby d6_57) _ (XS.lcmp X0.here hx rfl (hb hby d6_58) rfl k)) ?_
    show oF p e below _ (s₁.setTop (mkF m 59 #[rv a1, iv p2, iv 3, jv u, .second, iv 3, iv 1] [(.int (lcmpW w0 w1))]))
    by_cases hc5 : w0 = w1
    · skip
      rw [(show (own_s33_59 a1 p2 u w0 w1 w2 w3) = (own_s33_82 a1 p2 u w0 w1 w2 w3) from if_pos hc5)]
      refine og (fun t k => XS.ifYes X0.here hx rfl (pc0 := 59) (pc' := 64) rfl (hb hby d6_59) rfl ((if0 _ _).trans (teq ((lw_eq _ _).mpr hc5)).1) (by decide) (by decide) (XS.iload X0.here hx rfl (hb hby d6_64) rfl (XS.iconst X0.here hx rfl (hb hby d6_66) (XS.isub X0.here hx rfl (hb hby d6_67) rfl (XS.iconst X0.here hx rfl (hb hby d6_68) k))))) ?_
      show oF p e below _ (s₁.setTop (mkF m 69 #[rv a1, iv p2, iv 3, jv u, .second, iv 3, iv 1] [(.int 1), (.int 2)]))
      refine og (fun t k => XS.icmpNo X0.here hx rfl (hb hby d6_69) rfl (tlt (by decide : (1 : Int32) < (2 : Int32))).2.2.2 (XS.aloadN X0.here hx rfl (hb hby d6_72) rfl rfl (XS.iconst X0.here hx rfl (hb hby d6_73) k))) ?_
      show oF p e below _ (s₁.setTop (mkF m 74 #[rv a1, iv p2, iv 3, jv u, .second, iv 3, iv 1] [(.int 1), (.ref a1)]))
      obtain ⟨cl6, Ar6, q6, S6, M6, H6, G6⟩ := (id V_1)
      have hin6 : ¬ ((1 : Int32) < 0 ∨ cl6.slots.size ≤ ((1 : Int32)).toNatClampNeg) := inb_of S6 ⟨by decide, by decide⟩
      have hat6 : cl6.slots[((1 : Int32)).toNatClampNeg]? = some (.long w1) := H6.at hin6 rfl
      refine og (fun t k => X0.laload hx (j := (1 : Int32)) (v := (.long w1)) (by rw [e0]; exact Ar6.1) (State.isArrayOf_alike hZ.alike Ar6.2.1) Ar6.2.2 hin6 hat6 (g := (mkF m 74 #[rv a1, iv p2, iv 3, jv u, .second, iv 3, iv 1] [(.int 1), (.ref a1)])) rfl rfl (hb hby d6_74) _ (XS.aloadN X0.here hx rfl (hb hby d6_75) rfl rfl (XS.iload X0.here hx rfl (hb hby d6_76) rfl (XS.iconst X0.here hx rfl (hb hby d6_78) (XS.iadd X0.here hx rfl (hb hby d6_79) rfl k))))) ?_
      show oF p e below _ (s₁.setTop (mkF m 80 #[rv a1, iv p2, iv 3, jv u, .second, iv 3, iv 1] [(.int 2), (.ref a1), (.long w1)]))
      obtain ⟨cl7, Ar7, q7, S7, M7, H7, G7⟩ := (id V_1)
      have hin7 : ¬ ((2 : Int32) < 0 ∨ cl7.slots.size ≤ ((2 : Int32)).toNatClampNeg) := inb_of S7 ⟨by decide, by decide⟩
      have hat7 : cl7.slots[((2 : Int32)).toNatClampNeg]? = some (.long w2) := H7.at hin7 rfl
      refine og (fun t k => X0.laload hx (j := (2 : Int32)) (v := (.long w2)) (by rw [e0]; exact Ar7.1) (State.isArrayOf_alike hZ.alike Ar7.2.1) Ar7.2.2 hin7 hat7 (g := (mkF m 80 #[rv a1, iv p2, iv 3, jv u, .second, iv 3, iv 1] [(.int 2), (.ref a1), (.long w1)])) rfl rfl (hb hby d6_80) _ (XS.lcmp X0.here hx rfl (hb hby d6_81) rfl k)) ?_
      show oF p e below _ (s₁.setTop (mkF m 82 #[rv a1, iv p2, iv 3, jv u, .second, iv 3, iv 1] [(.int (lcmpW w1 w2))]))
      by_cases hc8 : w1 = w2
      · skip
        rw [(show (own_s33_82 a1 p2 u w0 w1 w2 w3) = (1 : Int32) from if_pos hc8)]
        refine og (fun t k => XS.ifYes X0.here hx rfl (pc0 := 82) (pc' := 87) rfl (hb hby d6_82) rfl ((if0 _ _).trans (teq ((lw_eq _ _).mpr hc8)).1) (by decide) (by decide) (XS.iload X0.here hx rfl (hb hby d6_87) rfl (XS.iconst X0.here hx rfl (hb hby d6_89) (XS.isub X0.here hx rfl (hb hby d6_90) rfl (XS.iconst X0.here hx rfl (hb hby d6_91) k))))) ?_
        show oF p e below _ (s₁.setTop (mkF m 92 #[rv a1, iv p2, iv 3, jv u, .second, iv 3, iv 1] [(.int 2), (.int 2)]))
        refine og (fun t k => XS.icmpYes X0.here hx rfl (pc0 := 92) (pc' := 110) rfl (hb hby d6_92) rfl (flt (by decide : ¬ ((2 : Int32) < (2 : Int32)))).2.2.2 (by decide) (by decide) (XS.iconst X0.here hx rfl (hb hby d6_110) k)) ?_
        show oF p e below _ (s₁.setTop (mkF m 111 #[rv a1, iv p2, iv 3, jv u, .second, iv 3, iv 1] [(.int 1)]))
        exact oo X0 (fun h => by rw [Bd.returns] at h; cases h) Bd.notSynchronized (fun fs hr => retN X0 hx (t := .boolean) Bd.returns (by simp) (hb hby d6_111) hr) ⟨rfl, N0, e0⟩ (by decide) (by decide)
      · skip
        rw [(show (own_s33_82 a1 p2 u w0 w1 w2 w3) = (0 : Int32) from if_neg hc8)]
        refine og (fun t k => XS.ifNo X0.here hx rfl (hb hby d6_82) rfl ((if0 _ _).trans (feq (fun q => hc8 ((lw_eq _ _).mp q))).1) (XS.iconst X0.here hx rfl (hb hby d6_85) k)) ?_
        show oF p e below _ (s₁.setTop (mkF m 86 #[rv a1, iv p2, iv 3, jv u, .second, iv 3, iv 1] [(.int 0)]))
        exact oo X0 (fun h => by rw [Bd.returns] at h; cases h) Bd.notSynchronized (fun fs hr => retN X0 hx (t := .boolean) Bd.returns (by simp) (hb hby d6_86) hr) ⟨rfl, N0, e0⟩ (by decide) (by decide)
    · skip
      rw [(show (own_s33_59 a1 p2 u w0 w1 w2 w3) = (0 : Int32) from if_neg hc5)]
      refine og (fun t k => XS.ifNo X0.here hx rfl (hb hby d6_59) rfl ((if0 _ _).trans (feq (fun q => hc5 ((lw_eq _ _).mp q))).1) (XS.iconst X0.here hx rfl (hb hby d6_62) k)) ?_
      show oF p e below _ (s₁.setTop (mkF m 63 #[rv a1, iv p2, iv 3, jv u, .second, iv 3, iv 1] [(.int 0)]))
      exact oo X0 (fun h => by rw [Bd.returns] at h; cases h) Bd.notSynchronized (fun fs hr => retN X0 hx (t := .boolean) Bd.returns (by simp) (hb hby d6_63) hr) ⟨rfl, N0, e0⟩ (by decide) (by decide)
  · skip
    rw [(show (own_s33_31 a1 p2 u w0 w1 w2 w3) = (0 : Int32) from if_neg hc2)]
    refine og (fun t k => XS.ifNo X0.here hx rfl (hb hby d6_31) rfl ((if0 _ _).trans (feq (fun q => hc2 ((lw_eq _ _).mp q))).1) (XS.iconst X0.here hx rfl (hb hby d6_34) k)) ?_
    show oF p e below _ (s₁.setTop (mkF m 35 #[rv a1, iv p2, iv 3, jv u, .second, iv 3, .unset] [(.int 0)]))
    exact oo X0 (fun h => by rw [Bd.returns] at h; cases h) Bd.notSynchronized (fun fs hr => retN X0 hx (t := .boolean) Bd.returns (by simp) (hb hby d6_35) hr) ⟨rfl, N0, e0⟩ (by decide) (by decide)
theorem d6_95 : decode method_4_code 95 = .ok (.aload_n 0, 1) := by decide +kernel
theorem d6_96 : decode method_4_code 96 = .ok (.iconst 2, 1) := by decide +kernel
theorem d6_97 : decode method_4_code 97 = .ok (.laload, 1) := by decide +kernel
theorem d6_98 : decode method_4_code 98 = .ok (.aload_n 0, 1) := by decide +kernel
theorem d6_99 : decode method_4_code 99 = .ok (.iload 6, 2) := by decide +kernel
theorem d6_101 : decode method_4_code 101 = .ok (.iconst 2, 1) := by decide +kernel
theorem d6_102 : decode method_4_code 102 = .ok (.iadd, 1) := by decide +kernel
theorem d6_103 : decode method_4_code 103 = .ok (.laload, 1) := by decide +kernel
theorem d6_104 : decode method_4_code 104 = .ok (.lcmp, 1) := by decide +kernel
theorem d6_105 : decode method_4_code 105 = .ok (.ifCond .eq 5, 3) := by decide +kernel
theorem d6_108 : decode method_4_code 108 = .ok (.iconst 0, 1) := by decide +kernel
theorem d6_109 : decode method_4_code 109 = .ok (.ireturn, 1) := by decide +kernel
theorem ef_6s34 (m : MethodId) (x0 : Addr) (x1 : Int32) (x2 : Int32) (x3 : Int64) (x4 : Int32)  : entryFrame m #[(.ref x0), (.int x1), (.int x2), (.long x3), (.int x4)] 7 = mkF m 0 #[rv x0, iv x1, iv x2, jv x3, .second, iv x4, .unset] [] := by first | (simp [entryFrame, mkF, argsToLocals, Value.category]; done) | rfl
def own_s34_105 (a1 : Addr) (p2 : Int32) (u : Int64) (w0 : Int64) (w1 : Int64) (w2 : Int64) (w3 : Int64) : Int32 := if w2 = w2 then (1 : Int32) else (0 : Int32)
def own_s34_82 (a1 : Addr) (p2 : Int32) (u : Int64) (w0 : Int64) (w1 : Int64) (w2 : Int64) (w3 : Int64) : Int32 := if w1 = w1 then (own_s34_105 a1 p2 u w0 w1 w2 w3) else (0 : Int32)
def own_s34_59 (a1 : Addr) (p2 : Int32) (u : Int64) (w0 : Int64) (w1 : Int64) (w2 : Int64) (w3 : Int64) : Int32 := if w0 = w0 then (own_s34_82 a1 p2 u w0 w1 w2 w3) else (0 : Int32)
def own_s34_31 (a1 : Addr) (p2 : Int32) (u : Int64) (w0 : Int64) (w1 : Int64) (w2 : Int64) (w3 : Int64) : Int32 := if w3 = u then (own_s34_59 a1 p2 u w0 w1 w2 w3) else (0 : Int32)
def own_s34 (a1 : Addr) (p2 : Int32) (u : Int64) (w0 : Int64) (w1 : Int64) (w2 : Int64) (w3 : Int64) : Int32 := (own_s34_31 a1 p2 u w0 w1 w2 w3)
set_option maxRecDepth 65536 in
set_option maxHeartbeats 40000000 in
theorem rm6s34 (l : Launch) (Z : State) (a0 : Array Value) (hw : ∀ d ∈ tables_1, d.before a0 Z = true) (ws : List Jvm.Cond) (a1 : Addr) (p2 : Int32) (u : Int64) (k1 : ClassId) (w0 : Int64) (w1 : Int64) (w2 : Int64) (w3 : Int64) (h0 : Heap) (n0 : Nat) (Z0 : n0 ≤ h0.size) (V_1 : Arv Z h0 a1 k1 .long (4 : Int32) [(.long w0), (.long w1), (.long w2), (.long w3)] (.long (0 : Int64))) (hk : ¬ p2 < (4 : Int32)) :
    MetFree l (⟨"com/example/sound_verdict/soundverdict/UnitSearchNextPinLaw", "suf", "([JIIJI)Z"⟩ : MethodName) (head1 (Jvm.Cond.code (⟨"com/example/sound_verdict/soundverdict/UnitSearchNextPinLaw", "suf", "([JIIJI)Z"⟩ : MethodName) method_4_code 7 (some .boolean) :: ws) ({ frames := 0, cells := 0, slots := 0, locals := 0 } : Room)) (fun a U => a = #[(.ref a1), (.int p2), (.int 3), (.long u), (.int 4)] ∧ Z.Warmed39 U.vm ∧ U.heap = h0) (fun _ _ _ _ _ => True) (fun _ U o U' => ∃ v L, o = .returned v ∧ (own_P h0 n0 (.int (own_s34 a1 p2 u w0 w1 w2 w3))) v U'.heap L ∧ FrameEnd U o U' L ({ frames := 0, cells := 0, slots := 0, locals := 0 } : Room).cells ({ frames := 0, cells := 0, slots := 0, locals := 0 } : Room).slots) := by
  refine MetFree.of_bodySF (plainFor_of_name pn_0) hisR ?_
  intro p e s m args below meth c s₁ Bd hml0 hP hK
  obtain ⟨rfl, hZ, hh⟩ := hP
  have hx := Bd.exec
  have hby := Bd.bytes
  have hml : c.maxLocals = 7 := hml0
  have hown : s.vm.findClass "com/example/sound_verdict/soundverdict/UnitSearchNextPinLaw" = some m.cls := findClass_of_methodNamed Bd.named
  have hnm := (name_of_methodNamed Bd.named Bd.method).1
  have X0 : Stand p l e ({ frames := 0, cells := 0, slots := 0, locals := 0 } : Room) s m #[(.ref a1), (.int p2), (.int 3), (.long u), (.int 4)] below meth c s₁ [] 0 0 := Stand.of_body Bd
  have e0 : s₁.heap = h0 := by rw [← hh, Bd.state]; rfl
  have N0 := Fr.nil n0
  show oF p e below (own_A s ({ frames := 0, cells := 0, slots := 0, locals := 0 } : Room).cells ({ frames := 0, cells := 0, slots := 0, locals := 0 } : Room).slots (own_P h0 n0 (.int (own_s34 a1 p2 u w0 w1 w2 w3)))) _
  refine og (fun t k => castTop (ef_6s34 m (a1) (p2) ((3 : Int32)) (u) ((4 : Int32))) k) ?_
  show oF p e below _ (s₁.setTop (mkF m 0 #[rv a1, iv p2, iv 3, jv u, .second, iv 4, .unset] []))
  rw [show (own_s34 a1 p2 u w0 w1 w2 w3) = (own_s34_31 a1 p2 u w0 w1 w2 w3) from rfl]
  refine og (fun t k => XS.iload X0.here hx rfl (hb hby d6_0) rfl (XS.iloadN X0.here hx rfl (hb hby d6_2) rfl k)) ?_
  show oF p e below _ (s₁.setTop (mkF m 3 #[rv a1, iv p2, iv 3, jv u, .second, iv 4, .unset] [(.int p2), (.int 4)]))
  refine og (fun t k => XS.icmpNo X0.here hx rfl (hb hby d6_3) rfl (flt hk).2.2.1 (XS.iload X0.here hx rfl (hb hby d6_6) rfl (XS.iloadN X0.here hx rfl (hb hby d6_8) rfl (XS.iconst X0.here hx rfl (hb hby d6_9) (XS.iadd X0.here hx rfl (hb hby d6_10) rfl k))))) ?_
  show oF p e below _ (s₁.setTop (mkF m 11 #[rv a1, iv p2, iv 3, jv u, .second, iv 4, .unset] [(.int 4), (.int 4)]))
  refine og (fun t k => XS.icmpYes X0.here hx rfl (pc0 := 11) (pc' := 16) rfl (hb hby d6_11) rfl (flt (by decide : ¬ ((4 : Int32) < (4 : Int32)))).2.2.2 (by decide) (by decide) (XS.iload X0.here hx rfl (hb hby d6_16) rfl k)) ?_
  show oF p e below _ (s₁.setTop (mkF m 18 #[rv a1, iv p2, iv 3, jv u, .second, iv 4, .unset] [(.int 4)]))
  refine og (fun t k => XS.ifYes X0.here hx rfl (pc0 := 18) (pc' := 23) rfl (hb hby d6_18) rfl ((if0 _ _).trans (feq (by decide : ¬ ((4 : Int32) = (0 : Int32)))).2) (by decide) (by decide) (XS.aloadN X0.here hx rfl (hb hby d6_23) rfl rfl (XS.iload X0.here hx rfl (hb hby d6_24) rfl (XS.iconst X0.here hx rfl (hb hby d6_26) (XS.isub X0.here hx rfl (hb hby d6_27) rfl k))))) ?_
  show oF p e below _ (s₁.setTop (mkF m 28 #[rv a1, iv p2, iv 3, jv u, .second, iv 4, .unset] [(.int 3), (.ref a1)]))
  obtain ⟨cl1, Ar1, q1, S1, M1, H1, G1⟩ := (id V_1)
  have hin1 : ¬ ((3 : Int32) < 0 ∨ cl1.slots.size ≤ ((3 : Int32)).toNatClampNeg) := inb_of S1 ⟨by decide, by decide⟩
  have hat1 : cl1.slots[((3 : Int32)).toNatClampNeg]? = some (.long w3) := H1.at hin1 rfl
  refine og (fun t k => X0.laload hx (j := (3 : Int32)) (v := (.long w3)) (by rw [e0]; exact Ar1.1) (State.isArrayOf_alike hZ.alike Ar1.2.1) Ar1.2.2 hin1 hat1 (g := (mkF m 28 #[rv a1, iv p2, iv 3, jv u, .second, iv 4, .unset] [(.int 3), (.ref a1)])) rfl rfl (hb hby d6_28) _ (XS.lloadN X0.here hx rfl (hb hby d6_29) rfl (XS.lcmp X0.here hx rfl (hb hby d6_30) rfl k))) ?_
  show oF p e below _ (s₁.setTop (mkF m 31 #[rv a1, iv p2, iv 3, jv u, .second, iv 4, .unset] [(.int (lcmpW w3 u))]))
  by_cases hc2 : w3 = u
  · skip
    rw [(show (own_s34_31 a1 p2 u w0 w1 w2 w3) = (own_s34_59 a1 p2 u w0 w1 w2 w3) from if_pos hc2)]
    refine og (fun t k => XS.ifYes X0.here hx rfl (pc0 := 31) (pc' := 36) rfl (hb hby d6_31) rfl ((if0 _ _).trans (teq ((lw_eq _ _).mpr hc2)).1) (by decide) (by decide) (XS.iloadN X0.here hx rfl (hb hby d6_36) rfl (XS.iload X0.here hx rfl (hb hby d6_37) rfl (XS.isub X0.here hx rfl (hb hby d6_39) rfl (XS.iconst X0.here hx rfl (hb hby d6_40) (XS.iadd X0.here hx rfl (hb hby d6_41) rfl (XS.istore X0.here hx rfl (hb hby d6_42) rfl (l' := #[rv a1, iv p2, iv 3, jv u, .second, iv 4, iv 0]) rfl (XS.iload X0.here hx rfl (hb hby d6_44) rfl (XS.iconst X0.here hx rfl (hb hby d6_46) (XS.isub X0.here hx rfl (hb hby d6_47) rfl k)))))))))) ?_
    show oF p e below _ (s₁.setTop (mkF m 48 #[rv a1, iv p2, iv 3, jv u, .second, iv 4, iv 0] [(.int 3)]))
    refine og (fun t k => XS.ifNo X0.here hx rfl (hb hby d6_48) rfl ((if0 _ _).trans (tlt (by decide : (0 : Int32) < (3 : Int32))).2.2.2) (XS.aloadN X0.here hx rfl (hb hby d6_51) rfl rfl (XS.iconst X0.here hx rfl (hb hby d6_52) k))) ?_
    show oF p e below _ (s₁.setTop (mkF m 53 #[rv a1, iv p2, iv 3, jv u, .second, iv 4, iv 0] [(.int 0), (.ref a1)]))
    obtain ⟨cl3, Ar3, q3, S3, M3, H3, G3⟩ := (id V_1)
    have hin3 : ¬ ((0 : Int32) < 0 ∨ cl3.slots.size ≤ ((0 : Int32)).toNatClampNeg) := inb_of S3 ⟨by decide, by decide⟩
    have hat3 : cl3.slots[((0 : Int32)).toNatClampNeg]? = some (.long w0) := H3.at hin3 rfl
    refine og (fun t k => X0.laload hx (j := (0 : Int32)) (v := (.long w0)) (by rw [e0]; exact Ar3.1) (State.isArrayOf_alike hZ.alike Ar3.2.1) Ar3.2.2 hin3 hat3 (g := (mkF m 53 #[rv a1, iv p2, iv 3, jv u, .second, iv 4, iv 0] [(.int 0), (.ref a1)])) rfl rfl (hb hby d6_53) _ (XS.aloadN X0.here hx rfl (hb hby d6_54) rfl rfl (XS.iload X0.here hx rfl (hb hby d6_55) rfl k))) ?_
    show oF p e below _ (s₁.setTop (mkF m 57 #[rv a1, iv p2, iv 3, jv u, .second, iv 4, iv 0] [(.int 0), (.ref a1), (.long w0)]))
    obtain ⟨cl4, Ar4, q4, S4, M4, H4, G4⟩ := (id V_1)
    have hin4 : ¬ ((0 : Int32) < 0 ∨ cl4.slots.size ≤ ((0 : Int32)).toNatClampNeg) := inb_of S4 ⟨by decide, by decide⟩
    have hat4 : cl4.slots[((0 : Int32)).toNatClampNeg]? = some (.long w0) := H4.at hin4 rfl
    refine og (fun t k => X0.laload hx (j := (0 : Int32)) (v := (.long w0)) (by rw [e0]; exact Ar4.1) (State.isArrayOf_alike hZ.alike Ar4.2.1) Ar4.2.2 hin4 hat4 (g := (mkF m 57 #[rv a1, iv p2, iv 3, jv u, .second, iv 4, iv 0] [(.int 0), (.ref a1), (.long w0)])) rfl rfl (hb hby d6_57) _ (XS.lcmp X0.here hx rfl (hb hby d6_58) rfl k)) ?_
    show oF p e below _ (s₁.setTop (mkF m 59 #[rv a1, iv p2, iv 3, jv u, .second, iv 4, iv 0] [(.int (lcmpW w0 w0))]))
    by_cases hc5 : w0 = w0
    · skip
      rw [(show (own_s34_59 a1 p2 u w0 w1 w2 w3) = (own_s34_82 a1 p2 u w0 w1 w2 w3) from if_pos hc5)]
      refine og (fun t k => XS.ifYes X0.here hx rfl (pc0 := 59) (pc' := 64) rfl (hb hby d6_59) rfl ((if0 _ _).trans (teq ((lw_eq _ _).mpr hc5)).1) (by decide) (by decide) (XS.iload X0.here hx rfl (hb hby d6_64) rfl (XS.iconst X0.here hx rfl (hb hby d6_66) (XS.isub X0.here hx rfl (hb hby d6_67) rfl (XS.iconst X0.here hx rfl (hb hby d6_68) k))))) ?_
      show oF p e below _ (s₁.setTop (mkF m 69 #[rv a1, iv p2, iv 3, jv u, .second, iv 4, iv 0] [(.int 1), (.int 3)]))
      refine og (fun t k => XS.icmpNo X0.here hx rfl (hb hby d6_69) rfl (tlt (by decide : (1 : Int32) < (3 : Int32))).2.2.2 (XS.aloadN X0.here hx rfl (hb hby d6_72) rfl rfl (XS.iconst X0.here hx rfl (hb hby d6_73) k))) ?_
      show oF p e below _ (s₁.setTop (mkF m 74 #[rv a1, iv p2, iv 3, jv u, .second, iv 4, iv 0] [(.int 1), (.ref a1)]))
      obtain ⟨cl6, Ar6, q6, S6, M6, H6, G6⟩ := (id V_1)
      have hin6 : ¬ ((1 : Int32) < 0 ∨ cl6.slots.size ≤ ((1 : Int32)).toNatClampNeg) := inb_of S6 ⟨by decide, by decide⟩
      have hat6 : cl6.slots[((1 : Int32)).toNatClampNeg]? = some (.long w1) := H6.at hin6 rfl
      refine og (fun t k => X0.laload hx (j := (1 : Int32)) (v := (.long w1)) (by rw [e0]; exact Ar6.1) (State.isArrayOf_alike hZ.alike Ar6.2.1) Ar6.2.2 hin6 hat6 (g := (mkF m 74 #[rv a1, iv p2, iv 3, jv u, .second, iv 4, iv 0] [(.int 1), (.ref a1)])) rfl rfl (hb hby d6_74) _ (XS.aloadN X0.here hx rfl (hb hby d6_75) rfl rfl (XS.iload X0.here hx rfl (hb hby d6_76) rfl (XS.iconst X0.here hx rfl (hb hby d6_78) (XS.iadd X0.here hx rfl (hb hby d6_79) rfl k))))) ?_
      show oF p e below _ (s₁.setTop (mkF m 80 #[rv a1, iv p2, iv 3, jv u, .second, iv 4, iv 0] [(.int 1), (.ref a1), (.long w1)]))
      obtain ⟨cl7, Ar7, q7, S7, M7, H7, G7⟩ := (id V_1)
      have hin7 : ¬ ((1 : Int32) < 0 ∨ cl7.slots.size ≤ ((1 : Int32)).toNatClampNeg) := inb_of S7 ⟨by decide, by decide⟩
      have hat7 : cl7.slots[((1 : Int32)).toNatClampNeg]? = some (.long w1) := H7.at hin7 rfl
      refine og (fun t k => X0.laload hx (j := (1 : Int32)) (v := (.long w1)) (by rw [e0]; exact Ar7.1) (State.isArrayOf_alike hZ.alike Ar7.2.1) Ar7.2.2 hin7 hat7 (g := (mkF m 80 #[rv a1, iv p2, iv 3, jv u, .second, iv 4, iv 0] [(.int 1), (.ref a1), (.long w1)])) rfl rfl (hb hby d6_80) _ (XS.lcmp X0.here hx rfl (hb hby d6_81) rfl k)) ?_
      show oF p e below _ (s₁.setTop (mkF m 82 #[rv a1, iv p2, iv 3, jv u, .second, iv 4, iv 0] [(.int (lcmpW w1 w1))]))
      by_cases hc8 : w1 = w1
      · skip
        rw [(show (own_s34_82 a1 p2 u w0 w1 w2 w3) = (own_s34_105 a1 p2 u w0 w1 w2 w3) from if_pos hc8)]
        refine og (fun t k => XS.ifYes X0.here hx rfl (pc0 := 82) (pc' := 87) rfl (hb hby d6_82) rfl ((if0 _ _).trans (teq ((lw_eq _ _).mpr hc8)).1) (by decide) (by decide) (XS.iload X0.here hx rfl (hb hby d6_87) rfl (XS.iconst X0.here hx rfl (hb hby d6_89) (XS.isub X0.here hx rfl (hb hby d6_90) rfl (XS.iconst X0.here hx rfl (hb hby d6_91) k))))) ?_
        show oF p e below _ (s₁.setTop (mkF m 92 #[rv a1, iv p2, iv 3, jv u, .second, iv 4, iv 0] [(.int 2), (.int 3)]))
        refine og (fun t k => XS.icmpNo X0.here hx rfl (hb hby d6_92) rfl (tlt (by decide : (2 : Int32) < (3 : Int32))).2.2.2 (XS.aloadN X0.here hx rfl (hb hby d6_95) rfl rfl (XS.iconst X0.here hx rfl (hb hby d6_96) k))) ?_
        show oF p e below _ (s₁.setTop (mkF m 97 #[rv a1, iv p2, iv 3, jv u, .second, iv 4, iv 0] [(.int 2), (.ref a1)]))
        obtain ⟨cl9, Ar9, q9, S9, M9, H9, G9⟩ := (id V_1)
        have hin9 : ¬ ((2 : Int32) < 0 ∨ cl9.slots.size ≤ ((2 : Int32)).toNatClampNeg) := inb_of S9 ⟨by decide, by decide⟩
        have hat9 : cl9.slots[((2 : Int32)).toNatClampNeg]? = some (.long w2) := H9.at hin9 rfl
        refine og (fun t k => X0.laload hx (j := (2 : Int32)) (v := (.long w2)) (by rw [e0]; exact Ar9.1) (State.isArrayOf_alike hZ.alike Ar9.2.1) Ar9.2.2 hin9 hat9 (g := (mkF m 97 #[rv a1, iv p2, iv 3, jv u, .second, iv 4, iv 0] [(.int 2), (.ref a1)])) rfl rfl (hb hby d6_97) _ (XS.aloadN X0.here hx rfl (hb hby d6_98) rfl rfl (XS.iload X0.here hx rfl (hb hby d6_99) rfl (XS.iconst X0.here hx rfl (hb hby d6_101) (XS.iadd X0.here hx rfl (hb hby d6_102) rfl k))))) ?_
        show oF p e below _ (s₁.setTop (mkF m 103 #[rv a1, iv p2, iv 3, jv u, .second, iv 4, iv 0] [(.int 2), (.ref a1), (.long w2)]))
        obtain ⟨cl10, Ar10, q10, S10, M10, H10, G10⟩ := (id V_1)
        have hin10 : ¬ ((2 : Int32) < 0 ∨ cl10.slots.size ≤ ((2 : Int32)).toNatClampNeg) := inb_of S10 ⟨by decide, by decide⟩
        have hat10 : cl10.slots[((2 : Int32)).toNatClampNeg]? = some (.long w2) := H10.at hin10 rfl
        refine og (fun t k => X0.laload hx (j := (2 : Int32)) (v := (.long w2)) (by rw [e0]; exact Ar10.1) (State.isArrayOf_alike hZ.alike Ar10.2.1) Ar10.2.2 hin10 hat10 (g := (mkF m 103 #[rv a1, iv p2, iv 3, jv u, .second, iv 4, iv 0] [(.int 2), (.ref a1), (.long w2)])) rfl rfl (hb hby d6_103) _ (XS.lcmp X0.here hx rfl (hb hby d6_104) rfl k)) ?_
        show oF p e below _ (s₁.setTop (mkF m 105 #[rv a1, iv p2, iv 3, jv u, .second, iv 4, iv 0] [(.int (lcmpW w2 w2))]))
        by_cases hc11 : w2 = w2
        · skip
          rw [(show (own_s34_105 a1 p2 u w0 w1 w2 w3) = (1 : Int32) from if_pos hc11)]
          refine og (fun t k => XS.ifYes X0.here hx rfl (pc0 := 105) (pc' := 110) rfl (hb hby d6_105) rfl ((if0 _ _).trans (teq ((lw_eq _ _).mpr hc11)).1) (by decide) (by decide) (XS.iconst X0.here hx rfl (hb hby d6_110) k)) ?_
          show oF p e below _ (s₁.setTop (mkF m 111 #[rv a1, iv p2, iv 3, jv u, .second, iv 4, iv 0] [(.int 1)]))
          exact oo X0 (fun h => by rw [Bd.returns] at h; cases h) Bd.notSynchronized (fun fs hr => retN X0 hx (t := .boolean) Bd.returns (by simp) (hb hby d6_111) hr) ⟨rfl, N0, e0⟩ (by decide) (by decide)
        · skip
          rw [(show (own_s34_105 a1 p2 u w0 w1 w2 w3) = (0 : Int32) from if_neg hc11)]
          refine og (fun t k => XS.ifNo X0.here hx rfl (hb hby d6_105) rfl ((if0 _ _).trans (feq (fun q => hc11 ((lw_eq _ _).mp q))).1) (XS.iconst X0.here hx rfl (hb hby d6_108) k)) ?_
          show oF p e below _ (s₁.setTop (mkF m 109 #[rv a1, iv p2, iv 3, jv u, .second, iv 4, iv 0] [(.int 0)]))
          exact oo X0 (fun h => by rw [Bd.returns] at h; cases h) Bd.notSynchronized (fun fs hr => retN X0 hx (t := .boolean) Bd.returns (by simp) (hb hby d6_109) hr) ⟨rfl, N0, e0⟩ (by decide) (by decide)
      · skip
        rw [(show (own_s34_82 a1 p2 u w0 w1 w2 w3) = (0 : Int32) from if_neg hc8)]
        refine og (fun t k => XS.ifNo X0.here hx rfl (hb hby d6_82) rfl ((if0 _ _).trans (feq (fun q => hc8 ((lw_eq _ _).mp q))).1) (XS.iconst X0.here hx rfl (hb hby d6_85) k)) ?_
        show oF p e below _ (s₁.setTop (mkF m 86 #[rv a1, iv p2, iv 3, jv u, .second, iv 4, iv 0] [(.int 0)]))
        exact oo X0 (fun h => by rw [Bd.returns] at h; cases h) Bd.notSynchronized (fun fs hr => retN X0 hx (t := .boolean) Bd.returns (by simp) (hb hby d6_86) hr) ⟨rfl, N0, e0⟩ (by decide) (by decide)
    · skip
      rw [(show (own_s34_59 a1 p2 u w0 w1 w2 w3) = (0 : Int32) from if_neg hc5)]
      refine og (fun t k => XS.ifNo X0.here hx rfl (hb hby d6_59) rfl ((if0 _ _).trans (feq (fun q => hc5 ((lw_eq _ _).mp q))).1) (XS.iconst X0.here hx rfl (hb hby d6_62) k)) ?_
      show oF p e below _ (s₁.setTop (mkF m 63 #[rv a1, iv p2, iv 3, jv u, .second, iv 4, iv 0] [(.int 0)]))
      exact oo X0 (fun h => by rw [Bd.returns] at h; cases h) Bd.notSynchronized (fun fs hr => retN X0 hx (t := .boolean) Bd.returns (by simp) (hb hby d6_63) hr) ⟨rfl, N0, e0⟩ (by decide) (by decide)
  · skip
    rw [(show (own_s34_31 a1 p2 u w0 w1 w2 w3) = (0 : Int32) from if_neg hc2)]
    refine og (fun t k => XS.ifNo X0.here hx rfl (hb hby d6_31) rfl ((if0 _ _).trans (feq (fun q => hc2 ((lw_eq _ _).mp q))).1) (XS.iconst X0.here hx rfl (hb hby d6_34) k)) ?_
    show oF p e below _ (s₁.setTop (mkF m 35 #[rv a1, iv p2, iv 3, jv u, .second, iv 4, .unset] [(.int 0)]))
    exact oo X0 (fun h => by rw [Bd.returns] at h; cases h) Bd.notSynchronized (fun fs hr => retN X0 hx (t := .boolean) Bd.returns (by simp) (hb hby d6_35) hr) ⟨rfl, N0, e0⟩ (by decide) (by decide)
theorem ef_6s41 (m : MethodId) (x0 : Addr) (x1 : Int32) (x2 : Int32) (x3 : Int64) (x4 : Int32)  : entryFrame m #[(.ref x0), (.int x1), (.int x2), (.long x3), (.int x4)] 7 = mkF m 0 #[rv x0, iv x1, iv x2, jv x3, .second, iv x4, .unset] [] := by first | (simp [entryFrame, mkF, argsToLocals, Value.category]; done) | rfl
def own_s41_31 (a1 : Addr) (p2 : Int32) (u : Int64) (w0 : Int64) (w1 : Int64) (w2 : Int64) (w3 : Int64) : Int32 := if w0 = u then (1 : Int32) else (0 : Int32)
def own_s41 (a1 : Addr) (p2 : Int32) (u : Int64) (w0 : Int64) (w1 : Int64) (w2 : Int64) (w3 : Int64) : Int32 := (own_s41_31 a1 p2 u w0 w1 w2 w3)
set_option maxRecDepth 65536 in
set_option maxHeartbeats 40000000 in
theorem rm6s41 (l : Launch) (Z : State) (a0 : Array Value) (hw : ∀ d ∈ tables_1, d.before a0 Z = true) (ws : List Jvm.Cond) (a1 : Addr) (p2 : Int32) (u : Int64) (k1 : ClassId) (w0 : Int64) (w1 : Int64) (w2 : Int64) (w3 : Int64) (h0 : Heap) (n0 : Nat) (Z0 : n0 ≤ h0.size) (V_1 : Arv Z h0 a1 k1 .long (4 : Int32) [(.long w0), (.long w1), (.long w2), (.long w3)] (.long (0 : Int64))) (hk : ¬ p2 < (1 : Int32)) :
    MetFree l (⟨"com/example/sound_verdict/soundverdict/UnitSearchNextPinLaw", "suf", "([JIIJI)Z"⟩ : MethodName) (head1 (Jvm.Cond.code (⟨"com/example/sound_verdict/soundverdict/UnitSearchNextPinLaw", "suf", "([JIIJI)Z"⟩ : MethodName) method_4_code 7 (some .boolean) :: ws) ({ frames := 0, cells := 0, slots := 0, locals := 0 } : Room)) (fun a U => a = #[(.ref a1), (.int p2), (.int 4), (.long u), (.int 1)] ∧ Z.Warmed39 U.vm ∧ U.heap = h0) (fun _ _ _ _ _ => True) (fun _ U o U' => ∃ v L, o = .returned v ∧ (own_P h0 n0 (.int (own_s41 a1 p2 u w0 w1 w2 w3))) v U'.heap L ∧ FrameEnd U o U' L ({ frames := 0, cells := 0, slots := 0, locals := 0 } : Room).cells ({ frames := 0, cells := 0, slots := 0, locals := 0 } : Room).slots) := by
  refine MetFree.of_bodySF (plainFor_of_name pn_0) hisR ?_
  intro p e s m args below meth c s₁ Bd hml0 hP hK
  obtain ⟨rfl, hZ, hh⟩ := hP
  have hx := Bd.exec
  have hby := Bd.bytes
  have hml : c.maxLocals = 7 := hml0
  have hown : s.vm.findClass "com/example/sound_verdict/soundverdict/UnitSearchNextPinLaw" = some m.cls := findClass_of_methodNamed Bd.named
  have hnm := (name_of_methodNamed Bd.named Bd.method).1
  have X0 : Stand p l e ({ frames := 0, cells := 0, slots := 0, locals := 0 } : Room) s m #[(.ref a1), (.int p2), (.int 4), (.long u), (.int 1)] below meth c s₁ [] 0 0 := Stand.of_body Bd
  have e0 : s₁.heap = h0 := by rw [← hh, Bd.state]; rfl
  have N0 := Fr.nil n0
  show oF p e below (own_A s ({ frames := 0, cells := 0, slots := 0, locals := 0 } : Room).cells ({ frames := 0, cells := 0, slots := 0, locals := 0 } : Room).slots (own_P h0 n0 (.int (own_s41 a1 p2 u w0 w1 w2 w3)))) _
  refine og (fun t k => castTop (ef_6s41 m (a1) (p2) ((4 : Int32)) (u) ((1 : Int32))) k) ?_
  show oF p e below _ (s₁.setTop (mkF m 0 #[rv a1, iv p2, iv 4, jv u, .second, iv 1, .unset] []))
  rw [show (own_s41 a1 p2 u w0 w1 w2 w3) = (own_s41_31 a1 p2 u w0 w1 w2 w3) from rfl]
  refine og (fun t k => XS.iload X0.here hx rfl (hb hby d6_0) rfl (XS.iloadN X0.here hx rfl (hb hby d6_2) rfl k)) ?_
  show oF p e below _ (s₁.setTop (mkF m 3 #[rv a1, iv p2, iv 4, jv u, .second, iv 1, .unset] [(.int p2), (.int 1)]))
  refine og (fun t k => XS.icmpNo X0.here hx rfl (hb hby d6_3) rfl (flt hk).2.2.1 (XS.iload X0.here hx rfl (hb hby d6_6) rfl (XS.iloadN X0.here hx rfl (hb hby d6_8) rfl (XS.iconst X0.here hx rfl (hb hby d6_9) (XS.iadd X0.here hx rfl (hb hby d6_10) rfl k))))) ?_
  show oF p e below _ (s₁.setTop (mkF m 11 #[rv a1, iv p2, iv 4, jv u, .second, iv 1, .unset] [(.int 5), (.int 1)]))
  refine og (fun t k => XS.icmpYes X0.here hx rfl (pc0 := 11) (pc' := 16) rfl (hb hby d6_11) rfl (flt (by decide : ¬ ((5 : Int32) < (1 : Int32)))).2.2.2 (by decide) (by decide) (XS.iload X0.here hx rfl (hb hby d6_16) rfl k)) ?_
  show oF p e below _ (s₁.setTop (mkF m 18 #[rv a1, iv p2, iv 4, jv u, .second, iv 1, .unset] [(.int 1)]))
  refine og (fun t k => XS.ifYes X0.here hx rfl (pc0 := 18) (pc' := 23) rfl (hb hby d6_18) rfl ((if0 _ _).trans (feq (by decide : ¬ ((1 : Int32) = (0 : Int32)))).2) (by decide) (by decide) (XS.aloadN X0.here hx rfl (hb hby d6_23) rfl rfl (XS.iload X0.here hx rfl (hb hby d6_24) rfl (XS.iconst X0.here hx rfl (hb hby d6_26) (XS.isub X0.here hx rfl (hb hby d6_27) rfl k))))) ?_
  show oF p e below _ (s₁.setTop (mkF m 28 #[rv a1, iv p2, iv 4, jv u, .second, iv 1, .unset] [(.int 0), (.ref a1)]))
  obtain ⟨cl1, Ar1, q1, S1, M1, H1, G1⟩ := (id V_1)
  have hin1 : ¬ ((0 : Int32) < 0 ∨ cl1.slots.size ≤ ((0 : Int32)).toNatClampNeg) := inb_of S1 ⟨by decide, by decide⟩
  have hat1 : cl1.slots[((0 : Int32)).toNatClampNeg]? = some (.long w0) := H1.at hin1 rfl
  refine og (fun t k => X0.laload hx (j := (0 : Int32)) (v := (.long w0)) (by rw [e0]; exact Ar1.1) (State.isArrayOf_alike hZ.alike Ar1.2.1) Ar1.2.2 hin1 hat1 (g := (mkF m 28 #[rv a1, iv p2, iv 4, jv u, .second, iv 1, .unset] [(.int 0), (.ref a1)])) rfl rfl (hb hby d6_28) _ (XS.lloadN X0.here hx rfl (hb hby d6_29) rfl (XS.lcmp X0.here hx rfl (hb hby d6_30) rfl k))) ?_
  show oF p e below _ (s₁.setTop (mkF m 31 #[rv a1, iv p2, iv 4, jv u, .second, iv 1, .unset] [(.int (lcmpW w0 u))]))
  by_cases hc2 : w0 = u
  · skip
    rw [(show (own_s41_31 a1 p2 u w0 w1 w2 w3) = (1 : Int32) from if_pos hc2)]
    refine og (fun t k => XS.ifYes X0.here hx rfl (pc0 := 31) (pc' := 36) rfl (hb hby d6_31) rfl ((if0 _ _).trans (teq ((lw_eq _ _).mpr hc2)).1) (by decide) (by decide) (XS.iloadN X0.here hx rfl (hb hby d6_36) rfl (XS.iload X0.here hx rfl (hb hby d6_37) rfl (XS.isub X0.here hx rfl (hb hby d6_39) rfl (XS.iconst X0.here hx rfl (hb hby d6_40) (XS.iadd X0.here hx rfl (hb hby d6_41) rfl (XS.istore X0.here hx rfl (hb hby d6_42) rfl (l' := #[rv a1, iv p2, iv 4, jv u, .second, iv 1, iv 4]) rfl (XS.iload X0.here hx rfl (hb hby d6_44) rfl (XS.iconst X0.here hx rfl (hb hby d6_46) (XS.isub X0.here hx rfl (hb hby d6_47) rfl k)))))))))) ?_
    show oF p e below _ (s₁.setTop (mkF m 48 #[rv a1, iv p2, iv 4, jv u, .second, iv 1, iv 4] [(.int 0)]))
    refine og (fun t k => XS.ifYes X0.here hx rfl (pc0 := 48) (pc' := 64) rfl (hb hby d6_48) rfl ((if0 _ _).trans (flt (by decide : ¬ ((0 : Int32) < (0 : Int32)))).2.2.2) (by decide) (by decide) (XS.iload X0.here hx rfl (hb hby d6_64) rfl (XS.iconst X0.here hx rfl (hb hby d6_66) (XS.isub X0.here hx rfl (hb hby d6_67) rfl (XS.iconst X0.here hx rfl (hb hby d6_68) k))))) ?_
    show oF p e below _ (s₁.setTop (mkF m 69 #[rv a1, iv p2, iv 4, jv u, .second, iv 1, iv 4] [(.int 1), (.int 0)]))
    refine og (fun t k => XS.icmpYes X0.here hx rfl (pc0 := 69) (pc' := 87) rfl (hb hby d6_69) rfl (flt (by decide : ¬ ((1 : Int32) < (0 : Int32)))).2.2.2 (by decide) (by decide) (XS.iload X0.here hx rfl (hb hby d6_87) rfl (XS.iconst X0.here hx rfl (hb hby d6_89) (XS.isub X0.here hx rfl (hb hby d6_90) rfl (XS.iconst X0.here hx rfl (hb hby d6_91) k))))) ?_
    show oF p e below _ (s₁.setTop (mkF m 92 #[rv a1, iv p2, iv 4, jv u, .second, iv 1, iv 4] [(.int 2), (.int 0)]))
    refine og (fun t k => XS.icmpYes X0.here hx rfl (pc0 := 92) (pc' := 110) rfl (hb hby d6_92) rfl (flt (by decide : ¬ ((2 : Int32) < (0 : Int32)))).2.2.2 (by decide) (by decide) (XS.iconst X0.here hx rfl (hb hby d6_110) k)) ?_
    show oF p e below _ (s₁.setTop (mkF m 111 #[rv a1, iv p2, iv 4, jv u, .second, iv 1, iv 4] [(.int 1)]))
    exact oo X0 (fun h => by rw [Bd.returns] at h; cases h) Bd.notSynchronized (fun fs hr => retN X0 hx (t := .boolean) Bd.returns (by simp) (hb hby d6_111) hr) ⟨rfl, N0, e0⟩ (by decide) (by decide)
  · skip
    rw [(show (own_s41_31 a1 p2 u w0 w1 w2 w3) = (0 : Int32) from if_neg hc2)]
    refine og (fun t k => XS.ifNo X0.here hx rfl (hb hby d6_31) rfl ((if0 _ _).trans (feq (fun q => hc2 ((lw_eq _ _).mp q))).1) (XS.iconst X0.here hx rfl (hb hby d6_34) k)) ?_
    show oF p e below _ (s₁.setTop (mkF m 35 #[rv a1, iv p2, iv 4, jv u, .second, iv 1, .unset] [(.int 0)]))
    exact oo X0 (fun h => by rw [Bd.returns] at h; cases h) Bd.notSynchronized (fun fs hr => retN X0 hx (t := .boolean) Bd.returns (by simp) (hb hby d6_35) hr) ⟨rfl, N0, e0⟩ (by decide) (by decide)
theorem ef_6s42 (m : MethodId) (x0 : Addr) (x1 : Int32) (x2 : Int32) (x3 : Int64) (x4 : Int32)  : entryFrame m #[(.ref x0), (.int x1), (.int x2), (.long x3), (.int x4)] 7 = mkF m 0 #[rv x0, iv x1, iv x2, jv x3, .second, iv x4, .unset] [] := by first | (simp [entryFrame, mkF, argsToLocals, Value.category]; done) | rfl
def own_s42_59 (a1 : Addr) (p2 : Int32) (u : Int64) (w0 : Int64) (w1 : Int64) (w2 : Int64) (w3 : Int64) : Int32 := if w0 = w3 then (1 : Int32) else (0 : Int32)
def own_s42_31 (a1 : Addr) (p2 : Int32) (u : Int64) (w0 : Int64) (w1 : Int64) (w2 : Int64) (w3 : Int64) : Int32 := if w1 = u then (own_s42_59 a1 p2 u w0 w1 w2 w3) else (0 : Int32)
def own_s42 (a1 : Addr) (p2 : Int32) (u : Int64) (w0 : Int64) (w1 : Int64) (w2 : Int64) (w3 : Int64) : Int32 := (own_s42_31 a1 p2 u w0 w1 w2 w3)
set_option maxRecDepth 65536 in
set_option maxHeartbeats 40000000 in
theorem rm6s42 (l : Launch) (Z : State) (a0 : Array Value) (hw : ∀ d ∈ tables_1, d.before a0 Z = true) (ws : List Jvm.Cond) (a1 : Addr) (p2 : Int32) (u : Int64) (k1 : ClassId) (w0 : Int64) (w1 : Int64) (w2 : Int64) (w3 : Int64) (h0 : Heap) (n0 : Nat) (Z0 : n0 ≤ h0.size) (V_1 : Arv Z h0 a1 k1 .long (4 : Int32) [(.long w0), (.long w1), (.long w2), (.long w3)] (.long (0 : Int64))) (hk : ¬ p2 < (2 : Int32)) :
    MetFree l (⟨"com/example/sound_verdict/soundverdict/UnitSearchNextPinLaw", "suf", "([JIIJI)Z"⟩ : MethodName) (head1 (Jvm.Cond.code (⟨"com/example/sound_verdict/soundverdict/UnitSearchNextPinLaw", "suf", "([JIIJI)Z"⟩ : MethodName) method_4_code 7 (some .boolean) :: ws) ({ frames := 0, cells := 0, slots := 0, locals := 0 } : Room)) (fun a U => a = #[(.ref a1), (.int p2), (.int 4), (.long u), (.int 2)] ∧ Z.Warmed39 U.vm ∧ U.heap = h0) (fun _ _ _ _ _ => True) (fun _ U o U' => ∃ v L, o = .returned v ∧ (own_P h0 n0 (.int (own_s42 a1 p2 u w0 w1 w2 w3))) v U'.heap L ∧ FrameEnd U o U' L ({ frames := 0, cells := 0, slots := 0, locals := 0 } : Room).cells ({ frames := 0, cells := 0, slots := 0, locals := 0 } : Room).slots) := by
  refine MetFree.of_bodySF (plainFor_of_name pn_0) hisR ?_
  intro p e s m args below meth c s₁ Bd hml0 hP hK
  obtain ⟨rfl, hZ, hh⟩ := hP
  have hx := Bd.exec
  have hby := Bd.bytes
  have hml : c.maxLocals = 7 := hml0
  have hown : s.vm.findClass "com/example/sound_verdict/soundverdict/UnitSearchNextPinLaw" = some m.cls := findClass_of_methodNamed Bd.named
  have hnm := (name_of_methodNamed Bd.named Bd.method).1
  have X0 : Stand p l e ({ frames := 0, cells := 0, slots := 0, locals := 0 } : Room) s m #[(.ref a1), (.int p2), (.int 4), (.long u), (.int 2)] below meth c s₁ [] 0 0 := Stand.of_body Bd
  have e0 : s₁.heap = h0 := by rw [← hh, Bd.state]; rfl
  have N0 := Fr.nil n0
  show oF p e below (own_A s ({ frames := 0, cells := 0, slots := 0, locals := 0 } : Room).cells ({ frames := 0, cells := 0, slots := 0, locals := 0 } : Room).slots (own_P h0 n0 (.int (own_s42 a1 p2 u w0 w1 w2 w3)))) _
  refine og (fun t k => castTop (ef_6s42 m (a1) (p2) ((4 : Int32)) (u) ((2 : Int32))) k) ?_
  show oF p e below _ (s₁.setTop (mkF m 0 #[rv a1, iv p2, iv 4, jv u, .second, iv 2, .unset] []))
  rw [show (own_s42 a1 p2 u w0 w1 w2 w3) = (own_s42_31 a1 p2 u w0 w1 w2 w3) from rfl]
  refine og (fun t k => XS.iload X0.here hx rfl (hb hby d6_0) rfl (XS.iloadN X0.here hx rfl (hb hby d6_2) rfl k)) ?_
  show oF p e below _ (s₁.setTop (mkF m 3 #[rv a1, iv p2, iv 4, jv u, .second, iv 2, .unset] [(.int p2), (.int 2)]))
  refine og (fun t k => XS.icmpNo X0.here hx rfl (hb hby d6_3) rfl (flt hk).2.2.1 (XS.iload X0.here hx rfl (hb hby d6_6) rfl (XS.iloadN X0.here hx rfl (hb hby d6_8) rfl (XS.iconst X0.here hx rfl (hb hby d6_9) (XS.iadd X0.here hx rfl (hb hby d6_10) rfl k))))) ?_
  show oF p e below _ (s₁.setTop (mkF m 11 #[rv a1, iv p2, iv 4, jv u, .second, iv 2, .unset] [(.int 5), (.int 2)]))
  refine og (fun t k => XS.icmpYes X0.here hx rfl (pc0 := 11) (pc' := 16) rfl (hb hby d6_11) rfl (flt (by decide : ¬ ((5 : Int32) < (2 : Int32)))).2.2.2 (by decide) (by decide) (XS.iload X0.here hx rfl (hb hby d6_16) rfl k)) ?_
  show oF p e below _ (s₁.setTop (mkF m 18 #[rv a1, iv p2, iv 4, jv u, .second, iv 2, .unset] [(.int 2)]))
  refine og (fun t k => XS.ifYes X0.here hx rfl (pc0 := 18) (pc' := 23) rfl (hb hby d6_18) rfl ((if0 _ _).trans (feq (by decide : ¬ ((2 : Int32) = (0 : Int32)))).2) (by decide) (by decide) (XS.aloadN X0.here hx rfl (hb hby d6_23) rfl rfl (XS.iload X0.here hx rfl (hb hby d6_24) rfl (XS.iconst X0.here hx rfl (hb hby d6_26) (XS.isub X0.here hx rfl (hb hby d6_27) rfl k))))) ?_
  show oF p e below _ (s₁.setTop (mkF m 28 #[rv a1, iv p2, iv 4, jv u, .second, iv 2, .unset] [(.int 1), (.ref a1)]))
  obtain ⟨cl1, Ar1, q1, S1, M1, H1, G1⟩ := (id V_1)
  have hin1 : ¬ ((1 : Int32) < 0 ∨ cl1.slots.size ≤ ((1 : Int32)).toNatClampNeg) := inb_of S1 ⟨by decide, by decide⟩
  have hat1 : cl1.slots[((1 : Int32)).toNatClampNeg]? = some (.long w1) := H1.at hin1 rfl
  refine og (fun t k => X0.laload hx (j := (1 : Int32)) (v := (.long w1)) (by rw [e0]; exact Ar1.1) (State.isArrayOf_alike hZ.alike Ar1.2.1) Ar1.2.2 hin1 hat1 (g := (mkF m 28 #[rv a1, iv p2, iv 4, jv u, .second, iv 2, .unset] [(.int 1), (.ref a1)])) rfl rfl (hb hby d6_28) _ (XS.lloadN X0.here hx rfl (hb hby d6_29) rfl (XS.lcmp X0.here hx rfl (hb hby d6_30) rfl k))) ?_
  show oF p e below _ (s₁.setTop (mkF m 31 #[rv a1, iv p2, iv 4, jv u, .second, iv 2, .unset] [(.int (lcmpW w1 u))]))
  by_cases hc2 : w1 = u
  · skip
    rw [(show (own_s42_31 a1 p2 u w0 w1 w2 w3) = (own_s42_59 a1 p2 u w0 w1 w2 w3) from if_pos hc2)]
    refine og (fun t k => XS.ifYes X0.here hx rfl (pc0 := 31) (pc' := 36) rfl (hb hby d6_31) rfl ((if0 _ _).trans (teq ((lw_eq _ _).mpr hc2)).1) (by decide) (by decide) (XS.iloadN X0.here hx rfl (hb hby d6_36) rfl (XS.iload X0.here hx rfl (hb hby d6_37) rfl (XS.isub X0.here hx rfl (hb hby d6_39) rfl (XS.iconst X0.here hx rfl (hb hby d6_40) (XS.iadd X0.here hx rfl (hb hby d6_41) rfl (XS.istore X0.here hx rfl (hb hby d6_42) rfl (l' := #[rv a1, iv p2, iv 4, jv u, .second, iv 2, iv 3]) rfl (XS.iload X0.here hx rfl (hb hby d6_44) rfl (XS.iconst X0.here hx rfl (hb hby d6_46) (XS.isub X0.here hx rfl (hb hby d6_47) rfl k)))))))))) ?_
    show oF p e below _ (s₁.setTop (mkF m 48 #[rv a1, iv p2, iv 4, jv u, .second, iv 2, iv 3] [(.int 1)]))
    refine og (fun t k => XS.ifNo X0.here hx rfl (hb hby d6_48) rfl ((if0 _ _).trans (tlt (by decide : (0 : Int32) < (1 : Int32))).2.2.2) (XS.aloadN X0.here hx rfl (hb hby d6_51) rfl rfl (XS.iconst X0.here hx rfl (hb hby d6_52) k))) ?_
    show oF p e below _ (s₁.setTop (mkF m 53 #[rv a1, iv p2, iv 4, jv u, .second, iv 2, iv 3] [(.int 0), (.ref a1)]))
    obtain ⟨cl3, Ar3, q3, S3, M3, H3, G3⟩ := (id V_1)
    have hin3 : ¬ ((0 : Int32) < 0 ∨ cl3.slots.size ≤ ((0 : Int32)).toNatClampNeg) := inb_of S3 ⟨by decide, by decide⟩
    have hat3 : cl3.slots[((0 : Int32)).toNatClampNeg]? = some (.long w0) := H3.at hin3 rfl
    refine og (fun t k => X0.laload hx (j := (0 : Int32)) (v := (.long w0)) (by rw [e0]; exact Ar3.1) (State.isArrayOf_alike hZ.alike Ar3.2.1) Ar3.2.2 hin3 hat3 (g := (mkF m 53 #[rv a1, iv p2, iv 4, jv u, .second, iv 2, iv 3] [(.int 0), (.ref a1)])) rfl rfl (hb hby d6_53) _ (XS.aloadN X0.here hx rfl (hb hby d6_54) rfl rfl (XS.iload X0.here hx rfl (hb hby d6_55) rfl k))) ?_
    show oF p e below _ (s₁.setTop (mkF m 57 #[rv a1, iv p2, iv 4, jv u, .second, iv 2, iv 3] [(.int 3), (.ref a1), (.long w0)]))
    obtain ⟨cl4, Ar4, q4, S4, M4, H4, G4⟩ := (id V_1)
    have hin4 : ¬ ((3 : Int32) < 0 ∨ cl4.slots.size ≤ ((3 : Int32)).toNatClampNeg) := inb_of S4 ⟨by decide, by decide⟩
    have hat4 : cl4.slots[((3 : Int32)).toNatClampNeg]? = some (.long w3) := H4.at hin4 rfl
    refine og (fun t k => X0.laload hx (j := (3 : Int32)) (v := (.long w3)) (by rw [e0]; exact Ar4.1) (State.isArrayOf_alike hZ.alike Ar4.2.1) Ar4.2.2 hin4 hat4 (g := (mkF m 57 #[rv a1, iv p2, iv 4, jv u, .second, iv 2, iv 3] [(.int 3), (.ref a1), (.long w0)])) rfl rfl (hb hby d6_57) _ (XS.lcmp X0.here hx rfl (hb hby d6_58) rfl k)) ?_
    show oF p e below _ (s₁.setTop (mkF m 59 #[rv a1, iv p2, iv 4, jv u, .second, iv 2, iv 3] [(.int (lcmpW w0 w3))]))
    by_cases hc5 : w0 = w3
    · skip
      rw [(show (own_s42_59 a1 p2 u w0 w1 w2 w3) = (1 : Int32) from if_pos hc5)]
      refine og (fun t k => XS.ifYes X0.here hx rfl (pc0 := 59) (pc' := 64) rfl (hb hby d6_59) rfl ((if0 _ _).trans (teq ((lw_eq _ _).mpr hc5)).1) (by decide) (by decide) (XS.iload X0.here hx rfl (hb hby d6_64) rfl (XS.iconst X0.here hx rfl (hb hby d6_66) (XS.isub X0.here hx rfl (hb hby d6_67) rfl (XS.iconst X0.here hx rfl (hb hby d6_68) k))))) ?_
      show oF p e below _ (s₁.setTop (mkF m 69 #[rv a1, iv p2, iv 4, jv u, .second, iv 2, iv 3] [(.int 1), (.int 1)]))
      refine og (fun t k => XS.icmpYes X0.here hx rfl (pc0 := 69) (pc' := 87) rfl (hb hby d6_69) rfl (flt (by decide : ¬ ((1 : Int32) < (1 : Int32)))).2.2.2 (by decide) (by decide) (XS.iload X0.here hx rfl (hb hby d6_87) rfl (XS.iconst X0.here hx rfl (hb hby d6_89) (XS.isub X0.here hx rfl (hb hby d6_90) rfl (XS.iconst X0.here hx rfl (hb hby d6_91) k))))) ?_
      show oF p e below _ (s₁.setTop (mkF m 92 #[rv a1, iv p2, iv 4, jv u, .second, iv 2, iv 3] [(.int 2), (.int 1)]))
      refine og (fun t k => XS.icmpYes X0.here hx rfl (pc0 := 92) (pc' := 110) rfl (hb hby d6_92) rfl (flt (by decide : ¬ ((2 : Int32) < (1 : Int32)))).2.2.2 (by decide) (by decide) (XS.iconst X0.here hx rfl (hb hby d6_110) k)) ?_
      show oF p e below _ (s₁.setTop (mkF m 111 #[rv a1, iv p2, iv 4, jv u, .second, iv 2, iv 3] [(.int 1)]))
      exact oo X0 (fun h => by rw [Bd.returns] at h; cases h) Bd.notSynchronized (fun fs hr => retN X0 hx (t := .boolean) Bd.returns (by simp) (hb hby d6_111) hr) ⟨rfl, N0, e0⟩ (by decide) (by decide)
    · skip
      rw [(show (own_s42_59 a1 p2 u w0 w1 w2 w3) = (0 : Int32) from if_neg hc5)]
      refine og (fun t k => XS.ifNo X0.here hx rfl (hb hby d6_59) rfl ((if0 _ _).trans (feq (fun q => hc5 ((lw_eq _ _).mp q))).1) (XS.iconst X0.here hx rfl (hb hby d6_62) k)) ?_
      show oF p e below _ (s₁.setTop (mkF m 63 #[rv a1, iv p2, iv 4, jv u, .second, iv 2, iv 3] [(.int 0)]))
      exact oo X0 (fun h => by rw [Bd.returns] at h; cases h) Bd.notSynchronized (fun fs hr => retN X0 hx (t := .boolean) Bd.returns (by simp) (hb hby d6_63) hr) ⟨rfl, N0, e0⟩ (by decide) (by decide)
  · skip
    rw [(show (own_s42_31 a1 p2 u w0 w1 w2 w3) = (0 : Int32) from if_neg hc2)]
    refine og (fun t k => XS.ifNo X0.here hx rfl (hb hby d6_31) rfl ((if0 _ _).trans (feq (fun q => hc2 ((lw_eq _ _).mp q))).1) (XS.iconst X0.here hx rfl (hb hby d6_34) k)) ?_
    show oF p e below _ (s₁.setTop (mkF m 35 #[rv a1, iv p2, iv 4, jv u, .second, iv 2, .unset] [(.int 0)]))
    exact oo X0 (fun h => by rw [Bd.returns] at h; cases h) Bd.notSynchronized (fun fs hr => retN X0 hx (t := .boolean) Bd.returns (by simp) (hb hby d6_35) hr) ⟨rfl, N0, e0⟩ (by decide) (by decide)
theorem ef_6s43 (m : MethodId) (x0 : Addr) (x1 : Int32) (x2 : Int32) (x3 : Int64) (x4 : Int32)  : entryFrame m #[(.ref x0), (.int x1), (.int x2), (.long x3), (.int x4)] 7 = mkF m 0 #[rv x0, iv x1, iv x2, jv x3, .second, iv x4, .unset] [] := by first | (simp [entryFrame, mkF, argsToLocals, Value.category]; done) | rfl
def own_s43_82 (a1 : Addr) (p2 : Int32) (u : Int64) (w0 : Int64) (w1 : Int64) (w2 : Int64) (w3 : Int64) : Int32 := if w1 = w3 then (1 : Int32) else (0 : Int32)
def own_s43_59 (a1 : Addr) (p2 : Int32) (u : Int64) (w0 : Int64) (w1 : Int64) (w2 : Int64) (w3 : Int64) : Int32 := if w0 = w2 then (own_s43_82 a1 p2 u w0 w1 w2 w3) else (0 : Int32)
def own_s43_31 (a1 : Addr) (p2 : Int32) (u : Int64) (w0 : Int64) (w1 : Int64) (w2 : Int64) (w3 : Int64) : Int32 := if w2 = u then (own_s43_59 a1 p2 u w0 w1 w2 w3) else (0 : Int32)
def own_s43 (a1 : Addr) (p2 : Int32) (u : Int64) (w0 : Int64) (w1 : Int64) (w2 : Int64) (w3 : Int64) : Int32 := (own_s43_31 a1 p2 u w0 w1 w2 w3)
set_option maxRecDepth 65536 in
set_option maxHeartbeats 40000000 in
theorem rm6s43 (l : Launch) (Z : State) (a0 : Array Value) (hw : ∀ d ∈ tables_1, d.before a0 Z = true) (ws : List Jvm.Cond) (a1 : Addr) (p2 : Int32) (u : Int64) (k1 : ClassId) (w0 : Int64) (w1 : Int64) (w2 : Int64) (w3 : Int64) (h0 : Heap) (n0 : Nat) (Z0 : n0 ≤ h0.size) (V_1 : Arv Z h0 a1 k1 .long (4 : Int32) [(.long w0), (.long w1), (.long w2), (.long w3)] (.long (0 : Int64))) (hk : ¬ p2 < (3 : Int32)) :
    MetFree l (⟨"com/example/sound_verdict/soundverdict/UnitSearchNextPinLaw", "suf", "([JIIJI)Z"⟩ : MethodName) (head1 (Jvm.Cond.code (⟨"com/example/sound_verdict/soundverdict/UnitSearchNextPinLaw", "suf", "([JIIJI)Z"⟩ : MethodName) method_4_code 7 (some .boolean) :: ws) ({ frames := 0, cells := 0, slots := 0, locals := 0 } : Room)) (fun a U => a = #[(.ref a1), (.int p2), (.int 4), (.long u), (.int 3)] ∧ Z.Warmed39 U.vm ∧ U.heap = h0) (fun _ _ _ _ _ => True) (fun _ U o U' => ∃ v L, o = .returned v ∧ (own_P h0 n0 (.int (own_s43 a1 p2 u w0 w1 w2 w3))) v U'.heap L ∧ FrameEnd U o U' L ({ frames := 0, cells := 0, slots := 0, locals := 0 } : Room).cells ({ frames := 0, cells := 0, slots := 0, locals := 0 } : Room).slots) := by
  refine MetFree.of_bodySF (plainFor_of_name pn_0) hisR ?_
  intro p e s m args below meth c s₁ Bd hml0 hP hK
  obtain ⟨rfl, hZ, hh⟩ := hP
  have hx := Bd.exec
  have hby := Bd.bytes
  have hml : c.maxLocals = 7 := hml0
  have hown : s.vm.findClass "com/example/sound_verdict/soundverdict/UnitSearchNextPinLaw" = some m.cls := findClass_of_methodNamed Bd.named
  have hnm := (name_of_methodNamed Bd.named Bd.method).1
  have X0 : Stand p l e ({ frames := 0, cells := 0, slots := 0, locals := 0 } : Room) s m #[(.ref a1), (.int p2), (.int 4), (.long u), (.int 3)] below meth c s₁ [] 0 0 := Stand.of_body Bd
  have e0 : s₁.heap = h0 := by rw [← hh, Bd.state]; rfl
  have N0 := Fr.nil n0
  show oF p e below (own_A s ({ frames := 0, cells := 0, slots := 0, locals := 0 } : Room).cells ({ frames := 0, cells := 0, slots := 0, locals := 0 } : Room).slots (own_P h0 n0 (.int (own_s43 a1 p2 u w0 w1 w2 w3)))) _
  refine og (fun t k => castTop (ef_6s43 m (a1) (p2) ((4 : Int32)) (u) ((3 : Int32))) k) ?_
  show oF p e below _ (s₁.setTop (mkF m 0 #[rv a1, iv p2, iv 4, jv u, .second, iv 3, .unset] []))
  rw [show (own_s43 a1 p2 u w0 w1 w2 w3) = (own_s43_31 a1 p2 u w0 w1 w2 w3) from rfl]
  refine og (fun t k => XS.iload X0.here hx rfl (hb hby d6_0) rfl (XS.iloadN X0.here hx rfl (hb hby d6_2) rfl k)) ?_
  show oF p e below _ (s₁.setTop (mkF m 3 #[rv a1, iv p2, iv 4, jv u, .second, iv 3, .unset] [(.int p2), (.int 3)]))
  refine og (fun t k => XS.icmpNo X0.here hx rfl (hb hby d6_3) rfl (flt hk).2.2.1 (XS.iload X0.here hx rfl (hb hby d6_6) rfl (XS.iloadN X0.here hx rfl (hb hby d6_8) rfl (XS.iconst X0.here hx rfl (hb hby d6_9) (XS.iadd X0.here hx rfl (hb hby d6_10) rfl k))))) ?_
  show oF p e below _ (s₁.setTop (mkF m 11 #[rv a1, iv p2, iv 4, jv u, .second, iv 3, .unset] [(.int 5), (.int 3)]))
  refine og (fun t k => XS.icmpYes X0.here hx rfl (pc0 := 11) (pc' := 16) rfl (hb hby d6_11) rfl (flt (by decide : ¬ ((5 : Int32) < (3 : Int32)))).2.2.2 (by decide) (by decide) (XS.iload X0.here hx rfl (hb hby d6_16) rfl k)) ?_
  show oF p e below _ (s₁.setTop (mkF m 18 #[rv a1, iv p2, iv 4, jv u, .second, iv 3, .unset] [(.int 3)]))
  refine og (fun t k => XS.ifYes X0.here hx rfl (pc0 := 18) (pc' := 23) rfl (hb hby d6_18) rfl ((if0 _ _).trans (feq (by decide : ¬ ((3 : Int32) = (0 : Int32)))).2) (by decide) (by decide) (XS.aloadN X0.here hx rfl (hb hby d6_23) rfl rfl (XS.iload X0.here hx rfl (hb hby d6_24) rfl (XS.iconst X0.here hx rfl (hb hby d6_26) (XS.isub X0.here hx rfl (hb hby d6_27) rfl k))))) ?_
  show oF p e below _ (s₁.setTop (mkF m 28 #[rv a1, iv p2, iv 4, jv u, .second, iv 3, .unset] [(.int 2), (.ref a1)]))
  obtain ⟨cl1, Ar1, q1, S1, M1, H1, G1⟩ := (id V_1)
  have hin1 : ¬ ((2 : Int32) < 0 ∨ cl1.slots.size ≤ ((2 : Int32)).toNatClampNeg) := inb_of S1 ⟨by decide, by decide⟩
  have hat1 : cl1.slots[((2 : Int32)).toNatClampNeg]? = some (.long w2) := H1.at hin1 rfl
  refine og (fun t k => X0.laload hx (j := (2 : Int32)) (v := (.long w2)) (by rw [e0]; exact Ar1.1) (State.isArrayOf_alike hZ.alike Ar1.2.1) Ar1.2.2 hin1 hat1 (g := (mkF m 28 #[rv a1, iv p2, iv 4, jv u, .second, iv 3, .unset] [(.int 2), (.ref a1)])) rfl rfl (hb hby d6_28) _ (XS.lloadN X0.here hx rfl (hb hby d6_29) rfl (XS.lcmp X0.here hx rfl (hb hby d6_30) rfl k))) ?_
  show oF p e below _ (s₁.setTop (mkF m 31 #[rv a1, iv p2, iv 4, jv u, .second, iv 3, .unset] [(.int (lcmpW w2 u))]))
  by_cases hc2 : w2 = u
  · skip
    rw [(show (own_s43_31 a1 p2 u w0 w1 w2 w3) = (own_s43_59 a1 p2 u w0 w1 w2 w3) from if_pos hc2)]
    refine og (fun t k => XS.ifYes X0.here hx rfl (pc0 := 31) (pc' := 36) rfl (hb hby d6_31) rfl ((if0 _ _).trans (teq ((lw_eq _ _).mpr hc2)).1) (by decide) (by decide) (XS.iloadN X0.here hx rfl (hb hby d6_36) rfl (XS.iload X0.here hx rfl (hb hby d6_37) rfl (XS.isub X0.here hx rfl (hb hby d6_39) rfl (XS.iconst X0.here hx rfl (hb hby d6_40) (XS.iadd X0.here hx rfl (hb hby d6_41) rfl (XS.istore X0.here hx rfl (hb hby d6_42) rfl (l' := #[rv a1, iv p2, iv 4, jv u, .second, iv 3, iv 2]) rfl (XS.iload X0.here hx rfl (hb hby d6_44) rfl (XS.iconst X0.here hx rfl (hb hby d6_46) (XS.isub X0.here hx rfl (hb hby d6_47) rfl k)))))))))) ?_
    show oF p e below _ (s₁.setTop (mkF m 48 #[rv a1, iv p2, iv 4, jv u, .second, iv 3, iv 2] [(.int 2)]))
    refine og (fun t k => XS.ifNo X0.here hx rfl (hb hby d6_48) rfl ((if0 _ _).trans (tlt (by decide : (0 : Int32) < (2 : Int32))).2.2.2) (XS.aloadN X0.here hx rfl (hb hby d6_51) rfl rfl (XS.iconst X0.here hx rfl (hb hby d6_52) k))) ?_
    show oF p e below _ (s₁.setTop (mkF m 53 #[rv a1, iv p2, iv 4, jv u, .second, iv 3, iv 2] [(.int 0), (.ref a1)]))
    obtain ⟨cl3, Ar3, q3, S3, M3, H3, G3⟩ := (id V_1)
    have hin3 : ¬ ((0 : Int32) < 0 ∨ cl3.slots.size ≤ ((0 : Int32)).toNatClampNeg) := inb_of S3 ⟨by decide, by decide⟩
    have hat3 : cl3.slots[((0 : Int32)).toNatClampNeg]? = some (.long w0) := H3.at hin3 rfl
    refine og (fun t k => X0.laload hx (j := (0 : Int32)) (v := (.long w0)) (by rw [e0]; exact Ar3.1) (State.isArrayOf_alike hZ.alike Ar3.2.1) Ar3.2.2 hin3 hat3 (g := (mkF m 53 #[rv a1, iv p2, iv 4, jv u, .second, iv 3, iv 2] [(.int 0), (.ref a1)])) rfl rfl (hb hby d6_53) _ (XS.aloadN X0.here hx rfl (hb hby d6_54) rfl rfl (XS.iload X0.here hx rfl (hb hby d6_55) rfl k))) ?_
    show oF p e below _ (s₁.setTop (mkF m 57 #[rv a1, iv p2, iv 4, jv u, .second, iv 3, iv 2] [(.int 2), (.ref a1), (.long w0)]))
    obtain ⟨cl4, Ar4, q4, S4, M4, H4, G4⟩ := (id V_1)
    have hin4 : ¬ ((2 : Int32) < 0 ∨ cl4.slots.size ≤ ((2 : Int32)).toNatClampNeg) := inb_of S4 ⟨by decide, by decide⟩
    have hat4 : cl4.slots[((2 : Int32)).toNatClampNeg]? = some (.long w2) := H4.at hin4 rfl
    refine og (fun t k => X0.laload hx (j := (2 : Int32)) (v := (.long w2)) (by rw [e0]; exact Ar4.1) (State.isArrayOf_alike hZ.alike Ar4.2.1) Ar4.2.2 hin4 hat4 (g := (mkF m 57 #[rv a1, iv p2, iv 4, jv u, .second, iv 3, iv 2] [(.int 2), (.ref a1), (.long w0)])) rfl rfl (hb hby d6_57) _ (XS.lcmp X0.here hx rfl (hb hby d6_58) rfl k)) ?_
    show oF p e below _ (s₁.setTop (mkF m 59 #[rv a1, iv p2, iv 4, jv u, .second, iv 3, iv 2] [(.int (lcmpW w0 w2))]))
    by_cases hc5 : w0 = w2
    · skip
      rw [(show (own_s43_59 a1 p2 u w0 w1 w2 w3) = (own_s43_82 a1 p2 u w0 w1 w2 w3) from if_pos hc5)]
      refine og (fun t k => XS.ifYes X0.here hx rfl (pc0 := 59) (pc' := 64) rfl (hb hby d6_59) rfl ((if0 _ _).trans (teq ((lw_eq _ _).mpr hc5)).1) (by decide) (by decide) (XS.iload X0.here hx rfl (hb hby d6_64) rfl (XS.iconst X0.here hx rfl (hb hby d6_66) (XS.isub X0.here hx rfl (hb hby d6_67) rfl (XS.iconst X0.here hx rfl (hb hby d6_68) k))))) ?_
      show oF p e below _ (s₁.setTop (mkF m 69 #[rv a1, iv p2, iv 4, jv u, .second, iv 3, iv 2] [(.int 1), (.int 2)]))
      refine og (fun t k => XS.icmpNo X0.here hx rfl (hb hby d6_69) rfl (tlt (by decide : (1 : Int32) < (2 : Int32))).2.2.2 (XS.aloadN X0.here hx rfl (hb hby d6_72) rfl rfl (XS.iconst X0.here hx rfl (hb hby d6_73) k))) ?_
      show oF p e below _ (s₁.setTop (mkF m 74 #[rv a1, iv p2, iv 4, jv u, .second, iv 3, iv 2] [(.int 1), (.ref a1)]))
      obtain ⟨cl6, Ar6, q6, S6, M6, H6, G6⟩ := (id V_1)
      have hin6 : ¬ ((1 : Int32) < 0 ∨ cl6.slots.size ≤ ((1 : Int32)).toNatClampNeg) := inb_of S6 ⟨by decide, by decide⟩
      have hat6 : cl6.slots[((1 : Int32)).toNatClampNeg]? = some (.long w1) := H6.at hin6 rfl
      refine og (fun t k => X0.laload hx (j := (1 : Int32)) (v := (.long w1)) (by rw [e0]; exact Ar6.1) (State.isArrayOf_alike hZ.alike Ar6.2.1) Ar6.2.2 hin6 hat6 (g := (mkF m 74 #[rv a1, iv p2, iv 4, jv u, .second, iv 3, iv 2] [(.int 1), (.ref a1)])) rfl rfl (hb hby d6_74) _ (XS.aloadN X0.here hx rfl (hb hby d6_75) rfl rfl (XS.iload X0.here hx rfl (hb hby d6_76) rfl (XS.iconst X0.here hx rfl (hb hby d6_78) (XS.iadd X0.here hx rfl (hb hby d6_79) rfl k))))) ?_
      show oF p e below _ (s₁.setTop (mkF m 80 #[rv a1, iv p2, iv 4, jv u, .second, iv 3, iv 2] [(.int 3), (.ref a1), (.long w1)]))
      obtain ⟨cl7, Ar7, q7, S7, M7, H7, G7⟩ := (id V_1)
      have hin7 : ¬ ((3 : Int32) < 0 ∨ cl7.slots.size ≤ ((3 : Int32)).toNatClampNeg) := inb_of S7 ⟨by decide, by decide⟩
      have hat7 : cl7.slots[((3 : Int32)).toNatClampNeg]? = some (.long w3) := H7.at hin7 rfl
      refine og (fun t k => X0.laload hx (j := (3 : Int32)) (v := (.long w3)) (by rw [e0]; exact Ar7.1) (State.isArrayOf_alike hZ.alike Ar7.2.1) Ar7.2.2 hin7 hat7 (g := (mkF m 80 #[rv a1, iv p2, iv 4, jv u, .second, iv 3, iv 2] [(.int 3), (.ref a1), (.long w1)])) rfl rfl (hb hby d6_80) _ (XS.lcmp X0.here hx rfl (hb hby d6_81) rfl k)) ?_
      show oF p e below _ (s₁.setTop (mkF m 82 #[rv a1, iv p2, iv 4, jv u, .second, iv 3, iv 2] [(.int (lcmpW w1 w3))]))
      by_cases hc8 : w1 = w3
      · skip
        rw [(show (own_s43_82 a1 p2 u w0 w1 w2 w3) = (1 : Int32) from if_pos hc8)]
        refine og (fun t k => XS.ifYes X0.here hx rfl (pc0 := 82) (pc' := 87) rfl (hb hby d6_82) rfl ((if0 _ _).trans (teq ((lw_eq _ _).mpr hc8)).1) (by decide) (by decide) (XS.iload X0.here hx rfl (hb hby d6_87) rfl (XS.iconst X0.here hx rfl (hb hby d6_89) (XS.isub X0.here hx rfl (hb hby d6_90) rfl (XS.iconst X0.here hx rfl (hb hby d6_91) k))))) ?_
        show oF p e below _ (s₁.setTop (mkF m 92 #[rv a1, iv p2, iv 4, jv u, .second, iv 3, iv 2] [(.int 2), (.int 2)]))
        refine og (fun t k => XS.icmpYes X0.here hx rfl (pc0 := 92) (pc' := 110) rfl (hb hby d6_92) rfl (flt (by decide : ¬ ((2 : Int32) < (2 : Int32)))).2.2.2 (by decide) (by decide) (XS.iconst X0.here hx rfl (hb hby d6_110) k)) ?_
        show oF p e below _ (s₁.setTop (mkF m 111 #[rv a1, iv p2, iv 4, jv u, .second, iv 3, iv 2] [(.int 1)]))
        exact oo X0 (fun h => by rw [Bd.returns] at h; cases h) Bd.notSynchronized (fun fs hr => retN X0 hx (t := .boolean) Bd.returns (by simp) (hb hby d6_111) hr) ⟨rfl, N0, e0⟩ (by decide) (by decide)
      · skip
        rw [(show (own_s43_82 a1 p2 u w0 w1 w2 w3) = (0 : Int32) from if_neg hc8)]
        refine og (fun t k => XS.ifNo X0.here hx rfl (hb hby d6_82) rfl ((if0 _ _).trans (feq (fun q => hc8 ((lw_eq _ _).mp q))).1) (XS.iconst X0.here hx rfl (hb hby d6_85) k)) ?_
        show oF p e below _ (s₁.setTop (mkF m 86 #[rv a1, iv p2, iv 4, jv u, .second, iv 3, iv 2] [(.int 0)]))
        exact oo X0 (fun h => by rw [Bd.returns] at h; cases h) Bd.notSynchronized (fun fs hr => retN X0 hx (t := .boolean) Bd.returns (by simp) (hb hby d6_86) hr) ⟨rfl, N0, e0⟩ (by decide) (by decide)
    · skip
      rw [(show (own_s43_59 a1 p2 u w0 w1 w2 w3) = (0 : Int32) from if_neg hc5)]
      refine og (fun t k => XS.ifNo X0.here hx rfl (hb hby d6_59) rfl ((if0 _ _).trans (feq (fun q => hc5 ((lw_eq _ _).mp q))).1) (XS.iconst X0.here hx rfl (hb hby d6_62) k)) ?_
      show oF p e below _ (s₁.setTop (mkF m 63 #[rv a1, iv p2, iv 4, jv u, .second, iv 3, iv 2] [(.int 0)]))
      exact oo X0 (fun h => by rw [Bd.returns] at h; cases h) Bd.notSynchronized (fun fs hr => retN X0 hx (t := .boolean) Bd.returns (by simp) (hb hby d6_63) hr) ⟨rfl, N0, e0⟩ (by decide) (by decide)
  · skip
    rw [(show (own_s43_31 a1 p2 u w0 w1 w2 w3) = (0 : Int32) from if_neg hc2)]
    refine og (fun t k => XS.ifNo X0.here hx rfl (hb hby d6_31) rfl ((if0 _ _).trans (feq (fun q => hc2 ((lw_eq _ _).mp q))).1) (XS.iconst X0.here hx rfl (hb hby d6_34) k)) ?_
    show oF p e below _ (s₁.setTop (mkF m 35 #[rv a1, iv p2, iv 4, jv u, .second, iv 3, .unset] [(.int 0)]))
    exact oo X0 (fun h => by rw [Bd.returns] at h; cases h) Bd.notSynchronized (fun fs hr => retN X0 hx (t := .boolean) Bd.returns (by simp) (hb hby d6_35) hr) ⟨rfl, N0, e0⟩ (by decide) (by decide)
theorem ef_6s44 (m : MethodId) (x0 : Addr) (x1 : Int32) (x2 : Int32) (x3 : Int64) (x4 : Int32)  : entryFrame m #[(.ref x0), (.int x1), (.int x2), (.long x3), (.int x4)] 7 = mkF m 0 #[rv x0, iv x1, iv x2, jv x3, .second, iv x4, .unset] [] := by first | (simp [entryFrame, mkF, argsToLocals, Value.category]; done) | rfl
def own_s44_105 (a1 : Addr) (p2 : Int32) (u : Int64) (w0 : Int64) (w1 : Int64) (w2 : Int64) (w3 : Int64) : Int32 := if w2 = w3 then (1 : Int32) else (0 : Int32)
def own_s44_82 (a1 : Addr) (p2 : Int32) (u : Int64) (w0 : Int64) (w1 : Int64) (w2 : Int64) (w3 : Int64) : Int32 := if w1 = w2 then (own_s44_105 a1 p2 u w0 w1 w2 w3) else (0 : Int32)
def own_s44_59 (a1 : Addr) (p2 : Int32) (u : Int64) (w0 : Int64) (w1 : Int64) (w2 : Int64) (w3 : Int64) : Int32 := if w0 = w1 then (own_s44_82 a1 p2 u w0 w1 w2 w3) else (0 : Int32)
def own_s44_31 (a1 : Addr) (p2 : Int32) (u : Int64) (w0 : Int64) (w1 : Int64) (w2 : Int64) (w3 : Int64) : Int32 := if w3 = u then (own_s44_59 a1 p2 u w0 w1 w2 w3) else (0 : Int32)
def own_s44 (a1 : Addr) (p2 : Int32) (u : Int64) (w0 : Int64) (w1 : Int64) (w2 : Int64) (w3 : Int64) : Int32 := (own_s44_31 a1 p2 u w0 w1 w2 w3)
set_option maxRecDepth 65536 in
set_option maxHeartbeats 40000000 in
theorem rm6s44 (l : Launch) (Z : State) (a0 : Array Value) (hw : ∀ d ∈ tables_1, d.before a0 Z = true) (ws : List Jvm.Cond) (a1 : Addr) (p2 : Int32) (u : Int64) (k1 : ClassId) (w0 : Int64) (w1 : Int64) (w2 : Int64) (w3 : Int64) (h0 : Heap) (n0 : Nat) (Z0 : n0 ≤ h0.size) (V_1 : Arv Z h0 a1 k1 .long (4 : Int32) [(.long w0), (.long w1), (.long w2), (.long w3)] (.long (0 : Int64))) (hk : ¬ p2 < (4 : Int32)) :
    MetFree l (⟨"com/example/sound_verdict/soundverdict/UnitSearchNextPinLaw", "suf", "([JIIJI)Z"⟩ : MethodName) (head1 (Jvm.Cond.code (⟨"com/example/sound_verdict/soundverdict/UnitSearchNextPinLaw", "suf", "([JIIJI)Z"⟩ : MethodName) method_4_code 7 (some .boolean) :: ws) ({ frames := 0, cells := 0, slots := 0, locals := 0 } : Room)) (fun a U => a = #[(.ref a1), (.int p2), (.int 4), (.long u), (.int 4)] ∧ Z.Warmed39 U.vm ∧ U.heap = h0) (fun _ _ _ _ _ => True) (fun _ U o U' => ∃ v L, o = .returned v ∧ (own_P h0 n0 (.int (own_s44 a1 p2 u w0 w1 w2 w3))) v U'.heap L ∧ FrameEnd U o U' L ({ frames := 0, cells := 0, slots := 0, locals := 0 } : Room).cells ({ frames := 0, cells := 0, slots := 0, locals := 0 } : Room).slots) := by
  refine MetFree.of_bodySF (plainFor_of_name pn_0) hisR ?_
  intro p e s m args below meth c s₁ Bd hml0 hP hK
  obtain ⟨rfl, hZ, hh⟩ := hP
  have hx := Bd.exec
  have hby := Bd.bytes
  have hml : c.maxLocals = 7 := hml0
  have hown : s.vm.findClass "com/example/sound_verdict/soundverdict/UnitSearchNextPinLaw" = some m.cls := findClass_of_methodNamed Bd.named
  have hnm := (name_of_methodNamed Bd.named Bd.method).1
  have X0 : Stand p l e ({ frames := 0, cells := 0, slots := 0, locals := 0 } : Room) s m #[(.ref a1), (.int p2), (.int 4), (.long u), (.int 4)] below meth c s₁ [] 0 0 := Stand.of_body Bd
  have e0 : s₁.heap = h0 := by rw [← hh, Bd.state]; rfl
  have N0 := Fr.nil n0
  show oF p e below (own_A s ({ frames := 0, cells := 0, slots := 0, locals := 0 } : Room).cells ({ frames := 0, cells := 0, slots := 0, locals := 0 } : Room).slots (own_P h0 n0 (.int (own_s44 a1 p2 u w0 w1 w2 w3)))) _
  refine og (fun t k => castTop (ef_6s44 m (a1) (p2) ((4 : Int32)) (u) ((4 : Int32))) k) ?_
  show oF p e below _ (s₁.setTop (mkF m 0 #[rv a1, iv p2, iv 4, jv u, .second, iv 4, .unset] []))
  rw [show (own_s44 a1 p2 u w0 w1 w2 w3) = (own_s44_31 a1 p2 u w0 w1 w2 w3) from rfl]
  refine og (fun t k => XS.iload X0.here hx rfl (hb hby d6_0) rfl (XS.iloadN X0.here hx rfl (hb hby d6_2) rfl k)) ?_
  show oF p e below _ (s₁.setTop (mkF m 3 #[rv a1, iv p2, iv 4, jv u, .second, iv 4, .unset] [(.int p2), (.int 4)]))
  refine og (fun t k => XS.icmpNo X0.here hx rfl (hb hby d6_3) rfl (flt hk).2.2.1 (XS.iload X0.here hx rfl (hb hby d6_6) rfl (XS.iloadN X0.here hx rfl (hb hby d6_8) rfl (XS.iconst X0.here hx rfl (hb hby d6_9) (XS.iadd X0.here hx rfl (hb hby d6_10) rfl k))))) ?_
  show oF p e below _ (s₁.setTop (mkF m 11 #[rv a1, iv p2, iv 4, jv u, .second, iv 4, .unset] [(.int 5), (.int 4)]))
  refine og (fun t k => XS.icmpYes X0.here hx rfl (pc0 := 11) (pc' := 16) rfl (hb hby d6_11) rfl (flt (by decide : ¬ ((5 : Int32) < (4 : Int32)))).2.2.2 (by decide) (by decide) (XS.iload X0.here hx rfl (hb hby d6_16) rfl k)) ?_
  show oF p e below _ (s₁.setTop (mkF m 18 #[rv a1, iv p2, iv 4, jv u, .second, iv 4, .unset] [(.int 4)]))
  refine og (fun t k => XS.ifYes X0.here hx rfl (pc0 := 18) (pc' := 23) rfl (hb hby d6_18) rfl ((if0 _ _).trans (feq (by decide : ¬ ((4 : Int32) = (0 : Int32)))).2) (by decide) (by decide) (XS.aloadN X0.here hx rfl (hb hby d6_23) rfl rfl (XS.iload X0.here hx rfl (hb hby d6_24) rfl (XS.iconst X0.here hx rfl (hb hby d6_26) (XS.isub X0.here hx rfl (hb hby d6_27) rfl k))))) ?_
  show oF p e below _ (s₁.setTop (mkF m 28 #[rv a1, iv p2, iv 4, jv u, .second, iv 4, .unset] [(.int 3), (.ref a1)]))
  obtain ⟨cl1, Ar1, q1, S1, M1, H1, G1⟩ := (id V_1)
  have hin1 : ¬ ((3 : Int32) < 0 ∨ cl1.slots.size ≤ ((3 : Int32)).toNatClampNeg) := inb_of S1 ⟨by decide, by decide⟩
  have hat1 : cl1.slots[((3 : Int32)).toNatClampNeg]? = some (.long w3) := H1.at hin1 rfl
  refine og (fun t k => X0.laload hx (j := (3 : Int32)) (v := (.long w3)) (by rw [e0]; exact Ar1.1) (State.isArrayOf_alike hZ.alike Ar1.2.1) Ar1.2.2 hin1 hat1 (g := (mkF m 28 #[rv a1, iv p2, iv 4, jv u, .second, iv 4, .unset] [(.int 3), (.ref a1)])) rfl rfl (hb hby d6_28) _ (XS.lloadN X0.here hx rfl (hb hby d6_29) rfl (XS.lcmp X0.here hx rfl (hb hby d6_30) rfl k))) ?_
  show oF p e below _ (s₁.setTop (mkF m 31 #[rv a1, iv p2, iv 4, jv u, .second, iv 4, .unset] [(.int (lcmpW w3 u))]))
  by_cases hc2 : w3 = u
  · skip
    rw [(show (own_s44_31 a1 p2 u w0 w1 w2 w3) = (own_s44_59 a1 p2 u w0 w1 w2 w3) from if_pos hc2)]
    refine og (fun t k => XS.ifYes X0.here hx rfl (pc0 := 31) (pc' := 36) rfl (hb hby d6_31) rfl ((if0 _ _).trans (teq ((lw_eq _ _).mpr hc2)).1) (by decide) (by decide) (XS.iloadN X0.here hx rfl (hb hby d6_36) rfl (XS.iload X0.here hx rfl (hb hby d6_37) rfl (XS.isub X0.here hx rfl (hb hby d6_39) rfl (XS.iconst X0.here hx rfl (hb hby d6_40) (XS.iadd X0.here hx rfl (hb hby d6_41) rfl (XS.istore X0.here hx rfl (hb hby d6_42) rfl (l' := #[rv a1, iv p2, iv 4, jv u, .second, iv 4, iv 1]) rfl (XS.iload X0.here hx rfl (hb hby d6_44) rfl (XS.iconst X0.here hx rfl (hb hby d6_46) (XS.isub X0.here hx rfl (hb hby d6_47) rfl k)))))))))) ?_
    show oF p e below _ (s₁.setTop (mkF m 48 #[rv a1, iv p2, iv 4, jv u, .second, iv 4, iv 1] [(.int 3)]))
    refine og (fun t k => XS.ifNo X0.here hx rfl (hb hby d6_48) rfl ((if0 _ _).trans (tlt (by decide : (0 : Int32) < (3 : Int32))).2.2.2) (XS.aloadN X0.here hx rfl (hb hby d6_51) rfl rfl (XS.iconst X0.here hx rfl (hb hby d6_52) k))) ?_
    show oF p e below _ (s₁.setTop (mkF m 53 #[rv a1, iv p2, iv 4, jv u, .second, iv 4, iv 1] [(.int 0), (.ref a1)]))
    obtain ⟨cl3, Ar3, q3, S3, M3, H3, G3⟩ := (id V_1)
    have hin3 : ¬ ((0 : Int32) < 0 ∨ cl3.slots.size ≤ ((0 : Int32)).toNatClampNeg) := inb_of S3 ⟨by decide, by decide⟩
    have hat3 : cl3.slots[((0 : Int32)).toNatClampNeg]? = some (.long w0) := H3.at hin3 rfl
    refine og (fun t k => X0.laload hx (j := (0 : Int32)) (v := (.long w0)) (by rw [e0]; exact Ar3.1) (State.isArrayOf_alike hZ.alike Ar3.2.1) Ar3.2.2 hin3 hat3 (g := (mkF m 53 #[rv a1, iv p2, iv 4, jv u, .second, iv 4, iv 1] [(.int 0), (.ref a1)])) rfl rfl (hb hby d6_53) _ (XS.aloadN X0.here hx rfl (hb hby d6_54) rfl rfl (XS.iload X0.here hx rfl (hb hby d6_55) rfl k))) ?_
    show oF p e below _ (s₁.setTop (mkF m 57 #[rv a1, iv p2, iv 4, jv u, .second, iv 4, iv 1] [(.int 1), (.ref a1), (.long w0)]))
    obtain ⟨cl4, Ar4, q4, S4, M4, H4, G4⟩ := (id V_1)
    have hin4 : ¬ ((1 : Int32) < 0 ∨ cl4.slots.size ≤ ((1 : Int32)).toNatClampNeg) := inb_of S4 ⟨by decide, by decide⟩
    have hat4 : cl4.slots[((1 : Int32)).toNatClampNeg]? = some (.long w1) := H4.at hin4 rfl
    refine og (fun t k => X0.laload hx (j := (1 : Int32)) (v := (.long w1)) (by rw [e0]; exact Ar4.1) (State.isArrayOf_alike hZ.alike Ar4.2.1) Ar4.2.2 hin4 hat4 (g := (mkF m 57 #[rv a1, iv p2, iv 4, jv u, .second, iv 4, iv 1] [(.int 1), (.ref a1), (.long w0)])) rfl rfl (hb hby d6_57) _ (XS.lcmp X0.here hx rfl (hb hby d6_58) rfl k)) ?_
    show oF p e below _ (s₁.setTop (mkF m 59 #[rv a1, iv p2, iv 4, jv u, .second, iv 4, iv 1] [(.int (lcmpW w0 w1))]))
    by_cases hc5 : w0 = w1
    · skip
      rw [(show (own_s44_59 a1 p2 u w0 w1 w2 w3) = (own_s44_82 a1 p2 u w0 w1 w2 w3) from if_pos hc5)]
      refine og (fun t k => XS.ifYes X0.here hx rfl (pc0 := 59) (pc' := 64) rfl (hb hby d6_59) rfl ((if0 _ _).trans (teq ((lw_eq _ _).mpr hc5)).1) (by decide) (by decide) (XS.iload X0.here hx rfl (hb hby d6_64) rfl (XS.iconst X0.here hx rfl (hb hby d6_66) (XS.isub X0.here hx rfl (hb hby d6_67) rfl (XS.iconst X0.here hx rfl (hb hby d6_68) k))))) ?_
      show oF p e below _ (s₁.setTop (mkF m 69 #[rv a1, iv p2, iv 4, jv u, .second, iv 4, iv 1] [(.int 1), (.int 3)]))
      refine og (fun t k => XS.icmpNo X0.here hx rfl (hb hby d6_69) rfl (tlt (by decide : (1 : Int32) < (3 : Int32))).2.2.2 (XS.aloadN X0.here hx rfl (hb hby d6_72) rfl rfl (XS.iconst X0.here hx rfl (hb hby d6_73) k))) ?_
      show oF p e below _ (s₁.setTop (mkF m 74 #[rv a1, iv p2, iv 4, jv u, .second, iv 4, iv 1] [(.int 1), (.ref a1)]))
      obtain ⟨cl6, Ar6, q6, S6, M6, H6, G6⟩ := (id V_1)
      have hin6 : ¬ ((1 : Int32) < 0 ∨ cl6.slots.size ≤ ((1 : Int32)).toNatClampNeg) := inb_of S6 ⟨by decide, by decide⟩
      have hat6 : cl6.slots[((1 : Int32)).toNatClampNeg]? = some (.long w1) := H6.at hin6 rfl
      refine og (fun t k => X0.laload hx (j := (1 : Int32)) (v := (.long w1)) (by rw [e0]; exact Ar6.1) (State.isArrayOf_alike hZ.alike Ar6.2.1) Ar6.2.2 hin6 hat6 (g := (mkF m 74 #[rv a1, iv p2, iv 4, jv u, .second, iv 4, iv 1] [(.int 1), (.ref a1)])) rfl rfl (hb hby d6_74) _ (XS.aloadN X0.here hx rfl (hb hby d6_75) rfl rfl (XS.iload X0.here hx rfl (hb hby d6_76) rfl (XS.iconst X0.here hx rfl (hb hby d6_78) (XS.iadd X0.here hx rfl (hb hby d6_79) rfl k))))) ?_
      show oF p e below _ (s₁.setTop (mkF m 80 #[rv a1, iv p2, iv 4, jv u, .second, iv 4, iv 1] [(.int 2), (.ref a1), (.long w1)]))
      obtain ⟨cl7, Ar7, q7, S7, M7, H7, G7⟩ := (id V_1)
      have hin7 : ¬ ((2 : Int32) < 0 ∨ cl7.slots.size ≤ ((2 : Int32)).toNatClampNeg) := inb_of S7 ⟨by decide, by decide⟩
      have hat7 : cl7.slots[((2 : Int32)).toNatClampNeg]? = some (.long w2) := H7.at hin7 rfl
      refine og (fun t k => X0.laload hx (j := (2 : Int32)) (v := (.long w2)) (by rw [e0]; exact Ar7.1) (State.isArrayOf_alike hZ.alike Ar7.2.1) Ar7.2.2 hin7 hat7 (g := (mkF m 80 #[rv a1, iv p2, iv 4, jv u, .second, iv 4, iv 1] [(.int 2), (.ref a1), (.long w1)])) rfl rfl (hb hby d6_80) _ (XS.lcmp X0.here hx rfl (hb hby d6_81) rfl k)) ?_
      show oF p e below _ (s₁.setTop (mkF m 82 #[rv a1, iv p2, iv 4, jv u, .second, iv 4, iv 1] [(.int (lcmpW w1 w2))]))
      by_cases hc8 : w1 = w2
      · skip
        rw [(show (own_s44_82 a1 p2 u w0 w1 w2 w3) = (own_s44_105 a1 p2 u w0 w1 w2 w3) from if_pos hc8)]
        refine og (fun t k => XS.ifYes X0.here hx rfl (pc0 := 82) (pc' := 87) rfl (hb hby d6_82) rfl ((if0 _ _).trans (teq ((lw_eq _ _).mpr hc8)).1) (by decide) (by decide) (XS.iload X0.here hx rfl (hb hby d6_87) rfl (XS.iconst X0.here hx rfl (hb hby d6_89) (XS.isub X0.here hx rfl (hb hby d6_90) rfl (XS.iconst X0.here hx rfl (hb hby d6_91) k))))) ?_
        show oF p e below _ (s₁.setTop (mkF m 92 #[rv a1, iv p2, iv 4, jv u, .second, iv 4, iv 1] [(.int 2), (.int 3)]))
        refine og (fun t k => XS.icmpNo X0.here hx rfl (hb hby d6_92) rfl (tlt (by decide : (2 : Int32) < (3 : Int32))).2.2.2 (XS.aloadN X0.here hx rfl (hb hby d6_95) rfl rfl (XS.iconst X0.here hx rfl (hb hby d6_96) k))) ?_
        show oF p e below _ (s₁.setTop (mkF m 97 #[rv a1, iv p2, iv 4, jv u, .second, iv 4, iv 1] [(.int 2), (.ref a1)]))
        obtain ⟨cl9, Ar9, q9, S9, M9, H9, G9⟩ := (id V_1)
        have hin9 : ¬ ((2 : Int32) < 0 ∨ cl9.slots.size ≤ ((2 : Int32)).toNatClampNeg) := inb_of S9 ⟨by decide, by decide⟩
        have hat9 : cl9.slots[((2 : Int32)).toNatClampNeg]? = some (.long w2) := H9.at hin9 rfl
        refine og (fun t k => X0.laload hx (j := (2 : Int32)) (v := (.long w2)) (by rw [e0]; exact Ar9.1) (State.isArrayOf_alike hZ.alike Ar9.2.1) Ar9.2.2 hin9 hat9 (g := (mkF m 97 #[rv a1, iv p2, iv 4, jv u, .second, iv 4, iv 1] [(.int 2), (.ref a1)])) rfl rfl (hb hby d6_97) _ (XS.aloadN X0.here hx rfl (hb hby d6_98) rfl rfl (XS.iload X0.here hx rfl (hb hby d6_99) rfl (XS.iconst X0.here hx rfl (hb hby d6_101) (XS.iadd X0.here hx rfl (hb hby d6_102) rfl k))))) ?_
        show oF p e below _ (s₁.setTop (mkF m 103 #[rv a1, iv p2, iv 4, jv u, .second, iv 4, iv 1] [(.int 3), (.ref a1), (.long w2)]))
        obtain ⟨cl10, Ar10, q10, S10, M10, H10, G10⟩ := (id V_1)
        have hin10 : ¬ ((3 : Int32) < 0 ∨ cl10.slots.size ≤ ((3 : Int32)).toNatClampNeg) := inb_of S10 ⟨by decide, by decide⟩
        have hat10 : cl10.slots[((3 : Int32)).toNatClampNeg]? = some (.long w3) := H10.at hin10 rfl
        refine og (fun t k => X0.laload hx (j := (3 : Int32)) (v := (.long w3)) (by rw [e0]; exact Ar10.1) (State.isArrayOf_alike hZ.alike Ar10.2.1) Ar10.2.2 hin10 hat10 (g := (mkF m 103 #[rv a1, iv p2, iv 4, jv u, .second, iv 4, iv 1] [(.int 3), (.ref a1), (.long w2)])) rfl rfl (hb hby d6_103) _ (XS.lcmp X0.here hx rfl (hb hby d6_104) rfl k)) ?_
        show oF p e below _ (s₁.setTop (mkF m 105 #[rv a1, iv p2, iv 4, jv u, .second, iv 4, iv 1] [(.int (lcmpW w2 w3))]))
        by_cases hc11 : w2 = w3
        · skip
          rw [(show (own_s44_105 a1 p2 u w0 w1 w2 w3) = (1 : Int32) from if_pos hc11)]
          refine og (fun t k => XS.ifYes X0.here hx rfl (pc0 := 105) (pc' := 110) rfl (hb hby d6_105) rfl ((if0 _ _).trans (teq ((lw_eq _ _).mpr hc11)).1) (by decide) (by decide) (XS.iconst X0.here hx rfl (hb hby d6_110) k)) ?_
          show oF p e below _ (s₁.setTop (mkF m 111 #[rv a1, iv p2, iv 4, jv u, .second, iv 4, iv 1] [(.int 1)]))
          exact oo X0 (fun h => by rw [Bd.returns] at h; cases h) Bd.notSynchronized (fun fs hr => retN X0 hx (t := .boolean) Bd.returns (by simp) (hb hby d6_111) hr) ⟨rfl, N0, e0⟩ (by decide) (by decide)
        · skip
          rw [(show (own_s44_105 a1 p2 u w0 w1 w2 w3) = (0 : Int32) from if_neg hc11)]
          refine og (fun t k => XS.ifNo X0.here hx rfl (hb hby d6_105) rfl ((if0 _ _).trans (feq (fun q => hc11 ((lw_eq _ _).mp q))).1) (XS.iconst X0.here hx rfl (hb hby d6_108) k)) ?_
          show oF p e below _ (s₁.setTop (mkF m 109 #[rv a1, iv p2, iv 4, jv u, .second, iv 4, iv 1] [(.int 0)]))
          exact oo X0 (fun h => by rw [Bd.returns] at h; cases h) Bd.notSynchronized (fun fs hr => retN X0 hx (t := .boolean) Bd.returns (by simp) (hb hby d6_109) hr) ⟨rfl, N0, e0⟩ (by decide) (by decide)
      · skip
        rw [(show (own_s44_82 a1 p2 u w0 w1 w2 w3) = (0 : Int32) from if_neg hc8)]
        refine og (fun t k => XS.ifNo X0.here hx rfl (hb hby d6_82) rfl ((if0 _ _).trans (feq (fun q => hc8 ((lw_eq _ _).mp q))).1) (XS.iconst X0.here hx rfl (hb hby d6_85) k)) ?_
        show oF p e below _ (s₁.setTop (mkF m 86 #[rv a1, iv p2, iv 4, jv u, .second, iv 4, iv 1] [(.int 0)]))
        exact oo X0 (fun h => by rw [Bd.returns] at h; cases h) Bd.notSynchronized (fun fs hr => retN X0 hx (t := .boolean) Bd.returns (by simp) (hb hby d6_86) hr) ⟨rfl, N0, e0⟩ (by decide) (by decide)
    · skip
      rw [(show (own_s44_59 a1 p2 u w0 w1 w2 w3) = (0 : Int32) from if_neg hc5)]
      refine og (fun t k => XS.ifNo X0.here hx rfl (hb hby d6_59) rfl ((if0 _ _).trans (feq (fun q => hc5 ((lw_eq _ _).mp q))).1) (XS.iconst X0.here hx rfl (hb hby d6_62) k)) ?_
      show oF p e below _ (s₁.setTop (mkF m 63 #[rv a1, iv p2, iv 4, jv u, .second, iv 4, iv 1] [(.int 0)]))
      exact oo X0 (fun h => by rw [Bd.returns] at h; cases h) Bd.notSynchronized (fun fs hr => retN X0 hx (t := .boolean) Bd.returns (by simp) (hb hby d6_63) hr) ⟨rfl, N0, e0⟩ (by decide) (by decide)
  · skip
    rw [(show (own_s44_31 a1 p2 u w0 w1 w2 w3) = (0 : Int32) from if_neg hc2)]
    refine og (fun t k => XS.ifNo X0.here hx rfl (hb hby d6_31) rfl ((if0 _ _).trans (feq (fun q => hc2 ((lw_eq _ _).mp q))).1) (XS.iconst X0.here hx rfl (hb hby d6_34) k)) ?_
    show oF p e below _ (s₁.setTop (mkF m 35 #[rv a1, iv p2, iv 4, jv u, .second, iv 4, .unset] [(.int 0)]))
    exact oo X0 (fun h => by rw [Bd.returns] at h; cases h) Bd.notSynchronized (fun fs hr => retN X0 hx (t := .boolean) Bd.returns (by simp) (hb hby d6_35) hr) ⟨rfl, N0, e0⟩ (by decide) (by decide)
theorem d6_14 : decode method_4_code 14 = .ok (.iconst 0, 1) := by decide +kernel
theorem d6_15 : decode method_4_code 15 = .ok (.ireturn, 1) := by decide +kernel
theorem ef_6z (m : MethodId) (x0 : Addr) (x1 : Int32) (x2 : Int32) (x3 : Int64) (x4 : Int32)  : entryFrame m #[(.ref x0), (.int x1), (.int x2), (.long x3), (.int x4)] 7 = mkF m 0 #[rv x0, iv x1, iv x2, jv x3, .second, iv x4, .unset] [] := by first | (simp [entryFrame, mkF, argsToLocals, Value.category]; done) | rfl
set_option maxRecDepth 65536 in
set_option maxHeartbeats 40000000 in
theorem rm6z (l : Launch) (Z : State) (a0 : Array Value) (hw : ∀ d ∈ tables_1, d.before a0 Z = true) (ws : List Jvm.Cond) (a1 : Addr) (p2 : Int32) (p3 : Int32) (u : Int64) (p5 : Int32) (h0 : Heap) (n0 : Nat) (Z0 : n0 ≤ h0.size) (hk : p2 < p5 ∨ (p3 + (1 : Int32)) < p5) :
    MetFree l (⟨"com/example/sound_verdict/soundverdict/UnitSearchNextPinLaw", "suf", "([JIIJI)Z"⟩ : MethodName) (head1 (Jvm.Cond.code (⟨"com/example/sound_verdict/soundverdict/UnitSearchNextPinLaw", "suf", "([JIIJI)Z"⟩ : MethodName) method_4_code 7 (some .boolean) :: ws) ({ frames := 0, cells := 0, slots := 0, locals := 0 } : Room)) (fun a U => a = #[(.ref a1), (.int p2), (.int p3), (.long u), (.int p5)] ∧ Z.Warmed39 U.vm ∧ U.heap = h0) (fun _ _ _ _ _ => True) (fun _ U o U' => ∃ v L, o = .returned v ∧ (own_P h0 n0 (.int (0 : Int32))) v U'.heap L ∧ FrameEnd U o U' L ({ frames := 0, cells := 0, slots := 0, locals := 0 } : Room).cells ({ frames := 0, cells := 0, slots := 0, locals := 0 } : Room).slots) := by
  refine MetFree.of_bodySF (plainFor_of_name pn_0) hisR ?_
  intro p e s m args below meth c s₁ Bd hml0 hP hK
  obtain ⟨rfl, hZ, hh⟩ := hP
  have hx := Bd.exec
  have hby := Bd.bytes
  have hml : c.maxLocals = 7 := hml0
  have hown : s.vm.findClass "com/example/sound_verdict/soundverdict/UnitSearchNextPinLaw" = some m.cls := findClass_of_methodNamed Bd.named
  have hnm := (name_of_methodNamed Bd.named Bd.method).1
  have X0 : Stand p l e ({ frames := 0, cells := 0, slots := 0, locals := 0 } : Room) s m #[(.ref a1), (.int p2), (.int p3), (.long u), (.int p5)] below meth c s₁ [] 0 0 := Stand.of_body Bd
  have e0 : s₁.heap = h0 := by rw [← hh, Bd.state]; rfl
  have N0 := Fr.nil n0
  show oF p e below (own_A s ({ frames := 0, cells := 0, slots := 0, locals := 0 } : Room).cells ({ frames := 0, cells := 0, slots := 0, locals := 0 } : Room).slots (own_P h0 n0 (.int (0 : Int32)))) _
  refine og (fun t k => castTop (ef_6z m (a1) (p2) (p3) (u) (p5)) k) ?_
  show oF p e below _ (s₁.setTop (mkF m 0 #[rv a1, iv p2, iv p3, jv u, .second, iv p5, .unset] []))
  refine og (fun t k => XS.iload X0.here hx rfl (hb hby d6_0) rfl (XS.iloadN X0.here hx rfl (hb hby d6_2) rfl k)) ?_
  show oF p e below _ (s₁.setTop (mkF m 3 #[rv a1, iv p2, iv p3, jv u, .second, iv p5, .unset] [(.int p2), (.int p5)]))
  by_cases hc1 : p2 < p5
  · skip
    refine og (fun t k => XS.icmpYes X0.here hx rfl (pc0 := 3) (pc' := 14) rfl (hb hby d6_3) rfl (tlt hc1).2.2.1 (by decide) (by decide) (XS.iconst X0.here hx rfl (hb hby d6_14) k)) ?_
    show oF p e below _ (s₁.setTop (mkF m 15 #[rv a1, iv p2, iv p3, jv u, .second, iv p5, .unset] [(.int 0)]))
    exact oo X0 (fun h => by rw [Bd.returns] at h; cases h) Bd.notSynchronized (fun fs hr => retN X0 hx (t := .boolean) Bd.returns (by simp) (hb hby d6_15) hr) ⟨rfl, N0, e0⟩ (by decide) (by decide)
  · skip
    refine og (fun t k => XS.icmpNo X0.here hx rfl (hb hby d6_3) rfl (flt hc1).2.2.1 (XS.iload X0.here hx rfl (hb hby d6_6) rfl (XS.iloadN X0.here hx rfl (hb hby d6_8) rfl (XS.iconst X0.here hx rfl (hb hby d6_9) (XS.iadd X0.here hx rfl (hb hby d6_10) rfl k))))) ?_
    show oF p e below _ (s₁.setTop (mkF m 11 #[rv a1, iv p2, iv p3, jv u, .second, iv p5, .unset] [(.int (p3 + (1 : Int32))), (.int p5)]))
    refine og (fun t k => XS.icmpNo X0.here hx rfl (hb hby d6_11) rfl (tlt (hk.resolve_left hc1)).2.2.2 (XS.iconst X0.here hx rfl (hb hby d6_14) k)) ?_
    show oF p e below _ (s₁.setTop (mkF m 15 #[rv a1, iv p2, iv p3, jv u, .second, iv p5, .unset] [(.int 0)]))
    exact oo X0 (fun h => by rw [Bd.returns] at h; cases h) Bd.notSynchronized (fun fs hr => retN X0 hx (t := .boolean) Bd.returns (by simp) (hb hby d6_15) hr) ⟨rfl, N0, e0⟩ (by decide) (by decide)
def own_sf1 (a1 : Addr) (p2 p3 : Int32) (u w0 w1 w2 w3 : Int64) : Int32 := if p2 < (1 : Int32) then (0 : Int32) else if (p3 + (1 : Int32)) < (1 : Int32) then (0 : Int32) else if p3 = (0 : Int32) then (own_s01 a1 p2 u w0 w1 w2 w3) else if p3 = (1 : Int32) then (own_s11 a1 p2 u w0 w1 w2 w3) else if p3 = (2 : Int32) then (own_s21 a1 p2 u w0 w1 w2 w3) else if p3 = (3 : Int32) then (own_s31 a1 p2 u w0 w1 w2 w3) else if p3 = (4 : Int32) then (own_s41 a1 p2 u w0 w1 w2 w3) else (0 : Int32)
set_option maxRecDepth 65536 in
theorem rm6u1 (l : Launch) (Z : State) (a0 : Array Value) (hw : ∀ d ∈ tables_1, d.before a0 Z = true) (ws : List Jvm.Cond) (a1 : Addr) (p2 p3 : Int32) (u : Int64) (k1 : ClassId) (w0 w1 w2 w3 : Int64) (h0 : Heap) (n0 : Nat) (Z0 : n0 ≤ h0.size) (V_1 : Arv Z h0 a1 k1 .long (4 : Int32) [(.long w0), (.long w1), (.long w2), (.long w3)] (.long (0 : Int64))) (hM : p3 = (0 : Int32) ∨ p3 = (1 : Int32) ∨ p3 = (2 : Int32) ∨ p3 = (3 : Int32) ∨ p3 = (4 : Int32)) :
    MetFree l (⟨"com/example/sound_verdict/soundverdict/UnitSearchNextPinLaw", "suf", "([JIIJI)Z"⟩ : MethodName) (head1 (Jvm.Cond.code (⟨"com/example/sound_verdict/soundverdict/UnitSearchNextPinLaw", "suf", "([JIIJI)Z"⟩ : MethodName) method_4_code 7 (some .boolean) :: ws) ({ frames := 0, cells := 0, slots := 0, locals := 0 } : Room)) (fun a U => a = #[(.ref a1), (.int p2), (.int p3), (.long u), (.int (1 : Int32))] ∧ Z.Warmed39 U.vm ∧ U.heap = h0) (fun _ _ _ _ _ => True) (fun _ U o U' => ∃ v L, o = .returned v ∧ (own_P h0 n0 (.int (own_sf1 a1 p2 p3 u w0 w1 w2 w3))) v U'.heap L ∧ FrameEnd U o U' L ({ frames := 0, cells := 0, slots := 0, locals := 0 } : Room).cells ({ frames := 0, cells := 0, slots := 0, locals := 0 } : Room).slots) := by
  by_cases hk : p2 < (1 : Int32)
  · rw [show own_sf1 a1 p2 p3 u w0 w1 w2 w3 = (0 : Int32) from if_pos hk]; exact rm6z l Z a0 hw ws a1 p2 p3 u (1 : Int32) h0 n0 Z0 (Or.inl hk)
  rcases hM with rfl | rfl | rfl | rfl | rfl
  · rw [show own_sf1 a1 p2 (0 : Int32) u w0 w1 w2 w3 = own_s01 a1 p2 u w0 w1 w2 w3 from (if_neg hk).trans rfl]; exact rm6s01 l Z a0 hw ws a1 p2 u k1 w0 w1 w2 w3 h0 n0 Z0 V_1 hk
  · rw [show own_sf1 a1 p2 (1 : Int32) u w0 w1 w2 w3 = own_s11 a1 p2 u w0 w1 w2 w3 from (if_neg hk).trans rfl]; exact rm6s11 l Z a0 hw ws a1 p2 u k1 w0 w1 w2 w3 h0 n0 Z0 V_1 hk
  · rw [show own_sf1 a1 p2 (2 : Int32) u w0 w1 w2 w3 = own_s21 a1 p2 u w0 w1 w2 w3 from (if_neg hk).trans rfl]; exact rm6s21 l Z a0 hw ws a1 p2 u k1 w0 w1 w2 w3 h0 n0 Z0 V_1 hk
  · rw [show own_sf1 a1 p2 (3 : Int32) u w0 w1 w2 w3 = own_s31 a1 p2 u w0 w1 w2 w3 from (if_neg hk).trans rfl]; exact rm6s31 l Z a0 hw ws a1 p2 u k1 w0 w1 w2 w3 h0 n0 Z0 V_1 hk
  · rw [show own_sf1 a1 p2 (4 : Int32) u w0 w1 w2 w3 = own_s41 a1 p2 u w0 w1 w2 w3 from (if_neg hk).trans rfl]; exact rm6s41 l Z a0 hw ws a1 p2 u k1 w0 w1 w2 w3 h0 n0 Z0 V_1 hk
def own_sf2 (a1 : Addr) (p2 p3 : Int32) (u w0 w1 w2 w3 : Int64) : Int32 := if p2 < (2 : Int32) then (0 : Int32) else if (p3 + (1 : Int32)) < (2 : Int32) then (0 : Int32) else if p3 = (1 : Int32) then (own_s12 a1 p2 u w0 w1 w2 w3) else if p3 = (2 : Int32) then (own_s22 a1 p2 u w0 w1 w2 w3) else if p3 = (3 : Int32) then (own_s32 a1 p2 u w0 w1 w2 w3) else if p3 = (4 : Int32) then (own_s42 a1 p2 u w0 w1 w2 w3) else (0 : Int32)
set_option maxRecDepth 65536 in
theorem rm6u2 (l : Launch) (Z : State) (a0 : Array Value) (hw : ∀ d ∈ tables_1, d.before a0 Z = true) (ws : List Jvm.Cond) (a1 : Addr) (p2 p3 : Int32) (u : Int64) (k1 : ClassId) (w0 w1 w2 w3 : Int64) (h0 : Heap) (n0 : Nat) (Z0 : n0 ≤ h0.size) (V_1 : Arv Z h0 a1 k1 .long (4 : Int32) [(.long w0), (.long w1), (.long w2), (.long w3)] (.long (0 : Int64))) (hM : p3 = (0 : Int32) ∨ p3 = (1 : Int32) ∨ p3 = (2 : Int32) ∨ p3 = (3 : Int32) ∨ p3 = (4 : Int32)) :
    MetFree l (⟨"com/example/sound_verdict/soundverdict/UnitSearchNextPinLaw", "suf", "([JIIJI)Z"⟩ : MethodName) (head1 (Jvm.Cond.code (⟨"com/example/sound_verdict/soundverdict/UnitSearchNextPinLaw", "suf", "([JIIJI)Z"⟩ : MethodName) method_4_code 7 (some .boolean) :: ws) ({ frames := 0, cells := 0, slots := 0, locals := 0 } : Room)) (fun a U => a = #[(.ref a1), (.int p2), (.int p3), (.long u), (.int (2 : Int32))] ∧ Z.Warmed39 U.vm ∧ U.heap = h0) (fun _ _ _ _ _ => True) (fun _ U o U' => ∃ v L, o = .returned v ∧ (own_P h0 n0 (.int (own_sf2 a1 p2 p3 u w0 w1 w2 w3))) v U'.heap L ∧ FrameEnd U o U' L ({ frames := 0, cells := 0, slots := 0, locals := 0 } : Room).cells ({ frames := 0, cells := 0, slots := 0, locals := 0 } : Room).slots) := by
  by_cases hk : p2 < (2 : Int32)
  · rw [show own_sf2 a1 p2 p3 u w0 w1 w2 w3 = (0 : Int32) from if_pos hk]; exact rm6z l Z a0 hw ws a1 p2 p3 u (2 : Int32) h0 n0 Z0 (Or.inl hk)
  rcases hM with rfl | rfl | rfl | rfl | rfl
  · rw [show own_sf2 a1 p2 (0 : Int32) u w0 w1 w2 w3 = (0 : Int32) from (if_neg hk).trans (if_pos (by decide))]; exact rm6z l Z a0 hw ws a1 p2 (0 : Int32) u (2 : Int32) h0 n0 Z0 (Or.inr (by decide))
  · rw [show own_sf2 a1 p2 (1 : Int32) u w0 w1 w2 w3 = own_s12 a1 p2 u w0 w1 w2 w3 from (if_neg hk).trans rfl]; exact rm6s12 l Z a0 hw ws a1 p2 u k1 w0 w1 w2 w3 h0 n0 Z0 V_1 hk
  · rw [show own_sf2 a1 p2 (2 : Int32) u w0 w1 w2 w3 = own_s22 a1 p2 u w0 w1 w2 w3 from (if_neg hk).trans rfl]; exact rm6s22 l Z a0 hw ws a1 p2 u k1 w0 w1 w2 w3 h0 n0 Z0 V_1 hk
  · rw [show own_sf2 a1 p2 (3 : Int32) u w0 w1 w2 w3 = own_s32 a1 p2 u w0 w1 w2 w3 from (if_neg hk).trans rfl]; exact rm6s32 l Z a0 hw ws a1 p2 u k1 w0 w1 w2 w3 h0 n0 Z0 V_1 hk
  · rw [show own_sf2 a1 p2 (4 : Int32) u w0 w1 w2 w3 = own_s42 a1 p2 u w0 w1 w2 w3 from (if_neg hk).trans rfl]; exact rm6s42 l Z a0 hw ws a1 p2 u k1 w0 w1 w2 w3 h0 n0 Z0 V_1 hk
def own_sf3 (a1 : Addr) (p2 p3 : Int32) (u w0 w1 w2 w3 : Int64) : Int32 := if p2 < (3 : Int32) then (0 : Int32) else if (p3 + (1 : Int32)) < (3 : Int32) then (0 : Int32) else if p3 = (2 : Int32) then (own_s23 a1 p2 u w0 w1 w2 w3) else if p3 = (3 : Int32) then (own_s33 a1 p2 u w0 w1 w2 w3) else if p3 = (4 : Int32) then (own_s43 a1 p2 u w0 w1 w2 w3) else (0 : Int32)
set_option maxRecDepth 65536 in
theorem rm6u3 (l : Launch) (Z : State) (a0 : Array Value) (hw : ∀ d ∈ tables_1, d.before a0 Z = true) (ws : List Jvm.Cond) (a1 : Addr) (p2 p3 : Int32) (u : Int64) (k1 : ClassId) (w0 w1 w2 w3 : Int64) (h0 : Heap) (n0 : Nat) (Z0 : n0 ≤ h0.size) (V_1 : Arv Z h0 a1 k1 .long (4 : Int32) [(.long w0), (.long w1), (.long w2), (.long w3)] (.long (0 : Int64))) (hM : p3 = (0 : Int32) ∨ p3 = (1 : Int32) ∨ p3 = (2 : Int32) ∨ p3 = (3 : Int32) ∨ p3 = (4 : Int32)) :
    MetFree l (⟨"com/example/sound_verdict/soundverdict/UnitSearchNextPinLaw", "suf", "([JIIJI)Z"⟩ : MethodName) (head1 (Jvm.Cond.code (⟨"com/example/sound_verdict/soundverdict/UnitSearchNextPinLaw", "suf", "([JIIJI)Z"⟩ : MethodName) method_4_code 7 (some .boolean) :: ws) ({ frames := 0, cells := 0, slots := 0, locals := 0 } : Room)) (fun a U => a = #[(.ref a1), (.int p2), (.int p3), (.long u), (.int (3 : Int32))] ∧ Z.Warmed39 U.vm ∧ U.heap = h0) (fun _ _ _ _ _ => True) (fun _ U o U' => ∃ v L, o = .returned v ∧ (own_P h0 n0 (.int (own_sf3 a1 p2 p3 u w0 w1 w2 w3))) v U'.heap L ∧ FrameEnd U o U' L ({ frames := 0, cells := 0, slots := 0, locals := 0 } : Room).cells ({ frames := 0, cells := 0, slots := 0, locals := 0 } : Room).slots) := by
  by_cases hk : p2 < (3 : Int32)
  · rw [show own_sf3 a1 p2 p3 u w0 w1 w2 w3 = (0 : Int32) from if_pos hk]; exact rm6z l Z a0 hw ws a1 p2 p3 u (3 : Int32) h0 n0 Z0 (Or.inl hk)
  rcases hM with rfl | rfl | rfl | rfl | rfl
  · rw [show own_sf3 a1 p2 (0 : Int32) u w0 w1 w2 w3 = (0 : Int32) from (if_neg hk).trans (if_pos (by decide))]; exact rm6z l Z a0 hw ws a1 p2 (0 : Int32) u (3 : Int32) h0 n0 Z0 (Or.inr (by decide))
  · rw [show own_sf3 a1 p2 (1 : Int32) u w0 w1 w2 w3 = (0 : Int32) from (if_neg hk).trans (if_pos (by decide))]; exact rm6z l Z a0 hw ws a1 p2 (1 : Int32) u (3 : Int32) h0 n0 Z0 (Or.inr (by decide))
  · rw [show own_sf3 a1 p2 (2 : Int32) u w0 w1 w2 w3 = own_s23 a1 p2 u w0 w1 w2 w3 from (if_neg hk).trans rfl]; exact rm6s23 l Z a0 hw ws a1 p2 u k1 w0 w1 w2 w3 h0 n0 Z0 V_1 hk
  · rw [show own_sf3 a1 p2 (3 : Int32) u w0 w1 w2 w3 = own_s33 a1 p2 u w0 w1 w2 w3 from (if_neg hk).trans rfl]; exact rm6s33 l Z a0 hw ws a1 p2 u k1 w0 w1 w2 w3 h0 n0 Z0 V_1 hk
  · rw [show own_sf3 a1 p2 (4 : Int32) u w0 w1 w2 w3 = own_s43 a1 p2 u w0 w1 w2 w3 from (if_neg hk).trans rfl]; exact rm6s43 l Z a0 hw ws a1 p2 u k1 w0 w1 w2 w3 h0 n0 Z0 V_1 hk
def own_sf4 (a1 : Addr) (p2 p3 : Int32) (u w0 w1 w2 w3 : Int64) : Int32 := if p2 < (4 : Int32) then (0 : Int32) else if (p3 + (1 : Int32)) < (4 : Int32) then (0 : Int32) else if p3 = (3 : Int32) then (own_s34 a1 p2 u w0 w1 w2 w3) else if p3 = (4 : Int32) then (own_s44 a1 p2 u w0 w1 w2 w3) else (0 : Int32)
set_option maxRecDepth 65536 in
theorem rm6u4 (l : Launch) (Z : State) (a0 : Array Value) (hw : ∀ d ∈ tables_1, d.before a0 Z = true) (ws : List Jvm.Cond) (a1 : Addr) (p2 p3 : Int32) (u : Int64) (k1 : ClassId) (w0 w1 w2 w3 : Int64) (h0 : Heap) (n0 : Nat) (Z0 : n0 ≤ h0.size) (V_1 : Arv Z h0 a1 k1 .long (4 : Int32) [(.long w0), (.long w1), (.long w2), (.long w3)] (.long (0 : Int64))) (hM : p3 = (0 : Int32) ∨ p3 = (1 : Int32) ∨ p3 = (2 : Int32) ∨ p3 = (3 : Int32) ∨ p3 = (4 : Int32)) :
    MetFree l (⟨"com/example/sound_verdict/soundverdict/UnitSearchNextPinLaw", "suf", "([JIIJI)Z"⟩ : MethodName) (head1 (Jvm.Cond.code (⟨"com/example/sound_verdict/soundverdict/UnitSearchNextPinLaw", "suf", "([JIIJI)Z"⟩ : MethodName) method_4_code 7 (some .boolean) :: ws) ({ frames := 0, cells := 0, slots := 0, locals := 0 } : Room)) (fun a U => a = #[(.ref a1), (.int p2), (.int p3), (.long u), (.int (4 : Int32))] ∧ Z.Warmed39 U.vm ∧ U.heap = h0) (fun _ _ _ _ _ => True) (fun _ U o U' => ∃ v L, o = .returned v ∧ (own_P h0 n0 (.int (own_sf4 a1 p2 p3 u w0 w1 w2 w3))) v U'.heap L ∧ FrameEnd U o U' L ({ frames := 0, cells := 0, slots := 0, locals := 0 } : Room).cells ({ frames := 0, cells := 0, slots := 0, locals := 0 } : Room).slots) := by
  by_cases hk : p2 < (4 : Int32)
  · rw [show own_sf4 a1 p2 p3 u w0 w1 w2 w3 = (0 : Int32) from if_pos hk]; exact rm6z l Z a0 hw ws a1 p2 p3 u (4 : Int32) h0 n0 Z0 (Or.inl hk)
  rcases hM with rfl | rfl | rfl | rfl | rfl
  · rw [show own_sf4 a1 p2 (0 : Int32) u w0 w1 w2 w3 = (0 : Int32) from (if_neg hk).trans (if_pos (by decide))]; exact rm6z l Z a0 hw ws a1 p2 (0 : Int32) u (4 : Int32) h0 n0 Z0 (Or.inr (by decide))
  · rw [show own_sf4 a1 p2 (1 : Int32) u w0 w1 w2 w3 = (0 : Int32) from (if_neg hk).trans (if_pos (by decide))]; exact rm6z l Z a0 hw ws a1 p2 (1 : Int32) u (4 : Int32) h0 n0 Z0 (Or.inr (by decide))
  · rw [show own_sf4 a1 p2 (2 : Int32) u w0 w1 w2 w3 = (0 : Int32) from (if_neg hk).trans (if_pos (by decide))]; exact rm6z l Z a0 hw ws a1 p2 (2 : Int32) u (4 : Int32) h0 n0 Z0 (Or.inr (by decide))
  · rw [show own_sf4 a1 p2 (3 : Int32) u w0 w1 w2 w3 = own_s34 a1 p2 u w0 w1 w2 w3 from (if_neg hk).trans rfl]; exact rm6s34 l Z a0 hw ws a1 p2 u k1 w0 w1 w2 w3 h0 n0 Z0 V_1 hk
  · rw [show own_sf4 a1 p2 (4 : Int32) u w0 w1 w2 w3 = own_s44 a1 p2 u w0 w1 w2 w3 from (if_neg hk).trans rfl]; exact rm6s44 l Z a0 hw ws a1 p2 u k1 w0 w1 w2 w3 h0 n0 Z0 V_1 hk
theorem own_four (p : Int32) : ((p &&& (3 : Int32)) + (1 : Int32)) = (1 : Int32) ∨ ((p &&& (3 : Int32)) + (1 : Int32)) = (2 : Int32) ∨ ((p &&& (3 : Int32)) + (1 : Int32)) = (3 : Int32) ∨ ((p &&& (3 : Int32)) + (1 : Int32)) = (4 : Int32) := by
  have a := c_mask p 3 2 (by decide) (by decide)
  have b := c_iadd (p &&& 3) 1
  have r := rng32 ((p &&& 3) + 1)
  have e1 : (1 : Int32).toInt = 1 := rfl
  have e2 : (2 : Int32).toInt = 2 := rfl
  have e3 : (3 : Int32).toInt = 3 := rfl
  have e4 : (4 : Int32).toInt = 4 := rfl
  simp only [← Int32.toInt_inj]
  omega
theorem own_rem1 (p : Int32) {mm : Int32} (h : mm = ((p &&& (2147483647 : Int32)) % (2 : Int32))) : mm = (0 : Int32) ∨ mm = (1 : Int32) := by
  have a := c_mask p 2147483647 31 (by decide) (by decide)
  have b := (c_irem (p &&& (2147483647 : Int32)) 2 2 rfl).1 (by omega)
  have e0 : (0 : Int32).toInt = 0 := rfl
  have e1 : (1 : Int32).toInt = 1 := rfl
  have e2 : (2 : Int32).toInt = 2 := rfl
  have e3 : (3 : Int32).toInt = 3 := rfl
  have e4 : (4 : Int32).toInt = 4 := rfl
  have e5 : (5 : Int32).toInt = 5 := rfl
  subst h
  simp only [← Int32.toInt_inj]
  omega
theorem own_hm1 {mm : Int32} (h : mm = (0 : Int32) ∨ mm = (1 : Int32)) : mm = (0 : Int32) ∨ mm = (1 : Int32) ∨ mm = (2 : Int32) ∨ mm = (3 : Int32) ∨ mm = (4 : Int32) := by
  rcases h with h | h <;> simp [h]
theorem own_rem2 (p : Int32) {mm : Int32} (h : mm = ((p &&& (2147483647 : Int32)) % (3 : Int32))) : mm = (0 : Int32) ∨ mm = (1 : Int32) ∨ mm = (2 : Int32) := by
  have a := c_mask p 2147483647 31 (by decide) (by decide)
  have b := (c_irem (p &&& (2147483647 : Int32)) 3 3 rfl).1 (by omega)
  have e0 : (0 : Int32).toInt = 0 := rfl
  have e1 : (1 : Int32).toInt = 1 := rfl
  have e2 : (2 : Int32).toInt = 2 := rfl
  have e3 : (3 : Int32).toInt = 3 := rfl
  have e4 : (4 : Int32).toInt = 4 := rfl
  have e5 : (5 : Int32).toInt = 5 := rfl
  subst h
  simp only [← Int32.toInt_inj]
  omega
theorem own_hm2 {mm : Int32} (h : mm = (0 : Int32) ∨ mm = (1 : Int32) ∨ mm = (2 : Int32)) : mm = (0 : Int32) ∨ mm = (1 : Int32) ∨ mm = (2 : Int32) ∨ mm = (3 : Int32) ∨ mm = (4 : Int32) := by
  rcases h with h | h | h <;> simp [h]
theorem own_rem3 (p : Int32) {mm : Int32} (h : mm = ((p &&& (2147483647 : Int32)) % (4 : Int32))) : mm = (0 : Int32) ∨ mm = (1 : Int32) ∨ mm = (2 : Int32) ∨ mm = (3 : Int32) := by
  have a := c_mask p 2147483647 31 (by decide) (by decide)
  have b := (c_irem (p &&& (2147483647 : Int32)) 4 4 rfl).1 (by omega)
  have e0 : (0 : Int32).toInt = 0 := rfl
  have e1 : (1 : Int32).toInt = 1 := rfl
  have e2 : (2 : Int32).toInt = 2 := rfl
  have e3 : (3 : Int32).toInt = 3 := rfl
  have e4 : (4 : Int32).toInt = 4 := rfl
  have e5 : (5 : Int32).toInt = 5 := rfl
  subst h
  simp only [← Int32.toInt_inj]
  omega
theorem own_hm3 {mm : Int32} (h : mm = (0 : Int32) ∨ mm = (1 : Int32) ∨ mm = (2 : Int32) ∨ mm = (3 : Int32)) : mm = (0 : Int32) ∨ mm = (1 : Int32) ∨ mm = (2 : Int32) ∨ mm = (3 : Int32) ∨ mm = (4 : Int32) := by
  rcases h with h | h | h | h <;> simp [h]
theorem own_rem4 (p : Int32) {mm : Int32} (h : mm = ((p &&& (2147483647 : Int32)) % (5 : Int32))) : mm = (0 : Int32) ∨ mm = (1 : Int32) ∨ mm = (2 : Int32) ∨ mm = (3 : Int32) ∨ mm = (4 : Int32) := by
  have a := c_mask p 2147483647 31 (by decide) (by decide)
  have b := (c_irem (p &&& (2147483647 : Int32)) 5 5 rfl).1 (by omega)
  have e0 : (0 : Int32).toInt = 0 := rfl
  have e1 : (1 : Int32).toInt = 1 := rfl
  have e2 : (2 : Int32).toInt = 2 := rfl
  have e3 : (3 : Int32).toInt = 3 := rfl
  have e4 : (4 : Int32).toInt = 4 := rfl
  have e5 : (5 : Int32).toInt = 5 := rfl
  subst h
  simp only [← Int32.toInt_inj]
  omega
theorem own_hm4 {mm : Int32} (h : mm = (0 : Int32) ∨ mm = (1 : Int32) ∨ mm = (2 : Int32) ∨ mm = (3 : Int32) ∨ mm = (4 : Int32)) : mm = (0 : Int32) ∨ mm = (1 : Int32) ∨ mm = (2 : Int32) ∨ mm = (3 : Int32) ∨ mm = (4 : Int32) := by
  rcases h with h | h | h | h | h <;> simp [h]
set_option maxHeartbeats 4000000 in
theorem own_fin10 {a : Addr} {mm : Int32} {u w0 w1 w2 w3 : Int64} (hM : mm = (0 : Int32) ∨ mm = (1 : Int32)) (h4 : own_sf4 a (1 : Int32) mm u w0 w1 w2 w3 = (0 : Int32)) (h3 : own_sf3 a (1 : Int32) mm u w0 w1 w2 w3 = (0 : Int32)) (h2 : own_sf2 a (1 : Int32) mm u w0 w1 w2 w3 = (0 : Int32)) (h1 : own_sf1 a (1 : Int32) mm u w0 w1 w2 w3 = (0 : Int32)) : own_g1 mm w0 (0 : Int32) u = (0 : Int32) := by
  rcases hM with rfl | rfl <;> simp [own_sf1, own_sf2, own_sf3, own_sf4, own_g1, own_b1, own_b2, own_b3, own_x0, own_x1, own_x2, own_x3, own_s01_31, own_s01, own_s11_31, own_s11, own_s12_59, own_s12_31, own_s12, own_s21_31, own_s21, own_s22_59, own_s22_31, own_s22, own_s23_82, own_s23_59, own_s23_31, own_s23, own_s31_31, own_s31, own_s32_59, own_s32_31, own_s32, own_s33_82, own_s33_59, own_s33_31, own_s33, own_s34_105, own_s34_82, own_s34_59, own_s34_31, own_s34, own_s41_31, own_s41, own_s42_59, own_s42_31, own_s42, own_s43_82, own_s43_59, own_s43_31, own_s43, own_s44_105, own_s44_82, own_s44_59, own_s44_31, own_s44] at h4 h3 h2 h1 ⊢ <;> grind
set_option maxHeartbeats 4000000 in
theorem own_fin11 {a : Addr} {mm : Int32} {u w0 w1 w2 w3 : Int64} (hM : mm = (0 : Int32) ∨ mm = (1 : Int32)) (h4 : own_sf4 a (1 : Int32) mm u w0 w1 w2 w3 = (0 : Int32)) (h3 : own_sf3 a (1 : Int32) mm u w0 w1 w2 w3 = (0 : Int32)) (h2 : own_sf2 a (1 : Int32) mm u w0 w1 w2 w3 = (0 : Int32)) (h1 : ¬ own_sf1 a (1 : Int32) mm u w0 w1 w2 w3 = (0 : Int32)) : own_g1 mm w0 (0 : Int32) u = (1 : Int32) := by
  rcases hM with rfl | rfl <;> simp [own_sf1, own_sf2, own_sf3, own_sf4, own_g1, own_b1, own_b2, own_b3, own_x0, own_x1, own_x2, own_x3, own_s01_31, own_s01, own_s11_31, own_s11, own_s12_59, own_s12_31, own_s12, own_s21_31, own_s21, own_s22_59, own_s22_31, own_s22, own_s23_82, own_s23_59, own_s23_31, own_s23, own_s31_31, own_s31, own_s32_59, own_s32_31, own_s32, own_s33_82, own_s33_59, own_s33_31, own_s33, own_s34_105, own_s34_82, own_s34_59, own_s34_31, own_s34, own_s41_31, own_s41, own_s42_59, own_s42_31, own_s42, own_s43_82, own_s43_59, own_s43_31, own_s43, own_s44_105, own_s44_82, own_s44_59, own_s44_31, own_s44] at h4 h3 h2 h1 ⊢ <;> grind
set_option maxHeartbeats 4000000 in
theorem own_fin12 {a : Addr} {mm : Int32} {u w0 w1 w2 w3 : Int64} (hM : mm = (0 : Int32) ∨ mm = (1 : Int32)) (h4 : own_sf4 a (1 : Int32) mm u w0 w1 w2 w3 = (0 : Int32)) (h3 : own_sf3 a (1 : Int32) mm u w0 w1 w2 w3 = (0 : Int32)) (h2 : ¬ own_sf2 a (1 : Int32) mm u w0 w1 w2 w3 = (0 : Int32)) : own_g1 mm w0 (0 : Int32) u = (2 : Int32) := by
  rcases hM with rfl | rfl <;> simp [own_sf1, own_sf2, own_sf3, own_sf4, own_g1, own_b1, own_b2, own_b3, own_x0, own_x1, own_x2, own_x3, own_s01_31, own_s01, own_s11_31, own_s11, own_s12_59, own_s12_31, own_s12, own_s21_31, own_s21, own_s22_59, own_s22_31, own_s22, own_s23_82, own_s23_59, own_s23_31, own_s23, own_s31_31, own_s31, own_s32_59, own_s32_31, own_s32, own_s33_82, own_s33_59, own_s33_31, own_s33, own_s34_105, own_s34_82, own_s34_59, own_s34_31, own_s34, own_s41_31, own_s41, own_s42_59, own_s42_31, own_s42, own_s43_82, own_s43_59, own_s43_31, own_s43, own_s44_105, own_s44_82, own_s44_59, own_s44_31, own_s44] at h4 h3 h2 ⊢ <;> grind
set_option maxHeartbeats 4000000 in
theorem own_fin13 {a : Addr} {mm : Int32} {u w0 w1 w2 w3 : Int64} (hM : mm = (0 : Int32) ∨ mm = (1 : Int32)) (h4 : own_sf4 a (1 : Int32) mm u w0 w1 w2 w3 = (0 : Int32)) (h3 : ¬ own_sf3 a (1 : Int32) mm u w0 w1 w2 w3 = (0 : Int32)) : own_g1 mm w0 (0 : Int32) u = (3 : Int32) := by
  rcases hM with rfl | rfl <;> simp [own_sf1, own_sf2, own_sf3, own_sf4, own_g1, own_b1, own_b2, own_b3, own_x0, own_x1, own_x2, own_x3, own_s01_31, own_s01, own_s11_31, own_s11, own_s12_59, own_s12_31, own_s12, own_s21_31, own_s21, own_s22_59, own_s22_31, own_s22, own_s23_82, own_s23_59, own_s23_31, own_s23, own_s31_31, own_s31, own_s32_59, own_s32_31, own_s32, own_s33_82, own_s33_59, own_s33_31, own_s33, own_s34_105, own_s34_82, own_s34_59, own_s34_31, own_s34, own_s41_31, own_s41, own_s42_59, own_s42_31, own_s42, own_s43_82, own_s43_59, own_s43_31, own_s43, own_s44_105, own_s44_82, own_s44_59, own_s44_31, own_s44] at h4 h3 ⊢ <;> grind
set_option maxHeartbeats 4000000 in
theorem own_fin14 {a : Addr} {mm : Int32} {u w0 w1 w2 w3 : Int64} (hM : mm = (0 : Int32) ∨ mm = (1 : Int32)) (h4 : ¬ own_sf4 a (1 : Int32) mm u w0 w1 w2 w3 = (0 : Int32)) : own_g1 mm w0 (0 : Int32) u = (4 : Int32) := by
  rcases hM with rfl | rfl <;> simp [own_sf1, own_sf2, own_sf3, own_sf4, own_g1, own_b1, own_b2, own_b3, own_x0, own_x1, own_x2, own_x3, own_s01_31, own_s01, own_s11_31, own_s11, own_s12_59, own_s12_31, own_s12, own_s21_31, own_s21, own_s22_59, own_s22_31, own_s22, own_s23_82, own_s23_59, own_s23_31, own_s23, own_s31_31, own_s31, own_s32_59, own_s32_31, own_s32, own_s33_82, own_s33_59, own_s33_31, own_s33, own_s34_105, own_s34_82, own_s34_59, own_s34_31, own_s34, own_s41_31, own_s41, own_s42_59, own_s42_31, own_s42, own_s43_82, own_s43_59, own_s43_31, own_s43, own_s44_105, own_s44_82, own_s44_59, own_s44_31, own_s44] at h4 ⊢ <;> grind
set_option maxHeartbeats 4000000 in
theorem own_fin20 {a : Addr} {mm : Int32} {u w0 w1 w2 w3 : Int64} (hM : mm = (0 : Int32) ∨ mm = (1 : Int32) ∨ mm = (2 : Int32)) (h4 : own_sf4 a (2 : Int32) mm u w0 w1 w2 w3 = (0 : Int32)) (h3 : own_sf3 a (2 : Int32) mm u w0 w1 w2 w3 = (0 : Int32)) (h2 : own_sf2 a (2 : Int32) mm u w0 w1 w2 w3 = (0 : Int32)) (h1 : own_sf1 a (2 : Int32) mm u w0 w1 w2 w3 = (0 : Int32)) : own_g2 mm w0 w1 (0 : Int32) (own_b1 w0 w1) u = (0 : Int32) := by
  rcases hM with rfl | rfl | rfl <;> simp [own_sf1, own_sf2, own_sf3, own_sf4, own_g2, own_b1, own_b2, own_b3, own_x0, own_x1, own_x2, own_x3, own_s01_31, own_s01, own_s11_31, own_s11, own_s12_59, own_s12_31, own_s12, own_s21_31, own_s21, own_s22_59, own_s22_31, own_s22, own_s23_82, own_s23_59, own_s23_31, own_s23, own_s31_31, own_s31, own_s32_59, own_s32_31, own_s32, own_s33_82, own_s33_59, own_s33_31, own_s33, own_s34_105, own_s34_82, own_s34_59, own_s34_31, own_s34, own_s41_31, own_s41, own_s42_59, own_s42_31, own_s42, own_s43_82, own_s43_59, own_s43_31, own_s43, own_s44_105, own_s44_82, own_s44_59, own_s44_31, own_s44] at h4 h3 h2 h1 ⊢ <;> grind
set_option maxHeartbeats 4000000 in
theorem own_fin21 {a : Addr} {mm : Int32} {u w0 w1 w2 w3 : Int64} (hM : mm = (0 : Int32) ∨ mm = (1 : Int32) ∨ mm = (2 : Int32)) (h4 : own_sf4 a (2 : Int32) mm u w0 w1 w2 w3 = (0 : Int32)) (h3 : own_sf3 a (2 : Int32) mm u w0 w1 w2 w3 = (0 : Int32)) (h2 : own_sf2 a (2 : Int32) mm u w0 w1 w2 w3 = (0 : Int32)) (h1 : ¬ own_sf1 a (2 : Int32) mm u w0 w1 w2 w3 = (0 : Int32)) : own_g2 mm w0 w1 (0 : Int32) (own_b1 w0 w1) u = (1 : Int32) := by
  rcases hM with rfl | rfl | rfl <;> simp [own_sf1, own_sf2, own_sf3, own_sf4, own_g2, own_b1, own_b2, own_b3, own_x0, own_x1, own_x2, own_x3, own_s01_31, own_s01, own_s11_31, own_s11, own_s12_59, own_s12_31, own_s12, own_s21_31, own_s21, own_s22_59, own_s22_31, own_s22, own_s23_82, own_s23_59, own_s23_31, own_s23, own_s31_31, own_s31, own_s32_59, own_s32_31, own_s32, own_s33_82, own_s33_59, own_s33_31, own_s33, own_s34_105, own_s34_82, own_s34_59, own_s34_31, own_s34, own_s41_31, own_s41, own_s42_59, own_s42_31, own_s42, own_s43_82, own_s43_59, own_s43_31, own_s43, own_s44_105, own_s44_82, own_s44_59, own_s44_31, own_s44] at h4 h3 h2 h1 ⊢ <;> grind
set_option maxHeartbeats 4000000 in
theorem own_fin22 {a : Addr} {mm : Int32} {u w0 w1 w2 w3 : Int64} (hM : mm = (0 : Int32) ∨ mm = (1 : Int32) ∨ mm = (2 : Int32)) (h4 : own_sf4 a (2 : Int32) mm u w0 w1 w2 w3 = (0 : Int32)) (h3 : own_sf3 a (2 : Int32) mm u w0 w1 w2 w3 = (0 : Int32)) (h2 : ¬ own_sf2 a (2 : Int32) mm u w0 w1 w2 w3 = (0 : Int32)) : own_g2 mm w0 w1 (0 : Int32) (own_b1 w0 w1) u = (2 : Int32) := by
  rcases hM with rfl | rfl | rfl <;> simp [own_sf1, own_sf2, own_sf3, own_sf4, own_g2, own_b1, own_b2, own_b3, own_x0, own_x1, own_x2, own_x3, own_s01_31, own_s01, own_s11_31, own_s11, own_s12_59, own_s12_31, own_s12, own_s21_31, own_s21, own_s22_59, own_s22_31, own_s22, own_s23_82, own_s23_59, own_s23_31, own_s23, own_s31_31, own_s31, own_s32_59, own_s32_31, own_s32, own_s33_82, own_s33_59, own_s33_31, own_s33, own_s34_105, own_s34_82, own_s34_59, own_s34_31, own_s34, own_s41_31, own_s41, own_s42_59, own_s42_31, own_s42, own_s43_82, own_s43_59, own_s43_31, own_s43, own_s44_105, own_s44_82, own_s44_59, own_s44_31, own_s44] at h4 h3 h2 ⊢ <;> grind
set_option maxHeartbeats 4000000 in
theorem own_fin23 {a : Addr} {mm : Int32} {u w0 w1 w2 w3 : Int64} (hM : mm = (0 : Int32) ∨ mm = (1 : Int32) ∨ mm = (2 : Int32)) (h4 : own_sf4 a (2 : Int32) mm u w0 w1 w2 w3 = (0 : Int32)) (h3 : ¬ own_sf3 a (2 : Int32) mm u w0 w1 w2 w3 = (0 : Int32)) : own_g2 mm w0 w1 (0 : Int32) (own_b1 w0 w1) u = (3 : Int32) := by
  rcases hM with rfl | rfl | rfl <;> simp [own_sf1, own_sf2, own_sf3, own_sf4, own_g2, own_b1, own_b2, own_b3, own_x0, own_x1, own_x2, own_x3, own_s01_31, own_s01, own_s11_31, own_s11, own_s12_59, own_s12_31, own_s12, own_s21_31, own_s21, own_s22_59, own_s22_31, own_s22, own_s23_82, own_s23_59, own_s23_31, own_s23, own_s31_31, own_s31, own_s32_59, own_s32_31, own_s32, own_s33_82, own_s33_59, own_s33_31, own_s33, own_s34_105, own_s34_82, own_s34_59, own_s34_31, own_s34, own_s41_31, own_s41, own_s42_59, own_s42_31, own_s42, own_s43_82, own_s43_59, own_s43_31, own_s43, own_s44_105, own_s44_82, own_s44_59, own_s44_31, own_s44] at h4 h3 ⊢ <;> grind
set_option maxHeartbeats 4000000 in
theorem own_fin24 {a : Addr} {mm : Int32} {u w0 w1 w2 w3 : Int64} (hM : mm = (0 : Int32) ∨ mm = (1 : Int32) ∨ mm = (2 : Int32)) (h4 : ¬ own_sf4 a (2 : Int32) mm u w0 w1 w2 w3 = (0 : Int32)) : own_g2 mm w0 w1 (0 : Int32) (own_b1 w0 w1) u = (4 : Int32) := by
  rcases hM with rfl | rfl | rfl <;> simp [own_sf1, own_sf2, own_sf3, own_sf4, own_g2, own_b1, own_b2, own_b3, own_x0, own_x1, own_x2, own_x3, own_s01_31, own_s01, own_s11_31, own_s11, own_s12_59, own_s12_31, own_s12, own_s21_31, own_s21, own_s22_59, own_s22_31, own_s22, own_s23_82, own_s23_59, own_s23_31, own_s23, own_s31_31, own_s31, own_s32_59, own_s32_31, own_s32, own_s33_82, own_s33_59, own_s33_31, own_s33, own_s34_105, own_s34_82, own_s34_59, own_s34_31, own_s34, own_s41_31, own_s41, own_s42_59, own_s42_31, own_s42, own_s43_82, own_s43_59, own_s43_31, own_s43, own_s44_105, own_s44_82, own_s44_59, own_s44_31, own_s44] at h4 ⊢ <;> grind
set_option maxHeartbeats 4000000 in
theorem own_fin30 {a : Addr} {mm : Int32} {u w0 w1 w2 w3 : Int64} (hM : mm = (0 : Int32) ∨ mm = (1 : Int32) ∨ mm = (2 : Int32) ∨ mm = (3 : Int32)) (h4 : own_sf4 a (3 : Int32) mm u w0 w1 w2 w3 = (0 : Int32)) (h3 : own_sf3 a (3 : Int32) mm u w0 w1 w2 w3 = (0 : Int32)) (h2 : own_sf2 a (3 : Int32) mm u w0 w1 w2 w3 = (0 : Int32)) (h1 : own_sf1 a (3 : Int32) mm u w0 w1 w2 w3 = (0 : Int32)) : own_g3 mm w0 w1 w2 (0 : Int32) (own_b1 w0 w1) (own_b2 w0 w1 w2) u = (0 : Int32) := by
  rcases hM with rfl | rfl | rfl | rfl <;> simp [own_sf1, own_sf2, own_sf3, own_sf4, own_g3, own_b1, own_b2, own_b3, own_x0, own_x1, own_x2, own_x3, own_s01_31, own_s01, own_s11_31, own_s11, own_s12_59, own_s12_31, own_s12, own_s21_31, own_s21, own_s22_59, own_s22_31, own_s22, own_s23_82, own_s23_59, own_s23_31, own_s23, own_s31_31, own_s31, own_s32_59, own_s32_31, own_s32, own_s33_82, own_s33_59, own_s33_31, own_s33, own_s34_105, own_s34_82, own_s34_59, own_s34_31, own_s34, own_s41_31, own_s41, own_s42_59, own_s42_31, own_s42, own_s43_82, own_s43_59, own_s43_31, own_s43, own_s44_105, own_s44_82, own_s44_59, own_s44_31, own_s44] at h4 h3 h2 h1 ⊢ <;> grind
set_option maxHeartbeats 4000000 in
theorem own_fin31 {a : Addr} {mm : Int32} {u w0 w1 w2 w3 : Int64} (hM : mm = (0 : Int32) ∨ mm = (1 : Int32) ∨ mm = (2 : Int32) ∨ mm = (3 : Int32)) (h4 : own_sf4 a (3 : Int32) mm u w0 w1 w2 w3 = (0 : Int32)) (h3 : own_sf3 a (3 : Int32) mm u w0 w1 w2 w3 = (0 : Int32)) (h2 : own_sf2 a (3 : Int32) mm u w0 w1 w2 w3 = (0 : Int32)) (h1 : ¬ own_sf1 a (3 : Int32) mm u w0 w1 w2 w3 = (0 : Int32)) : own_g3 mm w0 w1 w2 (0 : Int32) (own_b1 w0 w1) (own_b2 w0 w1 w2) u = (1 : Int32) := by
  rcases hM with rfl | rfl | rfl | rfl <;> simp [own_sf1, own_sf2, own_sf3, own_sf4, own_g3, own_b1, own_b2, own_b3, own_x0, own_x1, own_x2, own_x3, own_s01_31, own_s01, own_s11_31, own_s11, own_s12_59, own_s12_31, own_s12, own_s21_31, own_s21, own_s22_59, own_s22_31, own_s22, own_s23_82, own_s23_59, own_s23_31, own_s23, own_s31_31, own_s31, own_s32_59, own_s32_31, own_s32, own_s33_82, own_s33_59, own_s33_31, own_s33, own_s34_105, own_s34_82, own_s34_59, own_s34_31, own_s34, own_s41_31, own_s41, own_s42_59, own_s42_31, own_s42, own_s43_82, own_s43_59, own_s43_31, own_s43, own_s44_105, own_s44_82, own_s44_59, own_s44_31, own_s44] at h4 h3 h2 h1 ⊢ <;> grind
set_option maxHeartbeats 4000000 in
theorem own_fin32 {a : Addr} {mm : Int32} {u w0 w1 w2 w3 : Int64} (hM : mm = (0 : Int32) ∨ mm = (1 : Int32) ∨ mm = (2 : Int32) ∨ mm = (3 : Int32)) (h4 : own_sf4 a (3 : Int32) mm u w0 w1 w2 w3 = (0 : Int32)) (h3 : own_sf3 a (3 : Int32) mm u w0 w1 w2 w3 = (0 : Int32)) (h2 : ¬ own_sf2 a (3 : Int32) mm u w0 w1 w2 w3 = (0 : Int32)) : own_g3 mm w0 w1 w2 (0 : Int32) (own_b1 w0 w1) (own_b2 w0 w1 w2) u = (2 : Int32) := by
  rcases hM with rfl | rfl | rfl | rfl <;> simp [own_sf1, own_sf2, own_sf3, own_sf4, own_g3, own_b1, own_b2, own_b3, own_x0, own_x1, own_x2, own_x3, own_s01_31, own_s01, own_s11_31, own_s11, own_s12_59, own_s12_31, own_s12, own_s21_31, own_s21, own_s22_59, own_s22_31, own_s22, own_s23_82, own_s23_59, own_s23_31, own_s23, own_s31_31, own_s31, own_s32_59, own_s32_31, own_s32, own_s33_82, own_s33_59, own_s33_31, own_s33, own_s34_105, own_s34_82, own_s34_59, own_s34_31, own_s34, own_s41_31, own_s41, own_s42_59, own_s42_31, own_s42, own_s43_82, own_s43_59, own_s43_31, own_s43, own_s44_105, own_s44_82, own_s44_59, own_s44_31, own_s44] at h4 h3 h2 ⊢ <;> grind
set_option maxHeartbeats 4000000 in
theorem own_fin33 {a : Addr} {mm : Int32} {u w0 w1 w2 w3 : Int64} (hM : mm = (0 : Int32) ∨ mm = (1 : Int32) ∨ mm = (2 : Int32) ∨ mm = (3 : Int32)) (h4 : own_sf4 a (3 : Int32) mm u w0 w1 w2 w3 = (0 : Int32)) (h3 : ¬ own_sf3 a (3 : Int32) mm u w0 w1 w2 w3 = (0 : Int32)) : own_g3 mm w0 w1 w2 (0 : Int32) (own_b1 w0 w1) (own_b2 w0 w1 w2) u = (3 : Int32) := by
  rcases hM with rfl | rfl | rfl | rfl <;> simp [own_sf1, own_sf2, own_sf3, own_sf4, own_g3, own_b1, own_b2, own_b3, own_x0, own_x1, own_x2, own_x3, own_s01_31, own_s01, own_s11_31, own_s11, own_s12_59, own_s12_31, own_s12, own_s21_31, own_s21, own_s22_59, own_s22_31, own_s22, own_s23_82, own_s23_59, own_s23_31, own_s23, own_s31_31, own_s31, own_s32_59, own_s32_31, own_s32, own_s33_82, own_s33_59, own_s33_31, own_s33, own_s34_105, own_s34_82, own_s34_59, own_s34_31, own_s34, own_s41_31, own_s41, own_s42_59, own_s42_31, own_s42, own_s43_82, own_s43_59, own_s43_31, own_s43, own_s44_105, own_s44_82, own_s44_59, own_s44_31, own_s44] at h4 h3 ⊢ <;> grind
set_option maxHeartbeats 4000000 in
theorem own_fin34 {a : Addr} {mm : Int32} {u w0 w1 w2 w3 : Int64} (hM : mm = (0 : Int32) ∨ mm = (1 : Int32) ∨ mm = (2 : Int32) ∨ mm = (3 : Int32)) (h4 : ¬ own_sf4 a (3 : Int32) mm u w0 w1 w2 w3 = (0 : Int32)) : own_g3 mm w0 w1 w2 (0 : Int32) (own_b1 w0 w1) (own_b2 w0 w1 w2) u = (4 : Int32) := by
  rcases hM with rfl | rfl | rfl | rfl <;> simp [own_sf1, own_sf2, own_sf3, own_sf4, own_g3, own_b1, own_b2, own_b3, own_x0, own_x1, own_x2, own_x3, own_s01_31, own_s01, own_s11_31, own_s11, own_s12_59, own_s12_31, own_s12, own_s21_31, own_s21, own_s22_59, own_s22_31, own_s22, own_s23_82, own_s23_59, own_s23_31, own_s23, own_s31_31, own_s31, own_s32_59, own_s32_31, own_s32, own_s33_82, own_s33_59, own_s33_31, own_s33, own_s34_105, own_s34_82, own_s34_59, own_s34_31, own_s34, own_s41_31, own_s41, own_s42_59, own_s42_31, own_s42, own_s43_82, own_s43_59, own_s43_31, own_s43, own_s44_105, own_s44_82, own_s44_59, own_s44_31, own_s44] at h4 ⊢ <;> grind
set_option maxHeartbeats 4000000 in
theorem own_fin40 {a : Addr} {mm : Int32} {u w0 w1 w2 w3 : Int64} (hM : mm = (0 : Int32) ∨ mm = (1 : Int32) ∨ mm = (2 : Int32) ∨ mm = (3 : Int32) ∨ mm = (4 : Int32)) (h4 : own_sf4 a (4 : Int32) mm u w0 w1 w2 w3 = (0 : Int32)) (h3 : own_sf3 a (4 : Int32) mm u w0 w1 w2 w3 = (0 : Int32)) (h2 : own_sf2 a (4 : Int32) mm u w0 w1 w2 w3 = (0 : Int32)) (h1 : own_sf1 a (4 : Int32) mm u w0 w1 w2 w3 = (0 : Int32)) : own_g4 mm w0 w1 w2 w3 (0 : Int32) (own_b1 w0 w1) (own_b2 w0 w1 w2) (own_b3 w0 w1 w2 w3) u = (0 : Int32) := by
  rcases hM with rfl | rfl | rfl | rfl | rfl <;> simp [own_sf1, own_sf2, own_sf3, own_sf4, own_g4, own_b1, own_b2, own_b3, own_x0, own_x1, own_x2, own_x3, own_s01_31, own_s01, own_s11_31, own_s11, own_s12_59, own_s12_31, own_s12, own_s21_31, own_s21, own_s22_59, own_s22_31, own_s22, own_s23_82, own_s23_59, own_s23_31, own_s23, own_s31_31, own_s31, own_s32_59, own_s32_31, own_s32, own_s33_82, own_s33_59, own_s33_31, own_s33, own_s34_105, own_s34_82, own_s34_59, own_s34_31, own_s34, own_s41_31, own_s41, own_s42_59, own_s42_31, own_s42, own_s43_82, own_s43_59, own_s43_31, own_s43, own_s44_105, own_s44_82, own_s44_59, own_s44_31, own_s44] at h4 h3 h2 h1 ⊢ <;> grind
set_option maxHeartbeats 4000000 in
theorem own_fin41 {a : Addr} {mm : Int32} {u w0 w1 w2 w3 : Int64} (hM : mm = (0 : Int32) ∨ mm = (1 : Int32) ∨ mm = (2 : Int32) ∨ mm = (3 : Int32) ∨ mm = (4 : Int32)) (h4 : own_sf4 a (4 : Int32) mm u w0 w1 w2 w3 = (0 : Int32)) (h3 : own_sf3 a (4 : Int32) mm u w0 w1 w2 w3 = (0 : Int32)) (h2 : own_sf2 a (4 : Int32) mm u w0 w1 w2 w3 = (0 : Int32)) (h1 : ¬ own_sf1 a (4 : Int32) mm u w0 w1 w2 w3 = (0 : Int32)) : own_g4 mm w0 w1 w2 w3 (0 : Int32) (own_b1 w0 w1) (own_b2 w0 w1 w2) (own_b3 w0 w1 w2 w3) u = (1 : Int32) := by
  rcases hM with rfl | rfl | rfl | rfl | rfl <;> simp [own_sf1, own_sf2, own_sf3, own_sf4, own_g4, own_b1, own_b2, own_b3, own_x0, own_x1, own_x2, own_x3, own_s01_31, own_s01, own_s11_31, own_s11, own_s12_59, own_s12_31, own_s12, own_s21_31, own_s21, own_s22_59, own_s22_31, own_s22, own_s23_82, own_s23_59, own_s23_31, own_s23, own_s31_31, own_s31, own_s32_59, own_s32_31, own_s32, own_s33_82, own_s33_59, own_s33_31, own_s33, own_s34_105, own_s34_82, own_s34_59, own_s34_31, own_s34, own_s41_31, own_s41, own_s42_59, own_s42_31, own_s42, own_s43_82, own_s43_59, own_s43_31, own_s43, own_s44_105, own_s44_82, own_s44_59, own_s44_31, own_s44] at h4 h3 h2 h1 ⊢ <;> grind
set_option maxHeartbeats 4000000 in
theorem own_fin42 {a : Addr} {mm : Int32} {u w0 w1 w2 w3 : Int64} (hM : mm = (0 : Int32) ∨ mm = (1 : Int32) ∨ mm = (2 : Int32) ∨ mm = (3 : Int32) ∨ mm = (4 : Int32)) (h4 : own_sf4 a (4 : Int32) mm u w0 w1 w2 w3 = (0 : Int32)) (h3 : own_sf3 a (4 : Int32) mm u w0 w1 w2 w3 = (0 : Int32)) (h2 : ¬ own_sf2 a (4 : Int32) mm u w0 w1 w2 w3 = (0 : Int32)) : own_g4 mm w0 w1 w2 w3 (0 : Int32) (own_b1 w0 w1) (own_b2 w0 w1 w2) (own_b3 w0 w1 w2 w3) u = (2 : Int32) := by
  rcases hM with rfl | rfl | rfl | rfl | rfl <;> simp [own_sf1, own_sf2, own_sf3, own_sf4, own_g4, own_b1, own_b2, own_b3, own_x0, own_x1, own_x2, own_x3, own_s01_31, own_s01, own_s11_31, own_s11, own_s12_59, own_s12_31, own_s12, own_s21_31, own_s21, own_s22_59, own_s22_31, own_s22, own_s23_82, own_s23_59, own_s23_31, own_s23, own_s31_31, own_s31, own_s32_59, own_s32_31, own_s32, own_s33_82, own_s33_59, own_s33_31, own_s33, own_s34_105, own_s34_82, own_s34_59, own_s34_31, own_s34, own_s41_31, own_s41, own_s42_59, own_s42_31, own_s42, own_s43_82, own_s43_59, own_s43_31, own_s43, own_s44_105, own_s44_82, own_s44_59, own_s44_31, own_s44] at h4 h3 h2 ⊢ <;> grind
set_option maxHeartbeats 4000000 in
theorem own_fin43 {a : Addr} {mm : Int32} {u w0 w1 w2 w3 : Int64} (hM : mm = (0 : Int32) ∨ mm = (1 : Int32) ∨ mm = (2 : Int32) ∨ mm = (3 : Int32) ∨ mm = (4 : Int32)) (h4 : own_sf4 a (4 : Int32) mm u w0 w1 w2 w3 = (0 : Int32)) (h3 : ¬ own_sf3 a (4 : Int32) mm u w0 w1 w2 w3 = (0 : Int32)) : own_g4 mm w0 w1 w2 w3 (0 : Int32) (own_b1 w0 w1) (own_b2 w0 w1 w2) (own_b3 w0 w1 w2 w3) u = (3 : Int32) := by
  rcases hM with rfl | rfl | rfl | rfl | rfl <;> simp [own_sf1, own_sf2, own_sf3, own_sf4, own_g4, own_b1, own_b2, own_b3, own_x0, own_x1, own_x2, own_x3, own_s01_31, own_s01, own_s11_31, own_s11, own_s12_59, own_s12_31, own_s12, own_s21_31, own_s21, own_s22_59, own_s22_31, own_s22, own_s23_82, own_s23_59, own_s23_31, own_s23, own_s31_31, own_s31, own_s32_59, own_s32_31, own_s32, own_s33_82, own_s33_59, own_s33_31, own_s33, own_s34_105, own_s34_82, own_s34_59, own_s34_31, own_s34, own_s41_31, own_s41, own_s42_59, own_s42_31, own_s42, own_s43_82, own_s43_59, own_s43_31, own_s43, own_s44_105, own_s44_82, own_s44_59, own_s44_31, own_s44] at h4 h3 ⊢ <;> grind
set_option maxHeartbeats 4000000 in
theorem own_fin44 {a : Addr} {mm : Int32} {u w0 w1 w2 w3 : Int64} (hM : mm = (0 : Int32) ∨ mm = (1 : Int32) ∨ mm = (2 : Int32) ∨ mm = (3 : Int32) ∨ mm = (4 : Int32)) (h4 : ¬ own_sf4 a (4 : Int32) mm u w0 w1 w2 w3 = (0 : Int32)) : own_g4 mm w0 w1 w2 w3 (0 : Int32) (own_b1 w0 w1) (own_b2 w0 w1 w2) (own_b3 w0 w1 w2 w3) u = (4 : Int32) := by
  rcases hM with rfl | rfl | rfl | rfl | rfl <;> simp [own_sf1, own_sf2, own_sf3, own_sf4, own_g4, own_b1, own_b2, own_b3, own_x0, own_x1, own_x2, own_x3, own_s01_31, own_s01, own_s11_31, own_s11, own_s12_59, own_s12_31, own_s12, own_s21_31, own_s21, own_s22_59, own_s22_31, own_s22, own_s23_82, own_s23_59, own_s23_31, own_s23, own_s31_31, own_s31, own_s32_59, own_s32_31, own_s32, own_s33_82, own_s33_59, own_s33_31, own_s33, own_s34_105, own_s34_82, own_s34_59, own_s34_31, own_s34, own_s41_31, own_s41, own_s42_59, own_s42_31, own_s42, own_s43_82, own_s43_59, own_s43_31, own_s43, own_s44_105, own_s44_82, own_s44_59, own_s44_31, own_s44] at h4 ⊢ <;> grind

abbrev mn_1 : MethodName := ⟨"com/example/sound_verdict/soundverdict/UnitSearchNextPinLaw", "pick", "(IIJJ)J"⟩
abbrev mn_2 : MethodName := ⟨"com/example/sound_verdict/soundverdict/UnitSearch", "<init>", "([J)V"⟩
abbrev mn_3 : MethodName := ⟨"com/example/sound_verdict/soundverdict/UnitSearch", "next", "(IJ)I"⟩
abbrev mn_4 : MethodName := ⟨"com/example/sound_verdict/soundverdict/UnitSearchNextPinLaw", "suf", "([JIIJI)Z"⟩
theorem pd_1 : parseMethodDescriptor "(IIJJ)J" = some ⟨[.int, .int, .long, .long], some .long⟩ := by decide +kernel
theorem pd_2 : parseMethodDescriptor "([J)V" = some ⟨[(.array .long)], none⟩ := by decide +kernel
theorem pd_3 : parseMethodDescriptor "(IJ)I" = some ⟨[.int, .long], some .int⟩ := by decide +kernel
theorem pd_4 : parseMethodDescriptor "([JIIJI)Z" = some ⟨[(.array .long), .int, .int, .long, .int], some .boolean⟩ := by decide +kernel
theorem ef_0 (m : MethodId) (x0 : Int32) (x1 : Int32) (x2 : Int64) (x3 : Int64) (x4 : Int64)  : entryFrame m #[(.int x0), (.int x1), (.long x2), (.long x3), (.long x4)] maxLocals = mkF m 0 #[iv x0, iv x1, jv x2, .second, jv x3, .second, jv x4, .second, .unset, .unset, .unset, .unset, .unset, .unset, .unset, .unset, .unset, .unset, .unset, .unset, .unset, .unset, .unset, .unset, .unset, .unset] [] := by first | (simp [entryFrame, mkF, argsToLocals, Value.category, maxLocals]; done) | rfl
def own_q0 (Z : State) (p1 : Int32) (p2 : Int32) (q3 : Int64) (q4 : Int64) (q5 : Int64) (h0 : Heap) (n0 : Nat) (v : Option Value) (h : Heap) (L : List Loc) : Prop := v = some (.int (1 : Int32)) ∧ Fr n0 L
set_option maxRecDepth 65536 in
set_option maxHeartbeats 40000000 in
theorem rm0 (l : Launch) (Z : State) (a0 : Array Value) (hw : ∀ d ∈ tables_1, d.before a0 Z = true) (ws : List Jvm.Cond) (p1 : Int32) (p2 : Int32) (q3 : Int64) (q4 : Int64) (q5 : Int64) (h0 : Heap) (n0 : Nat) (Z0 : n0 ≤ h0.size) :
    MetFree l x (head1 (Jvm.Cond.code x code maxLocals ret :: ws) room_1) (fun a U => a = #[(.int p1), (.int p2), (.long q3), (.long q4), (.long q5)] ∧ Z.Warmed39 U.vm ∧ U.heap = h0) (fun _ _ _ _ _ => True) (fun _ U o U' => ∃ v L, o = .returned v ∧ (own_q0 Z p1 p2 q3 q4 q5 h0 n0) v U'.heap L ∧ FrameEnd U o U' L room_1.cells room_1.slots) := by
  refine MetFree.of_bodySF (plainFor_of_name pn_0) hisR ?_
  intro p e s m args below meth c s₁ Bd hml0 hP hK
  obtain ⟨rfl, hZ, hh⟩ := hP
  have hx := Bd.exec
  have hby := Bd.bytes
  have hml : c.maxLocals = 26 := hml0
  have hown : s.vm.findClass "com/example/sound_verdict/soundverdict/UnitSearchNextPinLaw" = some m.cls := findClass_of_methodNamed Bd.named
  have hnm := (name_of_methodNamed Bd.named Bd.method).1
  have X0 : Stand p l e room_1 s m #[(.int p1), (.int p2), (.long q3), (.long q4), (.long q5)] below meth c s₁ [] 0 0 := Stand.of_body Bd
  have e0 : s₁.heap = h0 := by rw [← hh, Bd.state]; rfl
  have N0 := Fr.nil n0
  have hw_0 := hw _ (List.mem_of_getElem? (i := 0) rfl)
  have hw_1 := hw _ (List.mem_of_getElem? (i := 1) rfl)
  have hw_2 := hw _ (List.mem_of_getElem? (i := 2) rfl)
  have hw_3 := hw _ (List.mem_of_getElem? (i := 3) rfl)
  have hw_4 := hw _ (List.mem_of_getElem? (i := 4) rfl)
  have hw_5 := hw _ (List.mem_of_getElem? (i := 5) rfl)
  have hw_6 := hw _ (List.mem_of_getElem? (i := 6) rfl)
  have hw_7 := hw _ (List.mem_of_getElem? (i := 7) rfl)
  have hw_8 := hw _ (List.mem_of_getElem? (i := 8) rfl)
  have hw_9 := hw _ (List.mem_of_getElem? (i := 9) rfl)
  have hw_10 := hw _ (List.mem_of_getElem? (i := 10) rfl)
  have hw_18 := hw _ (List.mem_of_getElem? (i := 18) rfl)
  have hw_20 := hw _ (List.mem_of_getElem? (i := 20) rfl)
  have hw_23 := hw _ (List.mem_of_getElem? (i := 23) rfl)
  have hw_24 := hw _ (List.mem_of_getElem? (i := 24) rfl)
  have hw_25 := hw _ (List.mem_of_getElem? (i := 25) rfl)
  have hw_26 := hw _ (List.mem_of_getElem? (i := 26) rfl)
  have hw_27 := hw _ (List.mem_of_getElem? (i := 27) rfl)
  have hw_28 := hw _ (List.mem_of_getElem? (i := 28) rfl)
  have hw_29 := hw _ (List.mem_of_getElem? (i := 29) rfl)
  have hw_30 := hw _ (List.mem_of_getElem? (i := 30) rfl)
  have hw_31 := hw _ (List.mem_of_getElem? (i := 31) rfl)
  have hw_32 := hw _ (List.mem_of_getElem? (i := 32) rfl)
  show oF p e below (own_A s room_1.cells room_1.slots (own_q0 Z p1 p2 q3 q4 q5 h0 n0)) _
  refine og (fun t k => castTop (ef_0 m (p1) (p2) (q3) (q4) (q5)) k) ?_
  show oF p e below _ (s₁.setTop (mkF m 0 #[iv p1, iv p2, jv q3, .second, jv q4, .second, jv q5, .second, .unset, .unset, .unset, .unset, .unset, .unset, .unset, .unset, .unset, .unset, .unset, .unset, .unset, .unset, .unset, .unset, .unset, .unset] []))
  refine og (fun t k => XS.iloadN X0.here hx rfl (hb hby at_0) rfl (XS.iconst X0.here hx rfl (hb hby at_1) (XS.iand X0.here hx rfl (hb hby at_2) rfl (XS.iconst X0.here hx rfl (hb hby at_3) (XS.iadd X0.here hx rfl (hb hby at_4) rfl k))))) ?_
  show oF p e below _ (s₁.setTop (mkF m 5 #[iv p1, iv p2, jv q3, .second, jv q4, .second, jv q5, .second, .unset, .unset, .unset, .unset, .unset, .unset, .unset, .unset, .unset, .unset, .unset, .unset, .unset, .unset, .unset, .unset, .unset, .unset] [(.int ((p1 &&& (3 : Int32)) + (1 : Int32)))]))
  rcases own_four p1 with h | h | h | h
  · skip
    rw [h]
    show oF p e below _ (s₁.setTop (mkF m 5 #[iv p1, iv p2, jv q3, .second, jv q4, .second, jv q5, .second, .unset, .unset, .unset, .unset, .unset, .unset, .unset, .unset, .unset, .unset, .unset, .unset, .unset, .unset, .unset, .unset, .unset, .unset] [(.int 1)]))
    refine og (fun t k => XS.istore X0.here hx rfl (hb hby at_5) rfl (l' := #[iv p1, iv p2, jv q3, .second, jv q4, .second, jv q5, .second, iv 1, .unset, .unset, .unset, .unset, .unset, .unset, .unset, .unset, .unset, .unset, .unset, .unset, .unset, .unset, .unset, .unset, .unset]) rfl (XS.iloadN X0.here hx rfl (hb hby at_7) rfl (XS.iconst X0.here hx rfl (hb hby at_8) (XS.lloadN X0.here hx rfl (hb hby at_9) rfl (XS.lload X0.here hx rfl (hb hby at_10) rfl k))))) ?_
    show oF p e below _ (s₁.setTop (mkF m 12 #[iv p1, iv p2, jv q3, .second, jv q4, .second, jv q5, .second, iv 1, .unset, .unset, .unset, .unset, .unset, .unset, .unset, .unset, .unset, .unset, .unset, .unset, .unset, .unset, .unset, .unset, .unset] [(.long q4), (.long q3), (.int 2), (.int p1)]))
    obtain ⟨_, _, ⟨T1, L1, k1, n1⟩, -, X1, ⟨Lc1, hQ1, l1, y1, z1⟩, st1⟩ := Jvm.LawKit.callS X0 hx (y := mn_1) hown (mvT hZ hw_0) (mvT hZ hw_1) (mvT hZ hw_2) (mvT hZ hw_3) (by decide) (backOf (W := 0) (rm1 l Z a0 hw [] (p1) ((2 : Int32)) (q3) (q4)  h0 n0 Z0 ) hZ hw_3 hw_2 (by decide) (by decide)) (g := (mkF m 12 #[iv p1, iv p2, jv q3, .second, jv q4, .second, jv q5, .second, iv 1, .unset, .unset, .unset, .unset, .unset, .unset, .unset, .unset, .unset, .unset, .unset, .unset, .unset, .unset, .unset, .unset, .unset] [(.long q4), (.long q3), (.int 2), (.int p1)])) rfl (by rw [hml]; rfl) (argsL := [(.int p1), (.int 2), (.long q3), (.long q4)]) (rest := []) (lenOf pd_1 rfl) rfl (by show 2 * 0 + _ ≤ _; exact Nat.le_of_eq rfl) (hb hby at_12) (fun _ _ => ⟨rfl, e0, (by decide : 0 + 0 ≤ _), (by decide : 0 + 0 ≤ _)⟩)
    dsimp only [Pt.U, Pt.locs, Pt.cells, Pt.slots] at X1 l1 y1 z1 st1 hQ1
    subst l1 y1 z1
    obtain ⟨rfl, N1q, e1⟩ := hQ1
    have N1 := Fr.app N0 N1q
    refine og st1 ?_
    show oF p e below _ (T1.setTop (mkF m 15 #[iv p1, iv p2, jv q3, .second, jv q4, .second, jv q5, .second, iv 1, .unset, .unset, .unset, .unset, .unset, .unset, .unset, .unset, .unset, .unset, .unset, .unset, .unset, .unset, .unset, .unset, .unset] [(.long (own_pk_5 p1 (2 : Int32) q3 q4))]))
    obtain ⟨W0, h_W0⟩ : ∃ z : Int64, z = (own_pk_5 p1 (2 : Int32) q3 q4) := ⟨_, rfl⟩
    rw [← h_W0]
    show oF p e below _ (T1.setTop (mkF m 15 #[iv p1, iv p2, jv q3, .second, jv q4, .second, jv q5, .second, iv 1, .unset, .unset, .unset, .unset, .unset, .unset, .unset, .unset, .unset, .unset, .unset, .unset, .unset, .unset, .unset, .unset, .unset] [(.long W0)]))
    refine og (fun t k => XS.lstore X1.here hx rfl (hb hby at_15) rfl (l' := #[iv p1, iv p2, jv q3, .second, jv q4, .second, jv q5, .second, iv 1, jv W0, .second, .unset, .unset, .unset, .unset, .unset, .unset, .unset, .unset, .unset, .unset, .unset, .unset, .unset, .unset, .unset]) rfl (XS.iloadN X1.here hx rfl (hb hby at_17) rfl (XS.iconst X1.here hx rfl (hb hby at_18) (XS.lloadN X1.here hx rfl (hb hby at_19) rfl (XS.lload X1.here hx rfl (hb hby at_20) rfl k))))) ?_
    show oF p e below _ (T1.setTop (mkF m 22 #[iv p1, iv p2, jv q3, .second, jv q4, .second, jv q5, .second, iv 1, jv W0, .second, .unset, .unset, .unset, .unset, .unset, .unset, .unset, .unset, .unset, .unset, .unset, .unset, .unset, .unset, .unset] [(.long q4), (.long q3), (.int 3), (.int p1)]))
    obtain ⟨_, _, ⟨T2, L2, k2, n2⟩, -, X2, ⟨Lc2, hQ2, l2, y2, z2⟩, st2⟩ := Jvm.LawKit.callS X1 hx (y := mn_1) hown (mvT hZ hw_0) (mvT hZ hw_1) (mvT hZ hw_2) (mvT hZ hw_3) (by decide) (backOf (W := 0) (rm1 l Z a0 hw [] (p1) ((3 : Int32)) (q3) (q4)  h0 n0 Z0 ) hZ hw_3 hw_2 (by decide) (by decide)) (g := (mkF m 22 #[iv p1, iv p2, jv q3, .second, jv q4, .second, jv q5, .second, iv 1, jv W0, .second, .unset, .unset, .unset, .unset, .unset, .unset, .unset, .unset, .unset, .unset, .unset, .unset, .unset, .unset, .unset] [(.long q4), (.long q3), (.int 3), (.int p1)])) rfl (by rw [hml]; rfl) (argsL := [(.int p1), (.int 3), (.long q3), (.long q4)]) (rest := []) (lenOf pd_1 rfl) rfl (by show 2 * 0 + _ ≤ _; exact Nat.le_of_eq rfl) (hb hby at_22) (fun _ _ => ⟨rfl, e1, (by decide : 0 + 0 ≤ _), (by decide : 0 + 0 ≤ _)⟩)
    dsimp only [Pt.U, Pt.locs, Pt.cells, Pt.slots] at X2 l2 y2 z2 st2 hQ2
    subst l2 y2 z2
    obtain ⟨rfl, N2q, e2⟩ := hQ2
    have N2 := Fr.app N1 N2q
    refine og st2 ?_
    show oF p e below _ (T2.setTop (mkF m 25 #[iv p1, iv p2, jv q3, .second, jv q4, .second, jv q5, .second, iv 1, jv W0, .second, .unset, .unset, .unset, .unset, .unset, .unset, .unset, .unset, .unset, .unset, .unset, .unset, .unset, .unset, .unset] [(.long (own_pk_5 p1 (3 : Int32) q3 q4))]))
    obtain ⟨W1, h_W1⟩ : ∃ z : Int64, z = (own_pk_5 p1 (3 : Int32) q3 q4) := ⟨_, rfl⟩
    rw [← h_W1]
    show oF p e below _ (T2.setTop (mkF m 25 #[iv p1, iv p2, jv q3, .second, jv q4, .second, jv q5, .second, iv 1, jv W0, .second, .unset, .unset, .unset, .unset, .unset, .unset, .unset, .unset, .unset, .unset, .unset, .unset, .unset, .unset, .unset] [(.long W1)]))
    refine og (fun t k => XS.lstore X2.here hx rfl (hb hby at_25) rfl (l' := #[iv p1, iv p2, jv q3, .second, jv q4, .second, jv q5, .second, iv 1, jv W0, .second, jv W1, .second, .unset, .unset, .unset, .unset, .unset, .unset, .unset, .unset, .unset, .unset, .unset, .unset, .unset]) rfl (XS.iloadN X2.here hx rfl (hb hby at_27) rfl (XS.iconst X2.here hx rfl (hb hby at_28) (XS.lloadN X2.here hx rfl (hb hby at_29) rfl (XS.lload X2.here hx rfl (hb hby at_30) rfl k))))) ?_
    show oF p e below _ (T2.setTop (mkF m 32 #[iv p1, iv p2, jv q3, .second, jv q4, .second, jv q5, .second, iv 1, jv W0, .second, jv W1, .second, .unset, .unset, .unset, .unset, .unset, .unset, .unset, .unset, .unset, .unset, .unset, .unset, .unset] [(.long q4), (.long q3), (.int 4), (.int p1)]))
    obtain ⟨_, _, ⟨T3, L3, k3, n3⟩, -, X3, ⟨Lc3, hQ3, l3, y3, z3⟩, st3⟩ := Jvm.LawKit.callS X2 hx (y := mn_1) hown (mvT hZ hw_0) (mvT hZ hw_1) (mvT hZ hw_2) (mvT hZ hw_3) (by decide) (backOf (W := 0) (rm1 l Z a0 hw [] (p1) ((4 : Int32)) (q3) (q4)  h0 n0 Z0 ) hZ hw_3 hw_2 (by decide) (by decide)) (g := (mkF m 32 #[iv p1, iv p2, jv q3, .second, jv q4, .second, jv q5, .second, iv 1, jv W0, .second, jv W1, .second, .unset, .unset, .unset, .unset, .unset, .unset, .unset, .unset, .unset, .unset, .unset, .unset, .unset] [(.long q4), (.long q3), (.int 4), (.int p1)])) rfl (by rw [hml]; rfl) (argsL := [(.int p1), (.int 4), (.long q3), (.long q4)]) (rest := []) (lenOf pd_1 rfl) rfl (by show 2 * 0 + _ ≤ _; exact Nat.le_of_eq rfl) (hb hby at_32) (fun _ _ => ⟨rfl, e2, (by decide : 0 + 0 ≤ _), (by decide : 0 + 0 ≤ _)⟩)
    dsimp only [Pt.U, Pt.locs, Pt.cells, Pt.slots] at X3 l3 y3 z3 st3 hQ3
    subst l3 y3 z3
    obtain ⟨rfl, N3q, e3⟩ := hQ3
    have N3 := Fr.app N2 N3q
    refine og st3 ?_
    show oF p e below _ (T3.setTop (mkF m 35 #[iv p1, iv p2, jv q3, .second, jv q4, .second, jv q5, .second, iv 1, jv W0, .second, jv W1, .second, .unset, .unset, .unset, .unset, .unset, .unset, .unset, .unset, .unset, .unset, .unset, .unset, .unset] [(.long (own_pk_5 p1 (4 : Int32) q3 q4))]))
    obtain ⟨W2, h_W2⟩ : ∃ z : Int64, z = (own_pk_5 p1 (4 : Int32) q3 q4) := ⟨_, rfl⟩
    rw [← h_W2]
    show oF p e below _ (T3.setTop (mkF m 35 #[iv p1, iv p2, jv q3, .second, jv q4, .second, jv q5, .second, iv 1, jv W0, .second, jv W1, .second, .unset, .unset, .unset, .unset, .unset, .unset, .unset, .unset, .unset, .unset, .unset, .unset, .unset] [(.long W2)]))
    refine og (fun t k => XS.lstore X3.here hx rfl (hb hby at_35) rfl (l' := #[iv p1, iv p2, jv q3, .second, jv q4, .second, jv q5, .second, iv 1, jv W0, .second, jv W1, .second, jv W2, .second, .unset, .unset, .unset, .unset, .unset, .unset, .unset, .unset, .unset, .unset, .unset]) rfl (XS.iloadN X3.here hx rfl (hb hby at_37) rfl (XS.iconst X3.here hx rfl (hb hby at_38) (XS.lloadN X3.here hx rfl (hb hby at_39) rfl (XS.lload X3.here hx rfl (hb hby at_40) rfl k))))) ?_
    show oF p e below _ (T3.setTop (mkF m 42 #[iv p1, iv p2, jv q3, .second, jv q4, .second, jv q5, .second, iv 1, jv W0, .second, jv W1, .second, jv W2, .second, .unset, .unset, .unset, .unset, .unset, .unset, .unset, .unset, .unset, .unset, .unset] [(.long q4), (.long q3), (.int 5), (.int p1)]))
    obtain ⟨_, _, ⟨T4, L4, k4, n4⟩, -, X4, ⟨Lc4, hQ4, l4, y4, z4⟩, st4⟩ := Jvm.LawKit.callS X3 hx (y := mn_1) hown (mvT hZ hw_0) (mvT hZ hw_1) (mvT hZ hw_2) (mvT hZ hw_3) (by decide) (backOf (W := 0) (rm1 l Z a0 hw [] (p1) ((5 : Int32)) (q3) (q4)  h0 n0 Z0 ) hZ hw_3 hw_2 (by decide) (by decide)) (g := (mkF m 42 #[iv p1, iv p2, jv q3, .second, jv q4, .second, jv q5, .second, iv 1, jv W0, .second, jv W1, .second, jv W2, .second, .unset, .unset, .unset, .unset, .unset, .unset, .unset, .unset, .unset, .unset, .unset] [(.long q4), (.long q3), (.int 5), (.int p1)])) rfl (by rw [hml]; rfl) (argsL := [(.int p1), (.int 5), (.long q3), (.long q4)]) (rest := []) (lenOf pd_1 rfl) rfl (by show 2 * 0 + _ ≤ _; exact Nat.le_of_eq rfl) (hb hby at_42) (fun _ _ => ⟨rfl, e3, (by decide : 0 + 0 ≤ _), (by decide : 0 + 0 ≤ _)⟩)
    dsimp only [Pt.U, Pt.locs, Pt.cells, Pt.slots] at X4 l4 y4 z4 st4 hQ4
    subst l4 y4 z4
    obtain ⟨rfl, N4q, e4⟩ := hQ4
    have N4 := Fr.app N3 N4q
    refine og st4 ?_
    show oF p e below _ (T4.setTop (mkF m 45 #[iv p1, iv p2, jv q3, .second, jv q4, .second, jv q5, .second, iv 1, jv W0, .second, jv W1, .second, jv W2, .second, .unset, .unset, .unset, .unset, .unset, .unset, .unset, .unset, .unset, .unset, .unset] [(.long (own_pk_5 p1 (5 : Int32) q3 q4))]))
    obtain ⟨W3, h_W3⟩ : ∃ z : Int64, z = (own_pk_5 p1 (5 : Int32) q3 q4) := ⟨_, rfl⟩
    rw [← h_W3]
    show oF p e below _ (T4.setTop (mkF m 45 #[iv p1, iv p2, jv q3, .second, jv q4, .second, jv q5, .second, iv 1, jv W0, .second, jv W1, .second, jv W2, .second, .unset, .unset, .unset, .unset, .unset, .unset, .unset, .unset, .unset, .unset, .unset] [(.long W3)]))
    refine og (fun t k => XS.lstore X4.here hx rfl (hb hby at_45) rfl (l' := #[iv p1, iv p2, jv q3, .second, jv q4, .second, jv q5, .second, iv 1, jv W0, .second, jv W1, .second, jv W2, .second, jv W3, .second, .unset, .unset, .unset, .unset, .unset, .unset, .unset, .unset, .unset]) rfl (XS.iconst X4.here hx rfl (hb hby at_47) k)) ?_
    show oF p e below _ (T4.setTop (mkF m 48 #[iv p1, iv p2, jv q3, .second, jv q4, .second, jv q5, .second, iv 1, jv W0, .second, jv W1, .second, jv W2, .second, jv W3, .second, .unset, .unset, .unset, .unset, .unset, .unset, .unset, .unset, .unset] [(.int 4)]))
    obtain ⟨T5, h5, k5, X5, e5, E5, A5, st5⟩ := newP (aty := .long) X4 hx hZ hw_4 e4 (g := (mkF m 48 #[iv p1, iv p2, jv q3, .second, jv q4, .second, jv q5, .second, iv 1, jv W0, .second, jv W1, .second, jv W2, .second, jv W3, .second, .unset, .unset, .unset, .unset, .unset, .unset, .unset, .unset, .unset] [(.int 4)])) rfl (hb hby at_48) rfl (by decide) (cap := 4) (by decide) (by decide) (by decide) (by decide)
    obtain ⟨b5, g5⟩ : ∃ z, z = h0.size := ⟨_, rfl⟩
    rw [← g5] at A5 st5
    have g_b5 : n0 ≤ b5 := Nat.le_trans Z0 (Nat.le_of_eq g5.symm)
    have Zh6 : n0 ≤ h5.size := Nat.le_trans Z0 E5.1
    have V5 : Arv Z h5 b5 k5 .long (4 : Int32) [(.long (0 : Int64)), (.long (0 : Int64)), (.long (0 : Int64)), (.long (0 : Int64))] (.long (0 : Int64)) := (Arv.new A5 (by decide)).pad (pad_rep [] (.long (0 : Int64)) 4)
    refine og st5 ?_
    show oF p e below _ (T5.setTop (mkF m 50 #[iv p1, iv p2, jv q3, .second, jv q4, .second, jv q5, .second, iv 1, jv W0, .second, jv W1, .second, jv W2, .second, jv W3, .second, .unset, .unset, .unset, .unset, .unset, .unset, .unset, .unset, .unset] [(.ref b5)]))
    refine og (fun t k => XS.dup X5.here hx rfl (hb hby at_50) rfl rfl (XS.iconst X5.here hx rfl (hb hby at_51) (XS.lload X5.here hx rfl (hb hby at_52) rfl k))) ?_
    show oF p e below _ (T5.setTop (mkF m 54 #[iv p1, iv p2, jv q3, .second, jv q4, .second, jv q5, .second, iv 1, jv W0, .second, jv W1, .second, jv W2, .second, jv W3, .second, .unset, .unset, .unset, .unset, .unset, .unset, .unset, .unset, .unset] [(.long W0), (.int 0), (.ref b5), (.ref b5)]))
    obtain ⟨cl7, Ar7, q7, S7, M7, H7, G7⟩ := (id V5)
    have hin7 : ¬ ((0 : Int32) < 0 ∨ cl7.slots.size ≤ ((0 : Int32)).toNatClampNeg) := inb_of S7 ⟨by decide, by decide⟩
    obtain ⟨T7, h7, X7, e7, W7, st7⟩ := stJ X5 hx hZ e5 Ar7 (j := (0 : Int32)) hin7 (g := (mkF m 54 #[iv p1, iv p2, jv q3, .second, jv q4, .second, jv q5, .second, iv 1, jv W0, .second, jv W1, .second, jv W2, .second, jv W3, .second, .unset, .unset, .unset, .unset, .unset, .unset, .unset, .unset, .unset] [(.long W0), (.int 0), (.ref b5), (.ref b5)])) rfl rfl (hb hby at_54)
    have V7 := Arv.set Ar7 q7 S7 M7 H7 G7 rfl W7 0 rfl (Nat.le_of_ble_eq_true rfl)
    have f9 : Arv Z h7 b5 k5 .long (4 : Int32) [(.long W0), (.long (0 : Int64)), (.long (0 : Int64)), (.long (0 : Int64))] (.long (0 : Int64)) := V7
    have Zh10 : n0 ≤ h7.size := Nat.le_trans Zh6 (Nat.le_of_eq W7.size.symm)
    have N7 := Fr.snoc X7 N4 g_b5
    refine og st7 ?_
    show oF p e below _ (T7.setTop (mkF m 55 #[iv p1, iv p2, jv q3, .second, jv q4, .second, jv q5, .second, iv 1, jv W0, .second, jv W1, .second, jv W2, .second, jv W3, .second, .unset, .unset, .unset, .unset, .unset, .unset, .unset, .unset, .unset] [(.ref b5)]))
    refine og (fun t k => XS.dup X7.here hx rfl (hb hby at_55) rfl rfl (XS.iconst X7.here hx rfl (hb hby at_56) (XS.lload X7.here hx rfl (hb hby at_57) rfl k))) ?_
    show oF p e below _ (T7.setTop (mkF m 59 #[iv p1, iv p2, jv q3, .second, jv q4, .second, jv q5, .second, iv 1, jv W0, .second, jv W1, .second, jv W2, .second, jv W3, .second, .unset, .unset, .unset, .unset, .unset, .unset, .unset, .unset, .unset] [(.long W1), (.int 1), (.ref b5), (.ref b5)]))
    obtain ⟨cl11, Ar11, q11, S11, M11, H11, G11⟩ := (id f9)
    have hin11 : ¬ ((1 : Int32) < 0 ∨ cl11.slots.size ≤ ((1 : Int32)).toNatClampNeg) := inb_of S11 ⟨by decide, by decide⟩
    obtain ⟨T11, h11, X11, e11, W11, st11⟩ := stJ X7 hx hZ e7 Ar11 (j := (1 : Int32)) hin11 (g := (mkF m 59 #[iv p1, iv p2, jv q3, .second, jv q4, .second, jv q5, .second, iv 1, jv W0, .second, jv W1, .second, jv W2, .second, jv W3, .second, .unset, .unset, .unset, .unset, .unset, .unset, .unset, .unset, .unset] [(.long W1), (.int 1), (.ref b5), (.ref b5)])) rfl rfl (hb hby at_59)
    have V11 := Arv.set Ar11 q11 S11 M11 H11 G11 rfl W11 1 rfl (Nat.le_of_ble_eq_true rfl)
    have f13 : Arv Z h11 b5 k5 .long (4 : Int32) [(.long W0), (.long W1), (.long (0 : Int64)), (.long (0 : Int64))] (.long (0 : Int64)) := V11
    have Zh14 : n0 ≤ h11.size := Nat.le_trans Zh10 (Nat.le_of_eq W11.size.symm)
    have N11 := Fr.snoc X11 N7 g_b5
    refine og st11 ?_
    show oF p e below _ (T11.setTop (mkF m 60 #[iv p1, iv p2, jv q3, .second, jv q4, .second, jv q5, .second, iv 1, jv W0, .second, jv W1, .second, jv W2, .second, jv W3, .second, .unset, .unset, .unset, .unset, .unset, .unset, .unset, .unset, .unset] [(.ref b5)]))
    refine og (fun t k => XS.dup X11.here hx rfl (hb hby at_60) rfl rfl (XS.iconst X11.here hx rfl (hb hby at_61) (XS.lload X11.here hx rfl (hb hby at_62) rfl k))) ?_
    show oF p e below _ (T11.setTop (mkF m 64 #[iv p1, iv p2, jv q3, .second, jv q4, .second, jv q5, .second, iv 1, jv W0, .second, jv W1, .second, jv W2, .second, jv W3, .second, .unset, .unset, .unset, .unset, .unset, .unset, .unset, .unset, .unset] [(.long W2), (.int 2), (.ref b5), (.ref b5)]))
    obtain ⟨cl15, Ar15, q15, S15, M15, H15, G15⟩ := (id f13)
    have hin15 : ¬ ((2 : Int32) < 0 ∨ cl15.slots.size ≤ ((2 : Int32)).toNatClampNeg) := inb_of S15 ⟨by decide, by decide⟩
    obtain ⟨T15, h15, X15, e15, W15, st15⟩ := stJ X11 hx hZ e11 Ar15 (j := (2 : Int32)) hin15 (g := (mkF m 64 #[iv p1, iv p2, jv q3, .second, jv q4, .second, jv q5, .second, iv 1, jv W0, .second, jv W1, .second, jv W2, .second, jv W3, .second, .unset, .unset, .unset, .unset, .unset, .unset, .unset, .unset, .unset] [(.long W2), (.int 2), (.ref b5), (.ref b5)])) rfl rfl (hb hby at_64)
    have V15 := Arv.set Ar15 q15 S15 M15 H15 G15 rfl W15 2 rfl (Nat.le_of_ble_eq_true rfl)
    have f17 : Arv Z h15 b5 k5 .long (4 : Int32) [(.long W0), (.long W1), (.long W2), (.long (0 : Int64))] (.long (0 : Int64)) := V15
    have Zh18 : n0 ≤ h15.size := Nat.le_trans Zh14 (Nat.le_of_eq W15.size.symm)
    have N15 := Fr.snoc X15 N11 g_b5
    refine og st15 ?_
    show oF p e below _ (T15.setTop (mkF m 65 #[iv p1, iv p2, jv q3, .second, jv q4, .second, jv q5, .second, iv 1, jv W0, .second, jv W1, .second, jv W2, .second, jv W3, .second, .unset, .unset, .unset, .unset, .unset, .unset, .unset, .unset, .unset] [(.ref b5)]))
    refine og (fun t k => XS.dup X15.here hx rfl (hb hby at_65) rfl rfl (XS.iconst X15.here hx rfl (hb hby at_66) (XS.lload X15.here hx rfl (hb hby at_67) rfl k))) ?_
    show oF p e below _ (T15.setTop (mkF m 69 #[iv p1, iv p2, jv q3, .second, jv q4, .second, jv q5, .second, iv 1, jv W0, .second, jv W1, .second, jv W2, .second, jv W3, .second, .unset, .unset, .unset, .unset, .unset, .unset, .unset, .unset, .unset] [(.long W3), (.int 3), (.ref b5), (.ref b5)]))
    obtain ⟨cl19, Ar19, q19, S19, M19, H19, G19⟩ := (id f17)
    have hin19 : ¬ ((3 : Int32) < 0 ∨ cl19.slots.size ≤ ((3 : Int32)).toNatClampNeg) := inb_of S19 ⟨by decide, by decide⟩
    obtain ⟨T19, h19, X19, e19, W19, st19⟩ := stJ X15 hx hZ e15 Ar19 (j := (3 : Int32)) hin19 (g := (mkF m 69 #[iv p1, iv p2, jv q3, .second, jv q4, .second, jv q5, .second, iv 1, jv W0, .second, jv W1, .second, jv W2, .second, jv W3, .second, .unset, .unset, .unset, .unset, .unset, .unset, .unset, .unset, .unset] [(.long W3), (.int 3), (.ref b5), (.ref b5)])) rfl rfl (hb hby at_69)
    have V19 := Arv.set Ar19 q19 S19 M19 H19 G19 rfl W19 3 rfl (Nat.le_of_ble_eq_true rfl)
    have f21 : Arv Z h19 b5 k5 .long (4 : Int32) [(.long W0), (.long W1), (.long W2), (.long W3)] (.long (0 : Int64)) := V19
    have Zh22 : n0 ≤ h19.size := Nat.le_trans Zh18 (Nat.le_of_eq W19.size.symm)
    have N19 := Fr.snoc X19 N15 g_b5
    refine og st19 ?_
    show oF p e below _ (T19.setTop (mkF m 70 #[iv p1, iv p2, jv q3, .second, jv q4, .second, jv q5, .second, iv 1, jv W0, .second, jv W1, .second, jv W2, .second, jv W3, .second, .unset, .unset, .unset, .unset, .unset, .unset, .unset, .unset, .unset] [(.ref b5)]))
    refine og (fun t k => XS.astore X19.here hx rfl (hb hby at_70) rfl rfl (l' := #[iv p1, iv p2, jv q3, .second, jv q4, .second, jv q5, .second, iv 1, jv W0, .second, jv W1, .second, jv W2, .second, jv W3, .second, rv b5, .unset, .unset, .unset, .unset, .unset, .unset, .unset, .unset]) rfl (XS.iload X19.here hx rfl (hb hby at_72) rfl (XS.iconst X19.here hx rfl (hb hby at_74) k))) ?_
    show oF p e below _ (T19.setTop (mkF m 75 #[iv p1, iv p2, jv q3, .second, jv q4, .second, jv q5, .second, iv 1, jv W0, .second, jv W1, .second, jv W2, .second, jv W3, .second, rv b5, .unset, .unset, .unset, .unset, .unset, .unset, .unset, .unset] [(.int 1), (.int 1)]))
    refine og (fun t k => XS.icmpNo X19.here hx rfl (hb hby at_75) rfl (teq (by decide : (1 : Int32) = (1 : Int32))).2 (XS.iconst X19.here hx rfl (hb hby at_78) k)) ?_
    show oF p e below _ (T19.setTop (mkF m 79 #[iv p1, iv p2, jv q3, .second, jv q4, .second, jv q5, .second, iv 1, jv W0, .second, jv W1, .second, jv W2, .second, jv W3, .second, rv b5, .unset, .unset, .unset, .unset, .unset, .unset, .unset, .unset] [(.int 1)]))
    obtain ⟨T23, h23, k23, X23, e23, E23, A23, st23⟩ := newP (aty := .long) X19 hx hZ hw_4 e19 (g := (mkF m 79 #[iv p1, iv p2, jv q3, .second, jv q4, .second, jv q5, .second, iv 1, jv W0, .second, jv W1, .second, jv W2, .second, jv W3, .second, rv b5, .unset, .unset, .unset, .unset, .unset, .unset, .unset, .unset] [(.int 1)])) rfl (hb hby at_79) rfl (by decide) (cap := 1) (by decide) (by decide) (by decide) (by decide)
    obtain ⟨b23, g23⟩ : ∃ z, z = h19.size := ⟨_, rfl⟩
    rw [← g23] at A23 st23
    have g_b23 : n0 ≤ b23 := Nat.le_trans Zh22 (Nat.le_of_eq g23.symm)
    have ne24 : b5 ≠ b23 := Nat.ne_of_lt (Nat.lt_of_lt_of_le f21.lt (Nat.le_of_eq g23.symm))
    have f25 := f21.ext E23
    have Zh26 : n0 ≤ h23.size := Nat.le_trans Zh22 E23.1
    have V23 : Arv Z h23 b23 k23 .long (1 : Int32) [(.long (0 : Int64))] (.long (0 : Int64)) := (Arv.new A23 (by decide)).pad (pad_rep [] (.long (0 : Int64)) 1)
    refine og st23 ?_
    show oF p e below _ (T23.setTop (mkF m 81 #[iv p1, iv p2, jv q3, .second, jv q4, .second, jv q5, .second, iv 1, jv W0, .second, jv W1, .second, jv W2, .second, jv W3, .second, rv b5, .unset, .unset, .unset, .unset, .unset, .unset, .unset, .unset] [(.ref b23)]))
    refine og (fun t k => XS.dup X23.here hx rfl (hb hby at_81) rfl rfl (XS.iconst X23.here hx rfl (hb hby at_82) (XS.lload X23.here hx rfl (hb hby at_83) rfl k))) ?_
    show oF p e below _ (T23.setTop (mkF m 85 #[iv p1, iv p2, jv q3, .second, jv q4, .second, jv q5, .second, iv 1, jv W0, .second, jv W1, .second, jv W2, .second, jv W3, .second, rv b5, .unset, .unset, .unset, .unset, .unset, .unset, .unset, .unset] [(.long W0), (.int 0), (.ref b23), (.ref b23)]))
    obtain ⟨cl27, Ar27, q27, S27, M27, H27, G27⟩ := (id V23)
    have hin27 : ¬ ((0 : Int32) < 0 ∨ cl27.slots.size ≤ ((0 : Int32)).toNatClampNeg) := inb_of S27 ⟨by decide, by decide⟩
    obtain ⟨T27, h27, X27, e27, W27, st27⟩ := stJ X23 hx hZ e23 Ar27 (j := (0 : Int32)) hin27 (g := (mkF m 85 #[iv p1, iv p2, jv q3, .second, jv q4, .second, jv q5, .second, iv 1, jv W0, .second, jv W1, .second, jv W2, .second, jv W3, .second, rv b5, .unset, .unset, .unset, .unset, .unset, .unset, .unset, .unset] [(.long W0), (.int 0), (.ref b23), (.ref b23)])) rfl rfl (hb hby at_85)
    have f28 := f25.other W27 ne24
    have V27 := Arv.set Ar27 q27 S27 M27 H27 G27 rfl W27 0 rfl (Nat.le_of_ble_eq_true rfl)
    have f30 : Arv Z h27 b23 k23 .long (1 : Int32) [(.long W0)] (.long (0 : Int64)) := V27
    have Zh31 : n0 ≤ h27.size := Nat.le_trans Zh26 (Nat.le_of_eq W27.size.symm)
    have N27 := Fr.snoc X27 N19 g_b23
    refine og st27 ?_
    show oF p e below _ (T27.setTop (mkF m 86 #[iv p1, iv p2, jv q3, .second, jv q4, .second, jv q5, .second, iv 1, jv W0, .second, jv W1, .second, jv W2, .second, jv W3, .second, rv b5, .unset, .unset, .unset, .unset, .unset, .unset, .unset, .unset] [(.ref b23)]))
    refine og (fun t k => XS.astore X27.here hx rfl (hb hby at_86) rfl rfl (l' := #[iv p1, iv p2, jv q3, .second, jv q4, .second, jv q5, .second, iv 1, jv W0, .second, jv W1, .second, jv W2, .second, jv W3, .second, rv b5, rv b23, .unset, .unset, .unset, .unset, .unset, .unset, .unset]) rfl (XS.goto X27.here hx rfl (pc0 := 88) (pc' := 169) rfl (hb hby at_88) (by decide) (by decide) k)) ?_
    show oF p e below _ (T27.setTop (mkF m 169 #[iv p1, iv p2, jv q3, .second, jv q4, .second, jv q5, .second, iv 1, jv W0, .second, jv W1, .second, jv W2, .second, jv W3, .second, rv b5, rv b23, .unset, .unset, .unset, .unset, .unset, .unset, .unset] []))
    obtain ⟨T32, h32, X32, e32, E32, A32, D32, -, st32⟩ := newO X27 hx hZ hown hw_5 hw_6 hw_7 e27 (g := (mkF m 169 #[iv p1, iv p2, jv q3, .second, jv q4, .second, jv q5, .second, iv 1, jv W0, .second, jv W1, .second, jv W2, .second, jv W3, .second, rv b5, rv b23, .unset, .unset, .unset, .unset, .unset, .unset, .unset] [])) rfl (hb hby at_169) (by decide) (by decide)
    obtain ⟨b32, g32⟩ : ∃ z, z = h27.size := ⟨_, rfl⟩
    rw [← g32] at A32 D32 st32
    have g_b32 : n0 ≤ b32 := Nat.le_trans Zh31 (Nat.le_of_eq g32.symm)
    have ne33 : b5 ≠ b32 := Nat.ne_of_lt (Nat.lt_of_lt_of_le f28.lt (Nat.le_of_eq g32.symm))
    have ne34 : b23 ≠ b32 := Nat.ne_of_lt (Nat.lt_of_lt_of_le f30.lt (Nat.le_of_eq g32.symm))
    have f35 := f28.ext E32
    have f36 := f30.ext E32
    have Zh37 : n0 ≤ h32.size := Nat.le_trans Zh31 E32.1
    have f38 : Fld Z h32 b32 "com/example/sound_verdict/soundverdict/UnitSearch" "wanted" "[J" .null := D32 (Or.inr hw_18) (ty := (.array .long)) (by decide)
    have f39 : Fld Z h32 b32 "com/example/sound_verdict/soundverdict/UnitSearch" "lead" "Ljava/lang/String;" .null := D32 (Or.inr hw_20) (ty := (.object "java/lang/String")) (by decide)
    have f40 : Fld Z h32 b32 "com/example/sound_verdict/soundverdict/UnitSearch" "border" "[I" .null := D32 (Or.inr hw_23) (ty := (.array .int)) (by decide)
    refine og st32 ?_
    show oF p e below _ (T32.setTop (mkF m 172 #[iv p1, iv p2, jv q3, .second, jv q4, .second, jv q5, .second, iv 1, jv W0, .second, jv W1, .second, jv W2, .second, jv W3, .second, rv b5, rv b23, .unset, .unset, .unset, .unset, .unset, .unset, .unset] [(.ref b32)]))
    refine og (fun t k => XS.dup X32.here hx rfl (hb hby at_172) rfl rfl (XS.aload X32.here hx rfl (hb hby at_173) rfl rfl k)) ?_
    show oF p e below _ (T32.setTop (mkF m 175 #[iv p1, iv p2, jv q3, .second, jv q4, .second, jv q5, .second, iv 1, jv W0, .second, jv W1, .second, jv W2, .second, jv W3, .second, rv b5, rv b23, .unset, .unset, .unset, .unset, .unset, .unset, .unset] [(.ref b23), (.ref b32), (.ref b32)]))
    obtain ⟨_, _, ⟨T41, L41, k41, n41⟩, -, X41, ⟨Lc41, hQ41, l41, y41, z41⟩, st41⟩ := X32.specialBack hx (y := mn_2) rfl hown (mvT hZ hw_8) (mvT hZ hw_9) (mvT hZ hw_10) (by decide) (backOf (W := 1) (rm2n1 l Z a0 hw [] (b32) (b23) k23 W0 h32 n0 Zh37 f38 f40 f39 A32 g_b32 (Ne.symm ne34) f36) hZ hw_10 hw_7 (by decide) (by decide)) (g := (mkF m 175 #[iv p1, iv p2, jv q3, .second, jv q4, .second, jv q5, .second, iv 1, jv W0, .second, jv W1, .second, jv W2, .second, jv W3, .second, rv b5, rv b23, .unset, .unset, .unset, .unset, .unset, .unset, .unset] [(.ref b23), (.ref b32), (.ref b32)])) rfl (by rw [hml]; rfl) (Steps.refl _) (a := b32) (argsL := [(.ref b23)]) (rest := [(.ref b32)]) (lenOf pd_2 rfl) rfl (by show 2 * 0 + _ ≤ _; exact Nat.le_of_eq rfl) (hb hby at_175) (fun _ _ => ⟨rfl, e32, (by decide : 3 + 1 ≤ _), (by decide : 8 + 1 ≤ _)⟩)
    dsimp only [Pt.U, Pt.locs, Pt.cells, Pt.slots] at X41 l41 y41 z41 st41 hQ41
    subst l41 y41 z41
    obtain ⟨rfl, N41q, K41, xe41, xw41, b41, kb41, sz41, xb41, V41⟩ := hQ41
    have N41 := Fr.app N27 N41q
    have g_b41 : n0 ≤ b41 := Nat.le_trans Zh37 sz41
    have ne42 : b5 ≠ b41 := Nat.ne_of_lt (Nat.lt_of_lt_of_le f35.lt sz41)
    have ne43 : b23 ≠ b41 := Nat.ne_of_lt (Nat.lt_of_lt_of_le f36.lt sz41)
    have ne44 : b32 ≠ b41 := Nat.ne_of_lt (Nat.lt_of_lt_of_le A32.lt sz41)
    have f45 := f35.keep K41 (ninS ne33 nin0)
    have f46 := f36.keep K41 (ninS ne34 nin0)
    have Zh50 : n0 ≤ T41.heap.size := Nat.le_trans Zh37 K41.1
    refine og (fun t k => st41.trans k) ?_
    show oF p e below _ (T41.setTop (mkF m 178 #[iv p1, iv p2, jv q3, .second, jv q4, .second, jv q5, .second, iv 1, jv W0, .second, jv W1, .second, jv W2, .second, jv W3, .second, rv b5, rv b23, .unset, .unset, .unset, .unset, .unset, .unset, .unset] [(.ref b32)]))
    refine og (fun t k => XS.astore X41.here hx rfl (hb hby at_178) rfl rfl (l' := #[iv p1, iv p2, jv q3, .second, jv q4, .second, jv q5, .second, iv 1, jv W0, .second, jv W1, .second, jv W2, .second, jv W3, .second, rv b5, rv b23, rv b32, .unset, .unset, .unset, .unset, .unset, .unset]) rfl (XS.iloadN X41.here hx rfl (hb hby at_180) rfl k)) ?_
    show oF p e below _ (T41.setTop (mkF m 181 #[iv p1, iv p2, jv q3, .second, jv q4, .second, jv q5, .second, iv 1, jv W0, .second, jv W1, .second, jv W2, .second, jv W3, .second, rv b5, rv b23, rv b32, .unset, .unset, .unset, .unset, .unset, .unset] [(.int p2)]))
    refine og (fun t k => X41.ldcInt hx hown (mvT hZ hw_24) (g := (mkF m 181 #[iv p1, iv p2, jv q3, .second, jv q4, .second, jv q5, .second, iv 1, jv W0, .second, jv W1, .second, jv W2, .second, jv W3, .second, rv b5, rv b23, rv b32, .unset, .unset, .unset, .unset, .unset, .unset] [(.int p2)])) rfl (hb hby at_181) _ (XS.iand X41.here hx rfl (hb hby at_183) rfl (XS.iload X41.here hx rfl (hb hby at_184) rfl (XS.iconst X41.here hx rfl (hb hby at_186) (XS.iadd X41.here hx rfl (hb hby at_187) rfl (iremM X41 hx rfl (hb hby at_188) rfl (by decide) k)))))) ?_
    show oF p e below _ (T41.setTop (mkF m 189 #[iv p1, iv p2, jv q3, .second, jv q4, .second, jv q5, .second, iv 1, jv W0, .second, jv W1, .second, jv W2, .second, jv W3, .second, rv b5, rv b23, rv b32, .unset, .unset, .unset, .unset, .unset, .unset] [(.int ((p2 &&& (2147483647 : Int32)) % (2 : Int32)))]))
    obtain ⟨mm, h_mm⟩ : ∃ z : Int32, z = ((p2 &&& (2147483647 : Int32)) % (2 : Int32)) := ⟨_, rfl⟩
    rw [← h_mm]
    show oF p e below _ (T41.setTop (mkF m 189 #[iv p1, iv p2, jv q3, .second, jv q4, .second, jv q5, .second, iv 1, jv W0, .second, jv W1, .second, jv W2, .second, jv W3, .second, rv b5, rv b23, rv b32, .unset, .unset, .unset, .unset, .unset, .unset] [(.int mm)]))
    have hM := own_rem1 p2 h_mm
    refine og (fun t k => XS.istore X41.here hx rfl (hb hby at_189) rfl (l' := #[iv p1, iv p2, jv q3, .second, jv q4, .second, jv q5, .second, iv 1, jv W0, .second, jv W1, .second, jv W2, .second, jv W3, .second, rv b5, rv b23, rv b32, iv mm, .unset, .unset, .unset, .unset, .unset]) rfl (XS.iloadN X41.here hx rfl (hb hby at_191) rfl (XS.bipush X41.here hx rfl (hb hby at_192) (XS.iushr X41.here hx rfl (hb hby at_194) rfl (XS.iconst X41.here hx rfl (hb hby at_195) (XS.iand X41.here hx rfl (hb hby at_196) rfl (XS.istore X41.here hx rfl (hb hby at_197) rfl (l' := #[iv p1, iv p2, jv q3, .second, jv q4, .second, jv q5, .second, iv 1, jv W0, .second, jv W1, .second, jv W2, .second, jv W3, .second, rv b5, rv b23, rv b32, iv mm, iv (((p1.toUInt32 >>> ((6 : Int32) &&& 31).toUInt32).toInt32) &&& (3 : Int32)), .unset, .unset, .unset, .unset]) rfl k))))))) ?_
    show oF p e below _ (T41.setTop (mkF m 199 #[iv p1, iv p2, jv q3, .second, jv q4, .second, jv q5, .second, iv 1, jv W0, .second, jv W1, .second, jv W2, .second, jv W3, .second, rv b5, rv b23, rv b32, iv mm, iv (((p1.toUInt32 >>> ((6 : Int32) &&& 31).toUInt32).toInt32) &&& (3 : Int32)), .unset, .unset, .unset, .unset] []))
    have Jn51 : ∀ (uu : Int64), oF p e below (own_A s room_1.cells room_1.slots (own_q0 Z p1 p2 q3 q4 q5 h0 n0)) (T41.setTop (mkF m 221 #[iv p1, iv p2, jv q3, .second, jv q4, .second, jv q5, .second, iv 1, jv W0, .second, jv W1, .second, jv W2, .second, jv W3, .second, rv b5, rv b23, rv b32, iv mm, iv (((p1.toUInt32 >>> ((6 : Int32) &&& 31).toUInt32).toInt32) &&& (3 : Int32)), .unset, .unset, .unset, .unset] [(.long uu)])) := by
      intro uu
      refine og (fun t k => XS.lstore X41.here hx rfl (hb hby at_221) rfl (l' := #[iv p1, iv p2, jv q3, .second, jv q4, .second, jv q5, .second, iv 1, jv W0, .second, jv W1, .second, jv W2, .second, jv W3, .second, rv b5, rv b23, rv b32, iv mm, iv (((p1.toUInt32 >>> ((6 : Int32) &&& 31).toUInt32).toInt32) &&& (3 : Int32)), jv uu, .second, .unset, .unset]) rfl (XS.aload X41.here hx rfl (hb hby at_223) rfl rfl (XS.iload X41.here hx rfl (hb hby at_225) rfl (XS.lload X41.here hx rfl (hb hby at_227) rfl k)))) ?_
      show oF p e below _ (T41.setTop (mkF m 229 #[iv p1, iv p2, jv q3, .second, jv q4, .second, jv q5, .second, iv 1, jv W0, .second, jv W1, .second, jv W2, .second, jv W3, .second, rv b5, rv b23, rv b32, iv mm, iv (((p1.toUInt32 >>> ((6 : Int32) &&& 31).toUInt32).toInt32) &&& (3 : Int32)), jv uu, .second, .unset, .unset] [(.long uu), (.int mm), (.ref b32)]))
      obtain ⟨cq52, kq52, q52a, q52b, q52c⟩ := isOf hZ rfl xe41
      obtain ⟨_, _, ⟨T52, L52, k52, n52⟩, -, X52, ⟨Lc52, hQ52, l52, y52, z52⟩, st52⟩ := X41.virtualBack hx (y := mn_3) (z := mn_3) hown (mvT hZ hw_25) (mvT hZ hw_26) (notFace_of_selects (args := #[]) (mvT hZ hw_28)) (mvT hZ hw_28) (mvT hZ hw_27) (by decide) (backOf (W := 0) (rm5u1 l Z a0 hw [] (b32) (mm) (uu) b23 b41 k23 kb41 W0 (0 : Int32) T41.heap n0 Zh50 xw41 xb41 f46 V41 own_h0 hM) hZ hw_29 hw_7 (by decide) (by decide)) q52a q52c (g := (mkF m 229 #[iv p1, iv p2, jv q3, .second, jv q4, .second, jv q5, .second, iv 1, jv W0, .second, jv W1, .second, jv W2, .second, jv W3, .second, rv b5, rv b23, rv b32, iv mm, iv (((p1.toUInt32 >>> ((6 : Int32) &&& 31).toUInt32).toInt32) &&& (3 : Int32)), jv uu, .second, .unset, .unset] [(.long uu), (.int mm), (.ref b32)])) rfl (by rw [hml]; rfl) (Steps.refl _) (argsL := [(.int mm), (.long uu)]) (rest := []) (lenOf pd_3 rfl) rfl (by show 2 * 0 + _ ≤ _; exact Nat.le_of_eq rfl) (hb hby at_229) (fun _ _ => ⟨rfl, rfl, (by decide : 4 + 0 ≤ _), (by decide : 9 + 0 ≤ _)⟩)
      dsimp only [Pt.U, Pt.locs, Pt.cells, Pt.slots] at X52 l52 y52 z52 st52 hQ52
      subst l52 y52 z52
      obtain ⟨rfl, N52q, e52⟩ := hQ52
      have N52 := Fr.app N41 N52q
      refine og (fun t k => st52.trans k) ?_
      show oF p e below _ (T52.setTop (mkF m 232 #[iv p1, iv p2, jv q3, .second, jv q4, .second, jv q5, .second, iv 1, jv W0, .second, jv W1, .second, jv W2, .second, jv W3, .second, rv b5, rv b23, rv b32, iv mm, iv (((p1.toUInt32 >>> ((6 : Int32) &&& 31).toUInt32).toInt32) &&& (3 : Int32)), jv uu, .second, .unset, .unset] [(.int (own_g1 mm W0 (0 : Int32) uu))]))
      refine og (fun t k => XS.istore X52.here hx rfl (hb hby at_232) rfl (l' := #[iv p1, iv p2, jv q3, .second, jv q4, .second, jv q5, .second, iv 1, jv W0, .second, jv W1, .second, jv W2, .second, jv W3, .second, rv b5, rv b23, rv b32, iv mm, iv (((p1.toUInt32 >>> ((6 : Int32) &&& 31).toUInt32).toInt32) &&& (3 : Int32)), jv uu, .second, iv (own_g1 mm W0 (0 : Int32) uu), .unset]) rfl (XS.aload X52.here hx rfl (hb hby at_234) rfl rfl (XS.iload X52.here hx rfl (hb hby at_236) rfl (XS.iload X52.here hx rfl (hb hby at_238) rfl (XS.lload X52.here hx rfl (hb hby at_240) rfl (XS.iconst X52.here hx rfl (hb hby at_242) k)))))) ?_
      show oF p e below _ (T52.setTop (mkF m 243 #[iv p1, iv p2, jv q3, .second, jv q4, .second, jv q5, .second, iv 1, jv W0, .second, jv W1, .second, jv W2, .second, jv W3, .second, rv b5, rv b23, rv b32, iv mm, iv (((p1.toUInt32 >>> ((6 : Int32) &&& 31).toUInt32).toInt32) &&& (3 : Int32)), jv uu, .second, iv (own_g1 mm W0 (0 : Int32) uu), .unset] [(.int 4), (.long uu), (.int mm), (.int 1), (.ref b5)]))
      obtain ⟨_, _, ⟨T53, L53, k53, n53⟩, -, X53, ⟨Lc53, hQ53, l53, y53, z53⟩, st53⟩ := Jvm.LawKit.callS X52 hx (y := mn_4) hown (mvT hZ hw_30) (mvT hZ hw_31) (mvT hZ hw_2) (mvT hZ hw_32) (by decide) (backOf (W := 0) (rm6u4 l Z a0 hw [] (b5) ((1 : Int32)) (mm) (uu) k5 W0 W1 W2 W3 T41.heap n0 Zh50 f45 (own_hm1 hM)) hZ hw_32 hw_2 (by decide) (by decide)) (g := (mkF m 243 #[iv p1, iv p2, jv q3, .second, jv q4, .second, jv q5, .second, iv 1, jv W0, .second, jv W1, .second, jv W2, .second, jv W3, .second, rv b5, rv b23, rv b32, iv mm, iv (((p1.toUInt32 >>> ((6 : Int32) &&& 31).toUInt32).toInt32) &&& (3 : Int32)), jv uu, .second, iv (own_g1 mm W0 (0 : Int32) uu), .unset] [(.int 4), (.long uu), (.int mm), (.int 1), (.ref b5)])) rfl (by rw [hml]; rfl) (argsL := [(.ref b5), (.int 1), (.int mm), (.long uu), (.int 4)]) (rest := []) (lenOf pd_4 rfl) rfl (by show 2 * 0 + _ ≤ _; exact Nat.le_of_eq rfl) (hb hby at_243) (fun _ _ => ⟨rfl, e52, (by decide : 4 + 0 ≤ _), (by decide : 9 + 0 ≤ _)⟩)
      dsimp only [Pt.U, Pt.locs, Pt.cells, Pt.slots] at X53 l53 y53 z53 st53 hQ53
      subst l53 y53 z53
      obtain ⟨rfl, N53q, e53⟩ := hQ53
      have N53 := Fr.app N52 N53q
      refine og st53 ?_
      show oF p e below _ (T53.setTop (mkF m 246 #[iv p1, iv p2, jv q3, .second, jv q4, .second, jv q5, .second, iv 1, jv W0, .second, jv W1, .second, jv W2, .second, jv W3, .second, rv b5, rv b23, rv b32, iv mm, iv (((p1.toUInt32 >>> ((6 : Int32) &&& 31).toUInt32).toInt32) &&& (3 : Int32)), jv uu, .second, iv (own_g1 mm W0 (0 : Int32) uu), .unset] [(.int (own_sf4 b5 (1 : Int32) mm uu W0 W1 W2 W3))]))
      by_cases hc54 : (own_sf4 b5 (1 : Int32) mm uu W0 W1 W2 W3) = (0 : Int32)
      · skip
        refine og (fun t k => XS.ifYes X53.here hx rfl (pc0 := 246) (pc' := 255) rfl (hb hby at_246) rfl ((if0 _ _).trans (teq hc54).1) (by decide) (by decide) (XS.aload X53.here hx rfl (hb hby at_255) rfl rfl (XS.iload X53.here hx rfl (hb hby at_257) rfl (XS.iload X53.here hx rfl (hb hby at_259) rfl (XS.lload X53.here hx rfl (hb hby at_261) rfl (XS.iconst X53.here hx rfl (hb hby at_263) k)))))) ?_
        show oF p e below _ (T53.setTop (mkF m 264 #[iv p1, iv p2, jv q3, .second, jv q4, .second, jv q5, .second, iv 1, jv W0, .second, jv W1, .second, jv W2, .second, jv W3, .second, rv b5, rv b23, rv b32, iv mm, iv (((p1.toUInt32 >>> ((6 : Int32) &&& 31).toUInt32).toInt32) &&& (3 : Int32)), jv uu, .second, iv (own_g1 mm W0 (0 : Int32) uu), .unset] [(.int 3), (.long uu), (.int mm), (.int 1), (.ref b5)]))
        obtain ⟨_, _, ⟨T55, L55, k55, n55⟩, -, X55, ⟨Lc55, hQ55, l55, y55, z55⟩, st55⟩ := Jvm.LawKit.callS X53 hx (y := mn_4) hown (mvT hZ hw_30) (mvT hZ hw_31) (mvT hZ hw_2) (mvT hZ hw_32) (by decide) (backOf (W := 0) (rm6u3 l Z a0 hw [] (b5) ((1 : Int32)) (mm) (uu) k5 W0 W1 W2 W3 T41.heap n0 Zh50 f45 (own_hm1 hM)) hZ hw_32 hw_2 (by decide) (by decide)) (g := (mkF m 264 #[iv p1, iv p2, jv q3, .second, jv q4, .second, jv q5, .second, iv 1, jv W0, .second, jv W1, .second, jv W2, .second, jv W3, .second, rv b5, rv b23, rv b32, iv mm, iv (((p1.toUInt32 >>> ((6 : Int32) &&& 31).toUInt32).toInt32) &&& (3 : Int32)), jv uu, .second, iv (own_g1 mm W0 (0 : Int32) uu), .unset] [(.int 3), (.long uu), (.int mm), (.int 1), (.ref b5)])) rfl (by rw [hml]; rfl) (argsL := [(.ref b5), (.int 1), (.int mm), (.long uu), (.int 3)]) (rest := []) (lenOf pd_4 rfl) rfl (by show 2 * 0 + _ ≤ _; exact Nat.le_of_eq rfl) (hb hby at_264) (fun _ _ => ⟨rfl, e53, (by decide : 4 + 0 ≤ _), (by decide : 9 + 0 ≤ _)⟩)
        dsimp only [Pt.U, Pt.locs, Pt.cells, Pt.slots] at X55 l55 y55 z55 st55 hQ55
        subst l55 y55 z55
        obtain ⟨rfl, N55q, e55⟩ := hQ55
        have N55 := Fr.app N53 N55q
        refine og st55 ?_
        show oF p e below _ (T55.setTop (mkF m 267 #[iv p1, iv p2, jv q3, .second, jv q4, .second, jv q5, .second, iv 1, jv W0, .second, jv W1, .second, jv W2, .second, jv W3, .second, rv b5, rv b23, rv b32, iv mm, iv (((p1.toUInt32 >>> ((6 : Int32) &&& 31).toUInt32).toInt32) &&& (3 : Int32)), jv uu, .second, iv (own_g1 mm W0 (0 : Int32) uu), .unset] [(.int (own_sf3 b5 (1 : Int32) mm uu W0 W1 W2 W3))]))
        by_cases hc56 : (own_sf3 b5 (1 : Int32) mm uu W0 W1 W2 W3) = (0 : Int32)
        · skip
          refine og (fun t k => XS.ifYes X55.here hx rfl (pc0 := 267) (pc' := 276) rfl (hb hby at_267) rfl ((if0 _ _).trans (teq hc56).1) (by decide) (by decide) (XS.aload X55.here hx rfl (hb hby at_276) rfl rfl (XS.iload X55.here hx rfl (hb hby at_278) rfl (XS.iload X55.here hx rfl (hb hby at_280) rfl (XS.lload X55.here hx rfl (hb hby at_282) rfl (XS.iconst X55.here hx rfl (hb hby at_284) k)))))) ?_
          show oF p e below _ (T55.setTop (mkF m 285 #[iv p1, iv p2, jv q3, .second, jv q4, .second, jv q5, .second, iv 1, jv W0, .second, jv W1, .second, jv W2, .second, jv W3, .second, rv b5, rv b23, rv b32, iv mm, iv (((p1.toUInt32 >>> ((6 : Int32) &&& 31).toUInt32).toInt32) &&& (3 : Int32)), jv uu, .second, iv (own_g1 mm W0 (0 : Int32) uu), .unset] [(.int 2), (.long uu), (.int mm), (.int 1), (.ref b5)]))
          obtain ⟨_, _, ⟨T57, L57, k57, n57⟩, -, X57, ⟨Lc57, hQ57, l57, y57, z57⟩, st57⟩ := Jvm.LawKit.callS X55 hx (y := mn_4) hown (mvT hZ hw_30) (mvT hZ hw_31) (mvT hZ hw_2) (mvT hZ hw_32) (by decide) (backOf (W := 0) (rm6u2 l Z a0 hw [] (b5) ((1 : Int32)) (mm) (uu) k5 W0 W1 W2 W3 T41.heap n0 Zh50 f45 (own_hm1 hM)) hZ hw_32 hw_2 (by decide) (by decide)) (g := (mkF m 285 #[iv p1, iv p2, jv q3, .second, jv q4, .second, jv q5, .second, iv 1, jv W0, .second, jv W1, .second, jv W2, .second, jv W3, .second, rv b5, rv b23, rv b32, iv mm, iv (((p1.toUInt32 >>> ((6 : Int32) &&& 31).toUInt32).toInt32) &&& (3 : Int32)), jv uu, .second, iv (own_g1 mm W0 (0 : Int32) uu), .unset] [(.int 2), (.long uu), (.int mm), (.int 1), (.ref b5)])) rfl (by rw [hml]; rfl) (argsL := [(.ref b5), (.int 1), (.int mm), (.long uu), (.int 2)]) (rest := []) (lenOf pd_4 rfl) rfl (by show 2 * 0 + _ ≤ _; exact Nat.le_of_eq rfl) (hb hby at_285) (fun _ _ => ⟨rfl, e55, (by decide : 4 + 0 ≤ _), (by decide : 9 + 0 ≤ _)⟩)
          dsimp only [Pt.U, Pt.locs, Pt.cells, Pt.slots] at X57 l57 y57 z57 st57 hQ57
          subst l57 y57 z57
          obtain ⟨rfl, N57q, e57⟩ := hQ57
          have N57 := Fr.app N55 N57q
          refine og st57 ?_
          show oF p e below _ (T57.setTop (mkF m 288 #[iv p1, iv p2, jv q3, .second, jv q4, .second, jv q5, .second, iv 1, jv W0, .second, jv W1, .second, jv W2, .second, jv W3, .second, rv b5, rv b23, rv b32, iv mm, iv (((p1.toUInt32 >>> ((6 : Int32) &&& 31).toUInt32).toInt32) &&& (3 : Int32)), jv uu, .second, iv (own_g1 mm W0 (0 : Int32) uu), .unset] [(.int (own_sf2 b5 (1 : Int32) mm uu W0 W1 W2 W3))]))
          by_cases hc58 : (own_sf2 b5 (1 : Int32) mm uu W0 W1 W2 W3) = (0 : Int32)
          · skip
            refine og (fun t k => XS.ifYes X57.here hx rfl (pc0 := 288) (pc' := 297) rfl (hb hby at_288) rfl ((if0 _ _).trans (teq hc58).1) (by decide) (by decide) (XS.aload X57.here hx rfl (hb hby at_297) rfl rfl (XS.iload X57.here hx rfl (hb hby at_299) rfl (XS.iload X57.here hx rfl (hb hby at_301) rfl (XS.lload X57.here hx rfl (hb hby at_303) rfl (XS.iconst X57.here hx rfl (hb hby at_305) k)))))) ?_
            show oF p e below _ (T57.setTop (mkF m 306 #[iv p1, iv p2, jv q3, .second, jv q4, .second, jv q5, .second, iv 1, jv W0, .second, jv W1, .second, jv W2, .second, jv W3, .second, rv b5, rv b23, rv b32, iv mm, iv (((p1.toUInt32 >>> ((6 : Int32) &&& 31).toUInt32).toInt32) &&& (3 : Int32)), jv uu, .second, iv (own_g1 mm W0 (0 : Int32) uu), .unset] [(.int 1), (.long uu), (.int mm), (.int 1), (.ref b5)]))
            obtain ⟨_, _, ⟨T59, L59, k59, n59⟩, -, X59, ⟨Lc59, hQ59, l59, y59, z59⟩, st59⟩ := Jvm.LawKit.callS X57 hx (y := mn_4) hown (mvT hZ hw_30) (mvT hZ hw_31) (mvT hZ hw_2) (mvT hZ hw_32) (by decide) (backOf (W := 0) (rm6u1 l Z a0 hw [] (b5) ((1 : Int32)) (mm) (uu) k5 W0 W1 W2 W3 T41.heap n0 Zh50 f45 (own_hm1 hM)) hZ hw_32 hw_2 (by decide) (by decide)) (g := (mkF m 306 #[iv p1, iv p2, jv q3, .second, jv q4, .second, jv q5, .second, iv 1, jv W0, .second, jv W1, .second, jv W2, .second, jv W3, .second, rv b5, rv b23, rv b32, iv mm, iv (((p1.toUInt32 >>> ((6 : Int32) &&& 31).toUInt32).toInt32) &&& (3 : Int32)), jv uu, .second, iv (own_g1 mm W0 (0 : Int32) uu), .unset] [(.int 1), (.long uu), (.int mm), (.int 1), (.ref b5)])) rfl (by rw [hml]; rfl) (argsL := [(.ref b5), (.int 1), (.int mm), (.long uu), (.int 1)]) (rest := []) (lenOf pd_4 rfl) rfl (by show 2 * 0 + _ ≤ _; exact Nat.le_of_eq rfl) (hb hby at_306) (fun _ _ => ⟨rfl, e57, (by decide : 4 + 0 ≤ _), (by decide : 9 + 0 ≤ _)⟩)
            dsimp only [Pt.U, Pt.locs, Pt.cells, Pt.slots] at X59 l59 y59 z59 st59 hQ59
            subst l59 y59 z59
            obtain ⟨rfl, N59q, e59⟩ := hQ59
            have N59 := Fr.app N57 N59q
            refine og st59 ?_
            show oF p e below _ (T59.setTop (mkF m 309 #[iv p1, iv p2, jv q3, .second, jv q4, .second, jv q5, .second, iv 1, jv W0, .second, jv W1, .second, jv W2, .second, jv W3, .second, rv b5, rv b23, rv b32, iv mm, iv (((p1.toUInt32 >>> ((6 : Int32) &&& 31).toUInt32).toInt32) &&& (3 : Int32)), jv uu, .second, iv (own_g1 mm W0 (0 : Int32) uu), .unset] [(.int (own_sf1 b5 (1 : Int32) mm uu W0 W1 W2 W3))]))
            by_cases hc60 : (own_sf1 b5 (1 : Int32) mm uu W0 W1 W2 W3) = (0 : Int32)
            · skip
              refine og (fun t k => XS.ifYes X59.here hx rfl (pc0 := 309) (pc' := 318) rfl (hb hby at_309) rfl ((if0 _ _).trans (teq hc60).1) (by decide) (by decide) (XS.iconst X59.here hx rfl (hb hby at_318) (XS.istore X59.here hx rfl (hb hby at_319) rfl (l' := #[iv p1, iv p2, jv q3, .second, jv q4, .second, jv q5, .second, iv 1, jv W0, .second, jv W1, .second, jv W2, .second, jv W3, .second, rv b5, rv b23, rv b32, iv mm, iv (((p1.toUInt32 >>> ((6 : Int32) &&& 31).toUInt32).toInt32) &&& (3 : Int32)), jv uu, .second, iv (own_g1 mm W0 (0 : Int32) uu), iv 0]) rfl (XS.iload X59.here hx rfl (hb hby at_321) rfl (XS.iload X59.here hx rfl (hb hby at_323) rfl k))))) ?_
              show oF p e below _ (T59.setTop (mkF m 325 #[iv p1, iv p2, jv q3, .second, jv q4, .second, jv q5, .second, iv 1, jv W0, .second, jv W1, .second, jv W2, .second, jv W3, .second, rv b5, rv b23, rv b32, iv mm, iv (((p1.toUInt32 >>> ((6 : Int32) &&& 31).toUInt32).toInt32) &&& (3 : Int32)), jv uu, .second, iv (own_g1 mm W0 (0 : Int32) uu), iv 0] [(.int 0), (.int (own_g1 mm W0 (0 : Int32) uu))]))
              refine og (fun t k => XS.icmpNo X59.here hx rfl (hb hby at_325) rfl (teq (own_fin10 hM hc54 hc56 hc58 hc60)).2 (XS.iconst X59.here hx rfl (hb hby at_328) (XS.goto X59.here hx rfl (pc0 := 329) (pc' := 333) rfl (hb hby at_329) (by decide) (by decide) k))) ?_
              show oF p e below _ (T59.setTop (mkF m 333 #[iv p1, iv p2, jv q3, .second, jv q4, .second, jv q5, .second, iv 1, jv W0, .second, jv W1, .second, jv W2, .second, jv W3, .second, rv b5, rv b23, rv b32, iv mm, iv (((p1.toUInt32 >>> ((6 : Int32) &&& 31).toUInt32).toInt32) &&& (3 : Int32)), jv uu, .second, iv (own_g1 mm W0 (0 : Int32) uu), iv 0] [(.int 1)]))
              exact oo X59 (fun h => by rw [Bd.returns] at h; cases h) Bd.notSynchronized (fun fs hr => retN X59 hx (t := .boolean) Bd.returns (by simp) (hb hby at_333) hr) ⟨rfl, N59⟩ (by decide) (by decide)
            · skip
              refine og (fun t k => XS.ifNo X59.here hx rfl (hb hby at_309) rfl ((if0 _ _).trans (feq hc60).1) (XS.iconst X59.here hx rfl (hb hby at_312) (XS.istore X59.here hx rfl (hb hby at_313) rfl (l' := #[iv p1, iv p2, jv q3, .second, jv q4, .second, jv q5, .second, iv 1, jv W0, .second, jv W1, .second, jv W2, .second, jv W3, .second, rv b5, rv b23, rv b32, iv mm, iv (((p1.toUInt32 >>> ((6 : Int32) &&& 31).toUInt32).toInt32) &&& (3 : Int32)), jv uu, .second, iv (own_g1 mm W0 (0 : Int32) uu), iv 1]) rfl (XS.goto X59.here hx rfl (pc0 := 315) (pc' := 321) rfl (hb hby at_315) (by decide) (by decide) (XS.iload X59.here hx rfl (hb hby at_321) rfl (XS.iload X59.here hx rfl (hb hby at_323) rfl k)))))) ?_
              show oF p e below _ (T59.setTop (mkF m 325 #[iv p1, iv p2, jv q3, .second, jv q4, .second, jv q5, .second, iv 1, jv W0, .second, jv W1, .second, jv W2, .second, jv W3, .second, rv b5, rv b23, rv b32, iv mm, iv (((p1.toUInt32 >>> ((6 : Int32) &&& 31).toUInt32).toInt32) &&& (3 : Int32)), jv uu, .second, iv (own_g1 mm W0 (0 : Int32) uu), iv 1] [(.int 1), (.int (own_g1 mm W0 (0 : Int32) uu))]))
              refine og (fun t k => XS.icmpNo X59.here hx rfl (hb hby at_325) rfl (teq (own_fin11 hM hc54 hc56 hc58 hc60)).2 (XS.iconst X59.here hx rfl (hb hby at_328) (XS.goto X59.here hx rfl (pc0 := 329) (pc' := 333) rfl (hb hby at_329) (by decide) (by decide) k))) ?_
              show oF p e below _ (T59.setTop (mkF m 333 #[iv p1, iv p2, jv q3, .second, jv q4, .second, jv q5, .second, iv 1, jv W0, .second, jv W1, .second, jv W2, .second, jv W3, .second, rv b5, rv b23, rv b32, iv mm, iv (((p1.toUInt32 >>> ((6 : Int32) &&& 31).toUInt32).toInt32) &&& (3 : Int32)), jv uu, .second, iv (own_g1 mm W0 (0 : Int32) uu), iv 1] [(.int 1)]))
              exact oo X59 (fun h => by rw [Bd.returns] at h; cases h) Bd.notSynchronized (fun fs hr => retN X59 hx (t := .boolean) Bd.returns (by simp) (hb hby at_333) hr) ⟨rfl, N59⟩ (by decide) (by decide)
          · skip
            refine og (fun t k => XS.ifNo X57.here hx rfl (hb hby at_288) rfl ((if0 _ _).trans (feq hc58).1) (XS.iconst X57.here hx rfl (hb hby at_291) (XS.istore X57.here hx rfl (hb hby at_292) rfl (l' := #[iv p1, iv p2, jv q3, .second, jv q4, .second, jv q5, .second, iv 1, jv W0, .second, jv W1, .second, jv W2, .second, jv W3, .second, rv b5, rv b23, rv b32, iv mm, iv (((p1.toUInt32 >>> ((6 : Int32) &&& 31).toUInt32).toInt32) &&& (3 : Int32)), jv uu, .second, iv (own_g1 mm W0 (0 : Int32) uu), iv 2]) rfl (XS.goto X57.here hx rfl (pc0 := 294) (pc' := 321) rfl (hb hby at_294) (by decide) (by decide) (XS.iload X57.here hx rfl (hb hby at_321) rfl (XS.iload X57.here hx rfl (hb hby at_323) rfl k)))))) ?_
            show oF p e below _ (T57.setTop (mkF m 325 #[iv p1, iv p2, jv q3, .second, jv q4, .second, jv q5, .second, iv 1, jv W0, .second, jv W1, .second, jv W2, .second, jv W3, .second, rv b5, rv b23, rv b32, iv mm, iv (((p1.toUInt32 >>> ((6 : Int32) &&& 31).toUInt32).toInt32) &&& (3 : Int32)), jv uu, .second, iv (own_g1 mm W0 (0 : Int32) uu), iv 2] [(.int 2), (.int (own_g1 mm W0 (0 : Int32) uu))]))
            refine og (fun t k => XS.icmpNo X57.here hx rfl (hb hby at_325) rfl (teq (own_fin12 hM hc54 hc56 hc58)).2 (XS.iconst X57.here hx rfl (hb hby at_328) (XS.goto X57.here hx rfl (pc0 := 329) (pc' := 333) rfl (hb hby at_329) (by decide) (by decide) k))) ?_
            show oF p e below _ (T57.setTop (mkF m 333 #[iv p1, iv p2, jv q3, .second, jv q4, .second, jv q5, .second, iv 1, jv W0, .second, jv W1, .second, jv W2, .second, jv W3, .second, rv b5, rv b23, rv b32, iv mm, iv (((p1.toUInt32 >>> ((6 : Int32) &&& 31).toUInt32).toInt32) &&& (3 : Int32)), jv uu, .second, iv (own_g1 mm W0 (0 : Int32) uu), iv 2] [(.int 1)]))
            exact oo X57 (fun h => by rw [Bd.returns] at h; cases h) Bd.notSynchronized (fun fs hr => retN X57 hx (t := .boolean) Bd.returns (by simp) (hb hby at_333) hr) ⟨rfl, N57⟩ (by decide) (by decide)
        · skip
          refine og (fun t k => XS.ifNo X55.here hx rfl (hb hby at_267) rfl ((if0 _ _).trans (feq hc56).1) (XS.iconst X55.here hx rfl (hb hby at_270) (XS.istore X55.here hx rfl (hb hby at_271) rfl (l' := #[iv p1, iv p2, jv q3, .second, jv q4, .second, jv q5, .second, iv 1, jv W0, .second, jv W1, .second, jv W2, .second, jv W3, .second, rv b5, rv b23, rv b32, iv mm, iv (((p1.toUInt32 >>> ((6 : Int32) &&& 31).toUInt32).toInt32) &&& (3 : Int32)), jv uu, .second, iv (own_g1 mm W0 (0 : Int32) uu), iv 3]) rfl (XS.goto X55.here hx rfl (pc0 := 273) (pc' := 321) rfl (hb hby at_273) (by decide) (by decide) (XS.iload X55.here hx rfl (hb hby at_321) rfl (XS.iload X55.here hx rfl (hb hby at_323) rfl k)))))) ?_
          show oF p e below _ (T55.setTop (mkF m 325 #[iv p1, iv p2, jv q3, .second, jv q4, .second, jv q5, .second, iv 1, jv W0, .second, jv W1, .second, jv W2, .second, jv W3, .second, rv b5, rv b23, rv b32, iv mm, iv (((p1.toUInt32 >>> ((6 : Int32) &&& 31).toUInt32).toInt32) &&& (3 : Int32)), jv uu, .second, iv (own_g1 mm W0 (0 : Int32) uu), iv 3] [(.int 3), (.int (own_g1 mm W0 (0 : Int32) uu))]))
          refine og (fun t k => XS.icmpNo X55.here hx rfl (hb hby at_325) rfl (teq (own_fin13 hM hc54 hc56)).2 (XS.iconst X55.here hx rfl (hb hby at_328) (XS.goto X55.here hx rfl (pc0 := 329) (pc' := 333) rfl (hb hby at_329) (by decide) (by decide) k))) ?_
          show oF p e below _ (T55.setTop (mkF m 333 #[iv p1, iv p2, jv q3, .second, jv q4, .second, jv q5, .second, iv 1, jv W0, .second, jv W1, .second, jv W2, .second, jv W3, .second, rv b5, rv b23, rv b32, iv mm, iv (((p1.toUInt32 >>> ((6 : Int32) &&& 31).toUInt32).toInt32) &&& (3 : Int32)), jv uu, .second, iv (own_g1 mm W0 (0 : Int32) uu), iv 3] [(.int 1)]))
          exact oo X55 (fun h => by rw [Bd.returns] at h; cases h) Bd.notSynchronized (fun fs hr => retN X55 hx (t := .boolean) Bd.returns (by simp) (hb hby at_333) hr) ⟨rfl, N55⟩ (by decide) (by decide)
      · skip
        refine og (fun t k => XS.ifNo X53.here hx rfl (hb hby at_246) rfl ((if0 _ _).trans (feq hc54).1) (XS.iconst X53.here hx rfl (hb hby at_249) (XS.istore X53.here hx rfl (hb hby at_250) rfl (l' := #[iv p1, iv p2, jv q3, .second, jv q4, .second, jv q5, .second, iv 1, jv W0, .second, jv W1, .second, jv W2, .second, jv W3, .second, rv b5, rv b23, rv b32, iv mm, iv (((p1.toUInt32 >>> ((6 : Int32) &&& 31).toUInt32).toInt32) &&& (3 : Int32)), jv uu, .second, iv (own_g1 mm W0 (0 : Int32) uu), iv 4]) rfl (XS.goto X53.here hx rfl (pc0 := 252) (pc' := 321) rfl (hb hby at_252) (by decide) (by decide) (XS.iload X53.here hx rfl (hb hby at_321) rfl (XS.iload X53.here hx rfl (hb hby at_323) rfl k)))))) ?_
        show oF p e below _ (T53.setTop (mkF m 325 #[iv p1, iv p2, jv q3, .second, jv q4, .second, jv q5, .second, iv 1, jv W0, .second, jv W1, .second, jv W2, .second, jv W3, .second, rv b5, rv b23, rv b32, iv mm, iv (((p1.toUInt32 >>> ((6 : Int32) &&& 31).toUInt32).toInt32) &&& (3 : Int32)), jv uu, .second, iv (own_g1 mm W0 (0 : Int32) uu), iv 4] [(.int 4), (.int (own_g1 mm W0 (0 : Int32) uu))]))
        refine og (fun t k => XS.icmpNo X53.here hx rfl (hb hby at_325) rfl (teq (own_fin14 hM hc54)).2 (XS.iconst X53.here hx rfl (hb hby at_328) (XS.goto X53.here hx rfl (pc0 := 329) (pc' := 333) rfl (hb hby at_329) (by decide) (by decide) k))) ?_
        show oF p e below _ (T53.setTop (mkF m 333 #[iv p1, iv p2, jv q3, .second, jv q4, .second, jv q5, .second, iv 1, jv W0, .second, jv W1, .second, jv W2, .second, jv W3, .second, rv b5, rv b23, rv b32, iv mm, iv (((p1.toUInt32 >>> ((6 : Int32) &&& 31).toUInt32).toInt32) &&& (3 : Int32)), jv uu, .second, iv (own_g1 mm W0 (0 : Int32) uu), iv 4] [(.int 1)]))
        exact oo X53 (fun h => by rw [Bd.returns] at h; cases h) Bd.notSynchronized (fun fs hr => retN X53 hx (t := .boolean) Bd.returns (by simp) (hb hby at_333) hr) ⟨rfl, N53⟩ (by decide) (by decide)
    refine og (fun t k => XS.iload X41.here hx rfl (hb hby at_199) rfl k) ?_
    show oF p e below _ (T41.setTop (mkF m 201 #[iv p1, iv p2, jv q3, .second, jv q4, .second, jv q5, .second, iv 1, jv W0, .second, jv W1, .second, jv W2, .second, jv W3, .second, rv b5, rv b23, rv b32, iv mm, iv (((p1.toUInt32 >>> ((6 : Int32) &&& 31).toUInt32).toInt32) &&& (3 : Int32)), .unset, .unset, .unset, .unset] [(.int (((p1.toUInt32 >>> ((6 : Int32) &&& 31).toUInt32).toInt32) &&& (3 : Int32)))]))
    by_cases hc61 : (((p1.toUInt32 >>> ((6 : Int32) &&& 31).toUInt32).toInt32) &&& (3 : Int32)) = (0 : Int32)
    · skip
      refine og (fun t k => XS.ifNo X41.here hx rfl (hb hby at_201) rfl ((if0 _ _).trans (teq hc61).2) (XS.lloadN X41.here hx rfl (hb hby at_204) rfl (XS.goto X41.here hx rfl (pc0 := 205) (pc' := 221) rfl (hb hby at_205) (by decide) (by decide) k))) ?_
      exact Jn51 (q3)
    · skip
      refine og (fun t k => XS.ifYes X41.here hx rfl (pc0 := 201) (pc' := 208) rfl (hb hby at_201) rfl ((if0 _ _).trans (feq hc61).2) (by decide) (by decide) (XS.iload X41.here hx rfl (hb hby at_208) rfl (XS.iconst X41.here hx rfl (hb hby at_210) k))) ?_
      show oF p e below _ (T41.setTop (mkF m 211 #[iv p1, iv p2, jv q3, .second, jv q4, .second, jv q5, .second, iv 1, jv W0, .second, jv W1, .second, jv W2, .second, jv W3, .second, rv b5, rv b23, rv b32, iv mm, iv (((p1.toUInt32 >>> ((6 : Int32) &&& 31).toUInt32).toInt32) &&& (3 : Int32)), .unset, .unset, .unset, .unset] [(.int 1), (.int (((p1.toUInt32 >>> ((6 : Int32) &&& 31).toUInt32).toInt32) &&& (3 : Int32)))]))
      by_cases hc62 : (((p1.toUInt32 >>> ((6 : Int32) &&& 31).toUInt32).toInt32) &&& (3 : Int32)) = (1 : Int32)
      · skip
        refine og (fun t k => XS.icmpNo X41.here hx rfl (hb hby at_211) rfl (teq hc62).2 (XS.lload X41.here hx rfl (hb hby at_214) rfl (XS.goto X41.here hx rfl (pc0 := 216) (pc' := 221) rfl (hb hby at_216) (by decide) (by decide) k))) ?_
        exact Jn51 (q4)
      · skip
        refine og (fun t k => XS.icmpYes X41.here hx rfl (pc0 := 211) (pc' := 219) rfl (hb hby at_211) rfl (feq hc62).2 (by decide) (by decide) (XS.lload X41.here hx rfl (hb hby at_219) rfl k)) ?_
        exact Jn51 (q5)
  · skip
    rw [h]
    show oF p e below _ (s₁.setTop (mkF m 5 #[iv p1, iv p2, jv q3, .second, jv q4, .second, jv q5, .second, .unset, .unset, .unset, .unset, .unset, .unset, .unset, .unset, .unset, .unset, .unset, .unset, .unset, .unset, .unset, .unset, .unset, .unset] [(.int 2)]))
    refine og (fun t k => XS.istore X0.here hx rfl (hb hby at_5) rfl (l' := #[iv p1, iv p2, jv q3, .second, jv q4, .second, jv q5, .second, iv 2, .unset, .unset, .unset, .unset, .unset, .unset, .unset, .unset, .unset, .unset, .unset, .unset, .unset, .unset, .unset, .unset, .unset]) rfl (XS.iloadN X0.here hx rfl (hb hby at_7) rfl (XS.iconst X0.here hx rfl (hb hby at_8) (XS.lloadN X0.here hx rfl (hb hby at_9) rfl (XS.lload X0.here hx rfl (hb hby at_10) rfl k))))) ?_
    show oF p e below _ (s₁.setTop (mkF m 12 #[iv p1, iv p2, jv q3, .second, jv q4, .second, jv q5, .second, iv 2, .unset, .unset, .unset, .unset, .unset, .unset, .unset, .unset, .unset, .unset, .unset, .unset, .unset, .unset, .unset, .unset, .unset] [(.long q4), (.long q3), (.int 2), (.int p1)]))
    obtain ⟨_, _, ⟨T63, L63, k63, n63⟩, -, X63, ⟨Lc63, hQ63, l63, y63, z63⟩, st63⟩ := Jvm.LawKit.callS X0 hx (y := mn_1) hown (mvT hZ hw_0) (mvT hZ hw_1) (mvT hZ hw_2) (mvT hZ hw_3) (by decide) (backOf (W := 0) (rm1 l Z a0 hw [] (p1) ((2 : Int32)) (q3) (q4)  h0 n0 Z0 ) hZ hw_3 hw_2 (by decide) (by decide)) (g := (mkF m 12 #[iv p1, iv p2, jv q3, .second, jv q4, .second, jv q5, .second, iv 2, .unset, .unset, .unset, .unset, .unset, .unset, .unset, .unset, .unset, .unset, .unset, .unset, .unset, .unset, .unset, .unset, .unset] [(.long q4), (.long q3), (.int 2), (.int p1)])) rfl (by rw [hml]; rfl) (argsL := [(.int p1), (.int 2), (.long q3), (.long q4)]) (rest := []) (lenOf pd_1 rfl) rfl (by show 2 * 0 + _ ≤ _; exact Nat.le_of_eq rfl) (hb hby at_12) (fun _ _ => ⟨rfl, e0, (by decide : 0 + 0 ≤ _), (by decide : 0 + 0 ≤ _)⟩)
    dsimp only [Pt.U, Pt.locs, Pt.cells, Pt.slots] at X63 l63 y63 z63 st63 hQ63
    subst l63 y63 z63
    obtain ⟨rfl, N63q, e63⟩ := hQ63
    have N63 := Fr.app N0 N63q
    refine og st63 ?_
    show oF p e below _ (T63.setTop (mkF m 15 #[iv p1, iv p2, jv q3, .second, jv q4, .second, jv q5, .second, iv 2, .unset, .unset, .unset, .unset, .unset, .unset, .unset, .unset, .unset, .unset, .unset, .unset, .unset, .unset, .unset, .unset, .unset] [(.long (own_pk_5 p1 (2 : Int32) q3 q4))]))
    obtain ⟨W0, h_W0⟩ : ∃ z : Int64, z = (own_pk_5 p1 (2 : Int32) q3 q4) := ⟨_, rfl⟩
    rw [← h_W0]
    show oF p e below _ (T63.setTop (mkF m 15 #[iv p1, iv p2, jv q3, .second, jv q4, .second, jv q5, .second, iv 2, .unset, .unset, .unset, .unset, .unset, .unset, .unset, .unset, .unset, .unset, .unset, .unset, .unset, .unset, .unset, .unset, .unset] [(.long W0)]))
    refine og (fun t k => XS.lstore X63.here hx rfl (hb hby at_15) rfl (l' := #[iv p1, iv p2, jv q3, .second, jv q4, .second, jv q5, .second, iv 2, jv W0, .second, .unset, .unset, .unset, .unset, .unset, .unset, .unset, .unset, .unset, .unset, .unset, .unset, .unset, .unset, .unset]) rfl (XS.iloadN X63.here hx rfl (hb hby at_17) rfl (XS.iconst X63.here hx rfl (hb hby at_18) (XS.lloadN X63.here hx rfl (hb hby at_19) rfl (XS.lload X63.here hx rfl (hb hby at_20) rfl k))))) ?_
    show oF p e below _ (T63.setTop (mkF m 22 #[iv p1, iv p2, jv q3, .second, jv q4, .second, jv q5, .second, iv 2, jv W0, .second, .unset, .unset, .unset, .unset, .unset, .unset, .unset, .unset, .unset, .unset, .unset, .unset, .unset, .unset, .unset] [(.long q4), (.long q3), (.int 3), (.int p1)]))
    obtain ⟨_, _, ⟨T64, L64, k64, n64⟩, -, X64, ⟨Lc64, hQ64, l64, y64, z64⟩, st64⟩ := Jvm.LawKit.callS X63 hx (y := mn_1) hown (mvT hZ hw_0) (mvT hZ hw_1) (mvT hZ hw_2) (mvT hZ hw_3) (by decide) (backOf (W := 0) (rm1 l Z a0 hw [] (p1) ((3 : Int32)) (q3) (q4)  h0 n0 Z0 ) hZ hw_3 hw_2 (by decide) (by decide)) (g := (mkF m 22 #[iv p1, iv p2, jv q3, .second, jv q4, .second, jv q5, .second, iv 2, jv W0, .second, .unset, .unset, .unset, .unset, .unset, .unset, .unset, .unset, .unset, .unset, .unset, .unset, .unset, .unset, .unset] [(.long q4), (.long q3), (.int 3), (.int p1)])) rfl (by rw [hml]; rfl) (argsL := [(.int p1), (.int 3), (.long q3), (.long q4)]) (rest := []) (lenOf pd_1 rfl) rfl (by show 2 * 0 + _ ≤ _; exact Nat.le_of_eq rfl) (hb hby at_22) (fun _ _ => ⟨rfl, e63, (by decide : 0 + 0 ≤ _), (by decide : 0 + 0 ≤ _)⟩)
    dsimp only [Pt.U, Pt.locs, Pt.cells, Pt.slots] at X64 l64 y64 z64 st64 hQ64
    subst l64 y64 z64
    obtain ⟨rfl, N64q, e64⟩ := hQ64
    have N64 := Fr.app N63 N64q
    refine og st64 ?_
    show oF p e below _ (T64.setTop (mkF m 25 #[iv p1, iv p2, jv q3, .second, jv q4, .second, jv q5, .second, iv 2, jv W0, .second, .unset, .unset, .unset, .unset, .unset, .unset, .unset, .unset, .unset, .unset, .unset, .unset, .unset, .unset, .unset] [(.long (own_pk_5 p1 (3 : Int32) q3 q4))]))
    obtain ⟨W1, h_W1⟩ : ∃ z : Int64, z = (own_pk_5 p1 (3 : Int32) q3 q4) := ⟨_, rfl⟩
    rw [← h_W1]
    show oF p e below _ (T64.setTop (mkF m 25 #[iv p1, iv p2, jv q3, .second, jv q4, .second, jv q5, .second, iv 2, jv W0, .second, .unset, .unset, .unset, .unset, .unset, .unset, .unset, .unset, .unset, .unset, .unset, .unset, .unset, .unset, .unset] [(.long W1)]))
    refine og (fun t k => XS.lstore X64.here hx rfl (hb hby at_25) rfl (l' := #[iv p1, iv p2, jv q3, .second, jv q4, .second, jv q5, .second, iv 2, jv W0, .second, jv W1, .second, .unset, .unset, .unset, .unset, .unset, .unset, .unset, .unset, .unset, .unset, .unset, .unset, .unset]) rfl (XS.iloadN X64.here hx rfl (hb hby at_27) rfl (XS.iconst X64.here hx rfl (hb hby at_28) (XS.lloadN X64.here hx rfl (hb hby at_29) rfl (XS.lload X64.here hx rfl (hb hby at_30) rfl k))))) ?_
    show oF p e below _ (T64.setTop (mkF m 32 #[iv p1, iv p2, jv q3, .second, jv q4, .second, jv q5, .second, iv 2, jv W0, .second, jv W1, .second, .unset, .unset, .unset, .unset, .unset, .unset, .unset, .unset, .unset, .unset, .unset, .unset, .unset] [(.long q4), (.long q3), (.int 4), (.int p1)]))
    obtain ⟨_, _, ⟨T65, L65, k65, n65⟩, -, X65, ⟨Lc65, hQ65, l65, y65, z65⟩, st65⟩ := Jvm.LawKit.callS X64 hx (y := mn_1) hown (mvT hZ hw_0) (mvT hZ hw_1) (mvT hZ hw_2) (mvT hZ hw_3) (by decide) (backOf (W := 0) (rm1 l Z a0 hw [] (p1) ((4 : Int32)) (q3) (q4)  h0 n0 Z0 ) hZ hw_3 hw_2 (by decide) (by decide)) (g := (mkF m 32 #[iv p1, iv p2, jv q3, .second, jv q4, .second, jv q5, .second, iv 2, jv W0, .second, jv W1, .second, .unset, .unset, .unset, .unset, .unset, .unset, .unset, .unset, .unset, .unset, .unset, .unset, .unset] [(.long q4), (.long q3), (.int 4), (.int p1)])) rfl (by rw [hml]; rfl) (argsL := [(.int p1), (.int 4), (.long q3), (.long q4)]) (rest := []) (lenOf pd_1 rfl) rfl (by show 2 * 0 + _ ≤ _; exact Nat.le_of_eq rfl) (hb hby at_32) (fun _ _ => ⟨rfl, e64, (by decide : 0 + 0 ≤ _), (by decide : 0 + 0 ≤ _)⟩)
    dsimp only [Pt.U, Pt.locs, Pt.cells, Pt.slots] at X65 l65 y65 z65 st65 hQ65
    subst l65 y65 z65
    obtain ⟨rfl, N65q, e65⟩ := hQ65
    have N65 := Fr.app N64 N65q
    refine og st65 ?_
    show oF p e below _ (T65.setTop (mkF m 35 #[iv p1, iv p2, jv q3, .second, jv q4, .second, jv q5, .second, iv 2, jv W0, .second, jv W1, .second, .unset, .unset, .unset, .unset, .unset, .unset, .unset, .unset, .unset, .unset, .unset, .unset, .unset] [(.long (own_pk_5 p1 (4 : Int32) q3 q4))]))
    obtain ⟨W2, h_W2⟩ : ∃ z : Int64, z = (own_pk_5 p1 (4 : Int32) q3 q4) := ⟨_, rfl⟩
    rw [← h_W2]
    show oF p e below _ (T65.setTop (mkF m 35 #[iv p1, iv p2, jv q3, .second, jv q4, .second, jv q5, .second, iv 2, jv W0, .second, jv W1, .second, .unset, .unset, .unset, .unset, .unset, .unset, .unset, .unset, .unset, .unset, .unset, .unset, .unset] [(.long W2)]))
    refine og (fun t k => XS.lstore X65.here hx rfl (hb hby at_35) rfl (l' := #[iv p1, iv p2, jv q3, .second, jv q4, .second, jv q5, .second, iv 2, jv W0, .second, jv W1, .second, jv W2, .second, .unset, .unset, .unset, .unset, .unset, .unset, .unset, .unset, .unset, .unset, .unset]) rfl (XS.iloadN X65.here hx rfl (hb hby at_37) rfl (XS.iconst X65.here hx rfl (hb hby at_38) (XS.lloadN X65.here hx rfl (hb hby at_39) rfl (XS.lload X65.here hx rfl (hb hby at_40) rfl k))))) ?_
    show oF p e below _ (T65.setTop (mkF m 42 #[iv p1, iv p2, jv q3, .second, jv q4, .second, jv q5, .second, iv 2, jv W0, .second, jv W1, .second, jv W2, .second, .unset, .unset, .unset, .unset, .unset, .unset, .unset, .unset, .unset, .unset, .unset] [(.long q4), (.long q3), (.int 5), (.int p1)]))
    obtain ⟨_, _, ⟨T66, L66, k66, n66⟩, -, X66, ⟨Lc66, hQ66, l66, y66, z66⟩, st66⟩ := Jvm.LawKit.callS X65 hx (y := mn_1) hown (mvT hZ hw_0) (mvT hZ hw_1) (mvT hZ hw_2) (mvT hZ hw_3) (by decide) (backOf (W := 0) (rm1 l Z a0 hw [] (p1) ((5 : Int32)) (q3) (q4)  h0 n0 Z0 ) hZ hw_3 hw_2 (by decide) (by decide)) (g := (mkF m 42 #[iv p1, iv p2, jv q3, .second, jv q4, .second, jv q5, .second, iv 2, jv W0, .second, jv W1, .second, jv W2, .second, .unset, .unset, .unset, .unset, .unset, .unset, .unset, .unset, .unset, .unset, .unset] [(.long q4), (.long q3), (.int 5), (.int p1)])) rfl (by rw [hml]; rfl) (argsL := [(.int p1), (.int 5), (.long q3), (.long q4)]) (rest := []) (lenOf pd_1 rfl) rfl (by show 2 * 0 + _ ≤ _; exact Nat.le_of_eq rfl) (hb hby at_42) (fun _ _ => ⟨rfl, e65, (by decide : 0 + 0 ≤ _), (by decide : 0 + 0 ≤ _)⟩)
    dsimp only [Pt.U, Pt.locs, Pt.cells, Pt.slots] at X66 l66 y66 z66 st66 hQ66
    subst l66 y66 z66
    obtain ⟨rfl, N66q, e66⟩ := hQ66
    have N66 := Fr.app N65 N66q
    refine og st66 ?_
    show oF p e below _ (T66.setTop (mkF m 45 #[iv p1, iv p2, jv q3, .second, jv q4, .second, jv q5, .second, iv 2, jv W0, .second, jv W1, .second, jv W2, .second, .unset, .unset, .unset, .unset, .unset, .unset, .unset, .unset, .unset, .unset, .unset] [(.long (own_pk_5 p1 (5 : Int32) q3 q4))]))
    obtain ⟨W3, h_W3⟩ : ∃ z : Int64, z = (own_pk_5 p1 (5 : Int32) q3 q4) := ⟨_, rfl⟩
    rw [← h_W3]
    show oF p e below _ (T66.setTop (mkF m 45 #[iv p1, iv p2, jv q3, .second, jv q4, .second, jv q5, .second, iv 2, jv W0, .second, jv W1, .second, jv W2, .second, .unset, .unset, .unset, .unset, .unset, .unset, .unset, .unset, .unset, .unset, .unset] [(.long W3)]))
    refine og (fun t k => XS.lstore X66.here hx rfl (hb hby at_45) rfl (l' := #[iv p1, iv p2, jv q3, .second, jv q4, .second, jv q5, .second, iv 2, jv W0, .second, jv W1, .second, jv W2, .second, jv W3, .second, .unset, .unset, .unset, .unset, .unset, .unset, .unset, .unset, .unset]) rfl (XS.iconst X66.here hx rfl (hb hby at_47) k)) ?_
    show oF p e below _ (T66.setTop (mkF m 48 #[iv p1, iv p2, jv q3, .second, jv q4, .second, jv q5, .second, iv 2, jv W0, .second, jv W1, .second, jv W2, .second, jv W3, .second, .unset, .unset, .unset, .unset, .unset, .unset, .unset, .unset, .unset] [(.int 4)]))
    obtain ⟨T67, h67, k67, X67, e67, E67, A67, st67⟩ := newP (aty := .long) X66 hx hZ hw_4 e66 (g := (mkF m 48 #[iv p1, iv p2, jv q3, .second, jv q4, .second, jv q5, .second, iv 2, jv W0, .second, jv W1, .second, jv W2, .second, jv W3, .second, .unset, .unset, .unset, .unset, .unset, .unset, .unset, .unset, .unset] [(.int 4)])) rfl (hb hby at_48) rfl (by decide) (cap := 4) (by decide) (by decide) (by decide) (by decide)
    obtain ⟨b67, g67⟩ : ∃ z, z = h0.size := ⟨_, rfl⟩
    rw [← g67] at A67 st67
    have g_b67 : n0 ≤ b67 := Nat.le_trans Z0 (Nat.le_of_eq g67.symm)
    have Zh68 : n0 ≤ h67.size := Nat.le_trans Z0 E67.1
    have V67 : Arv Z h67 b67 k67 .long (4 : Int32) [(.long (0 : Int64)), (.long (0 : Int64)), (.long (0 : Int64)), (.long (0 : Int64))] (.long (0 : Int64)) := (Arv.new A67 (by decide)).pad (pad_rep [] (.long (0 : Int64)) 4)
    refine og st67 ?_
    show oF p e below _ (T67.setTop (mkF m 50 #[iv p1, iv p2, jv q3, .second, jv q4, .second, jv q5, .second, iv 2, jv W0, .second, jv W1, .second, jv W2, .second, jv W3, .second, .unset, .unset, .unset, .unset, .unset, .unset, .unset, .unset, .unset] [(.ref b67)]))
    refine og (fun t k => XS.dup X67.here hx rfl (hb hby at_50) rfl rfl (XS.iconst X67.here hx rfl (hb hby at_51) (XS.lload X67.here hx rfl (hb hby at_52) rfl k))) ?_
    show oF p e below _ (T67.setTop (mkF m 54 #[iv p1, iv p2, jv q3, .second, jv q4, .second, jv q5, .second, iv 2, jv W0, .second, jv W1, .second, jv W2, .second, jv W3, .second, .unset, .unset, .unset, .unset, .unset, .unset, .unset, .unset, .unset] [(.long W0), (.int 0), (.ref b67), (.ref b67)]))
    obtain ⟨cl69, Ar69, q69, S69, M69, H69, G69⟩ := (id V67)
    have hin69 : ¬ ((0 : Int32) < 0 ∨ cl69.slots.size ≤ ((0 : Int32)).toNatClampNeg) := inb_of S69 ⟨by decide, by decide⟩
    obtain ⟨T69, h69, X69, e69, W69, st69⟩ := stJ X67 hx hZ e67 Ar69 (j := (0 : Int32)) hin69 (g := (mkF m 54 #[iv p1, iv p2, jv q3, .second, jv q4, .second, jv q5, .second, iv 2, jv W0, .second, jv W1, .second, jv W2, .second, jv W3, .second, .unset, .unset, .unset, .unset, .unset, .unset, .unset, .unset, .unset] [(.long W0), (.int 0), (.ref b67), (.ref b67)])) rfl rfl (hb hby at_54)
    have V69 := Arv.set Ar69 q69 S69 M69 H69 G69 rfl W69 0 rfl (Nat.le_of_ble_eq_true rfl)
    have f71 : Arv Z h69 b67 k67 .long (4 : Int32) [(.long W0), (.long (0 : Int64)), (.long (0 : Int64)), (.long (0 : Int64))] (.long (0 : Int64)) := V69
    have Zh72 : n0 ≤ h69.size := Nat.le_trans Zh68 (Nat.le_of_eq W69.size.symm)
    have N69 := Fr.snoc X69 N66 g_b67
    refine og st69 ?_
    show oF p e below _ (T69.setTop (mkF m 55 #[iv p1, iv p2, jv q3, .second, jv q4, .second, jv q5, .second, iv 2, jv W0, .second, jv W1, .second, jv W2, .second, jv W3, .second, .unset, .unset, .unset, .unset, .unset, .unset, .unset, .unset, .unset] [(.ref b67)]))
    refine og (fun t k => XS.dup X69.here hx rfl (hb hby at_55) rfl rfl (XS.iconst X69.here hx rfl (hb hby at_56) (XS.lload X69.here hx rfl (hb hby at_57) rfl k))) ?_
    show oF p e below _ (T69.setTop (mkF m 59 #[iv p1, iv p2, jv q3, .second, jv q4, .second, jv q5, .second, iv 2, jv W0, .second, jv W1, .second, jv W2, .second, jv W3, .second, .unset, .unset, .unset, .unset, .unset, .unset, .unset, .unset, .unset] [(.long W1), (.int 1), (.ref b67), (.ref b67)]))
    obtain ⟨cl73, Ar73, q73, S73, M73, H73, G73⟩ := (id f71)
    have hin73 : ¬ ((1 : Int32) < 0 ∨ cl73.slots.size ≤ ((1 : Int32)).toNatClampNeg) := inb_of S73 ⟨by decide, by decide⟩
    obtain ⟨T73, h73, X73, e73, W73, st73⟩ := stJ X69 hx hZ e69 Ar73 (j := (1 : Int32)) hin73 (g := (mkF m 59 #[iv p1, iv p2, jv q3, .second, jv q4, .second, jv q5, .second, iv 2, jv W0, .second, jv W1, .second, jv W2, .second, jv W3, .second, .unset, .unset, .unset, .unset, .unset, .unset, .unset, .unset, .unset] [(.long W1), (.int 1), (.ref b67), (.ref b67)])) rfl rfl (hb hby at_59)
    have V73 := Arv.set Ar73 q73 S73 M73 H73 G73 rfl W73 1 rfl (Nat.le_of_ble_eq_true rfl)
    have f75 : Arv Z h73 b67 k67 .long (4 : Int32) [(.long W0), (.long W1), (.long (0 : Int64)), (.long (0 : Int64))] (.long (0 : Int64)) := V73
    have Zh76 : n0 ≤ h73.size := Nat.le_trans Zh72 (Nat.le_of_eq W73.size.symm)
    have N73 := Fr.snoc X73 N69 g_b67
    refine og st73 ?_
    show oF p e below _ (T73.setTop (mkF m 60 #[iv p1, iv p2, jv q3, .second, jv q4, .second, jv q5, .second, iv 2, jv W0, .second, jv W1, .second, jv W2, .second, jv W3, .second, .unset, .unset, .unset, .unset, .unset, .unset, .unset, .unset, .unset] [(.ref b67)]))
    refine og (fun t k => XS.dup X73.here hx rfl (hb hby at_60) rfl rfl (XS.iconst X73.here hx rfl (hb hby at_61) (XS.lload X73.here hx rfl (hb hby at_62) rfl k))) ?_
    show oF p e below _ (T73.setTop (mkF m 64 #[iv p1, iv p2, jv q3, .second, jv q4, .second, jv q5, .second, iv 2, jv W0, .second, jv W1, .second, jv W2, .second, jv W3, .second, .unset, .unset, .unset, .unset, .unset, .unset, .unset, .unset, .unset] [(.long W2), (.int 2), (.ref b67), (.ref b67)]))
    obtain ⟨cl77, Ar77, q77, S77, M77, H77, G77⟩ := (id f75)
    have hin77 : ¬ ((2 : Int32) < 0 ∨ cl77.slots.size ≤ ((2 : Int32)).toNatClampNeg) := inb_of S77 ⟨by decide, by decide⟩
    obtain ⟨T77, h77, X77, e77, W77, st77⟩ := stJ X73 hx hZ e73 Ar77 (j := (2 : Int32)) hin77 (g := (mkF m 64 #[iv p1, iv p2, jv q3, .second, jv q4, .second, jv q5, .second, iv 2, jv W0, .second, jv W1, .second, jv W2, .second, jv W3, .second, .unset, .unset, .unset, .unset, .unset, .unset, .unset, .unset, .unset] [(.long W2), (.int 2), (.ref b67), (.ref b67)])) rfl rfl (hb hby at_64)
    have V77 := Arv.set Ar77 q77 S77 M77 H77 G77 rfl W77 2 rfl (Nat.le_of_ble_eq_true rfl)
    have f79 : Arv Z h77 b67 k67 .long (4 : Int32) [(.long W0), (.long W1), (.long W2), (.long (0 : Int64))] (.long (0 : Int64)) := V77
    have Zh80 : n0 ≤ h77.size := Nat.le_trans Zh76 (Nat.le_of_eq W77.size.symm)
    have N77 := Fr.snoc X77 N73 g_b67
    refine og st77 ?_
    show oF p e below _ (T77.setTop (mkF m 65 #[iv p1, iv p2, jv q3, .second, jv q4, .second, jv q5, .second, iv 2, jv W0, .second, jv W1, .second, jv W2, .second, jv W3, .second, .unset, .unset, .unset, .unset, .unset, .unset, .unset, .unset, .unset] [(.ref b67)]))
    refine og (fun t k => XS.dup X77.here hx rfl (hb hby at_65) rfl rfl (XS.iconst X77.here hx rfl (hb hby at_66) (XS.lload X77.here hx rfl (hb hby at_67) rfl k))) ?_
    show oF p e below _ (T77.setTop (mkF m 69 #[iv p1, iv p2, jv q3, .second, jv q4, .second, jv q5, .second, iv 2, jv W0, .second, jv W1, .second, jv W2, .second, jv W3, .second, .unset, .unset, .unset, .unset, .unset, .unset, .unset, .unset, .unset] [(.long W3), (.int 3), (.ref b67), (.ref b67)]))
    obtain ⟨cl81, Ar81, q81, S81, M81, H81, G81⟩ := (id f79)
    have hin81 : ¬ ((3 : Int32) < 0 ∨ cl81.slots.size ≤ ((3 : Int32)).toNatClampNeg) := inb_of S81 ⟨by decide, by decide⟩
    obtain ⟨T81, h81, X81, e81, W81, st81⟩ := stJ X77 hx hZ e77 Ar81 (j := (3 : Int32)) hin81 (g := (mkF m 69 #[iv p1, iv p2, jv q3, .second, jv q4, .second, jv q5, .second, iv 2, jv W0, .second, jv W1, .second, jv W2, .second, jv W3, .second, .unset, .unset, .unset, .unset, .unset, .unset, .unset, .unset, .unset] [(.long W3), (.int 3), (.ref b67), (.ref b67)])) rfl rfl (hb hby at_69)
    have V81 := Arv.set Ar81 q81 S81 M81 H81 G81 rfl W81 3 rfl (Nat.le_of_ble_eq_true rfl)
    have f83 : Arv Z h81 b67 k67 .long (4 : Int32) [(.long W0), (.long W1), (.long W2), (.long W3)] (.long (0 : Int64)) := V81
    have Zh84 : n0 ≤ h81.size := Nat.le_trans Zh80 (Nat.le_of_eq W81.size.symm)
    have N81 := Fr.snoc X81 N77 g_b67
    refine og st81 ?_
    show oF p e below _ (T81.setTop (mkF m 70 #[iv p1, iv p2, jv q3, .second, jv q4, .second, jv q5, .second, iv 2, jv W0, .second, jv W1, .second, jv W2, .second, jv W3, .second, .unset, .unset, .unset, .unset, .unset, .unset, .unset, .unset, .unset] [(.ref b67)]))
    refine og (fun t k => XS.astore X81.here hx rfl (hb hby at_70) rfl rfl (l' := #[iv p1, iv p2, jv q3, .second, jv q4, .second, jv q5, .second, iv 2, jv W0, .second, jv W1, .second, jv W2, .second, jv W3, .second, rv b67, .unset, .unset, .unset, .unset, .unset, .unset, .unset, .unset]) rfl (XS.iload X81.here hx rfl (hb hby at_72) rfl (XS.iconst X81.here hx rfl (hb hby at_74) k))) ?_
    show oF p e below _ (T81.setTop (mkF m 75 #[iv p1, iv p2, jv q3, .second, jv q4, .second, jv q5, .second, iv 2, jv W0, .second, jv W1, .second, jv W2, .second, jv W3, .second, rv b67, .unset, .unset, .unset, .unset, .unset, .unset, .unset, .unset] [(.int 1), (.int 2)]))
    refine og (fun t k => XS.icmpYes X81.here hx rfl (pc0 := 75) (pc' := 91) rfl (hb hby at_75) rfl (feq (by decide : ¬ ((2 : Int32) = (1 : Int32)))).2 (by decide) (by decide) (XS.iload X81.here hx rfl (hb hby at_91) rfl (XS.iconst X81.here hx rfl (hb hby at_93) k))) ?_
    show oF p e below _ (T81.setTop (mkF m 94 #[iv p1, iv p2, jv q3, .second, jv q4, .second, jv q5, .second, iv 2, jv W0, .second, jv W1, .second, jv W2, .second, jv W3, .second, rv b67, .unset, .unset, .unset, .unset, .unset, .unset, .unset, .unset] [(.int 2), (.int 2)]))
    refine og (fun t k => XS.icmpNo X81.here hx rfl (hb hby at_94) rfl (teq (by decide : (2 : Int32) = (2 : Int32))).2 (XS.iconst X81.here hx rfl (hb hby at_97) k)) ?_
    show oF p e below _ (T81.setTop (mkF m 98 #[iv p1, iv p2, jv q3, .second, jv q4, .second, jv q5, .second, iv 2, jv W0, .second, jv W1, .second, jv W2, .second, jv W3, .second, rv b67, .unset, .unset, .unset, .unset, .unset, .unset, .unset, .unset] [(.int 2)]))
    obtain ⟨T85, h85, k85, X85, e85, E85, A85, st85⟩ := newP (aty := .long) X81 hx hZ hw_4 e81 (g := (mkF m 98 #[iv p1, iv p2, jv q3, .second, jv q4, .second, jv q5, .second, iv 2, jv W0, .second, jv W1, .second, jv W2, .second, jv W3, .second, rv b67, .unset, .unset, .unset, .unset, .unset, .unset, .unset, .unset] [(.int 2)])) rfl (hb hby at_98) rfl (by decide) (cap := 2) (by decide) (by decide) (by decide) (by decide)
    obtain ⟨b85, g85⟩ : ∃ z, z = h81.size := ⟨_, rfl⟩
    rw [← g85] at A85 st85
    have g_b85 : n0 ≤ b85 := Nat.le_trans Zh84 (Nat.le_of_eq g85.symm)
    have ne86 : b67 ≠ b85 := Nat.ne_of_lt (Nat.lt_of_lt_of_le f83.lt (Nat.le_of_eq g85.symm))
    have f87 := f83.ext E85
    have Zh88 : n0 ≤ h85.size := Nat.le_trans Zh84 E85.1
    have V85 : Arv Z h85 b85 k85 .long (2 : Int32) [(.long (0 : Int64)), (.long (0 : Int64))] (.long (0 : Int64)) := (Arv.new A85 (by decide)).pad (pad_rep [] (.long (0 : Int64)) 2)
    refine og st85 ?_
    show oF p e below _ (T85.setTop (mkF m 100 #[iv p1, iv p2, jv q3, .second, jv q4, .second, jv q5, .second, iv 2, jv W0, .second, jv W1, .second, jv W2, .second, jv W3, .second, rv b67, .unset, .unset, .unset, .unset, .unset, .unset, .unset, .unset] [(.ref b85)]))
    refine og (fun t k => XS.dup X85.here hx rfl (hb hby at_100) rfl rfl (XS.iconst X85.here hx rfl (hb hby at_101) (XS.lload X85.here hx rfl (hb hby at_102) rfl k))) ?_
    show oF p e below _ (T85.setTop (mkF m 104 #[iv p1, iv p2, jv q3, .second, jv q4, .second, jv q5, .second, iv 2, jv W0, .second, jv W1, .second, jv W2, .second, jv W3, .second, rv b67, .unset, .unset, .unset, .unset, .unset, .unset, .unset, .unset] [(.long W0), (.int 0), (.ref b85), (.ref b85)]))
    obtain ⟨cl89, Ar89, q89, S89, M89, H89, G89⟩ := (id V85)
    have hin89 : ¬ ((0 : Int32) < 0 ∨ cl89.slots.size ≤ ((0 : Int32)).toNatClampNeg) := inb_of S89 ⟨by decide, by decide⟩
    obtain ⟨T89, h89, X89, e89, W89, st89⟩ := stJ X85 hx hZ e85 Ar89 (j := (0 : Int32)) hin89 (g := (mkF m 104 #[iv p1, iv p2, jv q3, .second, jv q4, .second, jv q5, .second, iv 2, jv W0, .second, jv W1, .second, jv W2, .second, jv W3, .second, rv b67, .unset, .unset, .unset, .unset, .unset, .unset, .unset, .unset] [(.long W0), (.int 0), (.ref b85), (.ref b85)])) rfl rfl (hb hby at_104)
    have f90 := f87.other W89 ne86
    have V89 := Arv.set Ar89 q89 S89 M89 H89 G89 rfl W89 0 rfl (Nat.le_of_ble_eq_true rfl)
    have f92 : Arv Z h89 b85 k85 .long (2 : Int32) [(.long W0), (.long (0 : Int64))] (.long (0 : Int64)) := V89
    have Zh93 : n0 ≤ h89.size := Nat.le_trans Zh88 (Nat.le_of_eq W89.size.symm)
    have N89 := Fr.snoc X89 N81 g_b85
    refine og st89 ?_
    show oF p e below _ (T89.setTop (mkF m 105 #[iv p1, iv p2, jv q3, .second, jv q4, .second, jv q5, .second, iv 2, jv W0, .second, jv W1, .second, jv W2, .second, jv W3, .second, rv b67, .unset, .unset, .unset, .unset, .unset, .unset, .unset, .unset] [(.ref b85)]))
    refine og (fun t k => XS.dup X89.here hx rfl (hb hby at_105) rfl rfl (XS.iconst X89.here hx rfl (hb hby at_106) (XS.lload X89.here hx rfl (hb hby at_107) rfl k))) ?_
    show oF p e below _ (T89.setTop (mkF m 109 #[iv p1, iv p2, jv q3, .second, jv q4, .second, jv q5, .second, iv 2, jv W0, .second, jv W1, .second, jv W2, .second, jv W3, .second, rv b67, .unset, .unset, .unset, .unset, .unset, .unset, .unset, .unset] [(.long W1), (.int 1), (.ref b85), (.ref b85)]))
    obtain ⟨cl94, Ar94, q94, S94, M94, H94, G94⟩ := (id f92)
    have hin94 : ¬ ((1 : Int32) < 0 ∨ cl94.slots.size ≤ ((1 : Int32)).toNatClampNeg) := inb_of S94 ⟨by decide, by decide⟩
    obtain ⟨T94, h94, X94, e94, W94, st94⟩ := stJ X89 hx hZ e89 Ar94 (j := (1 : Int32)) hin94 (g := (mkF m 109 #[iv p1, iv p2, jv q3, .second, jv q4, .second, jv q5, .second, iv 2, jv W0, .second, jv W1, .second, jv W2, .second, jv W3, .second, rv b67, .unset, .unset, .unset, .unset, .unset, .unset, .unset, .unset] [(.long W1), (.int 1), (.ref b85), (.ref b85)])) rfl rfl (hb hby at_109)
    have f95 := f90.other W94 ne86
    have V94 := Arv.set Ar94 q94 S94 M94 H94 G94 rfl W94 1 rfl (Nat.le_of_ble_eq_true rfl)
    have f97 : Arv Z h94 b85 k85 .long (2 : Int32) [(.long W0), (.long W1)] (.long (0 : Int64)) := V94
    have Zh98 : n0 ≤ h94.size := Nat.le_trans Zh93 (Nat.le_of_eq W94.size.symm)
    have N94 := Fr.snoc X94 N89 g_b85
    refine og st94 ?_
    show oF p e below _ (T94.setTop (mkF m 110 #[iv p1, iv p2, jv q3, .second, jv q4, .second, jv q5, .second, iv 2, jv W0, .second, jv W1, .second, jv W2, .second, jv W3, .second, rv b67, .unset, .unset, .unset, .unset, .unset, .unset, .unset, .unset] [(.ref b85)]))
    refine og (fun t k => XS.astore X94.here hx rfl (hb hby at_110) rfl rfl (l' := #[iv p1, iv p2, jv q3, .second, jv q4, .second, jv q5, .second, iv 2, jv W0, .second, jv W1, .second, jv W2, .second, jv W3, .second, rv b67, rv b85, .unset, .unset, .unset, .unset, .unset, .unset, .unset]) rfl (XS.goto X94.here hx rfl (pc0 := 112) (pc' := 169) rfl (hb hby at_112) (by decide) (by decide) k)) ?_
    show oF p e below _ (T94.setTop (mkF m 169 #[iv p1, iv p2, jv q3, .second, jv q4, .second, jv q5, .second, iv 2, jv W0, .second, jv W1, .second, jv W2, .second, jv W3, .second, rv b67, rv b85, .unset, .unset, .unset, .unset, .unset, .unset, .unset] []))
    obtain ⟨T99, h99, X99, e99, E99, A99, D99, -, st99⟩ := newO X94 hx hZ hown hw_5 hw_6 hw_7 e94 (g := (mkF m 169 #[iv p1, iv p2, jv q3, .second, jv q4, .second, jv q5, .second, iv 2, jv W0, .second, jv W1, .second, jv W2, .second, jv W3, .second, rv b67, rv b85, .unset, .unset, .unset, .unset, .unset, .unset, .unset] [])) rfl (hb hby at_169) (by decide) (by decide)
    obtain ⟨b99, g99⟩ : ∃ z, z = h94.size := ⟨_, rfl⟩
    rw [← g99] at A99 D99 st99
    have g_b99 : n0 ≤ b99 := Nat.le_trans Zh98 (Nat.le_of_eq g99.symm)
    have ne100 : b67 ≠ b99 := Nat.ne_of_lt (Nat.lt_of_lt_of_le f95.lt (Nat.le_of_eq g99.symm))
    have ne101 : b85 ≠ b99 := Nat.ne_of_lt (Nat.lt_of_lt_of_le f97.lt (Nat.le_of_eq g99.symm))
    have f102 := f95.ext E99
    have f103 := f97.ext E99
    have Zh104 : n0 ≤ h99.size := Nat.le_trans Zh98 E99.1
    have f105 : Fld Z h99 b99 "com/example/sound_verdict/soundverdict/UnitSearch" "wanted" "[J" .null := D99 (Or.inr hw_18) (ty := (.array .long)) (by decide)
    have f106 : Fld Z h99 b99 "com/example/sound_verdict/soundverdict/UnitSearch" "lead" "Ljava/lang/String;" .null := D99 (Or.inr hw_20) (ty := (.object "java/lang/String")) (by decide)
    have f107 : Fld Z h99 b99 "com/example/sound_verdict/soundverdict/UnitSearch" "border" "[I" .null := D99 (Or.inr hw_23) (ty := (.array .int)) (by decide)
    refine og st99 ?_
    show oF p e below _ (T99.setTop (mkF m 172 #[iv p1, iv p2, jv q3, .second, jv q4, .second, jv q5, .second, iv 2, jv W0, .second, jv W1, .second, jv W2, .second, jv W3, .second, rv b67, rv b85, .unset, .unset, .unset, .unset, .unset, .unset, .unset] [(.ref b99)]))
    refine og (fun t k => XS.dup X99.here hx rfl (hb hby at_172) rfl rfl (XS.aload X99.here hx rfl (hb hby at_173) rfl rfl k)) ?_
    show oF p e below _ (T99.setTop (mkF m 175 #[iv p1, iv p2, jv q3, .second, jv q4, .second, jv q5, .second, iv 2, jv W0, .second, jv W1, .second, jv W2, .second, jv W3, .second, rv b67, rv b85, .unset, .unset, .unset, .unset, .unset, .unset, .unset] [(.ref b85), (.ref b99), (.ref b99)]))
    obtain ⟨_, _, ⟨T108, L108, k108, n108⟩, -, X108, ⟨Lc108, hQ108, l108, y108, z108⟩, st108⟩ := X99.specialBack hx (y := mn_2) rfl hown (mvT hZ hw_8) (mvT hZ hw_9) (mvT hZ hw_10) (by decide) (backOf (W := 1) (rm2n2 l Z a0 hw [] (b99) (b85) k85 W0 W1 h99 n0 Zh104 f105 f107 f106 A99 g_b99 (Ne.symm ne101) f103) hZ hw_10 hw_7 (by decide) (by decide)) (g := (mkF m 175 #[iv p1, iv p2, jv q3, .second, jv q4, .second, jv q5, .second, iv 2, jv W0, .second, jv W1, .second, jv W2, .second, jv W3, .second, rv b67, rv b85, .unset, .unset, .unset, .unset, .unset, .unset, .unset] [(.ref b85), (.ref b99), (.ref b99)])) rfl (by rw [hml]; rfl) (Steps.refl _) (a := b99) (argsL := [(.ref b85)]) (rest := [(.ref b99)]) (lenOf pd_2 rfl) rfl (by show 2 * 0 + _ ≤ _; exact Nat.le_of_eq rfl) (hb hby at_175) (fun _ _ => ⟨rfl, e99, (by decide : 3 + 1 ≤ _), (by decide : 9 + 2 ≤ _)⟩)
    dsimp only [Pt.U, Pt.locs, Pt.cells, Pt.slots] at X108 l108 y108 z108 st108 hQ108
    subst l108 y108 z108
    obtain ⟨rfl, N108q, K108, xe108, xw108, b108, kb108, sz108, xb108, V108⟩ := hQ108
    have N108 := Fr.app N94 N108q
    have g_b108 : n0 ≤ b108 := Nat.le_trans Zh104 sz108
    have ne109 : b67 ≠ b108 := Nat.ne_of_lt (Nat.lt_of_lt_of_le f102.lt sz108)
    have ne110 : b85 ≠ b108 := Nat.ne_of_lt (Nat.lt_of_lt_of_le f103.lt sz108)
    have ne111 : b99 ≠ b108 := Nat.ne_of_lt (Nat.lt_of_lt_of_le A99.lt sz108)
    have f112 := f102.keep K108 (ninS ne100 nin0)
    have f113 := f103.keep K108 (ninS ne101 nin0)
    have Zh117 : n0 ≤ T108.heap.size := Nat.le_trans Zh104 K108.1
    refine og (fun t k => st108.trans k) ?_
    show oF p e below _ (T108.setTop (mkF m 178 #[iv p1, iv p2, jv q3, .second, jv q4, .second, jv q5, .second, iv 2, jv W0, .second, jv W1, .second, jv W2, .second, jv W3, .second, rv b67, rv b85, .unset, .unset, .unset, .unset, .unset, .unset, .unset] [(.ref b99)]))
    refine og (fun t k => XS.astore X108.here hx rfl (hb hby at_178) rfl rfl (l' := #[iv p1, iv p2, jv q3, .second, jv q4, .second, jv q5, .second, iv 2, jv W0, .second, jv W1, .second, jv W2, .second, jv W3, .second, rv b67, rv b85, rv b99, .unset, .unset, .unset, .unset, .unset, .unset]) rfl (XS.iloadN X108.here hx rfl (hb hby at_180) rfl k)) ?_
    show oF p e below _ (T108.setTop (mkF m 181 #[iv p1, iv p2, jv q3, .second, jv q4, .second, jv q5, .second, iv 2, jv W0, .second, jv W1, .second, jv W2, .second, jv W3, .second, rv b67, rv b85, rv b99, .unset, .unset, .unset, .unset, .unset, .unset] [(.int p2)]))
    refine og (fun t k => X108.ldcInt hx hown (mvT hZ hw_24) (g := (mkF m 181 #[iv p1, iv p2, jv q3, .second, jv q4, .second, jv q5, .second, iv 2, jv W0, .second, jv W1, .second, jv W2, .second, jv W3, .second, rv b67, rv b85, rv b99, .unset, .unset, .unset, .unset, .unset, .unset] [(.int p2)])) rfl (hb hby at_181) _ (XS.iand X108.here hx rfl (hb hby at_183) rfl (XS.iload X108.here hx rfl (hb hby at_184) rfl (XS.iconst X108.here hx rfl (hb hby at_186) (XS.iadd X108.here hx rfl (hb hby at_187) rfl (iremM X108 hx rfl (hb hby at_188) rfl (by decide) k)))))) ?_
    show oF p e below _ (T108.setTop (mkF m 189 #[iv p1, iv p2, jv q3, .second, jv q4, .second, jv q5, .second, iv 2, jv W0, .second, jv W1, .second, jv W2, .second, jv W3, .second, rv b67, rv b85, rv b99, .unset, .unset, .unset, .unset, .unset, .unset] [(.int ((p2 &&& (2147483647 : Int32)) % (3 : Int32)))]))
    obtain ⟨mm, h_mm⟩ : ∃ z : Int32, z = ((p2 &&& (2147483647 : Int32)) % (3 : Int32)) := ⟨_, rfl⟩
    rw [← h_mm]
    show oF p e below _ (T108.setTop (mkF m 189 #[iv p1, iv p2, jv q3, .second, jv q4, .second, jv q5, .second, iv 2, jv W0, .second, jv W1, .second, jv W2, .second, jv W3, .second, rv b67, rv b85, rv b99, .unset, .unset, .unset, .unset, .unset, .unset] [(.int mm)]))
    have hM := own_rem2 p2 h_mm
    refine og (fun t k => XS.istore X108.here hx rfl (hb hby at_189) rfl (l' := #[iv p1, iv p2, jv q3, .second, jv q4, .second, jv q5, .second, iv 2, jv W0, .second, jv W1, .second, jv W2, .second, jv W3, .second, rv b67, rv b85, rv b99, iv mm, .unset, .unset, .unset, .unset, .unset]) rfl (XS.iloadN X108.here hx rfl (hb hby at_191) rfl (XS.bipush X108.here hx rfl (hb hby at_192) (XS.iushr X108.here hx rfl (hb hby at_194) rfl (XS.iconst X108.here hx rfl (hb hby at_195) (XS.iand X108.here hx rfl (hb hby at_196) rfl (XS.istore X108.here hx rfl (hb hby at_197) rfl (l' := #[iv p1, iv p2, jv q3, .second, jv q4, .second, jv q5, .second, iv 2, jv W0, .second, jv W1, .second, jv W2, .second, jv W3, .second, rv b67, rv b85, rv b99, iv mm, iv (((p1.toUInt32 >>> ((6 : Int32) &&& 31).toUInt32).toInt32) &&& (3 : Int32)), .unset, .unset, .unset, .unset]) rfl k))))))) ?_
    show oF p e below _ (T108.setTop (mkF m 199 #[iv p1, iv p2, jv q3, .second, jv q4, .second, jv q5, .second, iv 2, jv W0, .second, jv W1, .second, jv W2, .second, jv W3, .second, rv b67, rv b85, rv b99, iv mm, iv (((p1.toUInt32 >>> ((6 : Int32) &&& 31).toUInt32).toInt32) &&& (3 : Int32)), .unset, .unset, .unset, .unset] []))
    have Jn118 : ∀ (uu : Int64), oF p e below (own_A s room_1.cells room_1.slots (own_q0 Z p1 p2 q3 q4 q5 h0 n0)) (T108.setTop (mkF m 221 #[iv p1, iv p2, jv q3, .second, jv q4, .second, jv q5, .second, iv 2, jv W0, .second, jv W1, .second, jv W2, .second, jv W3, .second, rv b67, rv b85, rv b99, iv mm, iv (((p1.toUInt32 >>> ((6 : Int32) &&& 31).toUInt32).toInt32) &&& (3 : Int32)), .unset, .unset, .unset, .unset] [(.long uu)])) := by
      intro uu
      refine og (fun t k => XS.lstore X108.here hx rfl (hb hby at_221) rfl (l' := #[iv p1, iv p2, jv q3, .second, jv q4, .second, jv q5, .second, iv 2, jv W0, .second, jv W1, .second, jv W2, .second, jv W3, .second, rv b67, rv b85, rv b99, iv mm, iv (((p1.toUInt32 >>> ((6 : Int32) &&& 31).toUInt32).toInt32) &&& (3 : Int32)), jv uu, .second, .unset, .unset]) rfl (XS.aload X108.here hx rfl (hb hby at_223) rfl rfl (XS.iload X108.here hx rfl (hb hby at_225) rfl (XS.lload X108.here hx rfl (hb hby at_227) rfl k)))) ?_
      show oF p e below _ (T108.setTop (mkF m 229 #[iv p1, iv p2, jv q3, .second, jv q4, .second, jv q5, .second, iv 2, jv W0, .second, jv W1, .second, jv W2, .second, jv W3, .second, rv b67, rv b85, rv b99, iv mm, iv (((p1.toUInt32 >>> ((6 : Int32) &&& 31).toUInt32).toInt32) &&& (3 : Int32)), jv uu, .second, .unset, .unset] [(.long uu), (.int mm), (.ref b99)]))
      obtain ⟨cq119, kq119, q119a, q119b, q119c⟩ := isOf hZ rfl xe108
      obtain ⟨_, _, ⟨T119, L119, k119, n119⟩, -, X119, ⟨Lc119, hQ119, l119, y119, z119⟩, st119⟩ := X108.virtualBack hx (y := mn_3) (z := mn_3) hown (mvT hZ hw_25) (mvT hZ hw_26) (notFace_of_selects (args := #[]) (mvT hZ hw_28)) (mvT hZ hw_28) (mvT hZ hw_27) (by decide) (backOf (W := 0) (rm5u2 l Z a0 hw [] (b99) (mm) (uu) b85 b108 k85 kb108 W0 W1 (0 : Int32) (own_b1 W0 W1) T108.heap n0 Zh117 xw108 xb108 f113 V108 own_h0 own_h1 hM) hZ hw_29 hw_7 (by decide) (by decide)) q119a q119c (g := (mkF m 229 #[iv p1, iv p2, jv q3, .second, jv q4, .second, jv q5, .second, iv 2, jv W0, .second, jv W1, .second, jv W2, .second, jv W3, .second, rv b67, rv b85, rv b99, iv mm, iv (((p1.toUInt32 >>> ((6 : Int32) &&& 31).toUInt32).toInt32) &&& (3 : Int32)), jv uu, .second, .unset, .unset] [(.long uu), (.int mm), (.ref b99)])) rfl (by rw [hml]; rfl) (Steps.refl _) (argsL := [(.int mm), (.long uu)]) (rest := []) (lenOf pd_3 rfl) rfl (by show 2 * 0 + _ ≤ _; exact Nat.le_of_eq rfl) (hb hby at_229) (fun _ _ => ⟨rfl, rfl, (by decide : 4 + 0 ≤ _), (by decide : 11 + 0 ≤ _)⟩)
      dsimp only [Pt.U, Pt.locs, Pt.cells, Pt.slots] at X119 l119 y119 z119 st119 hQ119
      subst l119 y119 z119
      obtain ⟨rfl, N119q, e119⟩ := hQ119
      have N119 := Fr.app N108 N119q
      refine og (fun t k => st119.trans k) ?_
      show oF p e below _ (T119.setTop (mkF m 232 #[iv p1, iv p2, jv q3, .second, jv q4, .second, jv q5, .second, iv 2, jv W0, .second, jv W1, .second, jv W2, .second, jv W3, .second, rv b67, rv b85, rv b99, iv mm, iv (((p1.toUInt32 >>> ((6 : Int32) &&& 31).toUInt32).toInt32) &&& (3 : Int32)), jv uu, .second, .unset, .unset] [(.int (own_g2 mm W0 W1 (0 : Int32) (own_b1 W0 W1) uu))]))
      refine og (fun t k => XS.istore X119.here hx rfl (hb hby at_232) rfl (l' := #[iv p1, iv p2, jv q3, .second, jv q4, .second, jv q5, .second, iv 2, jv W0, .second, jv W1, .second, jv W2, .second, jv W3, .second, rv b67, rv b85, rv b99, iv mm, iv (((p1.toUInt32 >>> ((6 : Int32) &&& 31).toUInt32).toInt32) &&& (3 : Int32)), jv uu, .second, iv (own_g2 mm W0 W1 (0 : Int32) (own_b1 W0 W1) uu), .unset]) rfl (XS.aload X119.here hx rfl (hb hby at_234) rfl rfl (XS.iload X119.here hx rfl (hb hby at_236) rfl (XS.iload X119.here hx rfl (hb hby at_238) rfl (XS.lload X119.here hx rfl (hb hby at_240) rfl (XS.iconst X119.here hx rfl (hb hby at_242) k)))))) ?_
      show oF p e below _ (T119.setTop (mkF m 243 #[iv p1, iv p2, jv q3, .second, jv q4, .second, jv q5, .second, iv 2, jv W0, .second, jv W1, .second, jv W2, .second, jv W3, .second, rv b67, rv b85, rv b99, iv mm, iv (((p1.toUInt32 >>> ((6 : Int32) &&& 31).toUInt32).toInt32) &&& (3 : Int32)), jv uu, .second, iv (own_g2 mm W0 W1 (0 : Int32) (own_b1 W0 W1) uu), .unset] [(.int 4), (.long uu), (.int mm), (.int 2), (.ref b67)]))
      obtain ⟨_, _, ⟨T120, L120, k120, n120⟩, -, X120, ⟨Lc120, hQ120, l120, y120, z120⟩, st120⟩ := Jvm.LawKit.callS X119 hx (y := mn_4) hown (mvT hZ hw_30) (mvT hZ hw_31) (mvT hZ hw_2) (mvT hZ hw_32) (by decide) (backOf (W := 0) (rm6u4 l Z a0 hw [] (b67) ((2 : Int32)) (mm) (uu) k67 W0 W1 W2 W3 T108.heap n0 Zh117 f112 (own_hm2 hM)) hZ hw_32 hw_2 (by decide) (by decide)) (g := (mkF m 243 #[iv p1, iv p2, jv q3, .second, jv q4, .second, jv q5, .second, iv 2, jv W0, .second, jv W1, .second, jv W2, .second, jv W3, .second, rv b67, rv b85, rv b99, iv mm, iv (((p1.toUInt32 >>> ((6 : Int32) &&& 31).toUInt32).toInt32) &&& (3 : Int32)), jv uu, .second, iv (own_g2 mm W0 W1 (0 : Int32) (own_b1 W0 W1) uu), .unset] [(.int 4), (.long uu), (.int mm), (.int 2), (.ref b67)])) rfl (by rw [hml]; rfl) (argsL := [(.ref b67), (.int 2), (.int mm), (.long uu), (.int 4)]) (rest := []) (lenOf pd_4 rfl) rfl (by show 2 * 0 + _ ≤ _; exact Nat.le_of_eq rfl) (hb hby at_243) (fun _ _ => ⟨rfl, e119, (by decide : 4 + 0 ≤ _), (by decide : 11 + 0 ≤ _)⟩)
      dsimp only [Pt.U, Pt.locs, Pt.cells, Pt.slots] at X120 l120 y120 z120 st120 hQ120
      subst l120 y120 z120
      obtain ⟨rfl, N120q, e120⟩ := hQ120
      have N120 := Fr.app N119 N120q
      refine og st120 ?_
      show oF p e below _ (T120.setTop (mkF m 246 #[iv p1, iv p2, jv q3, .second, jv q4, .second, jv q5, .second, iv 2, jv W0, .second, jv W1, .second, jv W2, .second, jv W3, .second, rv b67, rv b85, rv b99, iv mm, iv (((p1.toUInt32 >>> ((6 : Int32) &&& 31).toUInt32).toInt32) &&& (3 : Int32)), jv uu, .second, iv (own_g2 mm W0 W1 (0 : Int32) (own_b1 W0 W1) uu), .unset] [(.int (own_sf4 b67 (2 : Int32) mm uu W0 W1 W2 W3))]))
      by_cases hc121 : (own_sf4 b67 (2 : Int32) mm uu W0 W1 W2 W3) = (0 : Int32)
      · skip
        refine og (fun t k => XS.ifYes X120.here hx rfl (pc0 := 246) (pc' := 255) rfl (hb hby at_246) rfl ((if0 _ _).trans (teq hc121).1) (by decide) (by decide) (XS.aload X120.here hx rfl (hb hby at_255) rfl rfl (XS.iload X120.here hx rfl (hb hby at_257) rfl (XS.iload X120.here hx rfl (hb hby at_259) rfl (XS.lload X120.here hx rfl (hb hby at_261) rfl (XS.iconst X120.here hx rfl (hb hby at_263) k)))))) ?_
        show oF p e below _ (T120.setTop (mkF m 264 #[iv p1, iv p2, jv q3, .second, jv q4, .second, jv q5, .second, iv 2, jv W0, .second, jv W1, .second, jv W2, .second, jv W3, .second, rv b67, rv b85, rv b99, iv mm, iv (((p1.toUInt32 >>> ((6 : Int32) &&& 31).toUInt32).toInt32) &&& (3 : Int32)), jv uu, .second, iv (own_g2 mm W0 W1 (0 : Int32) (own_b1 W0 W1) uu), .unset] [(.int 3), (.long uu), (.int mm), (.int 2), (.ref b67)]))
        obtain ⟨_, _, ⟨T122, L122, k122, n122⟩, -, X122, ⟨Lc122, hQ122, l122, y122, z122⟩, st122⟩ := Jvm.LawKit.callS X120 hx (y := mn_4) hown (mvT hZ hw_30) (mvT hZ hw_31) (mvT hZ hw_2) (mvT hZ hw_32) (by decide) (backOf (W := 0) (rm6u3 l Z a0 hw [] (b67) ((2 : Int32)) (mm) (uu) k67 W0 W1 W2 W3 T108.heap n0 Zh117 f112 (own_hm2 hM)) hZ hw_32 hw_2 (by decide) (by decide)) (g := (mkF m 264 #[iv p1, iv p2, jv q3, .second, jv q4, .second, jv q5, .second, iv 2, jv W0, .second, jv W1, .second, jv W2, .second, jv W3, .second, rv b67, rv b85, rv b99, iv mm, iv (((p1.toUInt32 >>> ((6 : Int32) &&& 31).toUInt32).toInt32) &&& (3 : Int32)), jv uu, .second, iv (own_g2 mm W0 W1 (0 : Int32) (own_b1 W0 W1) uu), .unset] [(.int 3), (.long uu), (.int mm), (.int 2), (.ref b67)])) rfl (by rw [hml]; rfl) (argsL := [(.ref b67), (.int 2), (.int mm), (.long uu), (.int 3)]) (rest := []) (lenOf pd_4 rfl) rfl (by show 2 * 0 + _ ≤ _; exact Nat.le_of_eq rfl) (hb hby at_264) (fun _ _ => ⟨rfl, e120, (by decide : 4 + 0 ≤ _), (by decide : 11 + 0 ≤ _)⟩)
        dsimp only [Pt.U, Pt.locs, Pt.cells, Pt.slots] at X122 l122 y122 z122 st122 hQ122
        subst l122 y122 z122
        obtain ⟨rfl, N122q, e122⟩ := hQ122
        have N122 := Fr.app N120 N122q
        refine og st122 ?_
        show oF p e below _ (T122.setTop (mkF m 267 #[iv p1, iv p2, jv q3, .second, jv q4, .second, jv q5, .second, iv 2, jv W0, .second, jv W1, .second, jv W2, .second, jv W3, .second, rv b67, rv b85, rv b99, iv mm, iv (((p1.toUInt32 >>> ((6 : Int32) &&& 31).toUInt32).toInt32) &&& (3 : Int32)), jv uu, .second, iv (own_g2 mm W0 W1 (0 : Int32) (own_b1 W0 W1) uu), .unset] [(.int (own_sf3 b67 (2 : Int32) mm uu W0 W1 W2 W3))]))
        by_cases hc123 : (own_sf3 b67 (2 : Int32) mm uu W0 W1 W2 W3) = (0 : Int32)
        · skip
          refine og (fun t k => XS.ifYes X122.here hx rfl (pc0 := 267) (pc' := 276) rfl (hb hby at_267) rfl ((if0 _ _).trans (teq hc123).1) (by decide) (by decide) (XS.aload X122.here hx rfl (hb hby at_276) rfl rfl (XS.iload X122.here hx rfl (hb hby at_278) rfl (XS.iload X122.here hx rfl (hb hby at_280) rfl (XS.lload X122.here hx rfl (hb hby at_282) rfl (XS.iconst X122.here hx rfl (hb hby at_284) k)))))) ?_
          show oF p e below _ (T122.setTop (mkF m 285 #[iv p1, iv p2, jv q3, .second, jv q4, .second, jv q5, .second, iv 2, jv W0, .second, jv W1, .second, jv W2, .second, jv W3, .second, rv b67, rv b85, rv b99, iv mm, iv (((p1.toUInt32 >>> ((6 : Int32) &&& 31).toUInt32).toInt32) &&& (3 : Int32)), jv uu, .second, iv (own_g2 mm W0 W1 (0 : Int32) (own_b1 W0 W1) uu), .unset] [(.int 2), (.long uu), (.int mm), (.int 2), (.ref b67)]))
          obtain ⟨_, _, ⟨T124, L124, k124, n124⟩, -, X124, ⟨Lc124, hQ124, l124, y124, z124⟩, st124⟩ := Jvm.LawKit.callS X122 hx (y := mn_4) hown (mvT hZ hw_30) (mvT hZ hw_31) (mvT hZ hw_2) (mvT hZ hw_32) (by decide) (backOf (W := 0) (rm6u2 l Z a0 hw [] (b67) ((2 : Int32)) (mm) (uu) k67 W0 W1 W2 W3 T108.heap n0 Zh117 f112 (own_hm2 hM)) hZ hw_32 hw_2 (by decide) (by decide)) (g := (mkF m 285 #[iv p1, iv p2, jv q3, .second, jv q4, .second, jv q5, .second, iv 2, jv W0, .second, jv W1, .second, jv W2, .second, jv W3, .second, rv b67, rv b85, rv b99, iv mm, iv (((p1.toUInt32 >>> ((6 : Int32) &&& 31).toUInt32).toInt32) &&& (3 : Int32)), jv uu, .second, iv (own_g2 mm W0 W1 (0 : Int32) (own_b1 W0 W1) uu), .unset] [(.int 2), (.long uu), (.int mm), (.int 2), (.ref b67)])) rfl (by rw [hml]; rfl) (argsL := [(.ref b67), (.int 2), (.int mm), (.long uu), (.int 2)]) (rest := []) (lenOf pd_4 rfl) rfl (by show 2 * 0 + _ ≤ _; exact Nat.le_of_eq rfl) (hb hby at_285) (fun _ _ => ⟨rfl, e122, (by decide : 4 + 0 ≤ _), (by decide : 11 + 0 ≤ _)⟩)
          dsimp only [Pt.U, Pt.locs, Pt.cells, Pt.slots] at X124 l124 y124 z124 st124 hQ124
          subst l124 y124 z124
          obtain ⟨rfl, N124q, e124⟩ := hQ124
          have N124 := Fr.app N122 N124q
          refine og st124 ?_
          show oF p e below _ (T124.setTop (mkF m 288 #[iv p1, iv p2, jv q3, .second, jv q4, .second, jv q5, .second, iv 2, jv W0, .second, jv W1, .second, jv W2, .second, jv W3, .second, rv b67, rv b85, rv b99, iv mm, iv (((p1.toUInt32 >>> ((6 : Int32) &&& 31).toUInt32).toInt32) &&& (3 : Int32)), jv uu, .second, iv (own_g2 mm W0 W1 (0 : Int32) (own_b1 W0 W1) uu), .unset] [(.int (own_sf2 b67 (2 : Int32) mm uu W0 W1 W2 W3))]))
          by_cases hc125 : (own_sf2 b67 (2 : Int32) mm uu W0 W1 W2 W3) = (0 : Int32)
          · skip
            refine og (fun t k => XS.ifYes X124.here hx rfl (pc0 := 288) (pc' := 297) rfl (hb hby at_288) rfl ((if0 _ _).trans (teq hc125).1) (by decide) (by decide) (XS.aload X124.here hx rfl (hb hby at_297) rfl rfl (XS.iload X124.here hx rfl (hb hby at_299) rfl (XS.iload X124.here hx rfl (hb hby at_301) rfl (XS.lload X124.here hx rfl (hb hby at_303) rfl (XS.iconst X124.here hx rfl (hb hby at_305) k)))))) ?_
            show oF p e below _ (T124.setTop (mkF m 306 #[iv p1, iv p2, jv q3, .second, jv q4, .second, jv q5, .second, iv 2, jv W0, .second, jv W1, .second, jv W2, .second, jv W3, .second, rv b67, rv b85, rv b99, iv mm, iv (((p1.toUInt32 >>> ((6 : Int32) &&& 31).toUInt32).toInt32) &&& (3 : Int32)), jv uu, .second, iv (own_g2 mm W0 W1 (0 : Int32) (own_b1 W0 W1) uu), .unset] [(.int 1), (.long uu), (.int mm), (.int 2), (.ref b67)]))
            obtain ⟨_, _, ⟨T126, L126, k126, n126⟩, -, X126, ⟨Lc126, hQ126, l126, y126, z126⟩, st126⟩ := Jvm.LawKit.callS X124 hx (y := mn_4) hown (mvT hZ hw_30) (mvT hZ hw_31) (mvT hZ hw_2) (mvT hZ hw_32) (by decide) (backOf (W := 0) (rm6u1 l Z a0 hw [] (b67) ((2 : Int32)) (mm) (uu) k67 W0 W1 W2 W3 T108.heap n0 Zh117 f112 (own_hm2 hM)) hZ hw_32 hw_2 (by decide) (by decide)) (g := (mkF m 306 #[iv p1, iv p2, jv q3, .second, jv q4, .second, jv q5, .second, iv 2, jv W0, .second, jv W1, .second, jv W2, .second, jv W3, .second, rv b67, rv b85, rv b99, iv mm, iv (((p1.toUInt32 >>> ((6 : Int32) &&& 31).toUInt32).toInt32) &&& (3 : Int32)), jv uu, .second, iv (own_g2 mm W0 W1 (0 : Int32) (own_b1 W0 W1) uu), .unset] [(.int 1), (.long uu), (.int mm), (.int 2), (.ref b67)])) rfl (by rw [hml]; rfl) (argsL := [(.ref b67), (.int 2), (.int mm), (.long uu), (.int 1)]) (rest := []) (lenOf pd_4 rfl) rfl (by show 2 * 0 + _ ≤ _; exact Nat.le_of_eq rfl) (hb hby at_306) (fun _ _ => ⟨rfl, e124, (by decide : 4 + 0 ≤ _), (by decide : 11 + 0 ≤ _)⟩)
            dsimp only [Pt.U, Pt.locs, Pt.cells, Pt.slots] at X126 l126 y126 z126 st126 hQ126
            subst l126 y126 z126
            obtain ⟨rfl, N126q, e126⟩ := hQ126
            have N126 := Fr.app N124 N126q
            refine og st126 ?_
            show oF p e below _ (T126.setTop (mkF m 309 #[iv p1, iv p2, jv q3, .second, jv q4, .second, jv q5, .second, iv 2, jv W0, .second, jv W1, .second, jv W2, .second, jv W3, .second, rv b67, rv b85, rv b99, iv mm, iv (((p1.toUInt32 >>> ((6 : Int32) &&& 31).toUInt32).toInt32) &&& (3 : Int32)), jv uu, .second, iv (own_g2 mm W0 W1 (0 : Int32) (own_b1 W0 W1) uu), .unset] [(.int (own_sf1 b67 (2 : Int32) mm uu W0 W1 W2 W3))]))
            by_cases hc127 : (own_sf1 b67 (2 : Int32) mm uu W0 W1 W2 W3) = (0 : Int32)
            · skip
              refine og (fun t k => XS.ifYes X126.here hx rfl (pc0 := 309) (pc' := 318) rfl (hb hby at_309) rfl ((if0 _ _).trans (teq hc127).1) (by decide) (by decide) (XS.iconst X126.here hx rfl (hb hby at_318) (XS.istore X126.here hx rfl (hb hby at_319) rfl (l' := #[iv p1, iv p2, jv q3, .second, jv q4, .second, jv q5, .second, iv 2, jv W0, .second, jv W1, .second, jv W2, .second, jv W3, .second, rv b67, rv b85, rv b99, iv mm, iv (((p1.toUInt32 >>> ((6 : Int32) &&& 31).toUInt32).toInt32) &&& (3 : Int32)), jv uu, .second, iv (own_g2 mm W0 W1 (0 : Int32) (own_b1 W0 W1) uu), iv 0]) rfl (XS.iload X126.here hx rfl (hb hby at_321) rfl (XS.iload X126.here hx rfl (hb hby at_323) rfl k))))) ?_
              show oF p e below _ (T126.setTop (mkF m 325 #[iv p1, iv p2, jv q3, .second, jv q4, .second, jv q5, .second, iv 2, jv W0, .second, jv W1, .second, jv W2, .second, jv W3, .second, rv b67, rv b85, rv b99, iv mm, iv (((p1.toUInt32 >>> ((6 : Int32) &&& 31).toUInt32).toInt32) &&& (3 : Int32)), jv uu, .second, iv (own_g2 mm W0 W1 (0 : Int32) (own_b1 W0 W1) uu), iv 0] [(.int 0), (.int (own_g2 mm W0 W1 (0 : Int32) (own_b1 W0 W1) uu))]))
              refine og (fun t k => XS.icmpNo X126.here hx rfl (hb hby at_325) rfl (teq (own_fin20 hM hc121 hc123 hc125 hc127)).2 (XS.iconst X126.here hx rfl (hb hby at_328) (XS.goto X126.here hx rfl (pc0 := 329) (pc' := 333) rfl (hb hby at_329) (by decide) (by decide) k))) ?_
              show oF p e below _ (T126.setTop (mkF m 333 #[iv p1, iv p2, jv q3, .second, jv q4, .second, jv q5, .second, iv 2, jv W0, .second, jv W1, .second, jv W2, .second, jv W3, .second, rv b67, rv b85, rv b99, iv mm, iv (((p1.toUInt32 >>> ((6 : Int32) &&& 31).toUInt32).toInt32) &&& (3 : Int32)), jv uu, .second, iv (own_g2 mm W0 W1 (0 : Int32) (own_b1 W0 W1) uu), iv 0] [(.int 1)]))
              exact oo X126 (fun h => by rw [Bd.returns] at h; cases h) Bd.notSynchronized (fun fs hr => retN X126 hx (t := .boolean) Bd.returns (by simp) (hb hby at_333) hr) ⟨rfl, N126⟩ (by decide) (by decide)
            · skip
              refine og (fun t k => XS.ifNo X126.here hx rfl (hb hby at_309) rfl ((if0 _ _).trans (feq hc127).1) (XS.iconst X126.here hx rfl (hb hby at_312) (XS.istore X126.here hx rfl (hb hby at_313) rfl (l' := #[iv p1, iv p2, jv q3, .second, jv q4, .second, jv q5, .second, iv 2, jv W0, .second, jv W1, .second, jv W2, .second, jv W3, .second, rv b67, rv b85, rv b99, iv mm, iv (((p1.toUInt32 >>> ((6 : Int32) &&& 31).toUInt32).toInt32) &&& (3 : Int32)), jv uu, .second, iv (own_g2 mm W0 W1 (0 : Int32) (own_b1 W0 W1) uu), iv 1]) rfl (XS.goto X126.here hx rfl (pc0 := 315) (pc' := 321) rfl (hb hby at_315) (by decide) (by decide) (XS.iload X126.here hx rfl (hb hby at_321) rfl (XS.iload X126.here hx rfl (hb hby at_323) rfl k)))))) ?_
              show oF p e below _ (T126.setTop (mkF m 325 #[iv p1, iv p2, jv q3, .second, jv q4, .second, jv q5, .second, iv 2, jv W0, .second, jv W1, .second, jv W2, .second, jv W3, .second, rv b67, rv b85, rv b99, iv mm, iv (((p1.toUInt32 >>> ((6 : Int32) &&& 31).toUInt32).toInt32) &&& (3 : Int32)), jv uu, .second, iv (own_g2 mm W0 W1 (0 : Int32) (own_b1 W0 W1) uu), iv 1] [(.int 1), (.int (own_g2 mm W0 W1 (0 : Int32) (own_b1 W0 W1) uu))]))
              refine og (fun t k => XS.icmpNo X126.here hx rfl (hb hby at_325) rfl (teq (own_fin21 hM hc121 hc123 hc125 hc127)).2 (XS.iconst X126.here hx rfl (hb hby at_328) (XS.goto X126.here hx rfl (pc0 := 329) (pc' := 333) rfl (hb hby at_329) (by decide) (by decide) k))) ?_
              show oF p e below _ (T126.setTop (mkF m 333 #[iv p1, iv p2, jv q3, .second, jv q4, .second, jv q5, .second, iv 2, jv W0, .second, jv W1, .second, jv W2, .second, jv W3, .second, rv b67, rv b85, rv b99, iv mm, iv (((p1.toUInt32 >>> ((6 : Int32) &&& 31).toUInt32).toInt32) &&& (3 : Int32)), jv uu, .second, iv (own_g2 mm W0 W1 (0 : Int32) (own_b1 W0 W1) uu), iv 1] [(.int 1)]))
              exact oo X126 (fun h => by rw [Bd.returns] at h; cases h) Bd.notSynchronized (fun fs hr => retN X126 hx (t := .boolean) Bd.returns (by simp) (hb hby at_333) hr) ⟨rfl, N126⟩ (by decide) (by decide)
          · skip
            refine og (fun t k => XS.ifNo X124.here hx rfl (hb hby at_288) rfl ((if0 _ _).trans (feq hc125).1) (XS.iconst X124.here hx rfl (hb hby at_291) (XS.istore X124.here hx rfl (hb hby at_292) rfl (l' := #[iv p1, iv p2, jv q3, .second, jv q4, .second, jv q5, .second, iv 2, jv W0, .second, jv W1, .second, jv W2, .second, jv W3, .second, rv b67, rv b85, rv b99, iv mm, iv (((p1.toUInt32 >>> ((6 : Int32) &&& 31).toUInt32).toInt32) &&& (3 : Int32)), jv uu, .second, iv (own_g2 mm W0 W1 (0 : Int32) (own_b1 W0 W1) uu), iv 2]) rfl (XS.goto X124.here hx rfl (pc0 := 294) (pc' := 321) rfl (hb hby at_294) (by decide) (by decide) (XS.iload X124.here hx rfl (hb hby at_321) rfl (XS.iload X124.here hx rfl (hb hby at_323) rfl k)))))) ?_
            show oF p e below _ (T124.setTop (mkF m 325 #[iv p1, iv p2, jv q3, .second, jv q4, .second, jv q5, .second, iv 2, jv W0, .second, jv W1, .second, jv W2, .second, jv W3, .second, rv b67, rv b85, rv b99, iv mm, iv (((p1.toUInt32 >>> ((6 : Int32) &&& 31).toUInt32).toInt32) &&& (3 : Int32)), jv uu, .second, iv (own_g2 mm W0 W1 (0 : Int32) (own_b1 W0 W1) uu), iv 2] [(.int 2), (.int (own_g2 mm W0 W1 (0 : Int32) (own_b1 W0 W1) uu))]))
            refine og (fun t k => XS.icmpNo X124.here hx rfl (hb hby at_325) rfl (teq (own_fin22 hM hc121 hc123 hc125)).2 (XS.iconst X124.here hx rfl (hb hby at_328) (XS.goto X124.here hx rfl (pc0 := 329) (pc' := 333) rfl (hb hby at_329) (by decide) (by decide) k))) ?_
            show oF p e below _ (T124.setTop (mkF m 333 #[iv p1, iv p2, jv q3, .second, jv q4, .second, jv q5, .second, iv 2, jv W0, .second, jv W1, .second, jv W2, .second, jv W3, .second, rv b67, rv b85, rv b99, iv mm, iv (((p1.toUInt32 >>> ((6 : Int32) &&& 31).toUInt32).toInt32) &&& (3 : Int32)), jv uu, .second, iv (own_g2 mm W0 W1 (0 : Int32) (own_b1 W0 W1) uu), iv 2] [(.int 1)]))
            exact oo X124 (fun h => by rw [Bd.returns] at h; cases h) Bd.notSynchronized (fun fs hr => retN X124 hx (t := .boolean) Bd.returns (by simp) (hb hby at_333) hr) ⟨rfl, N124⟩ (by decide) (by decide)
        · skip
          refine og (fun t k => XS.ifNo X122.here hx rfl (hb hby at_267) rfl ((if0 _ _).trans (feq hc123).1) (XS.iconst X122.here hx rfl (hb hby at_270) (XS.istore X122.here hx rfl (hb hby at_271) rfl (l' := #[iv p1, iv p2, jv q3, .second, jv q4, .second, jv q5, .second, iv 2, jv W0, .second, jv W1, .second, jv W2, .second, jv W3, .second, rv b67, rv b85, rv b99, iv mm, iv (((p1.toUInt32 >>> ((6 : Int32) &&& 31).toUInt32).toInt32) &&& (3 : Int32)), jv uu, .second, iv (own_g2 mm W0 W1 (0 : Int32) (own_b1 W0 W1) uu), iv 3]) rfl (XS.goto X122.here hx rfl (pc0 := 273) (pc' := 321) rfl (hb hby at_273) (by decide) (by decide) (XS.iload X122.here hx rfl (hb hby at_321) rfl (XS.iload X122.here hx rfl (hb hby at_323) rfl k)))))) ?_
          show oF p e below _ (T122.setTop (mkF m 325 #[iv p1, iv p2, jv q3, .second, jv q4, .second, jv q5, .second, iv 2, jv W0, .second, jv W1, .second, jv W2, .second, jv W3, .second, rv b67, rv b85, rv b99, iv mm, iv (((p1.toUInt32 >>> ((6 : Int32) &&& 31).toUInt32).toInt32) &&& (3 : Int32)), jv uu, .second, iv (own_g2 mm W0 W1 (0 : Int32) (own_b1 W0 W1) uu), iv 3] [(.int 3), (.int (own_g2 mm W0 W1 (0 : Int32) (own_b1 W0 W1) uu))]))
          refine og (fun t k => XS.icmpNo X122.here hx rfl (hb hby at_325) rfl (teq (own_fin23 hM hc121 hc123)).2 (XS.iconst X122.here hx rfl (hb hby at_328) (XS.goto X122.here hx rfl (pc0 := 329) (pc' := 333) rfl (hb hby at_329) (by decide) (by decide) k))) ?_
          show oF p e below _ (T122.setTop (mkF m 333 #[iv p1, iv p2, jv q3, .second, jv q4, .second, jv q5, .second, iv 2, jv W0, .second, jv W1, .second, jv W2, .second, jv W3, .second, rv b67, rv b85, rv b99, iv mm, iv (((p1.toUInt32 >>> ((6 : Int32) &&& 31).toUInt32).toInt32) &&& (3 : Int32)), jv uu, .second, iv (own_g2 mm W0 W1 (0 : Int32) (own_b1 W0 W1) uu), iv 3] [(.int 1)]))
          exact oo X122 (fun h => by rw [Bd.returns] at h; cases h) Bd.notSynchronized (fun fs hr => retN X122 hx (t := .boolean) Bd.returns (by simp) (hb hby at_333) hr) ⟨rfl, N122⟩ (by decide) (by decide)
      · skip
        refine og (fun t k => XS.ifNo X120.here hx rfl (hb hby at_246) rfl ((if0 _ _).trans (feq hc121).1) (XS.iconst X120.here hx rfl (hb hby at_249) (XS.istore X120.here hx rfl (hb hby at_250) rfl (l' := #[iv p1, iv p2, jv q3, .second, jv q4, .second, jv q5, .second, iv 2, jv W0, .second, jv W1, .second, jv W2, .second, jv W3, .second, rv b67, rv b85, rv b99, iv mm, iv (((p1.toUInt32 >>> ((6 : Int32) &&& 31).toUInt32).toInt32) &&& (3 : Int32)), jv uu, .second, iv (own_g2 mm W0 W1 (0 : Int32) (own_b1 W0 W1) uu), iv 4]) rfl (XS.goto X120.here hx rfl (pc0 := 252) (pc' := 321) rfl (hb hby at_252) (by decide) (by decide) (XS.iload X120.here hx rfl (hb hby at_321) rfl (XS.iload X120.here hx rfl (hb hby at_323) rfl k)))))) ?_
        show oF p e below _ (T120.setTop (mkF m 325 #[iv p1, iv p2, jv q3, .second, jv q4, .second, jv q5, .second, iv 2, jv W0, .second, jv W1, .second, jv W2, .second, jv W3, .second, rv b67, rv b85, rv b99, iv mm, iv (((p1.toUInt32 >>> ((6 : Int32) &&& 31).toUInt32).toInt32) &&& (3 : Int32)), jv uu, .second, iv (own_g2 mm W0 W1 (0 : Int32) (own_b1 W0 W1) uu), iv 4] [(.int 4), (.int (own_g2 mm W0 W1 (0 : Int32) (own_b1 W0 W1) uu))]))
        refine og (fun t k => XS.icmpNo X120.here hx rfl (hb hby at_325) rfl (teq (own_fin24 hM hc121)).2 (XS.iconst X120.here hx rfl (hb hby at_328) (XS.goto X120.here hx rfl (pc0 := 329) (pc' := 333) rfl (hb hby at_329) (by decide) (by decide) k))) ?_
        show oF p e below _ (T120.setTop (mkF m 333 #[iv p1, iv p2, jv q3, .second, jv q4, .second, jv q5, .second, iv 2, jv W0, .second, jv W1, .second, jv W2, .second, jv W3, .second, rv b67, rv b85, rv b99, iv mm, iv (((p1.toUInt32 >>> ((6 : Int32) &&& 31).toUInt32).toInt32) &&& (3 : Int32)), jv uu, .second, iv (own_g2 mm W0 W1 (0 : Int32) (own_b1 W0 W1) uu), iv 4] [(.int 1)]))
        exact oo X120 (fun h => by rw [Bd.returns] at h; cases h) Bd.notSynchronized (fun fs hr => retN X120 hx (t := .boolean) Bd.returns (by simp) (hb hby at_333) hr) ⟨rfl, N120⟩ (by decide) (by decide)
    refine og (fun t k => XS.iload X108.here hx rfl (hb hby at_199) rfl k) ?_
    show oF p e below _ (T108.setTop (mkF m 201 #[iv p1, iv p2, jv q3, .second, jv q4, .second, jv q5, .second, iv 2, jv W0, .second, jv W1, .second, jv W2, .second, jv W3, .second, rv b67, rv b85, rv b99, iv mm, iv (((p1.toUInt32 >>> ((6 : Int32) &&& 31).toUInt32).toInt32) &&& (3 : Int32)), .unset, .unset, .unset, .unset] [(.int (((p1.toUInt32 >>> ((6 : Int32) &&& 31).toUInt32).toInt32) &&& (3 : Int32)))]))
    by_cases hc128 : (((p1.toUInt32 >>> ((6 : Int32) &&& 31).toUInt32).toInt32) &&& (3 : Int32)) = (0 : Int32)
    · skip
      refine og (fun t k => XS.ifNo X108.here hx rfl (hb hby at_201) rfl ((if0 _ _).trans (teq hc128).2) (XS.lloadN X108.here hx rfl (hb hby at_204) rfl (XS.goto X108.here hx rfl (pc0 := 205) (pc' := 221) rfl (hb hby at_205) (by decide) (by decide) k))) ?_
      exact Jn118 (q3)
    · skip
      refine og (fun t k => XS.ifYes X108.here hx rfl (pc0 := 201) (pc' := 208) rfl (hb hby at_201) rfl ((if0 _ _).trans (feq hc128).2) (by decide) (by decide) (XS.iload X108.here hx rfl (hb hby at_208) rfl (XS.iconst X108.here hx rfl (hb hby at_210) k))) ?_
      show oF p e below _ (T108.setTop (mkF m 211 #[iv p1, iv p2, jv q3, .second, jv q4, .second, jv q5, .second, iv 2, jv W0, .second, jv W1, .second, jv W2, .second, jv W3, .second, rv b67, rv b85, rv b99, iv mm, iv (((p1.toUInt32 >>> ((6 : Int32) &&& 31).toUInt32).toInt32) &&& (3 : Int32)), .unset, .unset, .unset, .unset] [(.int 1), (.int (((p1.toUInt32 >>> ((6 : Int32) &&& 31).toUInt32).toInt32) &&& (3 : Int32)))]))
      by_cases hc129 : (((p1.toUInt32 >>> ((6 : Int32) &&& 31).toUInt32).toInt32) &&& (3 : Int32)) = (1 : Int32)
      · skip
        refine og (fun t k => XS.icmpNo X108.here hx rfl (hb hby at_211) rfl (teq hc129).2 (XS.lload X108.here hx rfl (hb hby at_214) rfl (XS.goto X108.here hx rfl (pc0 := 216) (pc' := 221) rfl (hb hby at_216) (by decide) (by decide) k))) ?_
        exact Jn118 (q4)
      · skip
        refine og (fun t k => XS.icmpYes X108.here hx rfl (pc0 := 211) (pc' := 219) rfl (hb hby at_211) rfl (feq hc129).2 (by decide) (by decide) (XS.lload X108.here hx rfl (hb hby at_219) rfl k)) ?_
        exact Jn118 (q5)
  · skip
    rw [h]
    show oF p e below _ (s₁.setTop (mkF m 5 #[iv p1, iv p2, jv q3, .second, jv q4, .second, jv q5, .second, .unset, .unset, .unset, .unset, .unset, .unset, .unset, .unset, .unset, .unset, .unset, .unset, .unset, .unset, .unset, .unset, .unset, .unset] [(.int 3)]))
    refine og (fun t k => XS.istore X0.here hx rfl (hb hby at_5) rfl (l' := #[iv p1, iv p2, jv q3, .second, jv q4, .second, jv q5, .second, iv 3, .unset, .unset, .unset, .unset, .unset, .unset, .unset, .unset, .unset, .unset, .unset, .unset, .unset, .unset, .unset, .unset, .unset]) rfl (XS.iloadN X0.here hx rfl (hb hby at_7) rfl (XS.iconst X0.here hx rfl (hb hby at_8) (XS.lloadN X0.here hx rfl (hb hby at_9) rfl (XS.lload X0.here hx rfl (hb hby at_10) rfl k))))) ?_
    show oF p e below _ (s₁.setTop (mkF m 12 #[iv p1, iv p2, jv q3, .second, jv q4, .second, jv q5, .second, iv 3, .unset, .unset, .unset, .unset, .unset, .unset, .unset, .unset, .unset, .unset, .unset, .unset, .unset, .unset, .unset, .unset, .unset] [(.long q4), (.long q3), (.int 2), (.int p1)]))
    obtain ⟨_, _, ⟨T130, L130, k130, n130⟩, -, X130, ⟨Lc130, hQ130, l130, y130, z130⟩, st130⟩ := Jvm.LawKit.callS X0 hx (y := mn_1) hown (mvT hZ hw_0) (mvT hZ hw_1) (mvT hZ hw_2) (mvT hZ hw_3) (by decide) (backOf (W := 0) (rm1 l Z a0 hw [] (p1) ((2 : Int32)) (q3) (q4)  h0 n0 Z0 ) hZ hw_3 hw_2 (by decide) (by decide)) (g := (mkF m 12 #[iv p1, iv p2, jv q3, .second, jv q4, .second, jv q5, .second, iv 3, .unset, .unset, .unset, .unset, .unset, .unset, .unset, .unset, .unset, .unset, .unset, .unset, .unset, .unset, .unset, .unset, .unset] [(.long q4), (.long q3), (.int 2), (.int p1)])) rfl (by rw [hml]; rfl) (argsL := [(.int p1), (.int 2), (.long q3), (.long q4)]) (rest := []) (lenOf pd_1 rfl) rfl (by show 2 * 0 + _ ≤ _; exact Nat.le_of_eq rfl) (hb hby at_12) (fun _ _ => ⟨rfl, e0, (by decide : 0 + 0 ≤ _), (by decide : 0 + 0 ≤ _)⟩)
    dsimp only [Pt.U, Pt.locs, Pt.cells, Pt.slots] at X130 l130 y130 z130 st130 hQ130
    subst l130 y130 z130
    obtain ⟨rfl, N130q, e130⟩ := hQ130
    have N130 := Fr.app N0 N130q
    refine og st130 ?_
    show oF p e below _ (T130.setTop (mkF m 15 #[iv p1, iv p2, jv q3, .second, jv q4, .second, jv q5, .second, iv 3, .unset, .unset, .unset, .unset, .unset, .unset, .unset, .unset, .unset, .unset, .unset, .unset, .unset, .unset, .unset, .unset, .unset] [(.long (own_pk_5 p1 (2 : Int32) q3 q4))]))
    obtain ⟨W0, h_W0⟩ : ∃ z : Int64, z = (own_pk_5 p1 (2 : Int32) q3 q4) := ⟨_, rfl⟩
    rw [← h_W0]
    show oF p e below _ (T130.setTop (mkF m 15 #[iv p1, iv p2, jv q3, .second, jv q4, .second, jv q5, .second, iv 3, .unset, .unset, .unset, .unset, .unset, .unset, .unset, .unset, .unset, .unset, .unset, .unset, .unset, .unset, .unset, .unset, .unset] [(.long W0)]))
    refine og (fun t k => XS.lstore X130.here hx rfl (hb hby at_15) rfl (l' := #[iv p1, iv p2, jv q3, .second, jv q4, .second, jv q5, .second, iv 3, jv W0, .second, .unset, .unset, .unset, .unset, .unset, .unset, .unset, .unset, .unset, .unset, .unset, .unset, .unset, .unset, .unset]) rfl (XS.iloadN X130.here hx rfl (hb hby at_17) rfl (XS.iconst X130.here hx rfl (hb hby at_18) (XS.lloadN X130.here hx rfl (hb hby at_19) rfl (XS.lload X130.here hx rfl (hb hby at_20) rfl k))))) ?_
    show oF p e below _ (T130.setTop (mkF m 22 #[iv p1, iv p2, jv q3, .second, jv q4, .second, jv q5, .second, iv 3, jv W0, .second, .unset, .unset, .unset, .unset, .unset, .unset, .unset, .unset, .unset, .unset, .unset, .unset, .unset, .unset, .unset] [(.long q4), (.long q3), (.int 3), (.int p1)]))
    obtain ⟨_, _, ⟨T131, L131, k131, n131⟩, -, X131, ⟨Lc131, hQ131, l131, y131, z131⟩, st131⟩ := Jvm.LawKit.callS X130 hx (y := mn_1) hown (mvT hZ hw_0) (mvT hZ hw_1) (mvT hZ hw_2) (mvT hZ hw_3) (by decide) (backOf (W := 0) (rm1 l Z a0 hw [] (p1) ((3 : Int32)) (q3) (q4)  h0 n0 Z0 ) hZ hw_3 hw_2 (by decide) (by decide)) (g := (mkF m 22 #[iv p1, iv p2, jv q3, .second, jv q4, .second, jv q5, .second, iv 3, jv W0, .second, .unset, .unset, .unset, .unset, .unset, .unset, .unset, .unset, .unset, .unset, .unset, .unset, .unset, .unset, .unset] [(.long q4), (.long q3), (.int 3), (.int p1)])) rfl (by rw [hml]; rfl) (argsL := [(.int p1), (.int 3), (.long q3), (.long q4)]) (rest := []) (lenOf pd_1 rfl) rfl (by show 2 * 0 + _ ≤ _; exact Nat.le_of_eq rfl) (hb hby at_22) (fun _ _ => ⟨rfl, e130, (by decide : 0 + 0 ≤ _), (by decide : 0 + 0 ≤ _)⟩)
    dsimp only [Pt.U, Pt.locs, Pt.cells, Pt.slots] at X131 l131 y131 z131 st131 hQ131
    subst l131 y131 z131
    obtain ⟨rfl, N131q, e131⟩ := hQ131
    have N131 := Fr.app N130 N131q
    refine og st131 ?_
    show oF p e below _ (T131.setTop (mkF m 25 #[iv p1, iv p2, jv q3, .second, jv q4, .second, jv q5, .second, iv 3, jv W0, .second, .unset, .unset, .unset, .unset, .unset, .unset, .unset, .unset, .unset, .unset, .unset, .unset, .unset, .unset, .unset] [(.long (own_pk_5 p1 (3 : Int32) q3 q4))]))
    obtain ⟨W1, h_W1⟩ : ∃ z : Int64, z = (own_pk_5 p1 (3 : Int32) q3 q4) := ⟨_, rfl⟩
    rw [← h_W1]
    show oF p e below _ (T131.setTop (mkF m 25 #[iv p1, iv p2, jv q3, .second, jv q4, .second, jv q5, .second, iv 3, jv W0, .second, .unset, .unset, .unset, .unset, .unset, .unset, .unset, .unset, .unset, .unset, .unset, .unset, .unset, .unset, .unset] [(.long W1)]))
    refine og (fun t k => XS.lstore X131.here hx rfl (hb hby at_25) rfl (l' := #[iv p1, iv p2, jv q3, .second, jv q4, .second, jv q5, .second, iv 3, jv W0, .second, jv W1, .second, .unset, .unset, .unset, .unset, .unset, .unset, .unset, .unset, .unset, .unset, .unset, .unset, .unset]) rfl (XS.iloadN X131.here hx rfl (hb hby at_27) rfl (XS.iconst X131.here hx rfl (hb hby at_28) (XS.lloadN X131.here hx rfl (hb hby at_29) rfl (XS.lload X131.here hx rfl (hb hby at_30) rfl k))))) ?_
    show oF p e below _ (T131.setTop (mkF m 32 #[iv p1, iv p2, jv q3, .second, jv q4, .second, jv q5, .second, iv 3, jv W0, .second, jv W1, .second, .unset, .unset, .unset, .unset, .unset, .unset, .unset, .unset, .unset, .unset, .unset, .unset, .unset] [(.long q4), (.long q3), (.int 4), (.int p1)]))
    obtain ⟨_, _, ⟨T132, L132, k132, n132⟩, -, X132, ⟨Lc132, hQ132, l132, y132, z132⟩, st132⟩ := Jvm.LawKit.callS X131 hx (y := mn_1) hown (mvT hZ hw_0) (mvT hZ hw_1) (mvT hZ hw_2) (mvT hZ hw_3) (by decide) (backOf (W := 0) (rm1 l Z a0 hw [] (p1) ((4 : Int32)) (q3) (q4)  h0 n0 Z0 ) hZ hw_3 hw_2 (by decide) (by decide)) (g := (mkF m 32 #[iv p1, iv p2, jv q3, .second, jv q4, .second, jv q5, .second, iv 3, jv W0, .second, jv W1, .second, .unset, .unset, .unset, .unset, .unset, .unset, .unset, .unset, .unset, .unset, .unset, .unset, .unset] [(.long q4), (.long q3), (.int 4), (.int p1)])) rfl (by rw [hml]; rfl) (argsL := [(.int p1), (.int 4), (.long q3), (.long q4)]) (rest := []) (lenOf pd_1 rfl) rfl (by show 2 * 0 + _ ≤ _; exact Nat.le_of_eq rfl) (hb hby at_32) (fun _ _ => ⟨rfl, e131, (by decide : 0 + 0 ≤ _), (by decide : 0 + 0 ≤ _)⟩)
    dsimp only [Pt.U, Pt.locs, Pt.cells, Pt.slots] at X132 l132 y132 z132 st132 hQ132
    subst l132 y132 z132
    obtain ⟨rfl, N132q, e132⟩ := hQ132
    have N132 := Fr.app N131 N132q
    refine og st132 ?_
    show oF p e below _ (T132.setTop (mkF m 35 #[iv p1, iv p2, jv q3, .second, jv q4, .second, jv q5, .second, iv 3, jv W0, .second, jv W1, .second, .unset, .unset, .unset, .unset, .unset, .unset, .unset, .unset, .unset, .unset, .unset, .unset, .unset] [(.long (own_pk_5 p1 (4 : Int32) q3 q4))]))
    obtain ⟨W2, h_W2⟩ : ∃ z : Int64, z = (own_pk_5 p1 (4 : Int32) q3 q4) := ⟨_, rfl⟩
    rw [← h_W2]
    show oF p e below _ (T132.setTop (mkF m 35 #[iv p1, iv p2, jv q3, .second, jv q4, .second, jv q5, .second, iv 3, jv W0, .second, jv W1, .second, .unset, .unset, .unset, .unset, .unset, .unset, .unset, .unset, .unset, .unset, .unset, .unset, .unset] [(.long W2)]))
    refine og (fun t k => XS.lstore X132.here hx rfl (hb hby at_35) rfl (l' := #[iv p1, iv p2, jv q3, .second, jv q4, .second, jv q5, .second, iv 3, jv W0, .second, jv W1, .second, jv W2, .second, .unset, .unset, .unset, .unset, .unset, .unset, .unset, .unset, .unset, .unset, .unset]) rfl (XS.iloadN X132.here hx rfl (hb hby at_37) rfl (XS.iconst X132.here hx rfl (hb hby at_38) (XS.lloadN X132.here hx rfl (hb hby at_39) rfl (XS.lload X132.here hx rfl (hb hby at_40) rfl k))))) ?_
    show oF p e below _ (T132.setTop (mkF m 42 #[iv p1, iv p2, jv q3, .second, jv q4, .second, jv q5, .second, iv 3, jv W0, .second, jv W1, .second, jv W2, .second, .unset, .unset, .unset, .unset, .unset, .unset, .unset, .unset, .unset, .unset, .unset] [(.long q4), (.long q3), (.int 5), (.int p1)]))
    obtain ⟨_, _, ⟨T133, L133, k133, n133⟩, -, X133, ⟨Lc133, hQ133, l133, y133, z133⟩, st133⟩ := Jvm.LawKit.callS X132 hx (y := mn_1) hown (mvT hZ hw_0) (mvT hZ hw_1) (mvT hZ hw_2) (mvT hZ hw_3) (by decide) (backOf (W := 0) (rm1 l Z a0 hw [] (p1) ((5 : Int32)) (q3) (q4)  h0 n0 Z0 ) hZ hw_3 hw_2 (by decide) (by decide)) (g := (mkF m 42 #[iv p1, iv p2, jv q3, .second, jv q4, .second, jv q5, .second, iv 3, jv W0, .second, jv W1, .second, jv W2, .second, .unset, .unset, .unset, .unset, .unset, .unset, .unset, .unset, .unset, .unset, .unset] [(.long q4), (.long q3), (.int 5), (.int p1)])) rfl (by rw [hml]; rfl) (argsL := [(.int p1), (.int 5), (.long q3), (.long q4)]) (rest := []) (lenOf pd_1 rfl) rfl (by show 2 * 0 + _ ≤ _; exact Nat.le_of_eq rfl) (hb hby at_42) (fun _ _ => ⟨rfl, e132, (by decide : 0 + 0 ≤ _), (by decide : 0 + 0 ≤ _)⟩)
    dsimp only [Pt.U, Pt.locs, Pt.cells, Pt.slots] at X133 l133 y133 z133 st133 hQ133
    subst l133 y133 z133
    obtain ⟨rfl, N133q, e133⟩ := hQ133
    have N133 := Fr.app N132 N133q
    refine og st133 ?_
    show oF p e below _ (T133.setTop (mkF m 45 #[iv p1, iv p2, jv q3, .second, jv q4, .second, jv q5, .second, iv 3, jv W0, .second, jv W1, .second, jv W2, .second, .unset, .unset, .unset, .unset, .unset, .unset, .unset, .unset, .unset, .unset, .unset] [(.long (own_pk_5 p1 (5 : Int32) q3 q4))]))
    obtain ⟨W3, h_W3⟩ : ∃ z : Int64, z = (own_pk_5 p1 (5 : Int32) q3 q4) := ⟨_, rfl⟩
    rw [← h_W3]
    show oF p e below _ (T133.setTop (mkF m 45 #[iv p1, iv p2, jv q3, .second, jv q4, .second, jv q5, .second, iv 3, jv W0, .second, jv W1, .second, jv W2, .second, .unset, .unset, .unset, .unset, .unset, .unset, .unset, .unset, .unset, .unset, .unset] [(.long W3)]))
    refine og (fun t k => XS.lstore X133.here hx rfl (hb hby at_45) rfl (l' := #[iv p1, iv p2, jv q3, .second, jv q4, .second, jv q5, .second, iv 3, jv W0, .second, jv W1, .second, jv W2, .second, jv W3, .second, .unset, .unset, .unset, .unset, .unset, .unset, .unset, .unset, .unset]) rfl (XS.iconst X133.here hx rfl (hb hby at_47) k)) ?_
    show oF p e below _ (T133.setTop (mkF m 48 #[iv p1, iv p2, jv q3, .second, jv q4, .second, jv q5, .second, iv 3, jv W0, .second, jv W1, .second, jv W2, .second, jv W3, .second, .unset, .unset, .unset, .unset, .unset, .unset, .unset, .unset, .unset] [(.int 4)]))
    obtain ⟨T134, h134, k134, X134, e134, E134, A134, st134⟩ := newP (aty := .long) X133 hx hZ hw_4 e133 (g := (mkF m 48 #[iv p1, iv p2, jv q3, .second, jv q4, .second, jv q5, .second, iv 3, jv W0, .second, jv W1, .second, jv W2, .second, jv W3, .second, .unset, .unset, .unset, .unset, .unset, .unset, .unset, .unset, .unset] [(.int 4)])) rfl (hb hby at_48) rfl (by decide) (cap := 4) (by decide) (by decide) (by decide) (by decide)
    obtain ⟨b134, g134⟩ : ∃ z, z = h0.size := ⟨_, rfl⟩
    rw [← g134] at A134 st134
    have g_b134 : n0 ≤ b134 := Nat.le_trans Z0 (Nat.le_of_eq g134.symm)
    have Zh135 : n0 ≤ h134.size := Nat.le_trans Z0 E134.1
    have V134 : Arv Z h134 b134 k134 .long (4 : Int32) [(.long (0 : Int64)), (.long (0 : Int64)), (.long (0 : Int64)), (.long (0 : Int64))] (.long (0 : Int64)) := (Arv.new A134 (by decide)).pad (pad_rep [] (.long (0 : Int64)) 4)
    refine og st134 ?_
    show oF p e below _ (T134.setTop (mkF m 50 #[iv p1, iv p2, jv q3, .second, jv q4, .second, jv q5, .second, iv 3, jv W0, .second, jv W1, .second, jv W2, .second, jv W3, .second, .unset, .unset, .unset, .unset, .unset, .unset, .unset, .unset, .unset] [(.ref b134)]))
    refine og (fun t k => XS.dup X134.here hx rfl (hb hby at_50) rfl rfl (XS.iconst X134.here hx rfl (hb hby at_51) (XS.lload X134.here hx rfl (hb hby at_52) rfl k))) ?_
    show oF p e below _ (T134.setTop (mkF m 54 #[iv p1, iv p2, jv q3, .second, jv q4, .second, jv q5, .second, iv 3, jv W0, .second, jv W1, .second, jv W2, .second, jv W3, .second, .unset, .unset, .unset, .unset, .unset, .unset, .unset, .unset, .unset] [(.long W0), (.int 0), (.ref b134), (.ref b134)]))
    obtain ⟨cl136, Ar136, q136, S136, M136, H136, G136⟩ := (id V134)
    have hin136 : ¬ ((0 : Int32) < 0 ∨ cl136.slots.size ≤ ((0 : Int32)).toNatClampNeg) := inb_of S136 ⟨by decide, by decide⟩
    obtain ⟨T136, h136, X136, e136, W136, st136⟩ := stJ X134 hx hZ e134 Ar136 (j := (0 : Int32)) hin136 (g := (mkF m 54 #[iv p1, iv p2, jv q3, .second, jv q4, .second, jv q5, .second, iv 3, jv W0, .second, jv W1, .second, jv W2, .second, jv W3, .second, .unset, .unset, .unset, .unset, .unset, .unset, .unset, .unset, .unset] [(.long W0), (.int 0), (.ref b134), (.ref b134)])) rfl rfl (hb hby at_54)
    have V136 := Arv.set Ar136 q136 S136 M136 H136 G136 rfl W136 0 rfl (Nat.le_of_ble_eq_true rfl)
    have f138 : Arv Z h136 b134 k134 .long (4 : Int32) [(.long W0), (.long (0 : Int64)), (.long (0 : Int64)), (.long (0 : Int64))] (.long (0 : Int64)) := V136
    have Zh139 : n0 ≤ h136.size := Nat.le_trans Zh135 (Nat.le_of_eq W136.size.symm)
    have N136 := Fr.snoc X136 N133 g_b134
    refine og st136 ?_
    show oF p e below _ (T136.setTop (mkF m 55 #[iv p1, iv p2, jv q3, .second, jv q4, .second, jv q5, .second, iv 3, jv W0, .second, jv W1, .second, jv W2, .second, jv W3, .second, .unset, .unset, .unset, .unset, .unset, .unset, .unset, .unset, .unset] [(.ref b134)]))
    refine og (fun t k => XS.dup X136.here hx rfl (hb hby at_55) rfl rfl (XS.iconst X136.here hx rfl (hb hby at_56) (XS.lload X136.here hx rfl (hb hby at_57) rfl k))) ?_
    show oF p e below _ (T136.setTop (mkF m 59 #[iv p1, iv p2, jv q3, .second, jv q4, .second, jv q5, .second, iv 3, jv W0, .second, jv W1, .second, jv W2, .second, jv W3, .second, .unset, .unset, .unset, .unset, .unset, .unset, .unset, .unset, .unset] [(.long W1), (.int 1), (.ref b134), (.ref b134)]))
    obtain ⟨cl140, Ar140, q140, S140, M140, H140, G140⟩ := (id f138)
    have hin140 : ¬ ((1 : Int32) < 0 ∨ cl140.slots.size ≤ ((1 : Int32)).toNatClampNeg) := inb_of S140 ⟨by decide, by decide⟩
    obtain ⟨T140, h140, X140, e140, W140, st140⟩ := stJ X136 hx hZ e136 Ar140 (j := (1 : Int32)) hin140 (g := (mkF m 59 #[iv p1, iv p2, jv q3, .second, jv q4, .second, jv q5, .second, iv 3, jv W0, .second, jv W1, .second, jv W2, .second, jv W3, .second, .unset, .unset, .unset, .unset, .unset, .unset, .unset, .unset, .unset] [(.long W1), (.int 1), (.ref b134), (.ref b134)])) rfl rfl (hb hby at_59)
    have V140 := Arv.set Ar140 q140 S140 M140 H140 G140 rfl W140 1 rfl (Nat.le_of_ble_eq_true rfl)
    have f142 : Arv Z h140 b134 k134 .long (4 : Int32) [(.long W0), (.long W1), (.long (0 : Int64)), (.long (0 : Int64))] (.long (0 : Int64)) := V140
    have Zh143 : n0 ≤ h140.size := Nat.le_trans Zh139 (Nat.le_of_eq W140.size.symm)
    have N140 := Fr.snoc X140 N136 g_b134
    refine og st140 ?_
    show oF p e below _ (T140.setTop (mkF m 60 #[iv p1, iv p2, jv q3, .second, jv q4, .second, jv q5, .second, iv 3, jv W0, .second, jv W1, .second, jv W2, .second, jv W3, .second, .unset, .unset, .unset, .unset, .unset, .unset, .unset, .unset, .unset] [(.ref b134)]))
    refine og (fun t k => XS.dup X140.here hx rfl (hb hby at_60) rfl rfl (XS.iconst X140.here hx rfl (hb hby at_61) (XS.lload X140.here hx rfl (hb hby at_62) rfl k))) ?_
    show oF p e below _ (T140.setTop (mkF m 64 #[iv p1, iv p2, jv q3, .second, jv q4, .second, jv q5, .second, iv 3, jv W0, .second, jv W1, .second, jv W2, .second, jv W3, .second, .unset, .unset, .unset, .unset, .unset, .unset, .unset, .unset, .unset] [(.long W2), (.int 2), (.ref b134), (.ref b134)]))
    obtain ⟨cl144, Ar144, q144, S144, M144, H144, G144⟩ := (id f142)
    have hin144 : ¬ ((2 : Int32) < 0 ∨ cl144.slots.size ≤ ((2 : Int32)).toNatClampNeg) := inb_of S144 ⟨by decide, by decide⟩
    obtain ⟨T144, h144, X144, e144, W144, st144⟩ := stJ X140 hx hZ e140 Ar144 (j := (2 : Int32)) hin144 (g := (mkF m 64 #[iv p1, iv p2, jv q3, .second, jv q4, .second, jv q5, .second, iv 3, jv W0, .second, jv W1, .second, jv W2, .second, jv W3, .second, .unset, .unset, .unset, .unset, .unset, .unset, .unset, .unset, .unset] [(.long W2), (.int 2), (.ref b134), (.ref b134)])) rfl rfl (hb hby at_64)
    have V144 := Arv.set Ar144 q144 S144 M144 H144 G144 rfl W144 2 rfl (Nat.le_of_ble_eq_true rfl)
    have f146 : Arv Z h144 b134 k134 .long (4 : Int32) [(.long W0), (.long W1), (.long W2), (.long (0 : Int64))] (.long (0 : Int64)) := V144
    have Zh147 : n0 ≤ h144.size := Nat.le_trans Zh143 (Nat.le_of_eq W144.size.symm)
    have N144 := Fr.snoc X144 N140 g_b134
    refine og st144 ?_
    show oF p e below _ (T144.setTop (mkF m 65 #[iv p1, iv p2, jv q3, .second, jv q4, .second, jv q5, .second, iv 3, jv W0, .second, jv W1, .second, jv W2, .second, jv W3, .second, .unset, .unset, .unset, .unset, .unset, .unset, .unset, .unset, .unset] [(.ref b134)]))
    refine og (fun t k => XS.dup X144.here hx rfl (hb hby at_65) rfl rfl (XS.iconst X144.here hx rfl (hb hby at_66) (XS.lload X144.here hx rfl (hb hby at_67) rfl k))) ?_
    show oF p e below _ (T144.setTop (mkF m 69 #[iv p1, iv p2, jv q3, .second, jv q4, .second, jv q5, .second, iv 3, jv W0, .second, jv W1, .second, jv W2, .second, jv W3, .second, .unset, .unset, .unset, .unset, .unset, .unset, .unset, .unset, .unset] [(.long W3), (.int 3), (.ref b134), (.ref b134)]))
    obtain ⟨cl148, Ar148, q148, S148, M148, H148, G148⟩ := (id f146)
    have hin148 : ¬ ((3 : Int32) < 0 ∨ cl148.slots.size ≤ ((3 : Int32)).toNatClampNeg) := inb_of S148 ⟨by decide, by decide⟩
    obtain ⟨T148, h148, X148, e148, W148, st148⟩ := stJ X144 hx hZ e144 Ar148 (j := (3 : Int32)) hin148 (g := (mkF m 69 #[iv p1, iv p2, jv q3, .second, jv q4, .second, jv q5, .second, iv 3, jv W0, .second, jv W1, .second, jv W2, .second, jv W3, .second, .unset, .unset, .unset, .unset, .unset, .unset, .unset, .unset, .unset] [(.long W3), (.int 3), (.ref b134), (.ref b134)])) rfl rfl (hb hby at_69)
    have V148 := Arv.set Ar148 q148 S148 M148 H148 G148 rfl W148 3 rfl (Nat.le_of_ble_eq_true rfl)
    have f150 : Arv Z h148 b134 k134 .long (4 : Int32) [(.long W0), (.long W1), (.long W2), (.long W3)] (.long (0 : Int64)) := V148
    have Zh151 : n0 ≤ h148.size := Nat.le_trans Zh147 (Nat.le_of_eq W148.size.symm)
    have N148 := Fr.snoc X148 N144 g_b134
    refine og st148 ?_
    show oF p e below _ (T148.setTop (mkF m 70 #[iv p1, iv p2, jv q3, .second, jv q4, .second, jv q5, .second, iv 3, jv W0, .second, jv W1, .second, jv W2, .second, jv W3, .second, .unset, .unset, .unset, .unset, .unset, .unset, .unset, .unset, .unset] [(.ref b134)]))
    refine og (fun t k => XS.astore X148.here hx rfl (hb hby at_70) rfl rfl (l' := #[iv p1, iv p2, jv q3, .second, jv q4, .second, jv q5, .second, iv 3, jv W0, .second, jv W1, .second, jv W2, .second, jv W3, .second, rv b134, .unset, .unset, .unset, .unset, .unset, .unset, .unset, .unset]) rfl (XS.iload X148.here hx rfl (hb hby at_72) rfl (XS.iconst X148.here hx rfl (hb hby at_74) k))) ?_
    show oF p e below _ (T148.setTop (mkF m 75 #[iv p1, iv p2, jv q3, .second, jv q4, .second, jv q5, .second, iv 3, jv W0, .second, jv W1, .second, jv W2, .second, jv W3, .second, rv b134, .unset, .unset, .unset, .unset, .unset, .unset, .unset, .unset] [(.int 1), (.int 3)]))
    refine og (fun t k => XS.icmpYes X148.here hx rfl (pc0 := 75) (pc' := 91) rfl (hb hby at_75) rfl (feq (by decide : ¬ ((3 : Int32) = (1 : Int32)))).2 (by decide) (by decide) (XS.iload X148.here hx rfl (hb hby at_91) rfl (XS.iconst X148.here hx rfl (hb hby at_93) k))) ?_
    show oF p e below _ (T148.setTop (mkF m 94 #[iv p1, iv p2, jv q3, .second, jv q4, .second, jv q5, .second, iv 3, jv W0, .second, jv W1, .second, jv W2, .second, jv W3, .second, rv b134, .unset, .unset, .unset, .unset, .unset, .unset, .unset, .unset] [(.int 2), (.int 3)]))
    refine og (fun t k => XS.icmpYes X148.here hx rfl (pc0 := 94) (pc' := 115) rfl (hb hby at_94) rfl (feq (by decide : ¬ ((3 : Int32) = (2 : Int32)))).2 (by decide) (by decide) (XS.iload X148.here hx rfl (hb hby at_115) rfl (XS.iconst X148.here hx rfl (hb hby at_117) k))) ?_
    show oF p e below _ (T148.setTop (mkF m 118 #[iv p1, iv p2, jv q3, .second, jv q4, .second, jv q5, .second, iv 3, jv W0, .second, jv W1, .second, jv W2, .second, jv W3, .second, rv b134, .unset, .unset, .unset, .unset, .unset, .unset, .unset, .unset] [(.int 3), (.int 3)]))
    refine og (fun t k => XS.icmpNo X148.here hx rfl (hb hby at_118) rfl (teq (by decide : (3 : Int32) = (3 : Int32))).2 (XS.iconst X148.here hx rfl (hb hby at_121) k)) ?_
    show oF p e below _ (T148.setTop (mkF m 122 #[iv p1, iv p2, jv q3, .second, jv q4, .second, jv q5, .second, iv 3, jv W0, .second, jv W1, .second, jv W2, .second, jv W3, .second, rv b134, .unset, .unset, .unset, .unset, .unset, .unset, .unset, .unset] [(.int 3)]))
    obtain ⟨T152, h152, k152, X152, e152, E152, A152, st152⟩ := newP (aty := .long) X148 hx hZ hw_4 e148 (g := (mkF m 122 #[iv p1, iv p2, jv q3, .second, jv q4, .second, jv q5, .second, iv 3, jv W0, .second, jv W1, .second, jv W2, .second, jv W3, .second, rv b134, .unset, .unset, .unset, .unset, .unset, .unset, .unset, .unset] [(.int 3)])) rfl (hb hby at_122) rfl (by decide) (cap := 3) (by decide) (by decide) (by decide) (by decide)
    obtain ⟨b152, g152⟩ : ∃ z, z = h148.size := ⟨_, rfl⟩
    rw [← g152] at A152 st152
    have g_b152 : n0 ≤ b152 := Nat.le_trans Zh151 (Nat.le_of_eq g152.symm)
    have ne153 : b134 ≠ b152 := Nat.ne_of_lt (Nat.lt_of_lt_of_le f150.lt (Nat.le_of_eq g152.symm))
    have f154 := f150.ext E152
    have Zh155 : n0 ≤ h152.size := Nat.le_trans Zh151 E152.1
    have V152 : Arv Z h152 b152 k152 .long (3 : Int32) [(.long (0 : Int64)), (.long (0 : Int64)), (.long (0 : Int64))] (.long (0 : Int64)) := (Arv.new A152 (by decide)).pad (pad_rep [] (.long (0 : Int64)) 3)
    refine og st152 ?_
    show oF p e below _ (T152.setTop (mkF m 124 #[iv p1, iv p2, jv q3, .second, jv q4, .second, jv q5, .second, iv 3, jv W0, .second, jv W1, .second, jv W2, .second, jv W3, .second, rv b134, .unset, .unset, .unset, .unset, .unset, .unset, .unset, .unset] [(.ref b152)]))
    refine og (fun t k => XS.dup X152.here hx rfl (hb hby at_124) rfl rfl (XS.iconst X152.here hx rfl (hb hby at_125) (XS.lload X152.here hx rfl (hb hby at_126) rfl k))) ?_
    show oF p e below _ (T152.setTop (mkF m 128 #[iv p1, iv p2, jv q3, .second, jv q4, .second, jv q5, .second, iv 3, jv W0, .second, jv W1, .second, jv W2, .second, jv W3, .second, rv b134, .unset, .unset, .unset, .unset, .unset, .unset, .unset, .unset] [(.long W0), (.int 0), (.ref b152), (.ref b152)]))
    obtain ⟨cl156, Ar156, q156, S156, M156, H156, G156⟩ := (id V152)
    have hin156 : ¬ ((0 : Int32) < 0 ∨ cl156.slots.size ≤ ((0 : Int32)).toNatClampNeg) := inb_of S156 ⟨by decide, by decide⟩
    obtain ⟨T156, h156, X156, e156, W156, st156⟩ := stJ X152 hx hZ e152 Ar156 (j := (0 : Int32)) hin156 (g := (mkF m 128 #[iv p1, iv p2, jv q3, .second, jv q4, .second, jv q5, .second, iv 3, jv W0, .second, jv W1, .second, jv W2, .second, jv W3, .second, rv b134, .unset, .unset, .unset, .unset, .unset, .unset, .unset, .unset] [(.long W0), (.int 0), (.ref b152), (.ref b152)])) rfl rfl (hb hby at_128)
    have f157 := f154.other W156 ne153
    have V156 := Arv.set Ar156 q156 S156 M156 H156 G156 rfl W156 0 rfl (Nat.le_of_ble_eq_true rfl)
    have f159 : Arv Z h156 b152 k152 .long (3 : Int32) [(.long W0), (.long (0 : Int64)), (.long (0 : Int64))] (.long (0 : Int64)) := V156
    have Zh160 : n0 ≤ h156.size := Nat.le_trans Zh155 (Nat.le_of_eq W156.size.symm)
    have N156 := Fr.snoc X156 N148 g_b152
    refine og st156 ?_
    show oF p e below _ (T156.setTop (mkF m 129 #[iv p1, iv p2, jv q3, .second, jv q4, .second, jv q5, .second, iv 3, jv W0, .second, jv W1, .second, jv W2, .second, jv W3, .second, rv b134, .unset, .unset, .unset, .unset, .unset, .unset, .unset, .unset] [(.ref b152)]))
    refine og (fun t k => XS.dup X156.here hx rfl (hb hby at_129) rfl rfl (XS.iconst X156.here hx rfl (hb hby at_130) (XS.lload X156.here hx rfl (hb hby at_131) rfl k))) ?_
    show oF p e below _ (T156.setTop (mkF m 133 #[iv p1, iv p2, jv q3, .second, jv q4, .second, jv q5, .second, iv 3, jv W0, .second, jv W1, .second, jv W2, .second, jv W3, .second, rv b134, .unset, .unset, .unset, .unset, .unset, .unset, .unset, .unset] [(.long W1), (.int 1), (.ref b152), (.ref b152)]))
    obtain ⟨cl161, Ar161, q161, S161, M161, H161, G161⟩ := (id f159)
    have hin161 : ¬ ((1 : Int32) < 0 ∨ cl161.slots.size ≤ ((1 : Int32)).toNatClampNeg) := inb_of S161 ⟨by decide, by decide⟩
    obtain ⟨T161, h161, X161, e161, W161, st161⟩ := stJ X156 hx hZ e156 Ar161 (j := (1 : Int32)) hin161 (g := (mkF m 133 #[iv p1, iv p2, jv q3, .second, jv q4, .second, jv q5, .second, iv 3, jv W0, .second, jv W1, .second, jv W2, .second, jv W3, .second, rv b134, .unset, .unset, .unset, .unset, .unset, .unset, .unset, .unset] [(.long W1), (.int 1), (.ref b152), (.ref b152)])) rfl rfl (hb hby at_133)
    have f162 := f157.other W161 ne153
    have V161 := Arv.set Ar161 q161 S161 M161 H161 G161 rfl W161 1 rfl (Nat.le_of_ble_eq_true rfl)
    have f164 : Arv Z h161 b152 k152 .long (3 : Int32) [(.long W0), (.long W1), (.long (0 : Int64))] (.long (0 : Int64)) := V161
    have Zh165 : n0 ≤ h161.size := Nat.le_trans Zh160 (Nat.le_of_eq W161.size.symm)
    have N161 := Fr.snoc X161 N156 g_b152
    refine og st161 ?_
    show oF p e below _ (T161.setTop (mkF m 134 #[iv p1, iv p2, jv q3, .second, jv q4, .second, jv q5, .second, iv 3, jv W0, .second, jv W1, .second, jv W2, .second, jv W3, .second, rv b134, .unset, .unset, .unset, .unset, .unset, .unset, .unset, .unset] [(.ref b152)]))
    refine og (fun t k => XS.dup X161.here hx rfl (hb hby at_134) rfl rfl (XS.iconst X161.here hx rfl (hb hby at_135) (XS.lload X161.here hx rfl (hb hby at_136) rfl k))) ?_
    show oF p e below _ (T161.setTop (mkF m 138 #[iv p1, iv p2, jv q3, .second, jv q4, .second, jv q5, .second, iv 3, jv W0, .second, jv W1, .second, jv W2, .second, jv W3, .second, rv b134, .unset, .unset, .unset, .unset, .unset, .unset, .unset, .unset] [(.long W2), (.int 2), (.ref b152), (.ref b152)]))
    obtain ⟨cl166, Ar166, q166, S166, M166, H166, G166⟩ := (id f164)
    have hin166 : ¬ ((2 : Int32) < 0 ∨ cl166.slots.size ≤ ((2 : Int32)).toNatClampNeg) := inb_of S166 ⟨by decide, by decide⟩
    obtain ⟨T166, h166, X166, e166, W166, st166⟩ := stJ X161 hx hZ e161 Ar166 (j := (2 : Int32)) hin166 (g := (mkF m 138 #[iv p1, iv p2, jv q3, .second, jv q4, .second, jv q5, .second, iv 3, jv W0, .second, jv W1, .second, jv W2, .second, jv W3, .second, rv b134, .unset, .unset, .unset, .unset, .unset, .unset, .unset, .unset] [(.long W2), (.int 2), (.ref b152), (.ref b152)])) rfl rfl (hb hby at_138)
    have f167 := f162.other W166 ne153
    have V166 := Arv.set Ar166 q166 S166 M166 H166 G166 rfl W166 2 rfl (Nat.le_of_ble_eq_true rfl)
    have f169 : Arv Z h166 b152 k152 .long (3 : Int32) [(.long W0), (.long W1), (.long W2)] (.long (0 : Int64)) := V166
    have Zh170 : n0 ≤ h166.size := Nat.le_trans Zh165 (Nat.le_of_eq W166.size.symm)
    have N166 := Fr.snoc X166 N161 g_b152
    refine og st166 ?_
    show oF p e below _ (T166.setTop (mkF m 139 #[iv p1, iv p2, jv q3, .second, jv q4, .second, jv q5, .second, iv 3, jv W0, .second, jv W1, .second, jv W2, .second, jv W3, .second, rv b134, .unset, .unset, .unset, .unset, .unset, .unset, .unset, .unset] [(.ref b152)]))
    refine og (fun t k => XS.astore X166.here hx rfl (hb hby at_139) rfl rfl (l' := #[iv p1, iv p2, jv q3, .second, jv q4, .second, jv q5, .second, iv 3, jv W0, .second, jv W1, .second, jv W2, .second, jv W3, .second, rv b134, rv b152, .unset, .unset, .unset, .unset, .unset, .unset, .unset]) rfl (XS.goto X166.here hx rfl (pc0 := 141) (pc' := 169) rfl (hb hby at_141) (by decide) (by decide) k)) ?_
    show oF p e below _ (T166.setTop (mkF m 169 #[iv p1, iv p2, jv q3, .second, jv q4, .second, jv q5, .second, iv 3, jv W0, .second, jv W1, .second, jv W2, .second, jv W3, .second, rv b134, rv b152, .unset, .unset, .unset, .unset, .unset, .unset, .unset] []))
    obtain ⟨T171, h171, X171, e171, E171, A171, D171, -, st171⟩ := newO X166 hx hZ hown hw_5 hw_6 hw_7 e166 (g := (mkF m 169 #[iv p1, iv p2, jv q3, .second, jv q4, .second, jv q5, .second, iv 3, jv W0, .second, jv W1, .second, jv W2, .second, jv W3, .second, rv b134, rv b152, .unset, .unset, .unset, .unset, .unset, .unset, .unset] [])) rfl (hb hby at_169) (by decide) (by decide)
    obtain ⟨b171, g171⟩ : ∃ z, z = h166.size := ⟨_, rfl⟩
    rw [← g171] at A171 D171 st171
    have g_b171 : n0 ≤ b171 := Nat.le_trans Zh170 (Nat.le_of_eq g171.symm)
    have ne172 : b134 ≠ b171 := Nat.ne_of_lt (Nat.lt_of_lt_of_le f167.lt (Nat.le_of_eq g171.symm))
    have ne173 : b152 ≠ b171 := Nat.ne_of_lt (Nat.lt_of_lt_of_le f169.lt (Nat.le_of_eq g171.symm))
    have f174 := f167.ext E171
    have f175 := f169.ext E171
    have Zh176 : n0 ≤ h171.size := Nat.le_trans Zh170 E171.1
    have f177 : Fld Z h171 b171 "com/example/sound_verdict/soundverdict/UnitSearch" "wanted" "[J" .null := D171 (Or.inr hw_18) (ty := (.array .long)) (by decide)
    have f178 : Fld Z h171 b171 "com/example/sound_verdict/soundverdict/UnitSearch" "lead" "Ljava/lang/String;" .null := D171 (Or.inr hw_20) (ty := (.object "java/lang/String")) (by decide)
    have f179 : Fld Z h171 b171 "com/example/sound_verdict/soundverdict/UnitSearch" "border" "[I" .null := D171 (Or.inr hw_23) (ty := (.array .int)) (by decide)
    refine og st171 ?_
    show oF p e below _ (T171.setTop (mkF m 172 #[iv p1, iv p2, jv q3, .second, jv q4, .second, jv q5, .second, iv 3, jv W0, .second, jv W1, .second, jv W2, .second, jv W3, .second, rv b134, rv b152, .unset, .unset, .unset, .unset, .unset, .unset, .unset] [(.ref b171)]))
    refine og (fun t k => XS.dup X171.here hx rfl (hb hby at_172) rfl rfl (XS.aload X171.here hx rfl (hb hby at_173) rfl rfl k)) ?_
    show oF p e below _ (T171.setTop (mkF m 175 #[iv p1, iv p2, jv q3, .second, jv q4, .second, jv q5, .second, iv 3, jv W0, .second, jv W1, .second, jv W2, .second, jv W3, .second, rv b134, rv b152, .unset, .unset, .unset, .unset, .unset, .unset, .unset] [(.ref b152), (.ref b171), (.ref b171)]))
    obtain ⟨_, _, ⟨T180, L180, k180, n180⟩, -, X180, ⟨Lc180, hQ180, l180, y180, z180⟩, st180⟩ := X171.specialBack hx (y := mn_2) rfl hown (mvT hZ hw_8) (mvT hZ hw_9) (mvT hZ hw_10) (by decide) (backOf (W := 1) (rm2n3 l Z a0 hw [] (b171) (b152) k152 W0 W1 W2 h171 n0 Zh176 f177 f179 f178 A171 g_b171 (Ne.symm ne173) f175) hZ hw_10 hw_7 (by decide) (by decide)) (g := (mkF m 175 #[iv p1, iv p2, jv q3, .second, jv q4, .second, jv q5, .second, iv 3, jv W0, .second, jv W1, .second, jv W2, .second, jv W3, .second, rv b134, rv b152, .unset, .unset, .unset, .unset, .unset, .unset, .unset] [(.ref b152), (.ref b171), (.ref b171)])) rfl (by rw [hml]; rfl) (Steps.refl _) (a := b171) (argsL := [(.ref b152)]) (rest := [(.ref b171)]) (lenOf pd_2 rfl) rfl (by show 2 * 0 + _ ≤ _; exact Nat.le_of_eq rfl) (hb hby at_175) (fun _ _ => ⟨rfl, e171, (by decide : 3 + 1 ≤ _), (by decide : 10 + 3 ≤ _)⟩)
    dsimp only [Pt.U, Pt.locs, Pt.cells, Pt.slots] at X180 l180 y180 z180 st180 hQ180
    subst l180 y180 z180
    obtain ⟨rfl, N180q, K180, xe180, xw180, b180, kb180, sz180, xb180, V180⟩ := hQ180
    have N180 := Fr.app N166 N180q
    have g_b180 : n0 ≤ b180 := Nat.le_trans Zh176 sz180
    have ne181 : b134 ≠ b180 := Nat.ne_of_lt (Nat.lt_of_lt_of_le f174.lt sz180)
    have ne182 : b152 ≠ b180 := Nat.ne_of_lt (Nat.lt_of_lt_of_le f175.lt sz180)
    have ne183 : b171 ≠ b180 := Nat.ne_of_lt (Nat.lt_of_lt_of_le A171.lt sz180)
    have f184 := f174.keep K180 (ninS ne172 nin0)
    have f185 := f175.keep K180 (ninS ne173 nin0)
    have Zh189 : n0 ≤ T180.heap.size := Nat.le_trans Zh176 K180.1
    refine og (fun t k => st180.trans k) ?_
    show oF p e below _ (T180.setTop (mkF m 178 #[iv p1, iv p2, jv q3, .second, jv q4, .second, jv q5, .second, iv 3, jv W0, .second, jv W1, .second, jv W2, .second, jv W3, .second, rv b134, rv b152, .unset, .unset, .unset, .unset, .unset, .unset, .unset] [(.ref b171)]))
    refine og (fun t k => XS.astore X180.here hx rfl (hb hby at_178) rfl rfl (l' := #[iv p1, iv p2, jv q3, .second, jv q4, .second, jv q5, .second, iv 3, jv W0, .second, jv W1, .second, jv W2, .second, jv W3, .second, rv b134, rv b152, rv b171, .unset, .unset, .unset, .unset, .unset, .unset]) rfl (XS.iloadN X180.here hx rfl (hb hby at_180) rfl k)) ?_
    show oF p e below _ (T180.setTop (mkF m 181 #[iv p1, iv p2, jv q3, .second, jv q4, .second, jv q5, .second, iv 3, jv W0, .second, jv W1, .second, jv W2, .second, jv W3, .second, rv b134, rv b152, rv b171, .unset, .unset, .unset, .unset, .unset, .unset] [(.int p2)]))
    refine og (fun t k => X180.ldcInt hx hown (mvT hZ hw_24) (g := (mkF m 181 #[iv p1, iv p2, jv q3, .second, jv q4, .second, jv q5, .second, iv 3, jv W0, .second, jv W1, .second, jv W2, .second, jv W3, .second, rv b134, rv b152, rv b171, .unset, .unset, .unset, .unset, .unset, .unset] [(.int p2)])) rfl (hb hby at_181) _ (XS.iand X180.here hx rfl (hb hby at_183) rfl (XS.iload X180.here hx rfl (hb hby at_184) rfl (XS.iconst X180.here hx rfl (hb hby at_186) (XS.iadd X180.here hx rfl (hb hby at_187) rfl (iremM X180 hx rfl (hb hby at_188) rfl (by decide) k)))))) ?_
    show oF p e below _ (T180.setTop (mkF m 189 #[iv p1, iv p2, jv q3, .second, jv q4, .second, jv q5, .second, iv 3, jv W0, .second, jv W1, .second, jv W2, .second, jv W3, .second, rv b134, rv b152, rv b171, .unset, .unset, .unset, .unset, .unset, .unset] [(.int ((p2 &&& (2147483647 : Int32)) % (4 : Int32)))]))
    obtain ⟨mm, h_mm⟩ : ∃ z : Int32, z = ((p2 &&& (2147483647 : Int32)) % (4 : Int32)) := ⟨_, rfl⟩
    rw [← h_mm]
    show oF p e below _ (T180.setTop (mkF m 189 #[iv p1, iv p2, jv q3, .second, jv q4, .second, jv q5, .second, iv 3, jv W0, .second, jv W1, .second, jv W2, .second, jv W3, .second, rv b134, rv b152, rv b171, .unset, .unset, .unset, .unset, .unset, .unset] [(.int mm)]))
    have hM := own_rem3 p2 h_mm
    refine og (fun t k => XS.istore X180.here hx rfl (hb hby at_189) rfl (l' := #[iv p1, iv p2, jv q3, .second, jv q4, .second, jv q5, .second, iv 3, jv W0, .second, jv W1, .second, jv W2, .second, jv W3, .second, rv b134, rv b152, rv b171, iv mm, .unset, .unset, .unset, .unset, .unset]) rfl (XS.iloadN X180.here hx rfl (hb hby at_191) rfl (XS.bipush X180.here hx rfl (hb hby at_192) (XS.iushr X180.here hx rfl (hb hby at_194) rfl (XS.iconst X180.here hx rfl (hb hby at_195) (XS.iand X180.here hx rfl (hb hby at_196) rfl (XS.istore X180.here hx rfl (hb hby at_197) rfl (l' := #[iv p1, iv p2, jv q3, .second, jv q4, .second, jv q5, .second, iv 3, jv W0, .second, jv W1, .second, jv W2, .second, jv W3, .second, rv b134, rv b152, rv b171, iv mm, iv (((p1.toUInt32 >>> ((6 : Int32) &&& 31).toUInt32).toInt32) &&& (3 : Int32)), .unset, .unset, .unset, .unset]) rfl k))))))) ?_
    show oF p e below _ (T180.setTop (mkF m 199 #[iv p1, iv p2, jv q3, .second, jv q4, .second, jv q5, .second, iv 3, jv W0, .second, jv W1, .second, jv W2, .second, jv W3, .second, rv b134, rv b152, rv b171, iv mm, iv (((p1.toUInt32 >>> ((6 : Int32) &&& 31).toUInt32).toInt32) &&& (3 : Int32)), .unset, .unset, .unset, .unset] []))
    have Jn190 : ∀ (uu : Int64), oF p e below (own_A s room_1.cells room_1.slots (own_q0 Z p1 p2 q3 q4 q5 h0 n0)) (T180.setTop (mkF m 221 #[iv p1, iv p2, jv q3, .second, jv q4, .second, jv q5, .second, iv 3, jv W0, .second, jv W1, .second, jv W2, .second, jv W3, .second, rv b134, rv b152, rv b171, iv mm, iv (((p1.toUInt32 >>> ((6 : Int32) &&& 31).toUInt32).toInt32) &&& (3 : Int32)), .unset, .unset, .unset, .unset] [(.long uu)])) := by
      intro uu
      refine og (fun t k => XS.lstore X180.here hx rfl (hb hby at_221) rfl (l' := #[iv p1, iv p2, jv q3, .second, jv q4, .second, jv q5, .second, iv 3, jv W0, .second, jv W1, .second, jv W2, .second, jv W3, .second, rv b134, rv b152, rv b171, iv mm, iv (((p1.toUInt32 >>> ((6 : Int32) &&& 31).toUInt32).toInt32) &&& (3 : Int32)), jv uu, .second, .unset, .unset]) rfl (XS.aload X180.here hx rfl (hb hby at_223) rfl rfl (XS.iload X180.here hx rfl (hb hby at_225) rfl (XS.lload X180.here hx rfl (hb hby at_227) rfl k)))) ?_
      show oF p e below _ (T180.setTop (mkF m 229 #[iv p1, iv p2, jv q3, .second, jv q4, .second, jv q5, .second, iv 3, jv W0, .second, jv W1, .second, jv W2, .second, jv W3, .second, rv b134, rv b152, rv b171, iv mm, iv (((p1.toUInt32 >>> ((6 : Int32) &&& 31).toUInt32).toInt32) &&& (3 : Int32)), jv uu, .second, .unset, .unset] [(.long uu), (.int mm), (.ref b171)]))
      obtain ⟨cq191, kq191, q191a, q191b, q191c⟩ := isOf hZ rfl xe180
      obtain ⟨_, _, ⟨T191, L191, k191, n191⟩, -, X191, ⟨Lc191, hQ191, l191, y191, z191⟩, st191⟩ := X180.virtualBack hx (y := mn_3) (z := mn_3) hown (mvT hZ hw_25) (mvT hZ hw_26) (notFace_of_selects (args := #[]) (mvT hZ hw_28)) (mvT hZ hw_28) (mvT hZ hw_27) (by decide) (backOf (W := 0) (rm5u3 l Z a0 hw [] (b171) (mm) (uu) b152 b180 k152 kb180 W0 W1 W2 (0 : Int32) (own_b1 W0 W1) (own_b2 W0 W1 W2) T180.heap n0 Zh189 xw180 xb180 f185 V180 own_h0 own_h1 own_h2 hM) hZ hw_29 hw_7 (by decide) (by decide)) q191a q191c (g := (mkF m 229 #[iv p1, iv p2, jv q3, .second, jv q4, .second, jv q5, .second, iv 3, jv W0, .second, jv W1, .second, jv W2, .second, jv W3, .second, rv b134, rv b152, rv b171, iv mm, iv (((p1.toUInt32 >>> ((6 : Int32) &&& 31).toUInt32).toInt32) &&& (3 : Int32)), jv uu, .second, .unset, .unset] [(.long uu), (.int mm), (.ref b171)])) rfl (by rw [hml]; rfl) (Steps.refl _) (argsL := [(.int mm), (.long uu)]) (rest := []) (lenOf pd_3 rfl) rfl (by show 2 * 0 + _ ≤ _; exact Nat.le_of_eq rfl) (hb hby at_229) (fun _ _ => ⟨rfl, rfl, (by decide : 4 + 0 ≤ _), (by decide : 13 + 0 ≤ _)⟩)
      dsimp only [Pt.U, Pt.locs, Pt.cells, Pt.slots] at X191 l191 y191 z191 st191 hQ191
      subst l191 y191 z191
      obtain ⟨rfl, N191q, e191⟩ := hQ191
      have N191 := Fr.app N180 N191q
      refine og (fun t k => st191.trans k) ?_
      show oF p e below _ (T191.setTop (mkF m 232 #[iv p1, iv p2, jv q3, .second, jv q4, .second, jv q5, .second, iv 3, jv W0, .second, jv W1, .second, jv W2, .second, jv W3, .second, rv b134, rv b152, rv b171, iv mm, iv (((p1.toUInt32 >>> ((6 : Int32) &&& 31).toUInt32).toInt32) &&& (3 : Int32)), jv uu, .second, .unset, .unset] [(.int (own_g3 mm W0 W1 W2 (0 : Int32) (own_b1 W0 W1) (own_b2 W0 W1 W2) uu))]))
      refine og (fun t k => XS.istore X191.here hx rfl (hb hby at_232) rfl (l' := #[iv p1, iv p2, jv q3, .second, jv q4, .second, jv q5, .second, iv 3, jv W0, .second, jv W1, .second, jv W2, .second, jv W3, .second, rv b134, rv b152, rv b171, iv mm, iv (((p1.toUInt32 >>> ((6 : Int32) &&& 31).toUInt32).toInt32) &&& (3 : Int32)), jv uu, .second, iv (own_g3 mm W0 W1 W2 (0 : Int32) (own_b1 W0 W1) (own_b2 W0 W1 W2) uu), .unset]) rfl (XS.aload X191.here hx rfl (hb hby at_234) rfl rfl (XS.iload X191.here hx rfl (hb hby at_236) rfl (XS.iload X191.here hx rfl (hb hby at_238) rfl (XS.lload X191.here hx rfl (hb hby at_240) rfl (XS.iconst X191.here hx rfl (hb hby at_242) k)))))) ?_
      show oF p e below _ (T191.setTop (mkF m 243 #[iv p1, iv p2, jv q3, .second, jv q4, .second, jv q5, .second, iv 3, jv W0, .second, jv W1, .second, jv W2, .second, jv W3, .second, rv b134, rv b152, rv b171, iv mm, iv (((p1.toUInt32 >>> ((6 : Int32) &&& 31).toUInt32).toInt32) &&& (3 : Int32)), jv uu, .second, iv (own_g3 mm W0 W1 W2 (0 : Int32) (own_b1 W0 W1) (own_b2 W0 W1 W2) uu), .unset] [(.int 4), (.long uu), (.int mm), (.int 3), (.ref b134)]))
      obtain ⟨_, _, ⟨T192, L192, k192, n192⟩, -, X192, ⟨Lc192, hQ192, l192, y192, z192⟩, st192⟩ := Jvm.LawKit.callS X191 hx (y := mn_4) hown (mvT hZ hw_30) (mvT hZ hw_31) (mvT hZ hw_2) (mvT hZ hw_32) (by decide) (backOf (W := 0) (rm6u4 l Z a0 hw [] (b134) ((3 : Int32)) (mm) (uu) k134 W0 W1 W2 W3 T180.heap n0 Zh189 f184 (own_hm3 hM)) hZ hw_32 hw_2 (by decide) (by decide)) (g := (mkF m 243 #[iv p1, iv p2, jv q3, .second, jv q4, .second, jv q5, .second, iv 3, jv W0, .second, jv W1, .second, jv W2, .second, jv W3, .second, rv b134, rv b152, rv b171, iv mm, iv (((p1.toUInt32 >>> ((6 : Int32) &&& 31).toUInt32).toInt32) &&& (3 : Int32)), jv uu, .second, iv (own_g3 mm W0 W1 W2 (0 : Int32) (own_b1 W0 W1) (own_b2 W0 W1 W2) uu), .unset] [(.int 4), (.long uu), (.int mm), (.int 3), (.ref b134)])) rfl (by rw [hml]; rfl) (argsL := [(.ref b134), (.int 3), (.int mm), (.long uu), (.int 4)]) (rest := []) (lenOf pd_4 rfl) rfl (by show 2 * 0 + _ ≤ _; exact Nat.le_of_eq rfl) (hb hby at_243) (fun _ _ => ⟨rfl, e191, (by decide : 4 + 0 ≤ _), (by decide : 13 + 0 ≤ _)⟩)
      dsimp only [Pt.U, Pt.locs, Pt.cells, Pt.slots] at X192 l192 y192 z192 st192 hQ192
      subst l192 y192 z192
      obtain ⟨rfl, N192q, e192⟩ := hQ192
      have N192 := Fr.app N191 N192q
      refine og st192 ?_
      show oF p e below _ (T192.setTop (mkF m 246 #[iv p1, iv p2, jv q3, .second, jv q4, .second, jv q5, .second, iv 3, jv W0, .second, jv W1, .second, jv W2, .second, jv W3, .second, rv b134, rv b152, rv b171, iv mm, iv (((p1.toUInt32 >>> ((6 : Int32) &&& 31).toUInt32).toInt32) &&& (3 : Int32)), jv uu, .second, iv (own_g3 mm W0 W1 W2 (0 : Int32) (own_b1 W0 W1) (own_b2 W0 W1 W2) uu), .unset] [(.int (own_sf4 b134 (3 : Int32) mm uu W0 W1 W2 W3))]))
      by_cases hc193 : (own_sf4 b134 (3 : Int32) mm uu W0 W1 W2 W3) = (0 : Int32)
      · skip
        refine og (fun t k => XS.ifYes X192.here hx rfl (pc0 := 246) (pc' := 255) rfl (hb hby at_246) rfl ((if0 _ _).trans (teq hc193).1) (by decide) (by decide) (XS.aload X192.here hx rfl (hb hby at_255) rfl rfl (XS.iload X192.here hx rfl (hb hby at_257) rfl (XS.iload X192.here hx rfl (hb hby at_259) rfl (XS.lload X192.here hx rfl (hb hby at_261) rfl (XS.iconst X192.here hx rfl (hb hby at_263) k)))))) ?_
        show oF p e below _ (T192.setTop (mkF m 264 #[iv p1, iv p2, jv q3, .second, jv q4, .second, jv q5, .second, iv 3, jv W0, .second, jv W1, .second, jv W2, .second, jv W3, .second, rv b134, rv b152, rv b171, iv mm, iv (((p1.toUInt32 >>> ((6 : Int32) &&& 31).toUInt32).toInt32) &&& (3 : Int32)), jv uu, .second, iv (own_g3 mm W0 W1 W2 (0 : Int32) (own_b1 W0 W1) (own_b2 W0 W1 W2) uu), .unset] [(.int 3), (.long uu), (.int mm), (.int 3), (.ref b134)]))
        obtain ⟨_, _, ⟨T194, L194, k194, n194⟩, -, X194, ⟨Lc194, hQ194, l194, y194, z194⟩, st194⟩ := Jvm.LawKit.callS X192 hx (y := mn_4) hown (mvT hZ hw_30) (mvT hZ hw_31) (mvT hZ hw_2) (mvT hZ hw_32) (by decide) (backOf (W := 0) (rm6u3 l Z a0 hw [] (b134) ((3 : Int32)) (mm) (uu) k134 W0 W1 W2 W3 T180.heap n0 Zh189 f184 (own_hm3 hM)) hZ hw_32 hw_2 (by decide) (by decide)) (g := (mkF m 264 #[iv p1, iv p2, jv q3, .second, jv q4, .second, jv q5, .second, iv 3, jv W0, .second, jv W1, .second, jv W2, .second, jv W3, .second, rv b134, rv b152, rv b171, iv mm, iv (((p1.toUInt32 >>> ((6 : Int32) &&& 31).toUInt32).toInt32) &&& (3 : Int32)), jv uu, .second, iv (own_g3 mm W0 W1 W2 (0 : Int32) (own_b1 W0 W1) (own_b2 W0 W1 W2) uu), .unset] [(.int 3), (.long uu), (.int mm), (.int 3), (.ref b134)])) rfl (by rw [hml]; rfl) (argsL := [(.ref b134), (.int 3), (.int mm), (.long uu), (.int 3)]) (rest := []) (lenOf pd_4 rfl) rfl (by show 2 * 0 + _ ≤ _; exact Nat.le_of_eq rfl) (hb hby at_264) (fun _ _ => ⟨rfl, e192, (by decide : 4 + 0 ≤ _), (by decide : 13 + 0 ≤ _)⟩)
        dsimp only [Pt.U, Pt.locs, Pt.cells, Pt.slots] at X194 l194 y194 z194 st194 hQ194
        subst l194 y194 z194
        obtain ⟨rfl, N194q, e194⟩ := hQ194
        have N194 := Fr.app N192 N194q
        refine og st194 ?_
        show oF p e below _ (T194.setTop (mkF m 267 #[iv p1, iv p2, jv q3, .second, jv q4, .second, jv q5, .second, iv 3, jv W0, .second, jv W1, .second, jv W2, .second, jv W3, .second, rv b134, rv b152, rv b171, iv mm, iv (((p1.toUInt32 >>> ((6 : Int32) &&& 31).toUInt32).toInt32) &&& (3 : Int32)), jv uu, .second, iv (own_g3 mm W0 W1 W2 (0 : Int32) (own_b1 W0 W1) (own_b2 W0 W1 W2) uu), .unset] [(.int (own_sf3 b134 (3 : Int32) mm uu W0 W1 W2 W3))]))
        by_cases hc195 : (own_sf3 b134 (3 : Int32) mm uu W0 W1 W2 W3) = (0 : Int32)
        · skip
          refine og (fun t k => XS.ifYes X194.here hx rfl (pc0 := 267) (pc' := 276) rfl (hb hby at_267) rfl ((if0 _ _).trans (teq hc195).1) (by decide) (by decide) (XS.aload X194.here hx rfl (hb hby at_276) rfl rfl (XS.iload X194.here hx rfl (hb hby at_278) rfl (XS.iload X194.here hx rfl (hb hby at_280) rfl (XS.lload X194.here hx rfl (hb hby at_282) rfl (XS.iconst X194.here hx rfl (hb hby at_284) k)))))) ?_
          show oF p e below _ (T194.setTop (mkF m 285 #[iv p1, iv p2, jv q3, .second, jv q4, .second, jv q5, .second, iv 3, jv W0, .second, jv W1, .second, jv W2, .second, jv W3, .second, rv b134, rv b152, rv b171, iv mm, iv (((p1.toUInt32 >>> ((6 : Int32) &&& 31).toUInt32).toInt32) &&& (3 : Int32)), jv uu, .second, iv (own_g3 mm W0 W1 W2 (0 : Int32) (own_b1 W0 W1) (own_b2 W0 W1 W2) uu), .unset] [(.int 2), (.long uu), (.int mm), (.int 3), (.ref b134)]))
          obtain ⟨_, _, ⟨T196, L196, k196, n196⟩, -, X196, ⟨Lc196, hQ196, l196, y196, z196⟩, st196⟩ := Jvm.LawKit.callS X194 hx (y := mn_4) hown (mvT hZ hw_30) (mvT hZ hw_31) (mvT hZ hw_2) (mvT hZ hw_32) (by decide) (backOf (W := 0) (rm6u2 l Z a0 hw [] (b134) ((3 : Int32)) (mm) (uu) k134 W0 W1 W2 W3 T180.heap n0 Zh189 f184 (own_hm3 hM)) hZ hw_32 hw_2 (by decide) (by decide)) (g := (mkF m 285 #[iv p1, iv p2, jv q3, .second, jv q4, .second, jv q5, .second, iv 3, jv W0, .second, jv W1, .second, jv W2, .second, jv W3, .second, rv b134, rv b152, rv b171, iv mm, iv (((p1.toUInt32 >>> ((6 : Int32) &&& 31).toUInt32).toInt32) &&& (3 : Int32)), jv uu, .second, iv (own_g3 mm W0 W1 W2 (0 : Int32) (own_b1 W0 W1) (own_b2 W0 W1 W2) uu), .unset] [(.int 2), (.long uu), (.int mm), (.int 3), (.ref b134)])) rfl (by rw [hml]; rfl) (argsL := [(.ref b134), (.int 3), (.int mm), (.long uu), (.int 2)]) (rest := []) (lenOf pd_4 rfl) rfl (by show 2 * 0 + _ ≤ _; exact Nat.le_of_eq rfl) (hb hby at_285) (fun _ _ => ⟨rfl, e194, (by decide : 4 + 0 ≤ _), (by decide : 13 + 0 ≤ _)⟩)
          dsimp only [Pt.U, Pt.locs, Pt.cells, Pt.slots] at X196 l196 y196 z196 st196 hQ196
          subst l196 y196 z196
          obtain ⟨rfl, N196q, e196⟩ := hQ196
          have N196 := Fr.app N194 N196q
          refine og st196 ?_
          show oF p e below _ (T196.setTop (mkF m 288 #[iv p1, iv p2, jv q3, .second, jv q4, .second, jv q5, .second, iv 3, jv W0, .second, jv W1, .second, jv W2, .second, jv W3, .second, rv b134, rv b152, rv b171, iv mm, iv (((p1.toUInt32 >>> ((6 : Int32) &&& 31).toUInt32).toInt32) &&& (3 : Int32)), jv uu, .second, iv (own_g3 mm W0 W1 W2 (0 : Int32) (own_b1 W0 W1) (own_b2 W0 W1 W2) uu), .unset] [(.int (own_sf2 b134 (3 : Int32) mm uu W0 W1 W2 W3))]))
          by_cases hc197 : (own_sf2 b134 (3 : Int32) mm uu W0 W1 W2 W3) = (0 : Int32)
          · skip
            refine og (fun t k => XS.ifYes X196.here hx rfl (pc0 := 288) (pc' := 297) rfl (hb hby at_288) rfl ((if0 _ _).trans (teq hc197).1) (by decide) (by decide) (XS.aload X196.here hx rfl (hb hby at_297) rfl rfl (XS.iload X196.here hx rfl (hb hby at_299) rfl (XS.iload X196.here hx rfl (hb hby at_301) rfl (XS.lload X196.here hx rfl (hb hby at_303) rfl (XS.iconst X196.here hx rfl (hb hby at_305) k)))))) ?_
            show oF p e below _ (T196.setTop (mkF m 306 #[iv p1, iv p2, jv q3, .second, jv q4, .second, jv q5, .second, iv 3, jv W0, .second, jv W1, .second, jv W2, .second, jv W3, .second, rv b134, rv b152, rv b171, iv mm, iv (((p1.toUInt32 >>> ((6 : Int32) &&& 31).toUInt32).toInt32) &&& (3 : Int32)), jv uu, .second, iv (own_g3 mm W0 W1 W2 (0 : Int32) (own_b1 W0 W1) (own_b2 W0 W1 W2) uu), .unset] [(.int 1), (.long uu), (.int mm), (.int 3), (.ref b134)]))
            obtain ⟨_, _, ⟨T198, L198, k198, n198⟩, -, X198, ⟨Lc198, hQ198, l198, y198, z198⟩, st198⟩ := Jvm.LawKit.callS X196 hx (y := mn_4) hown (mvT hZ hw_30) (mvT hZ hw_31) (mvT hZ hw_2) (mvT hZ hw_32) (by decide) (backOf (W := 0) (rm6u1 l Z a0 hw [] (b134) ((3 : Int32)) (mm) (uu) k134 W0 W1 W2 W3 T180.heap n0 Zh189 f184 (own_hm3 hM)) hZ hw_32 hw_2 (by decide) (by decide)) (g := (mkF m 306 #[iv p1, iv p2, jv q3, .second, jv q4, .second, jv q5, .second, iv 3, jv W0, .second, jv W1, .second, jv W2, .second, jv W3, .second, rv b134, rv b152, rv b171, iv mm, iv (((p1.toUInt32 >>> ((6 : Int32) &&& 31).toUInt32).toInt32) &&& (3 : Int32)), jv uu, .second, iv (own_g3 mm W0 W1 W2 (0 : Int32) (own_b1 W0 W1) (own_b2 W0 W1 W2) uu), .unset] [(.int 1), (.long uu), (.int mm), (.int 3), (.ref b134)])) rfl (by rw [hml]; rfl) (argsL := [(.ref b134), (.int 3), (.int mm), (.long uu), (.int 1)]) (rest := []) (lenOf pd_4 rfl) rfl (by show 2 * 0 + _ ≤ _; exact Nat.le_of_eq rfl) (hb hby at_306) (fun _ _ => ⟨rfl, e196, (by decide : 4 + 0 ≤ _), (by decide : 13 + 0 ≤ _)⟩)
            dsimp only [Pt.U, Pt.locs, Pt.cells, Pt.slots] at X198 l198 y198 z198 st198 hQ198
            subst l198 y198 z198
            obtain ⟨rfl, N198q, e198⟩ := hQ198
            have N198 := Fr.app N196 N198q
            refine og st198 ?_
            show oF p e below _ (T198.setTop (mkF m 309 #[iv p1, iv p2, jv q3, .second, jv q4, .second, jv q5, .second, iv 3, jv W0, .second, jv W1, .second, jv W2, .second, jv W3, .second, rv b134, rv b152, rv b171, iv mm, iv (((p1.toUInt32 >>> ((6 : Int32) &&& 31).toUInt32).toInt32) &&& (3 : Int32)), jv uu, .second, iv (own_g3 mm W0 W1 W2 (0 : Int32) (own_b1 W0 W1) (own_b2 W0 W1 W2) uu), .unset] [(.int (own_sf1 b134 (3 : Int32) mm uu W0 W1 W2 W3))]))
            by_cases hc199 : (own_sf1 b134 (3 : Int32) mm uu W0 W1 W2 W3) = (0 : Int32)
            · skip
              refine og (fun t k => XS.ifYes X198.here hx rfl (pc0 := 309) (pc' := 318) rfl (hb hby at_309) rfl ((if0 _ _).trans (teq hc199).1) (by decide) (by decide) (XS.iconst X198.here hx rfl (hb hby at_318) (XS.istore X198.here hx rfl (hb hby at_319) rfl (l' := #[iv p1, iv p2, jv q3, .second, jv q4, .second, jv q5, .second, iv 3, jv W0, .second, jv W1, .second, jv W2, .second, jv W3, .second, rv b134, rv b152, rv b171, iv mm, iv (((p1.toUInt32 >>> ((6 : Int32) &&& 31).toUInt32).toInt32) &&& (3 : Int32)), jv uu, .second, iv (own_g3 mm W0 W1 W2 (0 : Int32) (own_b1 W0 W1) (own_b2 W0 W1 W2) uu), iv 0]) rfl (XS.iload X198.here hx rfl (hb hby at_321) rfl (XS.iload X198.here hx rfl (hb hby at_323) rfl k))))) ?_
              show oF p e below _ (T198.setTop (mkF m 325 #[iv p1, iv p2, jv q3, .second, jv q4, .second, jv q5, .second, iv 3, jv W0, .second, jv W1, .second, jv W2, .second, jv W3, .second, rv b134, rv b152, rv b171, iv mm, iv (((p1.toUInt32 >>> ((6 : Int32) &&& 31).toUInt32).toInt32) &&& (3 : Int32)), jv uu, .second, iv (own_g3 mm W0 W1 W2 (0 : Int32) (own_b1 W0 W1) (own_b2 W0 W1 W2) uu), iv 0] [(.int 0), (.int (own_g3 mm W0 W1 W2 (0 : Int32) (own_b1 W0 W1) (own_b2 W0 W1 W2) uu))]))
              refine og (fun t k => XS.icmpNo X198.here hx rfl (hb hby at_325) rfl (teq (own_fin30 hM hc193 hc195 hc197 hc199)).2 (XS.iconst X198.here hx rfl (hb hby at_328) (XS.goto X198.here hx rfl (pc0 := 329) (pc' := 333) rfl (hb hby at_329) (by decide) (by decide) k))) ?_
              show oF p e below _ (T198.setTop (mkF m 333 #[iv p1, iv p2, jv q3, .second, jv q4, .second, jv q5, .second, iv 3, jv W0, .second, jv W1, .second, jv W2, .second, jv W3, .second, rv b134, rv b152, rv b171, iv mm, iv (((p1.toUInt32 >>> ((6 : Int32) &&& 31).toUInt32).toInt32) &&& (3 : Int32)), jv uu, .second, iv (own_g3 mm W0 W1 W2 (0 : Int32) (own_b1 W0 W1) (own_b2 W0 W1 W2) uu), iv 0] [(.int 1)]))
              exact oo X198 (fun h => by rw [Bd.returns] at h; cases h) Bd.notSynchronized (fun fs hr => retN X198 hx (t := .boolean) Bd.returns (by simp) (hb hby at_333) hr) ⟨rfl, N198⟩ (by decide) (by decide)
            · skip
              refine og (fun t k => XS.ifNo X198.here hx rfl (hb hby at_309) rfl ((if0 _ _).trans (feq hc199).1) (XS.iconst X198.here hx rfl (hb hby at_312) (XS.istore X198.here hx rfl (hb hby at_313) rfl (l' := #[iv p1, iv p2, jv q3, .second, jv q4, .second, jv q5, .second, iv 3, jv W0, .second, jv W1, .second, jv W2, .second, jv W3, .second, rv b134, rv b152, rv b171, iv mm, iv (((p1.toUInt32 >>> ((6 : Int32) &&& 31).toUInt32).toInt32) &&& (3 : Int32)), jv uu, .second, iv (own_g3 mm W0 W1 W2 (0 : Int32) (own_b1 W0 W1) (own_b2 W0 W1 W2) uu), iv 1]) rfl (XS.goto X198.here hx rfl (pc0 := 315) (pc' := 321) rfl (hb hby at_315) (by decide) (by decide) (XS.iload X198.here hx rfl (hb hby at_321) rfl (XS.iload X198.here hx rfl (hb hby at_323) rfl k)))))) ?_
              show oF p e below _ (T198.setTop (mkF m 325 #[iv p1, iv p2, jv q3, .second, jv q4, .second, jv q5, .second, iv 3, jv W0, .second, jv W1, .second, jv W2, .second, jv W3, .second, rv b134, rv b152, rv b171, iv mm, iv (((p1.toUInt32 >>> ((6 : Int32) &&& 31).toUInt32).toInt32) &&& (3 : Int32)), jv uu, .second, iv (own_g3 mm W0 W1 W2 (0 : Int32) (own_b1 W0 W1) (own_b2 W0 W1 W2) uu), iv 1] [(.int 1), (.int (own_g3 mm W0 W1 W2 (0 : Int32) (own_b1 W0 W1) (own_b2 W0 W1 W2) uu))]))
              refine og (fun t k => XS.icmpNo X198.here hx rfl (hb hby at_325) rfl (teq (own_fin31 hM hc193 hc195 hc197 hc199)).2 (XS.iconst X198.here hx rfl (hb hby at_328) (XS.goto X198.here hx rfl (pc0 := 329) (pc' := 333) rfl (hb hby at_329) (by decide) (by decide) k))) ?_
              show oF p e below _ (T198.setTop (mkF m 333 #[iv p1, iv p2, jv q3, .second, jv q4, .second, jv q5, .second, iv 3, jv W0, .second, jv W1, .second, jv W2, .second, jv W3, .second, rv b134, rv b152, rv b171, iv mm, iv (((p1.toUInt32 >>> ((6 : Int32) &&& 31).toUInt32).toInt32) &&& (3 : Int32)), jv uu, .second, iv (own_g3 mm W0 W1 W2 (0 : Int32) (own_b1 W0 W1) (own_b2 W0 W1 W2) uu), iv 1] [(.int 1)]))
              exact oo X198 (fun h => by rw [Bd.returns] at h; cases h) Bd.notSynchronized (fun fs hr => retN X198 hx (t := .boolean) Bd.returns (by simp) (hb hby at_333) hr) ⟨rfl, N198⟩ (by decide) (by decide)
          · skip
            refine og (fun t k => XS.ifNo X196.here hx rfl (hb hby at_288) rfl ((if0 _ _).trans (feq hc197).1) (XS.iconst X196.here hx rfl (hb hby at_291) (XS.istore X196.here hx rfl (hb hby at_292) rfl (l' := #[iv p1, iv p2, jv q3, .second, jv q4, .second, jv q5, .second, iv 3, jv W0, .second, jv W1, .second, jv W2, .second, jv W3, .second, rv b134, rv b152, rv b171, iv mm, iv (((p1.toUInt32 >>> ((6 : Int32) &&& 31).toUInt32).toInt32) &&& (3 : Int32)), jv uu, .second, iv (own_g3 mm W0 W1 W2 (0 : Int32) (own_b1 W0 W1) (own_b2 W0 W1 W2) uu), iv 2]) rfl (XS.goto X196.here hx rfl (pc0 := 294) (pc' := 321) rfl (hb hby at_294) (by decide) (by decide) (XS.iload X196.here hx rfl (hb hby at_321) rfl (XS.iload X196.here hx rfl (hb hby at_323) rfl k)))))) ?_
            show oF p e below _ (T196.setTop (mkF m 325 #[iv p1, iv p2, jv q3, .second, jv q4, .second, jv q5, .second, iv 3, jv W0, .second, jv W1, .second, jv W2, .second, jv W3, .second, rv b134, rv b152, rv b171, iv mm, iv (((p1.toUInt32 >>> ((6 : Int32) &&& 31).toUInt32).toInt32) &&& (3 : Int32)), jv uu, .second, iv (own_g3 mm W0 W1 W2 (0 : Int32) (own_b1 W0 W1) (own_b2 W0 W1 W2) uu), iv 2] [(.int 2), (.int (own_g3 mm W0 W1 W2 (0 : Int32) (own_b1 W0 W1) (own_b2 W0 W1 W2) uu))]))
            refine og (fun t k => XS.icmpNo X196.here hx rfl (hb hby at_325) rfl (teq (own_fin32 hM hc193 hc195 hc197)).2 (XS.iconst X196.here hx rfl (hb hby at_328) (XS.goto X196.here hx rfl (pc0 := 329) (pc' := 333) rfl (hb hby at_329) (by decide) (by decide) k))) ?_
            show oF p e below _ (T196.setTop (mkF m 333 #[iv p1, iv p2, jv q3, .second, jv q4, .second, jv q5, .second, iv 3, jv W0, .second, jv W1, .second, jv W2, .second, jv W3, .second, rv b134, rv b152, rv b171, iv mm, iv (((p1.toUInt32 >>> ((6 : Int32) &&& 31).toUInt32).toInt32) &&& (3 : Int32)), jv uu, .second, iv (own_g3 mm W0 W1 W2 (0 : Int32) (own_b1 W0 W1) (own_b2 W0 W1 W2) uu), iv 2] [(.int 1)]))
            exact oo X196 (fun h => by rw [Bd.returns] at h; cases h) Bd.notSynchronized (fun fs hr => retN X196 hx (t := .boolean) Bd.returns (by simp) (hb hby at_333) hr) ⟨rfl, N196⟩ (by decide) (by decide)
        · skip
          refine og (fun t k => XS.ifNo X194.here hx rfl (hb hby at_267) rfl ((if0 _ _).trans (feq hc195).1) (XS.iconst X194.here hx rfl (hb hby at_270) (XS.istore X194.here hx rfl (hb hby at_271) rfl (l' := #[iv p1, iv p2, jv q3, .second, jv q4, .second, jv q5, .second, iv 3, jv W0, .second, jv W1, .second, jv W2, .second, jv W3, .second, rv b134, rv b152, rv b171, iv mm, iv (((p1.toUInt32 >>> ((6 : Int32) &&& 31).toUInt32).toInt32) &&& (3 : Int32)), jv uu, .second, iv (own_g3 mm W0 W1 W2 (0 : Int32) (own_b1 W0 W1) (own_b2 W0 W1 W2) uu), iv 3]) rfl (XS.goto X194.here hx rfl (pc0 := 273) (pc' := 321) rfl (hb hby at_273) (by decide) (by decide) (XS.iload X194.here hx rfl (hb hby at_321) rfl (XS.iload X194.here hx rfl (hb hby at_323) rfl k)))))) ?_
          show oF p e below _ (T194.setTop (mkF m 325 #[iv p1, iv p2, jv q3, .second, jv q4, .second, jv q5, .second, iv 3, jv W0, .second, jv W1, .second, jv W2, .second, jv W3, .second, rv b134, rv b152, rv b171, iv mm, iv (((p1.toUInt32 >>> ((6 : Int32) &&& 31).toUInt32).toInt32) &&& (3 : Int32)), jv uu, .second, iv (own_g3 mm W0 W1 W2 (0 : Int32) (own_b1 W0 W1) (own_b2 W0 W1 W2) uu), iv 3] [(.int 3), (.int (own_g3 mm W0 W1 W2 (0 : Int32) (own_b1 W0 W1) (own_b2 W0 W1 W2) uu))]))
          refine og (fun t k => XS.icmpNo X194.here hx rfl (hb hby at_325) rfl (teq (own_fin33 hM hc193 hc195)).2 (XS.iconst X194.here hx rfl (hb hby at_328) (XS.goto X194.here hx rfl (pc0 := 329) (pc' := 333) rfl (hb hby at_329) (by decide) (by decide) k))) ?_
          show oF p e below _ (T194.setTop (mkF m 333 #[iv p1, iv p2, jv q3, .second, jv q4, .second, jv q5, .second, iv 3, jv W0, .second, jv W1, .second, jv W2, .second, jv W3, .second, rv b134, rv b152, rv b171, iv mm, iv (((p1.toUInt32 >>> ((6 : Int32) &&& 31).toUInt32).toInt32) &&& (3 : Int32)), jv uu, .second, iv (own_g3 mm W0 W1 W2 (0 : Int32) (own_b1 W0 W1) (own_b2 W0 W1 W2) uu), iv 3] [(.int 1)]))
          exact oo X194 (fun h => by rw [Bd.returns] at h; cases h) Bd.notSynchronized (fun fs hr => retN X194 hx (t := .boolean) Bd.returns (by simp) (hb hby at_333) hr) ⟨rfl, N194⟩ (by decide) (by decide)
      · skip
        refine og (fun t k => XS.ifNo X192.here hx rfl (hb hby at_246) rfl ((if0 _ _).trans (feq hc193).1) (XS.iconst X192.here hx rfl (hb hby at_249) (XS.istore X192.here hx rfl (hb hby at_250) rfl (l' := #[iv p1, iv p2, jv q3, .second, jv q4, .second, jv q5, .second, iv 3, jv W0, .second, jv W1, .second, jv W2, .second, jv W3, .second, rv b134, rv b152, rv b171, iv mm, iv (((p1.toUInt32 >>> ((6 : Int32) &&& 31).toUInt32).toInt32) &&& (3 : Int32)), jv uu, .second, iv (own_g3 mm W0 W1 W2 (0 : Int32) (own_b1 W0 W1) (own_b2 W0 W1 W2) uu), iv 4]) rfl (XS.goto X192.here hx rfl (pc0 := 252) (pc' := 321) rfl (hb hby at_252) (by decide) (by decide) (XS.iload X192.here hx rfl (hb hby at_321) rfl (XS.iload X192.here hx rfl (hb hby at_323) rfl k)))))) ?_
        show oF p e below _ (T192.setTop (mkF m 325 #[iv p1, iv p2, jv q3, .second, jv q4, .second, jv q5, .second, iv 3, jv W0, .second, jv W1, .second, jv W2, .second, jv W3, .second, rv b134, rv b152, rv b171, iv mm, iv (((p1.toUInt32 >>> ((6 : Int32) &&& 31).toUInt32).toInt32) &&& (3 : Int32)), jv uu, .second, iv (own_g3 mm W0 W1 W2 (0 : Int32) (own_b1 W0 W1) (own_b2 W0 W1 W2) uu), iv 4] [(.int 4), (.int (own_g3 mm W0 W1 W2 (0 : Int32) (own_b1 W0 W1) (own_b2 W0 W1 W2) uu))]))
        refine og (fun t k => XS.icmpNo X192.here hx rfl (hb hby at_325) rfl (teq (own_fin34 hM hc193)).2 (XS.iconst X192.here hx rfl (hb hby at_328) (XS.goto X192.here hx rfl (pc0 := 329) (pc' := 333) rfl (hb hby at_329) (by decide) (by decide) k))) ?_
        show oF p e below _ (T192.setTop (mkF m 333 #[iv p1, iv p2, jv q3, .second, jv q4, .second, jv q5, .second, iv 3, jv W0, .second, jv W1, .second, jv W2, .second, jv W3, .second, rv b134, rv b152, rv b171, iv mm, iv (((p1.toUInt32 >>> ((6 : Int32) &&& 31).toUInt32).toInt32) &&& (3 : Int32)), jv uu, .second, iv (own_g3 mm W0 W1 W2 (0 : Int32) (own_b1 W0 W1) (own_b2 W0 W1 W2) uu), iv 4] [(.int 1)]))
        exact oo X192 (fun h => by rw [Bd.returns] at h; cases h) Bd.notSynchronized (fun fs hr => retN X192 hx (t := .boolean) Bd.returns (by simp) (hb hby at_333) hr) ⟨rfl, N192⟩ (by decide) (by decide)
    refine og (fun t k => XS.iload X180.here hx rfl (hb hby at_199) rfl k) ?_
    show oF p e below _ (T180.setTop (mkF m 201 #[iv p1, iv p2, jv q3, .second, jv q4, .second, jv q5, .second, iv 3, jv W0, .second, jv W1, .second, jv W2, .second, jv W3, .second, rv b134, rv b152, rv b171, iv mm, iv (((p1.toUInt32 >>> ((6 : Int32) &&& 31).toUInt32).toInt32) &&& (3 : Int32)), .unset, .unset, .unset, .unset] [(.int (((p1.toUInt32 >>> ((6 : Int32) &&& 31).toUInt32).toInt32) &&& (3 : Int32)))]))
    by_cases hc200 : (((p1.toUInt32 >>> ((6 : Int32) &&& 31).toUInt32).toInt32) &&& (3 : Int32)) = (0 : Int32)
    · skip
      refine og (fun t k => XS.ifNo X180.here hx rfl (hb hby at_201) rfl ((if0 _ _).trans (teq hc200).2) (XS.lloadN X180.here hx rfl (hb hby at_204) rfl (XS.goto X180.here hx rfl (pc0 := 205) (pc' := 221) rfl (hb hby at_205) (by decide) (by decide) k))) ?_
      exact Jn190 (q3)
    · skip
      refine og (fun t k => XS.ifYes X180.here hx rfl (pc0 := 201) (pc' := 208) rfl (hb hby at_201) rfl ((if0 _ _).trans (feq hc200).2) (by decide) (by decide) (XS.iload X180.here hx rfl (hb hby at_208) rfl (XS.iconst X180.here hx rfl (hb hby at_210) k))) ?_
      show oF p e below _ (T180.setTop (mkF m 211 #[iv p1, iv p2, jv q3, .second, jv q4, .second, jv q5, .second, iv 3, jv W0, .second, jv W1, .second, jv W2, .second, jv W3, .second, rv b134, rv b152, rv b171, iv mm, iv (((p1.toUInt32 >>> ((6 : Int32) &&& 31).toUInt32).toInt32) &&& (3 : Int32)), .unset, .unset, .unset, .unset] [(.int 1), (.int (((p1.toUInt32 >>> ((6 : Int32) &&& 31).toUInt32).toInt32) &&& (3 : Int32)))]))
      by_cases hc201 : (((p1.toUInt32 >>> ((6 : Int32) &&& 31).toUInt32).toInt32) &&& (3 : Int32)) = (1 : Int32)
      · skip
        refine og (fun t k => XS.icmpNo X180.here hx rfl (hb hby at_211) rfl (teq hc201).2 (XS.lload X180.here hx rfl (hb hby at_214) rfl (XS.goto X180.here hx rfl (pc0 := 216) (pc' := 221) rfl (hb hby at_216) (by decide) (by decide) k))) ?_
        exact Jn190 (q4)
      · skip
        refine og (fun t k => XS.icmpYes X180.here hx rfl (pc0 := 211) (pc' := 219) rfl (hb hby at_211) rfl (feq hc201).2 (by decide) (by decide) (XS.lload X180.here hx rfl (hb hby at_219) rfl k)) ?_
        exact Jn190 (q5)
  · skip
    rw [h]
    show oF p e below _ (s₁.setTop (mkF m 5 #[iv p1, iv p2, jv q3, .second, jv q4, .second, jv q5, .second, .unset, .unset, .unset, .unset, .unset, .unset, .unset, .unset, .unset, .unset, .unset, .unset, .unset, .unset, .unset, .unset, .unset, .unset] [(.int 4)]))
    refine og (fun t k => XS.istore X0.here hx rfl (hb hby at_5) rfl (l' := #[iv p1, iv p2, jv q3, .second, jv q4, .second, jv q5, .second, iv 4, .unset, .unset, .unset, .unset, .unset, .unset, .unset, .unset, .unset, .unset, .unset, .unset, .unset, .unset, .unset, .unset, .unset]) rfl (XS.iloadN X0.here hx rfl (hb hby at_7) rfl (XS.iconst X0.here hx rfl (hb hby at_8) (XS.lloadN X0.here hx rfl (hb hby at_9) rfl (XS.lload X0.here hx rfl (hb hby at_10) rfl k))))) ?_
    show oF p e below _ (s₁.setTop (mkF m 12 #[iv p1, iv p2, jv q3, .second, jv q4, .second, jv q5, .second, iv 4, .unset, .unset, .unset, .unset, .unset, .unset, .unset, .unset, .unset, .unset, .unset, .unset, .unset, .unset, .unset, .unset, .unset] [(.long q4), (.long q3), (.int 2), (.int p1)]))
    obtain ⟨_, _, ⟨T202, L202, k202, n202⟩, -, X202, ⟨Lc202, hQ202, l202, y202, z202⟩, st202⟩ := Jvm.LawKit.callS X0 hx (y := mn_1) hown (mvT hZ hw_0) (mvT hZ hw_1) (mvT hZ hw_2) (mvT hZ hw_3) (by decide) (backOf (W := 0) (rm1 l Z a0 hw [] (p1) ((2 : Int32)) (q3) (q4)  h0 n0 Z0 ) hZ hw_3 hw_2 (by decide) (by decide)) (g := (mkF m 12 #[iv p1, iv p2, jv q3, .second, jv q4, .second, jv q5, .second, iv 4, .unset, .unset, .unset, .unset, .unset, .unset, .unset, .unset, .unset, .unset, .unset, .unset, .unset, .unset, .unset, .unset, .unset] [(.long q4), (.long q3), (.int 2), (.int p1)])) rfl (by rw [hml]; rfl) (argsL := [(.int p1), (.int 2), (.long q3), (.long q4)]) (rest := []) (lenOf pd_1 rfl) rfl (by show 2 * 0 + _ ≤ _; exact Nat.le_of_eq rfl) (hb hby at_12) (fun _ _ => ⟨rfl, e0, (by decide : 0 + 0 ≤ _), (by decide : 0 + 0 ≤ _)⟩)
    dsimp only [Pt.U, Pt.locs, Pt.cells, Pt.slots] at X202 l202 y202 z202 st202 hQ202
    subst l202 y202 z202
    obtain ⟨rfl, N202q, e202⟩ := hQ202
    have N202 := Fr.app N0 N202q
    refine og st202 ?_
    show oF p e below _ (T202.setTop (mkF m 15 #[iv p1, iv p2, jv q3, .second, jv q4, .second, jv q5, .second, iv 4, .unset, .unset, .unset, .unset, .unset, .unset, .unset, .unset, .unset, .unset, .unset, .unset, .unset, .unset, .unset, .unset, .unset] [(.long (own_pk_5 p1 (2 : Int32) q3 q4))]))
    obtain ⟨W0, h_W0⟩ : ∃ z : Int64, z = (own_pk_5 p1 (2 : Int32) q3 q4) := ⟨_, rfl⟩
    rw [← h_W0]
    show oF p e below _ (T202.setTop (mkF m 15 #[iv p1, iv p2, jv q3, .second, jv q4, .second, jv q5, .second, iv 4, .unset, .unset, .unset, .unset, .unset, .unset, .unset, .unset, .unset, .unset, .unset, .unset, .unset, .unset, .unset, .unset, .unset] [(.long W0)]))
    refine og (fun t k => XS.lstore X202.here hx rfl (hb hby at_15) rfl (l' := #[iv p1, iv p2, jv q3, .second, jv q4, .second, jv q5, .second, iv 4, jv W0, .second, .unset, .unset, .unset, .unset, .unset, .unset, .unset, .unset, .unset, .unset, .unset, .unset, .unset, .unset, .unset]) rfl (XS.iloadN X202.here hx rfl (hb hby at_17) rfl (XS.iconst X202.here hx rfl (hb hby at_18) (XS.lloadN X202.here hx rfl (hb hby at_19) rfl (XS.lload X202.here hx rfl (hb hby at_20) rfl k))))) ?_
    show oF p e below _ (T202.setTop (mkF m 22 #[iv p1, iv p2, jv q3, .second, jv q4, .second, jv q5, .second, iv 4, jv W0, .second, .unset, .unset, .unset, .unset, .unset, .unset, .unset, .unset, .unset, .unset, .unset, .unset, .unset, .unset, .unset] [(.long q4), (.long q3), (.int 3), (.int p1)]))
    obtain ⟨_, _, ⟨T203, L203, k203, n203⟩, -, X203, ⟨Lc203, hQ203, l203, y203, z203⟩, st203⟩ := Jvm.LawKit.callS X202 hx (y := mn_1) hown (mvT hZ hw_0) (mvT hZ hw_1) (mvT hZ hw_2) (mvT hZ hw_3) (by decide) (backOf (W := 0) (rm1 l Z a0 hw [] (p1) ((3 : Int32)) (q3) (q4)  h0 n0 Z0 ) hZ hw_3 hw_2 (by decide) (by decide)) (g := (mkF m 22 #[iv p1, iv p2, jv q3, .second, jv q4, .second, jv q5, .second, iv 4, jv W0, .second, .unset, .unset, .unset, .unset, .unset, .unset, .unset, .unset, .unset, .unset, .unset, .unset, .unset, .unset, .unset] [(.long q4), (.long q3), (.int 3), (.int p1)])) rfl (by rw [hml]; rfl) (argsL := [(.int p1), (.int 3), (.long q3), (.long q4)]) (rest := []) (lenOf pd_1 rfl) rfl (by show 2 * 0 + _ ≤ _; exact Nat.le_of_eq rfl) (hb hby at_22) (fun _ _ => ⟨rfl, e202, (by decide : 0 + 0 ≤ _), (by decide : 0 + 0 ≤ _)⟩)
    dsimp only [Pt.U, Pt.locs, Pt.cells, Pt.slots] at X203 l203 y203 z203 st203 hQ203
    subst l203 y203 z203
    obtain ⟨rfl, N203q, e203⟩ := hQ203
    have N203 := Fr.app N202 N203q
    refine og st203 ?_
    show oF p e below _ (T203.setTop (mkF m 25 #[iv p1, iv p2, jv q3, .second, jv q4, .second, jv q5, .second, iv 4, jv W0, .second, .unset, .unset, .unset, .unset, .unset, .unset, .unset, .unset, .unset, .unset, .unset, .unset, .unset, .unset, .unset] [(.long (own_pk_5 p1 (3 : Int32) q3 q4))]))
    obtain ⟨W1, h_W1⟩ : ∃ z : Int64, z = (own_pk_5 p1 (3 : Int32) q3 q4) := ⟨_, rfl⟩
    rw [← h_W1]
    show oF p e below _ (T203.setTop (mkF m 25 #[iv p1, iv p2, jv q3, .second, jv q4, .second, jv q5, .second, iv 4, jv W0, .second, .unset, .unset, .unset, .unset, .unset, .unset, .unset, .unset, .unset, .unset, .unset, .unset, .unset, .unset, .unset] [(.long W1)]))
    refine og (fun t k => XS.lstore X203.here hx rfl (hb hby at_25) rfl (l' := #[iv p1, iv p2, jv q3, .second, jv q4, .second, jv q5, .second, iv 4, jv W0, .second, jv W1, .second, .unset, .unset, .unset, .unset, .unset, .unset, .unset, .unset, .unset, .unset, .unset, .unset, .unset]) rfl (XS.iloadN X203.here hx rfl (hb hby at_27) rfl (XS.iconst X203.here hx rfl (hb hby at_28) (XS.lloadN X203.here hx rfl (hb hby at_29) rfl (XS.lload X203.here hx rfl (hb hby at_30) rfl k))))) ?_
    show oF p e below _ (T203.setTop (mkF m 32 #[iv p1, iv p2, jv q3, .second, jv q4, .second, jv q5, .second, iv 4, jv W0, .second, jv W1, .second, .unset, .unset, .unset, .unset, .unset, .unset, .unset, .unset, .unset, .unset, .unset, .unset, .unset] [(.long q4), (.long q3), (.int 4), (.int p1)]))
    obtain ⟨_, _, ⟨T204, L204, k204, n204⟩, -, X204, ⟨Lc204, hQ204, l204, y204, z204⟩, st204⟩ := Jvm.LawKit.callS X203 hx (y := mn_1) hown (mvT hZ hw_0) (mvT hZ hw_1) (mvT hZ hw_2) (mvT hZ hw_3) (by decide) (backOf (W := 0) (rm1 l Z a0 hw [] (p1) ((4 : Int32)) (q3) (q4)  h0 n0 Z0 ) hZ hw_3 hw_2 (by decide) (by decide)) (g := (mkF m 32 #[iv p1, iv p2, jv q3, .second, jv q4, .second, jv q5, .second, iv 4, jv W0, .second, jv W1, .second, .unset, .unset, .unset, .unset, .unset, .unset, .unset, .unset, .unset, .unset, .unset, .unset, .unset] [(.long q4), (.long q3), (.int 4), (.int p1)])) rfl (by rw [hml]; rfl) (argsL := [(.int p1), (.int 4), (.long q3), (.long q4)]) (rest := []) (lenOf pd_1 rfl) rfl (by show 2 * 0 + _ ≤ _; exact Nat.le_of_eq rfl) (hb hby at_32) (fun _ _ => ⟨rfl, e203, (by decide : 0 + 0 ≤ _), (by decide : 0 + 0 ≤ _)⟩)
    dsimp only [Pt.U, Pt.locs, Pt.cells, Pt.slots] at X204 l204 y204 z204 st204 hQ204
    subst l204 y204 z204
    obtain ⟨rfl, N204q, e204⟩ := hQ204
    have N204 := Fr.app N203 N204q
    refine og st204 ?_
    show oF p e below _ (T204.setTop (mkF m 35 #[iv p1, iv p2, jv q3, .second, jv q4, .second, jv q5, .second, iv 4, jv W0, .second, jv W1, .second, .unset, .unset, .unset, .unset, .unset, .unset, .unset, .unset, .unset, .unset, .unset, .unset, .unset] [(.long (own_pk_5 p1 (4 : Int32) q3 q4))]))
    obtain ⟨W2, h_W2⟩ : ∃ z : Int64, z = (own_pk_5 p1 (4 : Int32) q3 q4) := ⟨_, rfl⟩
    rw [← h_W2]
    show oF p e below _ (T204.setTop (mkF m 35 #[iv p1, iv p2, jv q3, .second, jv q4, .second, jv q5, .second, iv 4, jv W0, .second, jv W1, .second, .unset, .unset, .unset, .unset, .unset, .unset, .unset, .unset, .unset, .unset, .unset, .unset, .unset] [(.long W2)]))
    refine og (fun t k => XS.lstore X204.here hx rfl (hb hby at_35) rfl (l' := #[iv p1, iv p2, jv q3, .second, jv q4, .second, jv q5, .second, iv 4, jv W0, .second, jv W1, .second, jv W2, .second, .unset, .unset, .unset, .unset, .unset, .unset, .unset, .unset, .unset, .unset, .unset]) rfl (XS.iloadN X204.here hx rfl (hb hby at_37) rfl (XS.iconst X204.here hx rfl (hb hby at_38) (XS.lloadN X204.here hx rfl (hb hby at_39) rfl (XS.lload X204.here hx rfl (hb hby at_40) rfl k))))) ?_
    show oF p e below _ (T204.setTop (mkF m 42 #[iv p1, iv p2, jv q3, .second, jv q4, .second, jv q5, .second, iv 4, jv W0, .second, jv W1, .second, jv W2, .second, .unset, .unset, .unset, .unset, .unset, .unset, .unset, .unset, .unset, .unset, .unset] [(.long q4), (.long q3), (.int 5), (.int p1)]))
    obtain ⟨_, _, ⟨T205, L205, k205, n205⟩, -, X205, ⟨Lc205, hQ205, l205, y205, z205⟩, st205⟩ := Jvm.LawKit.callS X204 hx (y := mn_1) hown (mvT hZ hw_0) (mvT hZ hw_1) (mvT hZ hw_2) (mvT hZ hw_3) (by decide) (backOf (W := 0) (rm1 l Z a0 hw [] (p1) ((5 : Int32)) (q3) (q4)  h0 n0 Z0 ) hZ hw_3 hw_2 (by decide) (by decide)) (g := (mkF m 42 #[iv p1, iv p2, jv q3, .second, jv q4, .second, jv q5, .second, iv 4, jv W0, .second, jv W1, .second, jv W2, .second, .unset, .unset, .unset, .unset, .unset, .unset, .unset, .unset, .unset, .unset, .unset] [(.long q4), (.long q3), (.int 5), (.int p1)])) rfl (by rw [hml]; rfl) (argsL := [(.int p1), (.int 5), (.long q3), (.long q4)]) (rest := []) (lenOf pd_1 rfl) rfl (by show 2 * 0 + _ ≤ _; exact Nat.le_of_eq rfl) (hb hby at_42) (fun _ _ => ⟨rfl, e204, (by decide : 0 + 0 ≤ _), (by decide : 0 + 0 ≤ _)⟩)
    dsimp only [Pt.U, Pt.locs, Pt.cells, Pt.slots] at X205 l205 y205 z205 st205 hQ205
    subst l205 y205 z205
    obtain ⟨rfl, N205q, e205⟩ := hQ205
    have N205 := Fr.app N204 N205q
    refine og st205 ?_
    show oF p e below _ (T205.setTop (mkF m 45 #[iv p1, iv p2, jv q3, .second, jv q4, .second, jv q5, .second, iv 4, jv W0, .second, jv W1, .second, jv W2, .second, .unset, .unset, .unset, .unset, .unset, .unset, .unset, .unset, .unset, .unset, .unset] [(.long (own_pk_5 p1 (5 : Int32) q3 q4))]))
    obtain ⟨W3, h_W3⟩ : ∃ z : Int64, z = (own_pk_5 p1 (5 : Int32) q3 q4) := ⟨_, rfl⟩
    rw [← h_W3]
    show oF p e below _ (T205.setTop (mkF m 45 #[iv p1, iv p2, jv q3, .second, jv q4, .second, jv q5, .second, iv 4, jv W0, .second, jv W1, .second, jv W2, .second, .unset, .unset, .unset, .unset, .unset, .unset, .unset, .unset, .unset, .unset, .unset] [(.long W3)]))
    refine og (fun t k => XS.lstore X205.here hx rfl (hb hby at_45) rfl (l' := #[iv p1, iv p2, jv q3, .second, jv q4, .second, jv q5, .second, iv 4, jv W0, .second, jv W1, .second, jv W2, .second, jv W3, .second, .unset, .unset, .unset, .unset, .unset, .unset, .unset, .unset, .unset]) rfl (XS.iconst X205.here hx rfl (hb hby at_47) k)) ?_
    show oF p e below _ (T205.setTop (mkF m 48 #[iv p1, iv p2, jv q3, .second, jv q4, .second, jv q5, .second, iv 4, jv W0, .second, jv W1, .second, jv W2, .second, jv W3, .second, .unset, .unset, .unset, .unset, .unset, .unset, .unset, .unset, .unset] [(.int 4)]))
    obtain ⟨T206, h206, k206, X206, e206, E206, A206, st206⟩ := newP (aty := .long) X205 hx hZ hw_4 e205 (g := (mkF m 48 #[iv p1, iv p2, jv q3, .second, jv q4, .second, jv q5, .second, iv 4, jv W0, .second, jv W1, .second, jv W2, .second, jv W3, .second, .unset, .unset, .unset, .unset, .unset, .unset, .unset, .unset, .unset] [(.int 4)])) rfl (hb hby at_48) rfl (by decide) (cap := 4) (by decide) (by decide) (by decide) (by decide)
    obtain ⟨b206, g206⟩ : ∃ z, z = h0.size := ⟨_, rfl⟩
    rw [← g206] at A206 st206
    have g_b206 : n0 ≤ b206 := Nat.le_trans Z0 (Nat.le_of_eq g206.symm)
    have Zh207 : n0 ≤ h206.size := Nat.le_trans Z0 E206.1
    have V206 : Arv Z h206 b206 k206 .long (4 : Int32) [(.long (0 : Int64)), (.long (0 : Int64)), (.long (0 : Int64)), (.long (0 : Int64))] (.long (0 : Int64)) := (Arv.new A206 (by decide)).pad (pad_rep [] (.long (0 : Int64)) 4)
    refine og st206 ?_
    show oF p e below _ (T206.setTop (mkF m 50 #[iv p1, iv p2, jv q3, .second, jv q4, .second, jv q5, .second, iv 4, jv W0, .second, jv W1, .second, jv W2, .second, jv W3, .second, .unset, .unset, .unset, .unset, .unset, .unset, .unset, .unset, .unset] [(.ref b206)]))
    refine og (fun t k => XS.dup X206.here hx rfl (hb hby at_50) rfl rfl (XS.iconst X206.here hx rfl (hb hby at_51) (XS.lload X206.here hx rfl (hb hby at_52) rfl k))) ?_
    show oF p e below _ (T206.setTop (mkF m 54 #[iv p1, iv p2, jv q3, .second, jv q4, .second, jv q5, .second, iv 4, jv W0, .second, jv W1, .second, jv W2, .second, jv W3, .second, .unset, .unset, .unset, .unset, .unset, .unset, .unset, .unset, .unset] [(.long W0), (.int 0), (.ref b206), (.ref b206)]))
    obtain ⟨cl208, Ar208, q208, S208, M208, H208, G208⟩ := (id V206)
    have hin208 : ¬ ((0 : Int32) < 0 ∨ cl208.slots.size ≤ ((0 : Int32)).toNatClampNeg) := inb_of S208 ⟨by decide, by decide⟩
    obtain ⟨T208, h208, X208, e208, W208, st208⟩ := stJ X206 hx hZ e206 Ar208 (j := (0 : Int32)) hin208 (g := (mkF m 54 #[iv p1, iv p2, jv q3, .second, jv q4, .second, jv q5, .second, iv 4, jv W0, .second, jv W1, .second, jv W2, .second, jv W3, .second, .unset, .unset, .unset, .unset, .unset, .unset, .unset, .unset, .unset] [(.long W0), (.int 0), (.ref b206), (.ref b206)])) rfl rfl (hb hby at_54)
    have V208 := Arv.set Ar208 q208 S208 M208 H208 G208 rfl W208 0 rfl (Nat.le_of_ble_eq_true rfl)
    have f210 : Arv Z h208 b206 k206 .long (4 : Int32) [(.long W0), (.long (0 : Int64)), (.long (0 : Int64)), (.long (0 : Int64))] (.long (0 : Int64)) := V208
    have Zh211 : n0 ≤ h208.size := Nat.le_trans Zh207 (Nat.le_of_eq W208.size.symm)
    have N208 := Fr.snoc X208 N205 g_b206
    refine og st208 ?_
    show oF p e below _ (T208.setTop (mkF m 55 #[iv p1, iv p2, jv q3, .second, jv q4, .second, jv q5, .second, iv 4, jv W0, .second, jv W1, .second, jv W2, .second, jv W3, .second, .unset, .unset, .unset, .unset, .unset, .unset, .unset, .unset, .unset] [(.ref b206)]))
    refine og (fun t k => XS.dup X208.here hx rfl (hb hby at_55) rfl rfl (XS.iconst X208.here hx rfl (hb hby at_56) (XS.lload X208.here hx rfl (hb hby at_57) rfl k))) ?_
    show oF p e below _ (T208.setTop (mkF m 59 #[iv p1, iv p2, jv q3, .second, jv q4, .second, jv q5, .second, iv 4, jv W0, .second, jv W1, .second, jv W2, .second, jv W3, .second, .unset, .unset, .unset, .unset, .unset, .unset, .unset, .unset, .unset] [(.long W1), (.int 1), (.ref b206), (.ref b206)]))
    obtain ⟨cl212, Ar212, q212, S212, M212, H212, G212⟩ := (id f210)
    have hin212 : ¬ ((1 : Int32) < 0 ∨ cl212.slots.size ≤ ((1 : Int32)).toNatClampNeg) := inb_of S212 ⟨by decide, by decide⟩
    obtain ⟨T212, h212, X212, e212, W212, st212⟩ := stJ X208 hx hZ e208 Ar212 (j := (1 : Int32)) hin212 (g := (mkF m 59 #[iv p1, iv p2, jv q3, .second, jv q4, .second, jv q5, .second, iv 4, jv W0, .second, jv W1, .second, jv W2, .second, jv W3, .second, .unset, .unset, .unset, .unset, .unset, .unset, .unset, .unset, .unset] [(.long W1), (.int 1), (.ref b206), (.ref b206)])) rfl rfl (hb hby at_59)
    have V212 := Arv.set Ar212 q212 S212 M212 H212 G212 rfl W212 1 rfl (Nat.le_of_ble_eq_true rfl)
    have f214 : Arv Z h212 b206 k206 .long (4 : Int32) [(.long W0), (.long W1), (.long (0 : Int64)), (.long (0 : Int64))] (.long (0 : Int64)) := V212
    have Zh215 : n0 ≤ h212.size := Nat.le_trans Zh211 (Nat.le_of_eq W212.size.symm)
    have N212 := Fr.snoc X212 N208 g_b206
    refine og st212 ?_
    show oF p e below _ (T212.setTop (mkF m 60 #[iv p1, iv p2, jv q3, .second, jv q4, .second, jv q5, .second, iv 4, jv W0, .second, jv W1, .second, jv W2, .second, jv W3, .second, .unset, .unset, .unset, .unset, .unset, .unset, .unset, .unset, .unset] [(.ref b206)]))
    refine og (fun t k => XS.dup X212.here hx rfl (hb hby at_60) rfl rfl (XS.iconst X212.here hx rfl (hb hby at_61) (XS.lload X212.here hx rfl (hb hby at_62) rfl k))) ?_
    show oF p e below _ (T212.setTop (mkF m 64 #[iv p1, iv p2, jv q3, .second, jv q4, .second, jv q5, .second, iv 4, jv W0, .second, jv W1, .second, jv W2, .second, jv W3, .second, .unset, .unset, .unset, .unset, .unset, .unset, .unset, .unset, .unset] [(.long W2), (.int 2), (.ref b206), (.ref b206)]))
    obtain ⟨cl216, Ar216, q216, S216, M216, H216, G216⟩ := (id f214)
    have hin216 : ¬ ((2 : Int32) < 0 ∨ cl216.slots.size ≤ ((2 : Int32)).toNatClampNeg) := inb_of S216 ⟨by decide, by decide⟩
    obtain ⟨T216, h216, X216, e216, W216, st216⟩ := stJ X212 hx hZ e212 Ar216 (j := (2 : Int32)) hin216 (g := (mkF m 64 #[iv p1, iv p2, jv q3, .second, jv q4, .second, jv q5, .second, iv 4, jv W0, .second, jv W1, .second, jv W2, .second, jv W3, .second, .unset, .unset, .unset, .unset, .unset, .unset, .unset, .unset, .unset] [(.long W2), (.int 2), (.ref b206), (.ref b206)])) rfl rfl (hb hby at_64)
    have V216 := Arv.set Ar216 q216 S216 M216 H216 G216 rfl W216 2 rfl (Nat.le_of_ble_eq_true rfl)
    have f218 : Arv Z h216 b206 k206 .long (4 : Int32) [(.long W0), (.long W1), (.long W2), (.long (0 : Int64))] (.long (0 : Int64)) := V216
    have Zh219 : n0 ≤ h216.size := Nat.le_trans Zh215 (Nat.le_of_eq W216.size.symm)
    have N216 := Fr.snoc X216 N212 g_b206
    refine og st216 ?_
    show oF p e below _ (T216.setTop (mkF m 65 #[iv p1, iv p2, jv q3, .second, jv q4, .second, jv q5, .second, iv 4, jv W0, .second, jv W1, .second, jv W2, .second, jv W3, .second, .unset, .unset, .unset, .unset, .unset, .unset, .unset, .unset, .unset] [(.ref b206)]))
    refine og (fun t k => XS.dup X216.here hx rfl (hb hby at_65) rfl rfl (XS.iconst X216.here hx rfl (hb hby at_66) (XS.lload X216.here hx rfl (hb hby at_67) rfl k))) ?_
    show oF p e below _ (T216.setTop (mkF m 69 #[iv p1, iv p2, jv q3, .second, jv q4, .second, jv q5, .second, iv 4, jv W0, .second, jv W1, .second, jv W2, .second, jv W3, .second, .unset, .unset, .unset, .unset, .unset, .unset, .unset, .unset, .unset] [(.long W3), (.int 3), (.ref b206), (.ref b206)]))
    obtain ⟨cl220, Ar220, q220, S220, M220, H220, G220⟩ := (id f218)
    have hin220 : ¬ ((3 : Int32) < 0 ∨ cl220.slots.size ≤ ((3 : Int32)).toNatClampNeg) := inb_of S220 ⟨by decide, by decide⟩
    obtain ⟨T220, h220, X220, e220, W220, st220⟩ := stJ X216 hx hZ e216 Ar220 (j := (3 : Int32)) hin220 (g := (mkF m 69 #[iv p1, iv p2, jv q3, .second, jv q4, .second, jv q5, .second, iv 4, jv W0, .second, jv W1, .second, jv W2, .second, jv W3, .second, .unset, .unset, .unset, .unset, .unset, .unset, .unset, .unset, .unset] [(.long W3), (.int 3), (.ref b206), (.ref b206)])) rfl rfl (hb hby at_69)
    have V220 := Arv.set Ar220 q220 S220 M220 H220 G220 rfl W220 3 rfl (Nat.le_of_ble_eq_true rfl)
    have f222 : Arv Z h220 b206 k206 .long (4 : Int32) [(.long W0), (.long W1), (.long W2), (.long W3)] (.long (0 : Int64)) := V220
    have Zh223 : n0 ≤ h220.size := Nat.le_trans Zh219 (Nat.le_of_eq W220.size.symm)
    have N220 := Fr.snoc X220 N216 g_b206
    refine og st220 ?_
    show oF p e below _ (T220.setTop (mkF m 70 #[iv p1, iv p2, jv q3, .second, jv q4, .second, jv q5, .second, iv 4, jv W0, .second, jv W1, .second, jv W2, .second, jv W3, .second, .unset, .unset, .unset, .unset, .unset, .unset, .unset, .unset, .unset] [(.ref b206)]))
    refine og (fun t k => XS.astore X220.here hx rfl (hb hby at_70) rfl rfl (l' := #[iv p1, iv p2, jv q3, .second, jv q4, .second, jv q5, .second, iv 4, jv W0, .second, jv W1, .second, jv W2, .second, jv W3, .second, rv b206, .unset, .unset, .unset, .unset, .unset, .unset, .unset, .unset]) rfl (XS.iload X220.here hx rfl (hb hby at_72) rfl (XS.iconst X220.here hx rfl (hb hby at_74) k))) ?_
    show oF p e below _ (T220.setTop (mkF m 75 #[iv p1, iv p2, jv q3, .second, jv q4, .second, jv q5, .second, iv 4, jv W0, .second, jv W1, .second, jv W2, .second, jv W3, .second, rv b206, .unset, .unset, .unset, .unset, .unset, .unset, .unset, .unset] [(.int 1), (.int 4)]))
    refine og (fun t k => XS.icmpYes X220.here hx rfl (pc0 := 75) (pc' := 91) rfl (hb hby at_75) rfl (feq (by decide : ¬ ((4 : Int32) = (1 : Int32)))).2 (by decide) (by decide) (XS.iload X220.here hx rfl (hb hby at_91) rfl (XS.iconst X220.here hx rfl (hb hby at_93) k))) ?_
    show oF p e below _ (T220.setTop (mkF m 94 #[iv p1, iv p2, jv q3, .second, jv q4, .second, jv q5, .second, iv 4, jv W0, .second, jv W1, .second, jv W2, .second, jv W3, .second, rv b206, .unset, .unset, .unset, .unset, .unset, .unset, .unset, .unset] [(.int 2), (.int 4)]))
    refine og (fun t k => XS.icmpYes X220.here hx rfl (pc0 := 94) (pc' := 115) rfl (hb hby at_94) rfl (feq (by decide : ¬ ((4 : Int32) = (2 : Int32)))).2 (by decide) (by decide) (XS.iload X220.here hx rfl (hb hby at_115) rfl (XS.iconst X220.here hx rfl (hb hby at_117) k))) ?_
    show oF p e below _ (T220.setTop (mkF m 118 #[iv p1, iv p2, jv q3, .second, jv q4, .second, jv q5, .second, iv 4, jv W0, .second, jv W1, .second, jv W2, .second, jv W3, .second, rv b206, .unset, .unset, .unset, .unset, .unset, .unset, .unset, .unset] [(.int 3), (.int 4)]))
    refine og (fun t k => XS.icmpYes X220.here hx rfl (pc0 := 118) (pc' := 144) rfl (hb hby at_118) rfl (feq (by decide : ¬ ((4 : Int32) = (3 : Int32)))).2 (by decide) (by decide) (XS.iconst X220.here hx rfl (hb hby at_144) k)) ?_
    show oF p e below _ (T220.setTop (mkF m 145 #[iv p1, iv p2, jv q3, .second, jv q4, .second, jv q5, .second, iv 4, jv W0, .second, jv W1, .second, jv W2, .second, jv W3, .second, rv b206, .unset, .unset, .unset, .unset, .unset, .unset, .unset, .unset] [(.int 4)]))
    obtain ⟨T224, h224, k224, X224, e224, E224, A224, st224⟩ := newP (aty := .long) X220 hx hZ hw_4 e220 (g := (mkF m 145 #[iv p1, iv p2, jv q3, .second, jv q4, .second, jv q5, .second, iv 4, jv W0, .second, jv W1, .second, jv W2, .second, jv W3, .second, rv b206, .unset, .unset, .unset, .unset, .unset, .unset, .unset, .unset] [(.int 4)])) rfl (hb hby at_145) rfl (by decide) (cap := 4) (by decide) (by decide) (by decide) (by decide)
    obtain ⟨b224, g224⟩ : ∃ z, z = h220.size := ⟨_, rfl⟩
    rw [← g224] at A224 st224
    have g_b224 : n0 ≤ b224 := Nat.le_trans Zh223 (Nat.le_of_eq g224.symm)
    have ne225 : b206 ≠ b224 := Nat.ne_of_lt (Nat.lt_of_lt_of_le f222.lt (Nat.le_of_eq g224.symm))
    have f226 := f222.ext E224
    have Zh227 : n0 ≤ h224.size := Nat.le_trans Zh223 E224.1
    have V224 : Arv Z h224 b224 k224 .long (4 : Int32) [(.long (0 : Int64)), (.long (0 : Int64)), (.long (0 : Int64)), (.long (0 : Int64))] (.long (0 : Int64)) := (Arv.new A224 (by decide)).pad (pad_rep [] (.long (0 : Int64)) 4)
    refine og st224 ?_
    show oF p e below _ (T224.setTop (mkF m 147 #[iv p1, iv p2, jv q3, .second, jv q4, .second, jv q5, .second, iv 4, jv W0, .second, jv W1, .second, jv W2, .second, jv W3, .second, rv b206, .unset, .unset, .unset, .unset, .unset, .unset, .unset, .unset] [(.ref b224)]))
    refine og (fun t k => XS.dup X224.here hx rfl (hb hby at_147) rfl rfl (XS.iconst X224.here hx rfl (hb hby at_148) (XS.lload X224.here hx rfl (hb hby at_149) rfl k))) ?_
    show oF p e below _ (T224.setTop (mkF m 151 #[iv p1, iv p2, jv q3, .second, jv q4, .second, jv q5, .second, iv 4, jv W0, .second, jv W1, .second, jv W2, .second, jv W3, .second, rv b206, .unset, .unset, .unset, .unset, .unset, .unset, .unset, .unset] [(.long W0), (.int 0), (.ref b224), (.ref b224)]))
    obtain ⟨cl228, Ar228, q228, S228, M228, H228, G228⟩ := (id V224)
    have hin228 : ¬ ((0 : Int32) < 0 ∨ cl228.slots.size ≤ ((0 : Int32)).toNatClampNeg) := inb_of S228 ⟨by decide, by decide⟩
    obtain ⟨T228, h228, X228, e228, W228, st228⟩ := stJ X224 hx hZ e224 Ar228 (j := (0 : Int32)) hin228 (g := (mkF m 151 #[iv p1, iv p2, jv q3, .second, jv q4, .second, jv q5, .second, iv 4, jv W0, .second, jv W1, .second, jv W2, .second, jv W3, .second, rv b206, .unset, .unset, .unset, .unset, .unset, .unset, .unset, .unset] [(.long W0), (.int 0), (.ref b224), (.ref b224)])) rfl rfl (hb hby at_151)
    have f229 := f226.other W228 ne225
    have V228 := Arv.set Ar228 q228 S228 M228 H228 G228 rfl W228 0 rfl (Nat.le_of_ble_eq_true rfl)
    have f231 : Arv Z h228 b224 k224 .long (4 : Int32) [(.long W0), (.long (0 : Int64)), (.long (0 : Int64)), (.long (0 : Int64))] (.long (0 : Int64)) := V228
    have Zh232 : n0 ≤ h228.size := Nat.le_trans Zh227 (Nat.le_of_eq W228.size.symm)
    have N228 := Fr.snoc X228 N220 g_b224
    refine og st228 ?_
    show oF p e below _ (T228.setTop (mkF m 152 #[iv p1, iv p2, jv q3, .second, jv q4, .second, jv q5, .second, iv 4, jv W0, .second, jv W1, .second, jv W2, .second, jv W3, .second, rv b206, .unset, .unset, .unset, .unset, .unset, .unset, .unset, .unset] [(.ref b224)]))
    refine og (fun t k => XS.dup X228.here hx rfl (hb hby at_152) rfl rfl (XS.iconst X228.here hx rfl (hb hby at_153) (XS.lload X228.here hx rfl (hb hby at_154) rfl k))) ?_
    show oF p e below _ (T228.setTop (mkF m 156 #[iv p1, iv p2, jv q3, .second, jv q4, .second, jv q5, .second, iv 4, jv W0, .second, jv W1, .second, jv W2, .second, jv W3, .second, rv b206, .unset, .unset, .unset, .unset, .unset, .unset, .unset, .unset] [(.long W1), (.int 1), (.ref b224), (.ref b224)]))
    obtain ⟨cl233, Ar233, q233, S233, M233, H233, G233⟩ := (id f231)
    have hin233 : ¬ ((1 : Int32) < 0 ∨ cl233.slots.size ≤ ((1 : Int32)).toNatClampNeg) := inb_of S233 ⟨by decide, by decide⟩
    obtain ⟨T233, h233, X233, e233, W233, st233⟩ := stJ X228 hx hZ e228 Ar233 (j := (1 : Int32)) hin233 (g := (mkF m 156 #[iv p1, iv p2, jv q3, .second, jv q4, .second, jv q5, .second, iv 4, jv W0, .second, jv W1, .second, jv W2, .second, jv W3, .second, rv b206, .unset, .unset, .unset, .unset, .unset, .unset, .unset, .unset] [(.long W1), (.int 1), (.ref b224), (.ref b224)])) rfl rfl (hb hby at_156)
    have f234 := f229.other W233 ne225
    have V233 := Arv.set Ar233 q233 S233 M233 H233 G233 rfl W233 1 rfl (Nat.le_of_ble_eq_true rfl)
    have f236 : Arv Z h233 b224 k224 .long (4 : Int32) [(.long W0), (.long W1), (.long (0 : Int64)), (.long (0 : Int64))] (.long (0 : Int64)) := V233
    have Zh237 : n0 ≤ h233.size := Nat.le_trans Zh232 (Nat.le_of_eq W233.size.symm)
    have N233 := Fr.snoc X233 N228 g_b224
    refine og st233 ?_
    show oF p e below _ (T233.setTop (mkF m 157 #[iv p1, iv p2, jv q3, .second, jv q4, .second, jv q5, .second, iv 4, jv W0, .second, jv W1, .second, jv W2, .second, jv W3, .second, rv b206, .unset, .unset, .unset, .unset, .unset, .unset, .unset, .unset] [(.ref b224)]))
    refine og (fun t k => XS.dup X233.here hx rfl (hb hby at_157) rfl rfl (XS.iconst X233.here hx rfl (hb hby at_158) (XS.lload X233.here hx rfl (hb hby at_159) rfl k))) ?_
    show oF p e below _ (T233.setTop (mkF m 161 #[iv p1, iv p2, jv q3, .second, jv q4, .second, jv q5, .second, iv 4, jv W0, .second, jv W1, .second, jv W2, .second, jv W3, .second, rv b206, .unset, .unset, .unset, .unset, .unset, .unset, .unset, .unset] [(.long W2), (.int 2), (.ref b224), (.ref b224)]))
    obtain ⟨cl238, Ar238, q238, S238, M238, H238, G238⟩ := (id f236)
    have hin238 : ¬ ((2 : Int32) < 0 ∨ cl238.slots.size ≤ ((2 : Int32)).toNatClampNeg) := inb_of S238 ⟨by decide, by decide⟩
    obtain ⟨T238, h238, X238, e238, W238, st238⟩ := stJ X233 hx hZ e233 Ar238 (j := (2 : Int32)) hin238 (g := (mkF m 161 #[iv p1, iv p2, jv q3, .second, jv q4, .second, jv q5, .second, iv 4, jv W0, .second, jv W1, .second, jv W2, .second, jv W3, .second, rv b206, .unset, .unset, .unset, .unset, .unset, .unset, .unset, .unset] [(.long W2), (.int 2), (.ref b224), (.ref b224)])) rfl rfl (hb hby at_161)
    have f239 := f234.other W238 ne225
    have V238 := Arv.set Ar238 q238 S238 M238 H238 G238 rfl W238 2 rfl (Nat.le_of_ble_eq_true rfl)
    have f241 : Arv Z h238 b224 k224 .long (4 : Int32) [(.long W0), (.long W1), (.long W2), (.long (0 : Int64))] (.long (0 : Int64)) := V238
    have Zh242 : n0 ≤ h238.size := Nat.le_trans Zh237 (Nat.le_of_eq W238.size.symm)
    have N238 := Fr.snoc X238 N233 g_b224
    refine og st238 ?_
    show oF p e below _ (T238.setTop (mkF m 162 #[iv p1, iv p2, jv q3, .second, jv q4, .second, jv q5, .second, iv 4, jv W0, .second, jv W1, .second, jv W2, .second, jv W3, .second, rv b206, .unset, .unset, .unset, .unset, .unset, .unset, .unset, .unset] [(.ref b224)]))
    refine og (fun t k => XS.dup X238.here hx rfl (hb hby at_162) rfl rfl (XS.iconst X238.here hx rfl (hb hby at_163) (XS.lload X238.here hx rfl (hb hby at_164) rfl k))) ?_
    show oF p e below _ (T238.setTop (mkF m 166 #[iv p1, iv p2, jv q3, .second, jv q4, .second, jv q5, .second, iv 4, jv W0, .second, jv W1, .second, jv W2, .second, jv W3, .second, rv b206, .unset, .unset, .unset, .unset, .unset, .unset, .unset, .unset] [(.long W3), (.int 3), (.ref b224), (.ref b224)]))
    obtain ⟨cl243, Ar243, q243, S243, M243, H243, G243⟩ := (id f241)
    have hin243 : ¬ ((3 : Int32) < 0 ∨ cl243.slots.size ≤ ((3 : Int32)).toNatClampNeg) := inb_of S243 ⟨by decide, by decide⟩
    obtain ⟨T243, h243, X243, e243, W243, st243⟩ := stJ X238 hx hZ e238 Ar243 (j := (3 : Int32)) hin243 (g := (mkF m 166 #[iv p1, iv p2, jv q3, .second, jv q4, .second, jv q5, .second, iv 4, jv W0, .second, jv W1, .second, jv W2, .second, jv W3, .second, rv b206, .unset, .unset, .unset, .unset, .unset, .unset, .unset, .unset] [(.long W3), (.int 3), (.ref b224), (.ref b224)])) rfl rfl (hb hby at_166)
    have f244 := f239.other W243 ne225
    have V243 := Arv.set Ar243 q243 S243 M243 H243 G243 rfl W243 3 rfl (Nat.le_of_ble_eq_true rfl)
    have f246 : Arv Z h243 b224 k224 .long (4 : Int32) [(.long W0), (.long W1), (.long W2), (.long W3)] (.long (0 : Int64)) := V243
    have Zh247 : n0 ≤ h243.size := Nat.le_trans Zh242 (Nat.le_of_eq W243.size.symm)
    have N243 := Fr.snoc X243 N238 g_b224
    refine og st243 ?_
    show oF p e below _ (T243.setTop (mkF m 167 #[iv p1, iv p2, jv q3, .second, jv q4, .second, jv q5, .second, iv 4, jv W0, .second, jv W1, .second, jv W2, .second, jv W3, .second, rv b206, .unset, .unset, .unset, .unset, .unset, .unset, .unset, .unset] [(.ref b224)]))
    refine og (fun t k => XS.astore X243.here hx rfl (hb hby at_167) rfl rfl (l' := #[iv p1, iv p2, jv q3, .second, jv q4, .second, jv q5, .second, iv 4, jv W0, .second, jv W1, .second, jv W2, .second, jv W3, .second, rv b206, rv b224, .unset, .unset, .unset, .unset, .unset, .unset, .unset]) rfl k) ?_
    show oF p e below _ (T243.setTop (mkF m 169 #[iv p1, iv p2, jv q3, .second, jv q4, .second, jv q5, .second, iv 4, jv W0, .second, jv W1, .second, jv W2, .second, jv W3, .second, rv b206, rv b224, .unset, .unset, .unset, .unset, .unset, .unset, .unset] []))
    obtain ⟨T248, h248, X248, e248, E248, A248, D248, -, st248⟩ := newO X243 hx hZ hown hw_5 hw_6 hw_7 e243 (g := (mkF m 169 #[iv p1, iv p2, jv q3, .second, jv q4, .second, jv q5, .second, iv 4, jv W0, .second, jv W1, .second, jv W2, .second, jv W3, .second, rv b206, rv b224, .unset, .unset, .unset, .unset, .unset, .unset, .unset] [])) rfl (hb hby at_169) (by decide) (by decide)
    obtain ⟨b248, g248⟩ : ∃ z, z = h243.size := ⟨_, rfl⟩
    rw [← g248] at A248 D248 st248
    have g_b248 : n0 ≤ b248 := Nat.le_trans Zh247 (Nat.le_of_eq g248.symm)
    have ne249 : b206 ≠ b248 := Nat.ne_of_lt (Nat.lt_of_lt_of_le f244.lt (Nat.le_of_eq g248.symm))
    have ne250 : b224 ≠ b248 := Nat.ne_of_lt (Nat.lt_of_lt_of_le f246.lt (Nat.le_of_eq g248.symm))
    have f251 := f244.ext E248
    have f252 := f246.ext E248
    have Zh253 : n0 ≤ h248.size := Nat.le_trans Zh247 E248.1
    have f254 : Fld Z h248 b248 "com/example/sound_verdict/soundverdict/UnitSearch" "wanted" "[J" .null := D248 (Or.inr hw_18) (ty := (.array .long)) (by decide)
    have f255 : Fld Z h248 b248 "com/example/sound_verdict/soundverdict/UnitSearch" "lead" "Ljava/lang/String;" .null := D248 (Or.inr hw_20) (ty := (.object "java/lang/String")) (by decide)
    have f256 : Fld Z h248 b248 "com/example/sound_verdict/soundverdict/UnitSearch" "border" "[I" .null := D248 (Or.inr hw_23) (ty := (.array .int)) (by decide)
    refine og st248 ?_
    show oF p e below _ (T248.setTop (mkF m 172 #[iv p1, iv p2, jv q3, .second, jv q4, .second, jv q5, .second, iv 4, jv W0, .second, jv W1, .second, jv W2, .second, jv W3, .second, rv b206, rv b224, .unset, .unset, .unset, .unset, .unset, .unset, .unset] [(.ref b248)]))
    refine og (fun t k => XS.dup X248.here hx rfl (hb hby at_172) rfl rfl (XS.aload X248.here hx rfl (hb hby at_173) rfl rfl k)) ?_
    show oF p e below _ (T248.setTop (mkF m 175 #[iv p1, iv p2, jv q3, .second, jv q4, .second, jv q5, .second, iv 4, jv W0, .second, jv W1, .second, jv W2, .second, jv W3, .second, rv b206, rv b224, .unset, .unset, .unset, .unset, .unset, .unset, .unset] [(.ref b224), (.ref b248), (.ref b248)]))
    obtain ⟨_, _, ⟨T257, L257, k257, n257⟩, -, X257, ⟨Lc257, hQ257, l257, y257, z257⟩, st257⟩ := X248.specialBack hx (y := mn_2) rfl hown (mvT hZ hw_8) (mvT hZ hw_9) (mvT hZ hw_10) (by decide) (backOf (W := 1) (rm2n4 l Z a0 hw [] (b248) (b224) k224 W0 W1 W2 W3 h248 n0 Zh253 f254 f256 f255 A248 g_b248 (Ne.symm ne250) f252) hZ hw_10 hw_7 (by decide) (by decide)) (g := (mkF m 175 #[iv p1, iv p2, jv q3, .second, jv q4, .second, jv q5, .second, iv 4, jv W0, .second, jv W1, .second, jv W2, .second, jv W3, .second, rv b206, rv b224, .unset, .unset, .unset, .unset, .unset, .unset, .unset] [(.ref b224), (.ref b248), (.ref b248)])) rfl (by rw [hml]; rfl) (Steps.refl _) (a := b248) (argsL := [(.ref b224)]) (rest := [(.ref b248)]) (lenOf pd_2 rfl) rfl (by show 2 * 0 + _ ≤ _; exact Nat.le_of_eq rfl) (hb hby at_175) (fun _ _ => ⟨rfl, e248, (by decide : 3 + 1 ≤ _), (by decide : 11 + 4 ≤ _)⟩)
    dsimp only [Pt.U, Pt.locs, Pt.cells, Pt.slots] at X257 l257 y257 z257 st257 hQ257
    subst l257 y257 z257
    obtain ⟨rfl, N257q, K257, xe257, xw257, b257, kb257, sz257, xb257, V257⟩ := hQ257
    have N257 := Fr.app N243 N257q
    have g_b257 : n0 ≤ b257 := Nat.le_trans Zh253 sz257
    have ne258 : b206 ≠ b257 := Nat.ne_of_lt (Nat.lt_of_lt_of_le f251.lt sz257)
    have ne259 : b224 ≠ b257 := Nat.ne_of_lt (Nat.lt_of_lt_of_le f252.lt sz257)
    have ne260 : b248 ≠ b257 := Nat.ne_of_lt (Nat.lt_of_lt_of_le A248.lt sz257)
    have f261 := f251.keep K257 (ninS ne249 nin0)
    have f262 := f252.keep K257 (ninS ne250 nin0)
    have Zh266 : n0 ≤ T257.heap.size := Nat.le_trans Zh253 K257.1
    refine og (fun t k => st257.trans k) ?_
    show oF p e below _ (T257.setTop (mkF m 178 #[iv p1, iv p2, jv q3, .second, jv q4, .second, jv q5, .second, iv 4, jv W0, .second, jv W1, .second, jv W2, .second, jv W3, .second, rv b206, rv b224, .unset, .unset, .unset, .unset, .unset, .unset, .unset] [(.ref b248)]))
    refine og (fun t k => XS.astore X257.here hx rfl (hb hby at_178) rfl rfl (l' := #[iv p1, iv p2, jv q3, .second, jv q4, .second, jv q5, .second, iv 4, jv W0, .second, jv W1, .second, jv W2, .second, jv W3, .second, rv b206, rv b224, rv b248, .unset, .unset, .unset, .unset, .unset, .unset]) rfl (XS.iloadN X257.here hx rfl (hb hby at_180) rfl k)) ?_
    show oF p e below _ (T257.setTop (mkF m 181 #[iv p1, iv p2, jv q3, .second, jv q4, .second, jv q5, .second, iv 4, jv W0, .second, jv W1, .second, jv W2, .second, jv W3, .second, rv b206, rv b224, rv b248, .unset, .unset, .unset, .unset, .unset, .unset] [(.int p2)]))
    refine og (fun t k => X257.ldcInt hx hown (mvT hZ hw_24) (g := (mkF m 181 #[iv p1, iv p2, jv q3, .second, jv q4, .second, jv q5, .second, iv 4, jv W0, .second, jv W1, .second, jv W2, .second, jv W3, .second, rv b206, rv b224, rv b248, .unset, .unset, .unset, .unset, .unset, .unset] [(.int p2)])) rfl (hb hby at_181) _ (XS.iand X257.here hx rfl (hb hby at_183) rfl (XS.iload X257.here hx rfl (hb hby at_184) rfl (XS.iconst X257.here hx rfl (hb hby at_186) (XS.iadd X257.here hx rfl (hb hby at_187) rfl (iremM X257 hx rfl (hb hby at_188) rfl (by decide) k)))))) ?_
    show oF p e below _ (T257.setTop (mkF m 189 #[iv p1, iv p2, jv q3, .second, jv q4, .second, jv q5, .second, iv 4, jv W0, .second, jv W1, .second, jv W2, .second, jv W3, .second, rv b206, rv b224, rv b248, .unset, .unset, .unset, .unset, .unset, .unset] [(.int ((p2 &&& (2147483647 : Int32)) % (5 : Int32)))]))
    obtain ⟨mm, h_mm⟩ : ∃ z : Int32, z = ((p2 &&& (2147483647 : Int32)) % (5 : Int32)) := ⟨_, rfl⟩
    rw [← h_mm]
    show oF p e below _ (T257.setTop (mkF m 189 #[iv p1, iv p2, jv q3, .second, jv q4, .second, jv q5, .second, iv 4, jv W0, .second, jv W1, .second, jv W2, .second, jv W3, .second, rv b206, rv b224, rv b248, .unset, .unset, .unset, .unset, .unset, .unset] [(.int mm)]))
    have hM := own_rem4 p2 h_mm
    refine og (fun t k => XS.istore X257.here hx rfl (hb hby at_189) rfl (l' := #[iv p1, iv p2, jv q3, .second, jv q4, .second, jv q5, .second, iv 4, jv W0, .second, jv W1, .second, jv W2, .second, jv W3, .second, rv b206, rv b224, rv b248, iv mm, .unset, .unset, .unset, .unset, .unset]) rfl (XS.iloadN X257.here hx rfl (hb hby at_191) rfl (XS.bipush X257.here hx rfl (hb hby at_192) (XS.iushr X257.here hx rfl (hb hby at_194) rfl (XS.iconst X257.here hx rfl (hb hby at_195) (XS.iand X257.here hx rfl (hb hby at_196) rfl (XS.istore X257.here hx rfl (hb hby at_197) rfl (l' := #[iv p1, iv p2, jv q3, .second, jv q4, .second, jv q5, .second, iv 4, jv W0, .second, jv W1, .second, jv W2, .second, jv W3, .second, rv b206, rv b224, rv b248, iv mm, iv (((p1.toUInt32 >>> ((6 : Int32) &&& 31).toUInt32).toInt32) &&& (3 : Int32)), .unset, .unset, .unset, .unset]) rfl k))))))) ?_
    show oF p e below _ (T257.setTop (mkF m 199 #[iv p1, iv p2, jv q3, .second, jv q4, .second, jv q5, .second, iv 4, jv W0, .second, jv W1, .second, jv W2, .second, jv W3, .second, rv b206, rv b224, rv b248, iv mm, iv (((p1.toUInt32 >>> ((6 : Int32) &&& 31).toUInt32).toInt32) &&& (3 : Int32)), .unset, .unset, .unset, .unset] []))
    have Jn267 : ∀ (uu : Int64), oF p e below (own_A s room_1.cells room_1.slots (own_q0 Z p1 p2 q3 q4 q5 h0 n0)) (T257.setTop (mkF m 221 #[iv p1, iv p2, jv q3, .second, jv q4, .second, jv q5, .second, iv 4, jv W0, .second, jv W1, .second, jv W2, .second, jv W3, .second, rv b206, rv b224, rv b248, iv mm, iv (((p1.toUInt32 >>> ((6 : Int32) &&& 31).toUInt32).toInt32) &&& (3 : Int32)), .unset, .unset, .unset, .unset] [(.long uu)])) := by
      intro uu
      refine og (fun t k => XS.lstore X257.here hx rfl (hb hby at_221) rfl (l' := #[iv p1, iv p2, jv q3, .second, jv q4, .second, jv q5, .second, iv 4, jv W0, .second, jv W1, .second, jv W2, .second, jv W3, .second, rv b206, rv b224, rv b248, iv mm, iv (((p1.toUInt32 >>> ((6 : Int32) &&& 31).toUInt32).toInt32) &&& (3 : Int32)), jv uu, .second, .unset, .unset]) rfl (XS.aload X257.here hx rfl (hb hby at_223) rfl rfl (XS.iload X257.here hx rfl (hb hby at_225) rfl (XS.lload X257.here hx rfl (hb hby at_227) rfl k)))) ?_
      show oF p e below _ (T257.setTop (mkF m 229 #[iv p1, iv p2, jv q3, .second, jv q4, .second, jv q5, .second, iv 4, jv W0, .second, jv W1, .second, jv W2, .second, jv W3, .second, rv b206, rv b224, rv b248, iv mm, iv (((p1.toUInt32 >>> ((6 : Int32) &&& 31).toUInt32).toInt32) &&& (3 : Int32)), jv uu, .second, .unset, .unset] [(.long uu), (.int mm), (.ref b248)]))
      obtain ⟨cq268, kq268, q268a, q268b, q268c⟩ := isOf hZ rfl xe257
      obtain ⟨_, _, ⟨T268, L268, k268, n268⟩, -, X268, ⟨Lc268, hQ268, l268, y268, z268⟩, st268⟩ := X257.virtualBack hx (y := mn_3) (z := mn_3) hown (mvT hZ hw_25) (mvT hZ hw_26) (notFace_of_selects (args := #[]) (mvT hZ hw_28)) (mvT hZ hw_28) (mvT hZ hw_27) (by decide) (backOf (W := 0) (rm5u4 l Z a0 hw [] (b248) (mm) (uu) b224 b257 k224 kb257 W0 W1 W2 W3 (0 : Int32) (own_b1 W0 W1) (own_b2 W0 W1 W2) (own_b3 W0 W1 W2 W3) T257.heap n0 Zh266 xw257 xb257 f262 V257 own_h0 own_h1 own_h2 own_h3 hM) hZ hw_29 hw_7 (by decide) (by decide)) q268a q268c (g := (mkF m 229 #[iv p1, iv p2, jv q3, .second, jv q4, .second, jv q5, .second, iv 4, jv W0, .second, jv W1, .second, jv W2, .second, jv W3, .second, rv b206, rv b224, rv b248, iv mm, iv (((p1.toUInt32 >>> ((6 : Int32) &&& 31).toUInt32).toInt32) &&& (3 : Int32)), jv uu, .second, .unset, .unset] [(.long uu), (.int mm), (.ref b248)])) rfl (by rw [hml]; rfl) (Steps.refl _) (argsL := [(.int mm), (.long uu)]) (rest := []) (lenOf pd_3 rfl) rfl (by show 2 * 0 + _ ≤ _; exact Nat.le_of_eq rfl) (hb hby at_229) (fun _ _ => ⟨rfl, rfl, (by decide : 4 + 0 ≤ _), (by decide : 15 + 0 ≤ _)⟩)
      dsimp only [Pt.U, Pt.locs, Pt.cells, Pt.slots] at X268 l268 y268 z268 st268 hQ268
      subst l268 y268 z268
      obtain ⟨rfl, N268q, e268⟩ := hQ268
      have N268 := Fr.app N257 N268q
      refine og (fun t k => st268.trans k) ?_
      show oF p e below _ (T268.setTop (mkF m 232 #[iv p1, iv p2, jv q3, .second, jv q4, .second, jv q5, .second, iv 4, jv W0, .second, jv W1, .second, jv W2, .second, jv W3, .second, rv b206, rv b224, rv b248, iv mm, iv (((p1.toUInt32 >>> ((6 : Int32) &&& 31).toUInt32).toInt32) &&& (3 : Int32)), jv uu, .second, .unset, .unset] [(.int (own_g4 mm W0 W1 W2 W3 (0 : Int32) (own_b1 W0 W1) (own_b2 W0 W1 W2) (own_b3 W0 W1 W2 W3) uu))]))
      refine og (fun t k => XS.istore X268.here hx rfl (hb hby at_232) rfl (l' := #[iv p1, iv p2, jv q3, .second, jv q4, .second, jv q5, .second, iv 4, jv W0, .second, jv W1, .second, jv W2, .second, jv W3, .second, rv b206, rv b224, rv b248, iv mm, iv (((p1.toUInt32 >>> ((6 : Int32) &&& 31).toUInt32).toInt32) &&& (3 : Int32)), jv uu, .second, iv (own_g4 mm W0 W1 W2 W3 (0 : Int32) (own_b1 W0 W1) (own_b2 W0 W1 W2) (own_b3 W0 W1 W2 W3) uu), .unset]) rfl (XS.aload X268.here hx rfl (hb hby at_234) rfl rfl (XS.iload X268.here hx rfl (hb hby at_236) rfl (XS.iload X268.here hx rfl (hb hby at_238) rfl (XS.lload X268.here hx rfl (hb hby at_240) rfl (XS.iconst X268.here hx rfl (hb hby at_242) k)))))) ?_
      show oF p e below _ (T268.setTop (mkF m 243 #[iv p1, iv p2, jv q3, .second, jv q4, .second, jv q5, .second, iv 4, jv W0, .second, jv W1, .second, jv W2, .second, jv W3, .second, rv b206, rv b224, rv b248, iv mm, iv (((p1.toUInt32 >>> ((6 : Int32) &&& 31).toUInt32).toInt32) &&& (3 : Int32)), jv uu, .second, iv (own_g4 mm W0 W1 W2 W3 (0 : Int32) (own_b1 W0 W1) (own_b2 W0 W1 W2) (own_b3 W0 W1 W2 W3) uu), .unset] [(.int 4), (.long uu), (.int mm), (.int 4), (.ref b206)]))
      obtain ⟨_, _, ⟨T269, L269, k269, n269⟩, -, X269, ⟨Lc269, hQ269, l269, y269, z269⟩, st269⟩ := Jvm.LawKit.callS X268 hx (y := mn_4) hown (mvT hZ hw_30) (mvT hZ hw_31) (mvT hZ hw_2) (mvT hZ hw_32) (by decide) (backOf (W := 0) (rm6u4 l Z a0 hw [] (b206) ((4 : Int32)) (mm) (uu) k206 W0 W1 W2 W3 T257.heap n0 Zh266 f261 (own_hm4 hM)) hZ hw_32 hw_2 (by decide) (by decide)) (g := (mkF m 243 #[iv p1, iv p2, jv q3, .second, jv q4, .second, jv q5, .second, iv 4, jv W0, .second, jv W1, .second, jv W2, .second, jv W3, .second, rv b206, rv b224, rv b248, iv mm, iv (((p1.toUInt32 >>> ((6 : Int32) &&& 31).toUInt32).toInt32) &&& (3 : Int32)), jv uu, .second, iv (own_g4 mm W0 W1 W2 W3 (0 : Int32) (own_b1 W0 W1) (own_b2 W0 W1 W2) (own_b3 W0 W1 W2 W3) uu), .unset] [(.int 4), (.long uu), (.int mm), (.int 4), (.ref b206)])) rfl (by rw [hml]; rfl) (argsL := [(.ref b206), (.int 4), (.int mm), (.long uu), (.int 4)]) (rest := []) (lenOf pd_4 rfl) rfl (by show 2 * 0 + _ ≤ _; exact Nat.le_of_eq rfl) (hb hby at_243) (fun _ _ => ⟨rfl, e268, (by decide : 4 + 0 ≤ _), (by decide : 15 + 0 ≤ _)⟩)
      dsimp only [Pt.U, Pt.locs, Pt.cells, Pt.slots] at X269 l269 y269 z269 st269 hQ269
      subst l269 y269 z269
      obtain ⟨rfl, N269q, e269⟩ := hQ269
      have N269 := Fr.app N268 N269q
      refine og st269 ?_
      show oF p e below _ (T269.setTop (mkF m 246 #[iv p1, iv p2, jv q3, .second, jv q4, .second, jv q5, .second, iv 4, jv W0, .second, jv W1, .second, jv W2, .second, jv W3, .second, rv b206, rv b224, rv b248, iv mm, iv (((p1.toUInt32 >>> ((6 : Int32) &&& 31).toUInt32).toInt32) &&& (3 : Int32)), jv uu, .second, iv (own_g4 mm W0 W1 W2 W3 (0 : Int32) (own_b1 W0 W1) (own_b2 W0 W1 W2) (own_b3 W0 W1 W2 W3) uu), .unset] [(.int (own_sf4 b206 (4 : Int32) mm uu W0 W1 W2 W3))]))
      by_cases hc270 : (own_sf4 b206 (4 : Int32) mm uu W0 W1 W2 W3) = (0 : Int32)
      · skip
        refine og (fun t k => XS.ifYes X269.here hx rfl (pc0 := 246) (pc' := 255) rfl (hb hby at_246) rfl ((if0 _ _).trans (teq hc270).1) (by decide) (by decide) (XS.aload X269.here hx rfl (hb hby at_255) rfl rfl (XS.iload X269.here hx rfl (hb hby at_257) rfl (XS.iload X269.here hx rfl (hb hby at_259) rfl (XS.lload X269.here hx rfl (hb hby at_261) rfl (XS.iconst X269.here hx rfl (hb hby at_263) k)))))) ?_
        show oF p e below _ (T269.setTop (mkF m 264 #[iv p1, iv p2, jv q3, .second, jv q4, .second, jv q5, .second, iv 4, jv W0, .second, jv W1, .second, jv W2, .second, jv W3, .second, rv b206, rv b224, rv b248, iv mm, iv (((p1.toUInt32 >>> ((6 : Int32) &&& 31).toUInt32).toInt32) &&& (3 : Int32)), jv uu, .second, iv (own_g4 mm W0 W1 W2 W3 (0 : Int32) (own_b1 W0 W1) (own_b2 W0 W1 W2) (own_b3 W0 W1 W2 W3) uu), .unset] [(.int 3), (.long uu), (.int mm), (.int 4), (.ref b206)]))
        obtain ⟨_, _, ⟨T271, L271, k271, n271⟩, -, X271, ⟨Lc271, hQ271, l271, y271, z271⟩, st271⟩ := Jvm.LawKit.callS X269 hx (y := mn_4) hown (mvT hZ hw_30) (mvT hZ hw_31) (mvT hZ hw_2) (mvT hZ hw_32) (by decide) (backOf (W := 0) (rm6u3 l Z a0 hw [] (b206) ((4 : Int32)) (mm) (uu) k206 W0 W1 W2 W3 T257.heap n0 Zh266 f261 (own_hm4 hM)) hZ hw_32 hw_2 (by decide) (by decide)) (g := (mkF m 264 #[iv p1, iv p2, jv q3, .second, jv q4, .second, jv q5, .second, iv 4, jv W0, .second, jv W1, .second, jv W2, .second, jv W3, .second, rv b206, rv b224, rv b248, iv mm, iv (((p1.toUInt32 >>> ((6 : Int32) &&& 31).toUInt32).toInt32) &&& (3 : Int32)), jv uu, .second, iv (own_g4 mm W0 W1 W2 W3 (0 : Int32) (own_b1 W0 W1) (own_b2 W0 W1 W2) (own_b3 W0 W1 W2 W3) uu), .unset] [(.int 3), (.long uu), (.int mm), (.int 4), (.ref b206)])) rfl (by rw [hml]; rfl) (argsL := [(.ref b206), (.int 4), (.int mm), (.long uu), (.int 3)]) (rest := []) (lenOf pd_4 rfl) rfl (by show 2 * 0 + _ ≤ _; exact Nat.le_of_eq rfl) (hb hby at_264) (fun _ _ => ⟨rfl, e269, (by decide : 4 + 0 ≤ _), (by decide : 15 + 0 ≤ _)⟩)
        dsimp only [Pt.U, Pt.locs, Pt.cells, Pt.slots] at X271 l271 y271 z271 st271 hQ271
        subst l271 y271 z271
        obtain ⟨rfl, N271q, e271⟩ := hQ271
        have N271 := Fr.app N269 N271q
        refine og st271 ?_
        show oF p e below _ (T271.setTop (mkF m 267 #[iv p1, iv p2, jv q3, .second, jv q4, .second, jv q5, .second, iv 4, jv W0, .second, jv W1, .second, jv W2, .second, jv W3, .second, rv b206, rv b224, rv b248, iv mm, iv (((p1.toUInt32 >>> ((6 : Int32) &&& 31).toUInt32).toInt32) &&& (3 : Int32)), jv uu, .second, iv (own_g4 mm W0 W1 W2 W3 (0 : Int32) (own_b1 W0 W1) (own_b2 W0 W1 W2) (own_b3 W0 W1 W2 W3) uu), .unset] [(.int (own_sf3 b206 (4 : Int32) mm uu W0 W1 W2 W3))]))
        by_cases hc272 : (own_sf3 b206 (4 : Int32) mm uu W0 W1 W2 W3) = (0 : Int32)
        · skip
          refine og (fun t k => XS.ifYes X271.here hx rfl (pc0 := 267) (pc' := 276) rfl (hb hby at_267) rfl ((if0 _ _).trans (teq hc272).1) (by decide) (by decide) (XS.aload X271.here hx rfl (hb hby at_276) rfl rfl (XS.iload X271.here hx rfl (hb hby at_278) rfl (XS.iload X271.here hx rfl (hb hby at_280) rfl (XS.lload X271.here hx rfl (hb hby at_282) rfl (XS.iconst X271.here hx rfl (hb hby at_284) k)))))) ?_
          show oF p e below _ (T271.setTop (mkF m 285 #[iv p1, iv p2, jv q3, .second, jv q4, .second, jv q5, .second, iv 4, jv W0, .second, jv W1, .second, jv W2, .second, jv W3, .second, rv b206, rv b224, rv b248, iv mm, iv (((p1.toUInt32 >>> ((6 : Int32) &&& 31).toUInt32).toInt32) &&& (3 : Int32)), jv uu, .second, iv (own_g4 mm W0 W1 W2 W3 (0 : Int32) (own_b1 W0 W1) (own_b2 W0 W1 W2) (own_b3 W0 W1 W2 W3) uu), .unset] [(.int 2), (.long uu), (.int mm), (.int 4), (.ref b206)]))
          obtain ⟨_, _, ⟨T273, L273, k273, n273⟩, -, X273, ⟨Lc273, hQ273, l273, y273, z273⟩, st273⟩ := Jvm.LawKit.callS X271 hx (y := mn_4) hown (mvT hZ hw_30) (mvT hZ hw_31) (mvT hZ hw_2) (mvT hZ hw_32) (by decide) (backOf (W := 0) (rm6u2 l Z a0 hw [] (b206) ((4 : Int32)) (mm) (uu) k206 W0 W1 W2 W3 T257.heap n0 Zh266 f261 (own_hm4 hM)) hZ hw_32 hw_2 (by decide) (by decide)) (g := (mkF m 285 #[iv p1, iv p2, jv q3, .second, jv q4, .second, jv q5, .second, iv 4, jv W0, .second, jv W1, .second, jv W2, .second, jv W3, .second, rv b206, rv b224, rv b248, iv mm, iv (((p1.toUInt32 >>> ((6 : Int32) &&& 31).toUInt32).toInt32) &&& (3 : Int32)), jv uu, .second, iv (own_g4 mm W0 W1 W2 W3 (0 : Int32) (own_b1 W0 W1) (own_b2 W0 W1 W2) (own_b3 W0 W1 W2 W3) uu), .unset] [(.int 2), (.long uu), (.int mm), (.int 4), (.ref b206)])) rfl (by rw [hml]; rfl) (argsL := [(.ref b206), (.int 4), (.int mm), (.long uu), (.int 2)]) (rest := []) (lenOf pd_4 rfl) rfl (by show 2 * 0 + _ ≤ _; exact Nat.le_of_eq rfl) (hb hby at_285) (fun _ _ => ⟨rfl, e271, (by decide : 4 + 0 ≤ _), (by decide : 15 + 0 ≤ _)⟩)
          dsimp only [Pt.U, Pt.locs, Pt.cells, Pt.slots] at X273 l273 y273 z273 st273 hQ273
          subst l273 y273 z273
          obtain ⟨rfl, N273q, e273⟩ := hQ273
          have N273 := Fr.app N271 N273q
          refine og st273 ?_
          show oF p e below _ (T273.setTop (mkF m 288 #[iv p1, iv p2, jv q3, .second, jv q4, .second, jv q5, .second, iv 4, jv W0, .second, jv W1, .second, jv W2, .second, jv W3, .second, rv b206, rv b224, rv b248, iv mm, iv (((p1.toUInt32 >>> ((6 : Int32) &&& 31).toUInt32).toInt32) &&& (3 : Int32)), jv uu, .second, iv (own_g4 mm W0 W1 W2 W3 (0 : Int32) (own_b1 W0 W1) (own_b2 W0 W1 W2) (own_b3 W0 W1 W2 W3) uu), .unset] [(.int (own_sf2 b206 (4 : Int32) mm uu W0 W1 W2 W3))]))
          by_cases hc274 : (own_sf2 b206 (4 : Int32) mm uu W0 W1 W2 W3) = (0 : Int32)
          · skip
            refine og (fun t k => XS.ifYes X273.here hx rfl (pc0 := 288) (pc' := 297) rfl (hb hby at_288) rfl ((if0 _ _).trans (teq hc274).1) (by decide) (by decide) (XS.aload X273.here hx rfl (hb hby at_297) rfl rfl (XS.iload X273.here hx rfl (hb hby at_299) rfl (XS.iload X273.here hx rfl (hb hby at_301) rfl (XS.lload X273.here hx rfl (hb hby at_303) rfl (XS.iconst X273.here hx rfl (hb hby at_305) k)))))) ?_
            show oF p e below _ (T273.setTop (mkF m 306 #[iv p1, iv p2, jv q3, .second, jv q4, .second, jv q5, .second, iv 4, jv W0, .second, jv W1, .second, jv W2, .second, jv W3, .second, rv b206, rv b224, rv b248, iv mm, iv (((p1.toUInt32 >>> ((6 : Int32) &&& 31).toUInt32).toInt32) &&& (3 : Int32)), jv uu, .second, iv (own_g4 mm W0 W1 W2 W3 (0 : Int32) (own_b1 W0 W1) (own_b2 W0 W1 W2) (own_b3 W0 W1 W2 W3) uu), .unset] [(.int 1), (.long uu), (.int mm), (.int 4), (.ref b206)]))
            obtain ⟨_, _, ⟨T275, L275, k275, n275⟩, -, X275, ⟨Lc275, hQ275, l275, y275, z275⟩, st275⟩ := Jvm.LawKit.callS X273 hx (y := mn_4) hown (mvT hZ hw_30) (mvT hZ hw_31) (mvT hZ hw_2) (mvT hZ hw_32) (by decide) (backOf (W := 0) (rm6u1 l Z a0 hw [] (b206) ((4 : Int32)) (mm) (uu) k206 W0 W1 W2 W3 T257.heap n0 Zh266 f261 (own_hm4 hM)) hZ hw_32 hw_2 (by decide) (by decide)) (g := (mkF m 306 #[iv p1, iv p2, jv q3, .second, jv q4, .second, jv q5, .second, iv 4, jv W0, .second, jv W1, .second, jv W2, .second, jv W3, .second, rv b206, rv b224, rv b248, iv mm, iv (((p1.toUInt32 >>> ((6 : Int32) &&& 31).toUInt32).toInt32) &&& (3 : Int32)), jv uu, .second, iv (own_g4 mm W0 W1 W2 W3 (0 : Int32) (own_b1 W0 W1) (own_b2 W0 W1 W2) (own_b3 W0 W1 W2 W3) uu), .unset] [(.int 1), (.long uu), (.int mm), (.int 4), (.ref b206)])) rfl (by rw [hml]; rfl) (argsL := [(.ref b206), (.int 4), (.int mm), (.long uu), (.int 1)]) (rest := []) (lenOf pd_4 rfl) rfl (by show 2 * 0 + _ ≤ _; exact Nat.le_of_eq rfl) (hb hby at_306) (fun _ _ => ⟨rfl, e273, (by decide : 4 + 0 ≤ _), (by decide : 15 + 0 ≤ _)⟩)
            dsimp only [Pt.U, Pt.locs, Pt.cells, Pt.slots] at X275 l275 y275 z275 st275 hQ275
            subst l275 y275 z275
            obtain ⟨rfl, N275q, e275⟩ := hQ275
            have N275 := Fr.app N273 N275q
            refine og st275 ?_
            show oF p e below _ (T275.setTop (mkF m 309 #[iv p1, iv p2, jv q3, .second, jv q4, .second, jv q5, .second, iv 4, jv W0, .second, jv W1, .second, jv W2, .second, jv W3, .second, rv b206, rv b224, rv b248, iv mm, iv (((p1.toUInt32 >>> ((6 : Int32) &&& 31).toUInt32).toInt32) &&& (3 : Int32)), jv uu, .second, iv (own_g4 mm W0 W1 W2 W3 (0 : Int32) (own_b1 W0 W1) (own_b2 W0 W1 W2) (own_b3 W0 W1 W2 W3) uu), .unset] [(.int (own_sf1 b206 (4 : Int32) mm uu W0 W1 W2 W3))]))
            by_cases hc276 : (own_sf1 b206 (4 : Int32) mm uu W0 W1 W2 W3) = (0 : Int32)
            · skip
              refine og (fun t k => XS.ifYes X275.here hx rfl (pc0 := 309) (pc' := 318) rfl (hb hby at_309) rfl ((if0 _ _).trans (teq hc276).1) (by decide) (by decide) (XS.iconst X275.here hx rfl (hb hby at_318) (XS.istore X275.here hx rfl (hb hby at_319) rfl (l' := #[iv p1, iv p2, jv q3, .second, jv q4, .second, jv q5, .second, iv 4, jv W0, .second, jv W1, .second, jv W2, .second, jv W3, .second, rv b206, rv b224, rv b248, iv mm, iv (((p1.toUInt32 >>> ((6 : Int32) &&& 31).toUInt32).toInt32) &&& (3 : Int32)), jv uu, .second, iv (own_g4 mm W0 W1 W2 W3 (0 : Int32) (own_b1 W0 W1) (own_b2 W0 W1 W2) (own_b3 W0 W1 W2 W3) uu), iv 0]) rfl (XS.iload X275.here hx rfl (hb hby at_321) rfl (XS.iload X275.here hx rfl (hb hby at_323) rfl k))))) ?_
              show oF p e below _ (T275.setTop (mkF m 325 #[iv p1, iv p2, jv q3, .second, jv q4, .second, jv q5, .second, iv 4, jv W0, .second, jv W1, .second, jv W2, .second, jv W3, .second, rv b206, rv b224, rv b248, iv mm, iv (((p1.toUInt32 >>> ((6 : Int32) &&& 31).toUInt32).toInt32) &&& (3 : Int32)), jv uu, .second, iv (own_g4 mm W0 W1 W2 W3 (0 : Int32) (own_b1 W0 W1) (own_b2 W0 W1 W2) (own_b3 W0 W1 W2 W3) uu), iv 0] [(.int 0), (.int (own_g4 mm W0 W1 W2 W3 (0 : Int32) (own_b1 W0 W1) (own_b2 W0 W1 W2) (own_b3 W0 W1 W2 W3) uu))]))
              refine og (fun t k => XS.icmpNo X275.here hx rfl (hb hby at_325) rfl (teq (own_fin40 hM hc270 hc272 hc274 hc276)).2 (XS.iconst X275.here hx rfl (hb hby at_328) (XS.goto X275.here hx rfl (pc0 := 329) (pc' := 333) rfl (hb hby at_329) (by decide) (by decide) k))) ?_
              show oF p e below _ (T275.setTop (mkF m 333 #[iv p1, iv p2, jv q3, .second, jv q4, .second, jv q5, .second, iv 4, jv W0, .second, jv W1, .second, jv W2, .second, jv W3, .second, rv b206, rv b224, rv b248, iv mm, iv (((p1.toUInt32 >>> ((6 : Int32) &&& 31).toUInt32).toInt32) &&& (3 : Int32)), jv uu, .second, iv (own_g4 mm W0 W1 W2 W3 (0 : Int32) (own_b1 W0 W1) (own_b2 W0 W1 W2) (own_b3 W0 W1 W2 W3) uu), iv 0] [(.int 1)]))
              exact oo X275 (fun h => by rw [Bd.returns] at h; cases h) Bd.notSynchronized (fun fs hr => retN X275 hx (t := .boolean) Bd.returns (by simp) (hb hby at_333) hr) ⟨rfl, N275⟩ (by decide) (by decide)
            · skip
              refine og (fun t k => XS.ifNo X275.here hx rfl (hb hby at_309) rfl ((if0 _ _).trans (feq hc276).1) (XS.iconst X275.here hx rfl (hb hby at_312) (XS.istore X275.here hx rfl (hb hby at_313) rfl (l' := #[iv p1, iv p2, jv q3, .second, jv q4, .second, jv q5, .second, iv 4, jv W0, .second, jv W1, .second, jv W2, .second, jv W3, .second, rv b206, rv b224, rv b248, iv mm, iv (((p1.toUInt32 >>> ((6 : Int32) &&& 31).toUInt32).toInt32) &&& (3 : Int32)), jv uu, .second, iv (own_g4 mm W0 W1 W2 W3 (0 : Int32) (own_b1 W0 W1) (own_b2 W0 W1 W2) (own_b3 W0 W1 W2 W3) uu), iv 1]) rfl (XS.goto X275.here hx rfl (pc0 := 315) (pc' := 321) rfl (hb hby at_315) (by decide) (by decide) (XS.iload X275.here hx rfl (hb hby at_321) rfl (XS.iload X275.here hx rfl (hb hby at_323) rfl k)))))) ?_
              show oF p e below _ (T275.setTop (mkF m 325 #[iv p1, iv p2, jv q3, .second, jv q4, .second, jv q5, .second, iv 4, jv W0, .second, jv W1, .second, jv W2, .second, jv W3, .second, rv b206, rv b224, rv b248, iv mm, iv (((p1.toUInt32 >>> ((6 : Int32) &&& 31).toUInt32).toInt32) &&& (3 : Int32)), jv uu, .second, iv (own_g4 mm W0 W1 W2 W3 (0 : Int32) (own_b1 W0 W1) (own_b2 W0 W1 W2) (own_b3 W0 W1 W2 W3) uu), iv 1] [(.int 1), (.int (own_g4 mm W0 W1 W2 W3 (0 : Int32) (own_b1 W0 W1) (own_b2 W0 W1 W2) (own_b3 W0 W1 W2 W3) uu))]))
              refine og (fun t k => XS.icmpNo X275.here hx rfl (hb hby at_325) rfl (teq (own_fin41 hM hc270 hc272 hc274 hc276)).2 (XS.iconst X275.here hx rfl (hb hby at_328) (XS.goto X275.here hx rfl (pc0 := 329) (pc' := 333) rfl (hb hby at_329) (by decide) (by decide) k))) ?_
              show oF p e below _ (T275.setTop (mkF m 333 #[iv p1, iv p2, jv q3, .second, jv q4, .second, jv q5, .second, iv 4, jv W0, .second, jv W1, .second, jv W2, .second, jv W3, .second, rv b206, rv b224, rv b248, iv mm, iv (((p1.toUInt32 >>> ((6 : Int32) &&& 31).toUInt32).toInt32) &&& (3 : Int32)), jv uu, .second, iv (own_g4 mm W0 W1 W2 W3 (0 : Int32) (own_b1 W0 W1) (own_b2 W0 W1 W2) (own_b3 W0 W1 W2 W3) uu), iv 1] [(.int 1)]))
              exact oo X275 (fun h => by rw [Bd.returns] at h; cases h) Bd.notSynchronized (fun fs hr => retN X275 hx (t := .boolean) Bd.returns (by simp) (hb hby at_333) hr) ⟨rfl, N275⟩ (by decide) (by decide)
          · skip
            refine og (fun t k => XS.ifNo X273.here hx rfl (hb hby at_288) rfl ((if0 _ _).trans (feq hc274).1) (XS.iconst X273.here hx rfl (hb hby at_291) (XS.istore X273.here hx rfl (hb hby at_292) rfl (l' := #[iv p1, iv p2, jv q3, .second, jv q4, .second, jv q5, .second, iv 4, jv W0, .second, jv W1, .second, jv W2, .second, jv W3, .second, rv b206, rv b224, rv b248, iv mm, iv (((p1.toUInt32 >>> ((6 : Int32) &&& 31).toUInt32).toInt32) &&& (3 : Int32)), jv uu, .second, iv (own_g4 mm W0 W1 W2 W3 (0 : Int32) (own_b1 W0 W1) (own_b2 W0 W1 W2) (own_b3 W0 W1 W2 W3) uu), iv 2]) rfl (XS.goto X273.here hx rfl (pc0 := 294) (pc' := 321) rfl (hb hby at_294) (by decide) (by decide) (XS.iload X273.here hx rfl (hb hby at_321) rfl (XS.iload X273.here hx rfl (hb hby at_323) rfl k)))))) ?_
            show oF p e below _ (T273.setTop (mkF m 325 #[iv p1, iv p2, jv q3, .second, jv q4, .second, jv q5, .second, iv 4, jv W0, .second, jv W1, .second, jv W2, .second, jv W3, .second, rv b206, rv b224, rv b248, iv mm, iv (((p1.toUInt32 >>> ((6 : Int32) &&& 31).toUInt32).toInt32) &&& (3 : Int32)), jv uu, .second, iv (own_g4 mm W0 W1 W2 W3 (0 : Int32) (own_b1 W0 W1) (own_b2 W0 W1 W2) (own_b3 W0 W1 W2 W3) uu), iv 2] [(.int 2), (.int (own_g4 mm W0 W1 W2 W3 (0 : Int32) (own_b1 W0 W1) (own_b2 W0 W1 W2) (own_b3 W0 W1 W2 W3) uu))]))
            refine og (fun t k => XS.icmpNo X273.here hx rfl (hb hby at_325) rfl (teq (own_fin42 hM hc270 hc272 hc274)).2 (XS.iconst X273.here hx rfl (hb hby at_328) (XS.goto X273.here hx rfl (pc0 := 329) (pc' := 333) rfl (hb hby at_329) (by decide) (by decide) k))) ?_
            show oF p e below _ (T273.setTop (mkF m 333 #[iv p1, iv p2, jv q3, .second, jv q4, .second, jv q5, .second, iv 4, jv W0, .second, jv W1, .second, jv W2, .second, jv W3, .second, rv b206, rv b224, rv b248, iv mm, iv (((p1.toUInt32 >>> ((6 : Int32) &&& 31).toUInt32).toInt32) &&& (3 : Int32)), jv uu, .second, iv (own_g4 mm W0 W1 W2 W3 (0 : Int32) (own_b1 W0 W1) (own_b2 W0 W1 W2) (own_b3 W0 W1 W2 W3) uu), iv 2] [(.int 1)]))
            exact oo X273 (fun h => by rw [Bd.returns] at h; cases h) Bd.notSynchronized (fun fs hr => retN X273 hx (t := .boolean) Bd.returns (by simp) (hb hby at_333) hr) ⟨rfl, N273⟩ (by decide) (by decide)
        · skip
          refine og (fun t k => XS.ifNo X271.here hx rfl (hb hby at_267) rfl ((if0 _ _).trans (feq hc272).1) (XS.iconst X271.here hx rfl (hb hby at_270) (XS.istore X271.here hx rfl (hb hby at_271) rfl (l' := #[iv p1, iv p2, jv q3, .second, jv q4, .second, jv q5, .second, iv 4, jv W0, .second, jv W1, .second, jv W2, .second, jv W3, .second, rv b206, rv b224, rv b248, iv mm, iv (((p1.toUInt32 >>> ((6 : Int32) &&& 31).toUInt32).toInt32) &&& (3 : Int32)), jv uu, .second, iv (own_g4 mm W0 W1 W2 W3 (0 : Int32) (own_b1 W0 W1) (own_b2 W0 W1 W2) (own_b3 W0 W1 W2 W3) uu), iv 3]) rfl (XS.goto X271.here hx rfl (pc0 := 273) (pc' := 321) rfl (hb hby at_273) (by decide) (by decide) (XS.iload X271.here hx rfl (hb hby at_321) rfl (XS.iload X271.here hx rfl (hb hby at_323) rfl k)))))) ?_
          show oF p e below _ (T271.setTop (mkF m 325 #[iv p1, iv p2, jv q3, .second, jv q4, .second, jv q5, .second, iv 4, jv W0, .second, jv W1, .second, jv W2, .second, jv W3, .second, rv b206, rv b224, rv b248, iv mm, iv (((p1.toUInt32 >>> ((6 : Int32) &&& 31).toUInt32).toInt32) &&& (3 : Int32)), jv uu, .second, iv (own_g4 mm W0 W1 W2 W3 (0 : Int32) (own_b1 W0 W1) (own_b2 W0 W1 W2) (own_b3 W0 W1 W2 W3) uu), iv 3] [(.int 3), (.int (own_g4 mm W0 W1 W2 W3 (0 : Int32) (own_b1 W0 W1) (own_b2 W0 W1 W2) (own_b3 W0 W1 W2 W3) uu))]))
          refine og (fun t k => XS.icmpNo X271.here hx rfl (hb hby at_325) rfl (teq (own_fin43 hM hc270 hc272)).2 (XS.iconst X271.here hx rfl (hb hby at_328) (XS.goto X271.here hx rfl (pc0 := 329) (pc' := 333) rfl (hb hby at_329) (by decide) (by decide) k))) ?_
          show oF p e below _ (T271.setTop (mkF m 333 #[iv p1, iv p2, jv q3, .second, jv q4, .second, jv q5, .second, iv 4, jv W0, .second, jv W1, .second, jv W2, .second, jv W3, .second, rv b206, rv b224, rv b248, iv mm, iv (((p1.toUInt32 >>> ((6 : Int32) &&& 31).toUInt32).toInt32) &&& (3 : Int32)), jv uu, .second, iv (own_g4 mm W0 W1 W2 W3 (0 : Int32) (own_b1 W0 W1) (own_b2 W0 W1 W2) (own_b3 W0 W1 W2 W3) uu), iv 3] [(.int 1)]))
          exact oo X271 (fun h => by rw [Bd.returns] at h; cases h) Bd.notSynchronized (fun fs hr => retN X271 hx (t := .boolean) Bd.returns (by simp) (hb hby at_333) hr) ⟨rfl, N271⟩ (by decide) (by decide)
      · skip
        refine og (fun t k => XS.ifNo X269.here hx rfl (hb hby at_246) rfl ((if0 _ _).trans (feq hc270).1) (XS.iconst X269.here hx rfl (hb hby at_249) (XS.istore X269.here hx rfl (hb hby at_250) rfl (l' := #[iv p1, iv p2, jv q3, .second, jv q4, .second, jv q5, .second, iv 4, jv W0, .second, jv W1, .second, jv W2, .second, jv W3, .second, rv b206, rv b224, rv b248, iv mm, iv (((p1.toUInt32 >>> ((6 : Int32) &&& 31).toUInt32).toInt32) &&& (3 : Int32)), jv uu, .second, iv (own_g4 mm W0 W1 W2 W3 (0 : Int32) (own_b1 W0 W1) (own_b2 W0 W1 W2) (own_b3 W0 W1 W2 W3) uu), iv 4]) rfl (XS.goto X269.here hx rfl (pc0 := 252) (pc' := 321) rfl (hb hby at_252) (by decide) (by decide) (XS.iload X269.here hx rfl (hb hby at_321) rfl (XS.iload X269.here hx rfl (hb hby at_323) rfl k)))))) ?_
        show oF p e below _ (T269.setTop (mkF m 325 #[iv p1, iv p2, jv q3, .second, jv q4, .second, jv q5, .second, iv 4, jv W0, .second, jv W1, .second, jv W2, .second, jv W3, .second, rv b206, rv b224, rv b248, iv mm, iv (((p1.toUInt32 >>> ((6 : Int32) &&& 31).toUInt32).toInt32) &&& (3 : Int32)), jv uu, .second, iv (own_g4 mm W0 W1 W2 W3 (0 : Int32) (own_b1 W0 W1) (own_b2 W0 W1 W2) (own_b3 W0 W1 W2 W3) uu), iv 4] [(.int 4), (.int (own_g4 mm W0 W1 W2 W3 (0 : Int32) (own_b1 W0 W1) (own_b2 W0 W1 W2) (own_b3 W0 W1 W2 W3) uu))]))
        refine og (fun t k => XS.icmpNo X269.here hx rfl (hb hby at_325) rfl (teq (own_fin44 hM hc270)).2 (XS.iconst X269.here hx rfl (hb hby at_328) (XS.goto X269.here hx rfl (pc0 := 329) (pc' := 333) rfl (hb hby at_329) (by decide) (by decide) k))) ?_
        show oF p e below _ (T269.setTop (mkF m 333 #[iv p1, iv p2, jv q3, .second, jv q4, .second, jv q5, .second, iv 4, jv W0, .second, jv W1, .second, jv W2, .second, jv W3, .second, rv b206, rv b224, rv b248, iv mm, iv (((p1.toUInt32 >>> ((6 : Int32) &&& 31).toUInt32).toInt32) &&& (3 : Int32)), jv uu, .second, iv (own_g4 mm W0 W1 W2 W3 (0 : Int32) (own_b1 W0 W1) (own_b2 W0 W1 W2) (own_b3 W0 W1 W2 W3) uu), iv 4] [(.int 1)]))
        exact oo X269 (fun h => by rw [Bd.returns] at h; cases h) Bd.notSynchronized (fun fs hr => retN X269 hx (t := .boolean) Bd.returns (by simp) (hb hby at_333) hr) ⟨rfl, N269⟩ (by decide) (by decide)
    refine og (fun t k => XS.iload X257.here hx rfl (hb hby at_199) rfl k) ?_
    show oF p e below _ (T257.setTop (mkF m 201 #[iv p1, iv p2, jv q3, .second, jv q4, .second, jv q5, .second, iv 4, jv W0, .second, jv W1, .second, jv W2, .second, jv W3, .second, rv b206, rv b224, rv b248, iv mm, iv (((p1.toUInt32 >>> ((6 : Int32) &&& 31).toUInt32).toInt32) &&& (3 : Int32)), .unset, .unset, .unset, .unset] [(.int (((p1.toUInt32 >>> ((6 : Int32) &&& 31).toUInt32).toInt32) &&& (3 : Int32)))]))
    by_cases hc277 : (((p1.toUInt32 >>> ((6 : Int32) &&& 31).toUInt32).toInt32) &&& (3 : Int32)) = (0 : Int32)
    · skip
      refine og (fun t k => XS.ifNo X257.here hx rfl (hb hby at_201) rfl ((if0 _ _).trans (teq hc277).2) (XS.lloadN X257.here hx rfl (hb hby at_204) rfl (XS.goto X257.here hx rfl (pc0 := 205) (pc' := 221) rfl (hb hby at_205) (by decide) (by decide) k))) ?_
      exact Jn267 (q3)
    · skip
      refine og (fun t k => XS.ifYes X257.here hx rfl (pc0 := 201) (pc' := 208) rfl (hb hby at_201) rfl ((if0 _ _).trans (feq hc277).2) (by decide) (by decide) (XS.iload X257.here hx rfl (hb hby at_208) rfl (XS.iconst X257.here hx rfl (hb hby at_210) k))) ?_
      show oF p e below _ (T257.setTop (mkF m 211 #[iv p1, iv p2, jv q3, .second, jv q4, .second, jv q5, .second, iv 4, jv W0, .second, jv W1, .second, jv W2, .second, jv W3, .second, rv b206, rv b224, rv b248, iv mm, iv (((p1.toUInt32 >>> ((6 : Int32) &&& 31).toUInt32).toInt32) &&& (3 : Int32)), .unset, .unset, .unset, .unset] [(.int 1), (.int (((p1.toUInt32 >>> ((6 : Int32) &&& 31).toUInt32).toInt32) &&& (3 : Int32)))]))
      by_cases hc278 : (((p1.toUInt32 >>> ((6 : Int32) &&& 31).toUInt32).toInt32) &&& (3 : Int32)) = (1 : Int32)
      · skip
        refine og (fun t k => XS.icmpNo X257.here hx rfl (hb hby at_211) rfl (teq hc278).2 (XS.lload X257.here hx rfl (hb hby at_214) rfl (XS.goto X257.here hx rfl (pc0 := 216) (pc' := 221) rfl (hb hby at_216) (by decide) (by decide) k))) ?_
        exact Jn267 (q4)
      · skip
        refine og (fun t k => XS.icmpYes X257.here hx rfl (pc0 := 211) (pc' := 219) rfl (hb hby at_211) rfl (feq hc278).2 (by decide) (by decide) (XS.lload X257.here hx rfl (hb hby at_219) rfl k)) ?_
        exact Jn267 (q5)
set_option maxRecDepth 65536 in
set_option maxHeartbeats 40000000 in
theorem comes_1 {Post : Tables → Env → Array Value → State → Outcome → State → Prop} (hpost : ∀ tb e args s v u, (limb_1_1.after args s (.returned v) u = true ∧ limb_1_2.after args s (.returned v) u = true ∧ True) → FrameEnd s (.returned v) u (Jvm.fieldLocs frame_1_writes args s ++ Jvm.arrayLocs frame_1_arrays args s ++ Jvm.staticLocs frame_1_statics s) 16 128 → Post tb e args s (.returned v) u) :
    ArmFor flags0 classFile x code maxLocals ret World_1 tables_1 room_1 Calls_1 rest_1 Pre_1 Post := by
  intro l hfl _ _ p e ha hc hk s m args below hf hA hF happ hP
  obtain ⟨hcalls, hrest, hpre⟩ := hP
  obtain ⟨-, -, -, hnamed, -, -, -, hat⟩ := (Spec.applies_iff hf).mp happ
  obtain ⟨hg, hn⟩ := and_e (Cond.before_iff.mp (show (Jvm.Cond.and given_1 narrow_1).before args s = true from hpre))
  obtain ⟨g0, r0⟩ := and_e hg
  obtain ⟨g1, r1⟩ := and_e r0
  obtain ⟨g2, r2⟩ := and_e r1
  obtain ⟨g3, r3⟩ := and_e r2
  obtain ⟨g4, r4⟩ := and_e r3
  obtain ⟨w0, w1, w2, w3, w4, rfl⟩ : ∃ w0 w1 w2 w3 w4 : Value, args = #[w0, w1, w2, w3, w4] := by
    have hs : args.size = 5 := by simpa [Cond.value, given_1] using g0
    obtain ⟨L⟩ := args
    match L, hs with
    | [w0, w1, w2, w3, w4], _ => exact ⟨w0, w1, w2, w3, w4, rfl⟩
  have hw := fun d (hd : d ∈ tables_1) => atoms_spec (ws := Jvm.Cond.code x code maxLocals ret :: tables_1) hat d (List.mem_cons_of_mem _ hd)
  have hfit : Fit s := fun {y c} hc i hi => by
    obtain ⟨ha, rfl⟩ := Array.getElem?_eq_some_iff.mp hc
    have q := List.all_eq_true.mp ((Array.all_eq_true_iff_forall_mem.mp hF) _ (Array.getElem_mem ha)) i (List.mem_range.mpr hi)
    simpa [Array.getElem?_eq_getElem hi] using q
  obtain ⟨i0, ei0⟩ := is_v g1
  obtain rfl : w0 = (.int i0) := Option.some.inj ei0
  obtain ⟨i1, ei1⟩ := is_v g2
  obtain rfl : w1 = (.int i1) := Option.some.inj ei1
  obtain ⟨i2, ei2⟩ := isL_v g3
  obtain rfl : w2 = (.long i2) := Option.some.inj ei2
  obtain ⟨i3, ei3⟩ := isL_v g4
  obtain rfl : w3 = (.long i3) := Option.some.inj ei3
  obtain ⟨i4, ei4⟩ := isL_v r4
  obtain rfl : w4 = (.long i4) := Option.some.inj ei4
  obtain ⟨n, o, h1, h2, h3, _, L, rfl, ⟨rfl, N⟩, hq⟩ := rm0 l s _ hw tables_1 i0 i1 i2 i3 i4  s.heap s.heap.size (Nat.le_refl _)  p e ha hc hk s m _ below hf ((Spec.applies_iff_loose hf).mp happ).1 ⟨rfl, State.Warmed39.refl s, rfl⟩ trivial
  refine ⟨n, _, h1, h2, h3, hpost _ _ _ _ _ _ ⟨Cond.after_iff.mpr rfl, Cond.after_iff.mpr (eq_i res_at (Term.int_eval (1)) rfl), trivial⟩ ⟨hq.1, hq.2.1, (hq.2.2.sift fun y hy => Or.inr (N y hy)).mono (by decide) (by decide)⟩⟩
theorem main_1_1 : Claimed_1_1 := comes_1 fun _ _ _ _ _ _ h hF => ⟨h.1, hF⟩
theorem main_1_2 : Claimed_1_2 := comes_1 fun _ _ _ _ _ _ h hF => ⟨h.2.1, hF⟩
end Jvm.Pilot.@@N@@
namespace Jvm.Pilot.@@N@@
open Jvm Jvm.ClassFile Sem Op Lib Jvm.Free Jvm.Stand Jvm.Pilot.@@N@@.Jvm.D
/-! MADE BY PROGRAM (witnessworld.py) out of the Statement's table words and the real class files: 11 classes; the members and pool entries that the words name. The judged class is class 1, her method 1. -/
namespace start1
open Jvm.ClassFile
def u (s : String) : CpInfo := .utf8 (stringToUtf16 s)
/-- a pool by its gaps: so many unusable entries, then the entry; so many at the end -/
def gap : Nat → List CpInfo → List CpInfo
  | 0, r => r
  | n + 1, r => .unusable :: gap n r
def poolList (es : List (Nat × CpInfo)) (last : Nat) : List CpInfo := es.foldr (fun e r => gap e.1 (e.2 :: r)) (gap last [])
def pool (es : List (Nat × CpInfo)) (last : Nat) : Array CpInfo := ⟨poolList es last⟩
def fileOf (pool : Array CpInfo) (this : Nat) (attrs : Array Attribute := #[]) (ms : Array MethodInfo := #[]) (fl : Nat := 33) (sup : Nat := 0) (ifs : Array Nat := #[]) (fds : Array FieldInfo := #[]) : ClassFile where
  minorVersion := 0
  majorVersion := 65
  constantPool := pool
  accessFlags := fl
  thisClass := this
  superClass := sup
  interfaces := ifs
  fields := fds
  methods := ms
  attributes := attrs
def plain (name : String) (sup : Option ClassId) : Class where
  name := name
  kind := .ordinary
  loader := none
  accessFlags := 33
  super := sup
  interfaces := #[]
  cf := none
  fields := #[]
  methods := #[]
  instanceTypes := #[]
  staticTypes := #[]
  resolved := #[]
  callSites := []
  init := .initialized
  statics := none
  mirror := none

def pool0 : Array CpInfo := pool [(5, u "<init>"), (0, u "()V"), (1, .class_ 10), (1, u "java/lang/Object")] 113

def k0c0 : Code := { maxStack := 0, maxLocals := 1, code := object_method_1_code, exceptionTable := #[], attributes := #[] }
def k0m0 : Method := { name := "<init>", desc := "()V", sig := { parameters := [], returnType := none }, accessFlags := 1, code := some k0c0 }
/-- java/lang/Object -/
def k0 : Class := { plain "java/lang/Object" none with
  accessFlags := 33
  interfaces := #[]
  cf := some (fileOf pool0 8 #[] #[{ accessFlags := 1, nameIndex := 5, descriptorIndex := 6, attributes := #[] }] 33 0 #[] #[])
  fields := #[]
  methods := #[k0m0]
  instanceTypes := #[]
  staticTypes := #[]
  resolved := Array.replicate 124 none
  statics := none }

def pool1 : Array CpInfo := pool [(2, .class_ 4), (1, u "java/lang/Object"), (0, u "<init>"), (0, u "()V"), (0, .methodref 8 9), (0, .class_ 10), (0, .nameAndType 11 12), (0, u "com/example/sound_verdict/soundverdict/UnitSearchNextPinLaw"), (0, u "pick"), (0, u "(IIJJ)J"), (0, .class_ 14), (0, u "com/example/sound_verdict/soundverdict/UnitSearch"), (0, .methodref 13 16), (0, .nameAndType 5 17), (0, u "([J)V"), (0, .integer 2147483647), (0, .methodref 13 20), (0, .nameAndType 21 22), (0, u "next"), (0, u "(IJ)I"), (0, .methodref 8 24), (0, .nameAndType 25 26), (0, u "suf"), (0, u "([JIIJI)Z"), (2, u "law"), (0, u "(IIJJJ)Z")] 5

def k1m0 : Method := { name := "<init>", desc := "()V", sig := { parameters := [], returnType := none }, accessFlags := 1, code := none }
def k1c1 : Code := { maxStack := 6, maxLocals := 26, code := code, exceptionTable := #[], attributes := #[] }
def k1m1 : Method := { name := "law", desc := "(IIJJJ)Z", sig := { parameters := [.int, .int, .long, .long, .long], returnType := some .boolean }, accessFlags := 9, code := some k1c1 }
def k1c2 : Code := { maxStack := 2, maxLocals := 6, code := method_3_code, exceptionTable := #[], attributes := #[] }
def k1m2 : Method := { name := "pick", desc := "(IIJJ)J", sig := { parameters := [.int, .int, .long, .long], returnType := some .long }, accessFlags := 10, code := some k1c2 }
def k1c3 : Code := { maxStack := 5, maxLocals := 7, code := method_4_code, exceptionTable := #[], attributes := #[] }
def k1m3 : Method := { name := "suf", desc := "([JIIJI)Z", sig := { parameters := [(.array .long), .int, .int, .long, .int], returnType := some .boolean }, accessFlags := 10, code := some k1c3 }
/-- com/example/sound_verdict/soundverdict/UnitSearchNextPinLaw -/
def k1 : Class := { plain "com/example/sound_verdict/soundverdict/UnitSearchNextPinLaw" (some 0) with
  accessFlags := 49
  interfaces := #[]
  cf := some (fileOf pool1 8 #[] #[{ accessFlags := 1, nameIndex := 5, descriptorIndex := 6, attributes := #[] }, { accessFlags := 9, nameIndex := 29, descriptorIndex := 30, attributes := #[] }, { accessFlags := 10, nameIndex := 11, descriptorIndex := 12, attributes := #[] }, { accessFlags := 10, nameIndex := 25, descriptorIndex := 26, attributes := #[] }] 49 2 #[] #[])
  fields := #[]
  methods := #[k1m0, k1m1, k1m2, k1m3]
  instanceTypes := #[]
  staticTypes := #[]
  resolved := Array.replicate 36 none
  statics := none }

def pool2 : Array CpInfo := pool [(1, .methodref 2 3), (0, .class_ 4), (0, .nameAndType 5 6), (0, u "com/example/sound_verdict/soundverdict/UnitSearch"), (0, u "<init>"), (0, u "([JLjava/lang/String;)V"), (0, .methodref 8 9), (0, .class_ 10), (0, .nameAndType 5 11), (0, u "java/lang/Object"), (0, u "()V"), (0, .fieldref 2 13), (0, .nameAndType 14 15), (0, u "wanted"), (0, u "[J"), (0, .fieldref 2 17), (0, .nameAndType 18 19), (0, u "lead"), (0, u "Ljava/lang/String;"), (0, .fieldref 2 21), (0, .nameAndType 22 23), (0, u "border"), (0, u "[I"), (26, u "next"), (0, u "(IJ)I"), (1, .class_ 55), (1, u "com/example/sound_verdict/soundverdict/UnitSearch$Bounds"), (8, u "LEAD_LENGTH"), (0, u "I"), (2, u "([J)V")] 15

def k2c0 : Code := { maxStack := 3, maxLocals := 2, code := prog_199_method_1_code, exceptionTable := #[], attributes := #[] }
def k2m0 : Method := { name := "<init>", desc := "([J)V", sig := { parameters := [(.array .long)], returnType := none }, accessFlags := 0, code := some k2c0 }
def k2c1 : Code := { maxStack := 4, maxLocals := 5, code := prog_199_method_2_code, exceptionTable := #[], attributes := #[] }
def k2m1 : Method := { name := "<init>", desc := "([JLjava/lang/String;)V", sig := { parameters := [(.array .long), (.object "java/lang/String")], returnType := none }, accessFlags := 2, code := some k2c1 }
def k2c2 : Code := { maxStack := 4, maxLocals := 5, code := prog_199_method_6_code, exceptionTable := #[], attributes := #[] }
def k2m2 : Method := { name := "next", desc := "(IJ)I", sig := { parameters := [.int, .long], returnType := some .int }, accessFlags := 0, code := some k2c2 }
/-- com/example/sound_verdict/soundverdict/UnitSearch -/
def k2 : Class := { plain "com/example/sound_verdict/soundverdict/UnitSearch" (some 0) with
  accessFlags := 48
  interfaces := #[]
  cf := some (fileOf pool2 2 #[.nestMembers #[53]] #[{ accessFlags := 0, nameIndex := 5, descriptorIndex := 68, attributes := #[] }, { accessFlags := 2, nameIndex := 5, descriptorIndex := 6, attributes := #[] }, { accessFlags := 0, nameIndex := 50, descriptorIndex := 51, attributes := #[] }] 48 8 #[] #[{ accessFlags := 26, nameIndex := 64, descriptorIndex := 65, attributes := #[] }, { accessFlags := 18, nameIndex := 14, descriptorIndex := 15, attributes := #[] }, { accessFlags := 18, nameIndex := 22, descriptorIndex := 23, attributes := #[] }, { accessFlags := 18, nameIndex := 18, descriptorIndex := 19, attributes := #[] }])
  fields := #[{ name := "LEAD_LENGTH", type := .int, accessFlags := 26, slot := 0, constantValue := 0 }, { name := "wanted", type := (.array .long), accessFlags := 18, slot := 0, constantValue := 0 }, { name := "border", type := (.array .int), accessFlags := 18, slot := 1, constantValue := 0 }, { name := "lead", type := (.object "java/lang/String"), accessFlags := 18, slot := 2, constantValue := 0 }]
  methods := #[k2m0, k2m1, k2m2]
  instanceTypes := #[(.array .long), (.array .int), (.object "java/lang/String")]
  staticTypes := #[.int]
  resolved := Array.replicate 84 none
  statics := none }

def pool3 : Array CpInfo := pool [(1, u "java/lang/Cloneable"), (0, .class_ 1), (0, u "java/lang/Object"), (0, .class_ 3)] 3

/-- java/lang/Cloneable -/
def k3 : Class := { plain "java/lang/Cloneable" (some 0) with
  accessFlags := 1537
  interfaces := #[]
  cf := some (fileOf pool3 2 #[] #[] 1537 4 #[] #[])
  fields := #[]
  methods := #[]
  instanceTypes := #[]
  staticTypes := #[]
  resolved := Array.replicate 8 none
  statics := none }

def pool4 : Array CpInfo := pool [(1, u "java/io/Serializable"), (0, .class_ 1), (0, u "java/lang/Object"), (0, .class_ 3)] 3

/-- java/io/Serializable -/
def k4 : Class := { plain "java/io/Serializable" (some 0) with
  accessFlags := 1537
  interfaces := #[]
  cf := some (fileOf pool4 2 #[] #[] 1537 4 #[] #[])
  fields := #[]
  methods := #[]
  instanceTypes := #[]
  staticTypes := #[]
  resolved := Array.replicate 8 none
  statics := none }

/-- the primitive byte -/
def k5 : Class := { plain "byte" none with kind := .primitive 'B', accessFlags := 0x411 }
/-- [B -/
def k6 : Class := { plain "[B" (some 0) with kind := .array 5 .byte, interfaces := #[3, 4], accessFlags := 1041 }

/-- the primitive int -/
def k7 : Class := { plain "int" none with kind := .primitive 'I', accessFlags := 0x411 }
/-- [I -/
def k8 : Class := { plain "[I" (some 0) with kind := .array 7 .int, interfaces := #[3, 4], accessFlags := 1041 }

/-- the primitive long -/
def k9 : Class := { plain "long" none with kind := .primitive 'J', accessFlags := 0x411 }
/-- [J -/
def k10 : Class := { plain "[J" (some 0) with kind := .array 9 .long, interfaces := #[3, 4], accessFlags := 1041 }

def heap : Heap := #[]
def classes : Array Class := #[k0, k1, k2, k3, k4, k5, k6, k7, k8, k9, k10]
def interned : List (Array UInt16 × Addr) := []
def slotsUsed : Nat := 0
def theMethod : MethodId := ⟨1, 1⟩
def args0 : Array Value := #[.int 5, .int 6, .long 7, .long 8, .long 9]
def aboutOver (below : List Frame) : State where
  vm := { classes := classes, interned := interned.toArray }
  heap := heap
  slotsUsed := slotsUsed
  threads := #[{ frames := .invoking theMethod args0 :: below }]
def below0 : List Frame := [.native { method := ⟨0, 0⟩, args := #[] }]
def about1 : State := aboutOver below0
def p0 : Program := .bare "" "" ""
def e0 : Env := launch0.env 0 0 0
theorem w_frames : about1.frames = Frame.invoking theMethod args0 :: below0 := rfl
set_option maxRecDepth 65536 in
theorem w_args : argsFit about1.vm theMethod args0 = true := by decide +kernel
set_option maxRecDepth 65536 in
theorem w_heap : heapFits about1 = true := by decide +kernel
set_option maxRecDepth 65536 in
theorem w_runnable : about1.curStatus? = some .runnable := by decide +kernel
set_option maxRecDepth 65536 in
theorem w_alone : about1.alone = true := by decide +kernel
set_option maxRecDepth 65536 in
theorem w_named : about1.methodNamed? x = some theMethod := by decide +kernel
set_option maxRecDepth 65536 in
theorem w_hears : about1.hears theMethod below0 = true := by decide +kernel
set_option maxRecDepth 65536 in
theorem w_ripe : about1.ripe theMethod args0 below0 = true := by decide +kernel
theorem w_running : about1.status = .running := rfl
set_option maxRecDepth 65536 in
theorem w_room : about1.hasRoom e0.platform room_1 = true :=
  launch0.hasRoom_least _ room_1 (by decide +kernel) (by decide +kernel) (by decide +kernel) (by decide +kernel) (by decide +kernel) (by decide +kernel)
theorem allAtoms_all (ts : List Jvm.Cond) (a : Array Jvm.Value) (st : Jvm.State) : (allAtoms ts).before a st = ts.all (fun c => c.before a st) := by
  induction ts with
  | nil => rfl
  | cons c t ih =>
    show (Jvm.Cond.and c (allAtoms t)).before a st = _
    rw [Jvm.Cond.before_and, ih, List.all_cons]
def words1 : List Jvm.Cond := Jvm.Cond.code x code maxLocals ret :: tables_1
/-- a 'code' word, met by the world's own term for the bytes: nothing is compared byte by byte -/
theorem code_word {y : MethodName} {bytes : ByteArray} {mx : Nat} {rt : Option FieldType} {a : Array Value} {s : State} {m : MethodId} {meth : Method} {c : Code} (h1 : s.methodNamed? y = some m) (h2 : s.vm.method? m = some meth) (h3 : meth.code = some c) (h4 : c.code = bytes)
    (h5 : (c.maxLocals == mx && c.exceptionTable.isEmpty && decide (c.maxStack ≤ mostOperands) && decide (meth.sig.returnType = rt) && !meth.locks && decide (parseMethodDescriptor y.desc = some meth.sig)) = true) : (Jvm.Cond.code y bytes mx rt).before a s = true := by
  simp only [Bool.and_eq_true, beq_iff_eq, Bool.not_eq_true', decide_eq_true_eq] at h5
  obtain ⟨⟨⟨⟨⟨g1, g2⟩, g3⟩, g4⟩, g5⟩, g6⟩ := h5
  simp [Cond.before, Cond.holds, Cond.value, h1, h2, h3, h4, g1, g2, g3, g4, g5, g6]
def isCode : Jvm.Cond → Bool
  | .code _ _ _ _ => true
  | _ => false
theorem all_split {L : List Jvm.Cond} {P : Jvm.Cond → Bool} (h1 : L.all (fun c => isCode c || P c) = true) (h2 : ∀ c ∈ L.filter isCode, P c = true) : L.all P = true := by
  refine List.all_eq_true.mpr fun c hc => ?_
  have h := List.all_eq_true.mp h1 c hc
  rcases Bool.eq_false_or_eq_true (isCode c) with hi | hi
  · exact h2 c (List.mem_filter.mpr ⟨hc, hi⟩)
  · simpa [hi] using h
set_option maxRecDepth 65536 in
theorem w_c0 : (Jvm.Cond.code x code maxLocals ret).before args0 about1 = true := code_word (m := ⟨1, 1⟩) (meth := k1m1) (c := k1c1) (by decide +kernel) rfl rfl rfl (by decide +kernel)
set_option maxRecDepth 65536 in
theorem w_c1 : (Jvm.Cond.code ({ cls := "com/example/sound_verdict/soundverdict/UnitSearchNextPinLaw", name := "pick", desc := "(IIJJ)J" } : Jvm.MethodName) method_3_code (6 : Nat) (Option.some Jvm.ClassFile.FieldType.long)).before args0 about1 = true := code_word (m := ⟨1, 2⟩) (meth := k1m2) (c := k1c2) (by decide +kernel) rfl rfl rfl (by decide +kernel)
set_option maxRecDepth 65536 in
theorem w_c2 : (Jvm.Cond.code ({ cls := "com/example/sound_verdict/soundverdict/UnitSearch", name := "<init>", desc := "([J)V" } : Jvm.MethodName) prog_199_method_1_code (2 : Nat) (Option.none : Option Jvm.ClassFile.FieldType)).before args0 about1 = true := code_word (m := ⟨2, 0⟩) (meth := k2m0) (c := k2c0) (by decide +kernel) rfl rfl rfl (by decide +kernel)
set_option maxRecDepth 65536 in
theorem w_c3 : (Jvm.Cond.code ({ cls := "com/example/sound_verdict/soundverdict/UnitSearch", name := "<init>", desc := "([JLjava/lang/String;)V" } : Jvm.MethodName) prog_199_method_2_code (5 : Nat) (Option.none : Option Jvm.ClassFile.FieldType)).before args0 about1 = true := code_word (m := ⟨2, 1⟩) (meth := k2m1) (c := k2c1) (by decide +kernel) rfl rfl rfl (by decide +kernel)
set_option maxRecDepth 65536 in
theorem w_c4 : (Jvm.Cond.code ({ cls := "java/lang/Object", name := "<init>", desc := "()V" } : Jvm.MethodName) object_method_1_code (1 : Nat) (Option.none : Option Jvm.ClassFile.FieldType)).before args0 about1 = true := code_word (m := ⟨0, 0⟩) (meth := k0m0) (c := k0c0) (by decide +kernel) rfl rfl rfl (by decide +kernel)
set_option maxRecDepth 65536 in
theorem w_c5 : (Jvm.Cond.code ({ cls := "com/example/sound_verdict/soundverdict/UnitSearch", name := "next", desc := "(IJ)I" } : Jvm.MethodName) prog_199_method_6_code (5 : Nat) (Option.some Jvm.ClassFile.FieldType.int)).before args0 about1 = true := code_word (m := ⟨2, 2⟩) (meth := k2m2) (c := k2c2) (by decide +kernel) rfl rfl rfl (by decide +kernel)
set_option maxRecDepth 65536 in
theorem w_c6 : (Jvm.Cond.code ({ cls := "com/example/sound_verdict/soundverdict/UnitSearchNextPinLaw", name := "suf", desc := "([JIIJI)Z" } : Jvm.MethodName) method_4_code (7 : Nat) (Option.some Jvm.ClassFile.FieldType.boolean)).before args0 about1 = true := code_word (m := ⟨1, 3⟩) (meth := k1m3) (c := k1c3) (by decide +kernel) rfl rfl rfl (by decide +kernel)
def codes1 : List Jvm.Cond := [Jvm.Cond.code x code maxLocals ret, Jvm.Cond.code ({ cls := "com/example/sound_verdict/soundverdict/UnitSearchNextPinLaw", name := "pick", desc := "(IIJJ)J" } : Jvm.MethodName) method_3_code (6 : Nat) (Option.some Jvm.ClassFile.FieldType.long), Jvm.Cond.code ({ cls := "com/example/sound_verdict/soundverdict/UnitSearch", name := "<init>", desc := "([J)V" } : Jvm.MethodName) prog_199_method_1_code (2 : Nat) (Option.none : Option Jvm.ClassFile.FieldType), Jvm.Cond.code ({ cls := "com/example/sound_verdict/soundverdict/UnitSearch", name := "<init>", desc := "([JLjava/lang/String;)V" } : Jvm.MethodName) prog_199_method_2_code (5 : Nat) (Option.none : Option Jvm.ClassFile.FieldType), Jvm.Cond.code ({ cls := "java/lang/Object", name := "<init>", desc := "()V" } : Jvm.MethodName) object_method_1_code (1 : Nat) (Option.none : Option Jvm.ClassFile.FieldType), Jvm.Cond.code ({ cls := "com/example/sound_verdict/soundverdict/UnitSearch", name := "next", desc := "(IJ)I" } : Jvm.MethodName) prog_199_method_6_code (5 : Nat) (Option.some Jvm.ClassFile.FieldType.int), Jvm.Cond.code ({ cls := "com/example/sound_verdict/soundverdict/UnitSearchNextPinLaw", name := "suf", desc := "([JIIJI)Z" } : Jvm.MethodName) method_4_code (7 : Nat) (Option.some Jvm.ClassFile.FieldType.boolean)]
set_option maxRecDepth 65536 in
theorem codes_eq : words1.filter isCode = codes1 := rfl
theorem w_codes : ∀ c ∈ words1.filter isCode, c.before args0 about1 = true := by
  rw [codes_eq]
  intro c hc
  simp only [codes1, List.mem_cons, List.not_mem_nil, or_false] at hc
  rcases hc with rfl | rfl | rfl | rfl | rfl | rfl | rfl
  · exact w_c0
  · exact w_c1
  · exact w_c2
  · exact w_c3
  · exact w_c4
  · exact w_c5
  · exact w_c6
set_option maxRecDepth 65536 in
theorem w_t1 : (words1.take 24).all (fun c => isCode c || c.before args0 about1) = true := by decide +kernel
set_option maxRecDepth 65536 in
theorem w_t2 : (words1.drop 24).all (fun c => isCode c || c.before args0 about1) = true := by decide +kernel
theorem w_tables : (allAtoms (Jvm.Cond.code x code maxLocals ret :: tables_1)).before args0 about1 = true := by
  rw [allAtoms_all]
  show words1.all (fun c => c.before args0 about1) = true
  refine all_split ?_ w_codes
  rw [← List.take_append_drop 24 words1, List.all_append, w_t1, w_t2]
  rfl
set_option maxRecDepth 65536 in
theorem w_case : (Jvm.Cond.and given_1 narrow_1).before args0 about1 = true := by decide +kernel
theorem w_applies : (headSpec (Jvm.Cond.code x code maxLocals ret :: tables_1) room_1).applies x e0.platform about1 = true :=
  (Spec.applies_iff w_frames).mpr ⟨w_running, w_runnable, w_alone, w_named, w_hears, w_ripe, w_room, w_tables⟩
theorem atStart : AtStart classFile x code maxLocals ret World_1 tables_1 room_1 Calls_1 rest_1 Pre_1 launch0 p0 e0 about1 theMethod args0 below0 :=
  ⟨lists_1, trivial, launch0.admits_env _ _ _, launch0.least_env, fairChoices_fair.cas, fairChoices_fair.clock, w_frames, w_args, w_heap, w_applies, trivial, trivial, w_case⟩
end start1
theorem witness_1 : WitnessClaimed_1 := ⟨start1.p0, start1.e0, start1.about1, start1.theMethod, start1.args0, start1.below0, start1.atStart⟩
end Jvm.Pilot.@@N@@
