import JvmDerived
import JvmDerived.Pilot.@@N@@Statement
import JvmDerived.Pilot.@@N@@Code
set_option linter.unusedVariables false
set_option linter.unusedSimpArgs false
namespace Jvm.RoadKit
open Sem ClassFile Op Lib Jvm.Stand Jvm.Free Jvm.LawKit
section New
variable {p : Program} {l : Launch} {e : Env} {R : Room} {s : State} {m : MethodId} {args : Array Value} {below : List Frame} {meth : Method} {c : Code} {T : State} {locs : List Loc} {cells slots : Nat}
theorem retI (X : Stand p l e R s m args below meth c T locs cells slots) (hx : p.tables.exec = Jvm.exec) {pc : Nat} {Ls : Array Slot} {z : Int32} {rest : List Value} (hret : meth.sig.returnType = some .int) (hd : decode c.code pc = .ok (.ireturn, 1)) {fs : List Frame}
    (hl : ∀ (f : JFrame) (acts : List Action), f.method = m → f.locked = none → f.entered = [] → (doReturn e (T.setTop f) acts (some (.int z))).1 = T.setFrames fs) : Steps p.tables e below (T.setTop (mkF m pc Ls (.int z :: rest))) (T.setFrames fs) := by
  have hm' : T.vm.method? m = some meth := X.method'
  have hn : narrow .int (.int z) = .int z := rfl
  show Steps p.tables e below (T.setTop { method := m, pc := pc, locals := Ls, stack := _ :: rest, locked := none }) _
  jvm_step X.here [X.here.top, hx, hd, hm', hret, hn]
  first | (intro acts; rw [hl _ acts rfl rfl rfl]) | rw [hl _ _ rfl rfl rfl]
  exact Steps.refl _
/-- from the state S the run comes to an end at which A holds -/
def own_Fin (p : Program) (e : Env) (below : List Frame) (A : State → Outcome → Prop) (S : State) : Prop := ∃ s₂ o, Steps p.tables e below S s₂ ∧ s₂.status = .running ∧ Ended s₂ below o ∧ A s₂ o
theorem own_go {A : State → Outcome → Prop} {S S' : State} (k : ∀ t, Steps p.tables e below S' t → Steps p.tables e below S t) (h : own_Fin p e below A S') : own_Fin p e below A S := by
  obtain ⟨t, o, h1, h2⟩ := h; exact ⟨t, o, k t h1, h2⟩
/-- what a walk leaves: Q of the value, the heap and the written places -/
def own_A (s : State) (C S : Nat) (Q : Option Value → Heap → List Loc → Prop) : State → Outcome → Prop := fun U' o => ∃ v L, o = .returned v ∧ Q v U'.heap L ∧ FrameEnd s o U' L C S
/-- a body that writes nothing: its value, the heap as it was -/
def own_P (h0 : Heap) (n0 : Nat) (w : Value) (v : Option Value) (h : Heap) (L : List Loc) : Prop := v = some w ∧ Fr n0 L ∧ h = h0
theorem own_out (X : Stand p l e R s m args below meth c T locs cells slots) {v : Option Value} {Q : Option Value → Heap → List Loc → Prop} {C S : Nat} {g : JFrame}
    (hv : meth.sig.returnType = none → v = none) (hlocks : meth.locks = false)
    (st : ∀ fs, (∀ (f : JFrame) (acts : List Action), f.method = m → f.locked = none → f.entered = [] → (doReturn e (T.setTop f) acts v).1 = T.setFrames fs) → Steps p.tables e below (T.setTop g) (T.setFrames fs))
    (hQ : Q v T.heap locs) (hc : cells ≤ C) (hs : slots ≤ S) : own_Fin p e below (own_A s C S Q) (T.setTop g) := by
  obtain ⟨fs, hr, hrun, hended, hW, hsame⟩ := X.leave (v := v) hv hlocks
  exact ⟨_, _, st fs hr, hrun, hended, _, _, rfl, hQ, ⟨_, rfl⟩, hW, hsame.mono hc hs⟩
end New
end Jvm.RoadKit
namespace Jvm.Pilot.@@N@@
open Jvm Jvm.ClassFile Sem Op Lib Jvm.Free Jvm.Stand Jvm.LawKit Jvm.RoadKit Bundle Jvm.Pilot.@@N@@.Jvm.D
def own_b (p : Int32) : Int32 := if p = (0 : Int32) then (0 : Int32) else (1 : Int32)
theorem d1_0 : decode prog_82_method_3_code 0 = .ok (.iconst 1, 1) := by decide +kernel
theorem d1_1 : decode prog_82_method_3_code 1 = .ok (.newarray .byte, 2) := by decide +kernel
theorem d1_3 : decode prog_82_method_3_code 3 = .ok (.dup, 1) := by decide +kernel
theorem d1_4 : decode prog_82_method_3_code 4 = .ok (.iconst 0, 1) := by decide +kernel
theorem d1_5 : decode prog_82_method_3_code 5 = .ok (.iload_n 0, 1) := by decide +kernel
theorem d1_6 : decode prog_82_method_3_code 6 = .ok (.ifCond .eq 7, 3) := by decide +kernel
theorem d1_9 : decode prog_82_method_3_code 9 = .ok (.iconst 1, 1) := by decide +kernel
theorem d1_10 : decode prog_82_method_3_code 10 = .ok (.goto 4, 3) := by decide +kernel
theorem d1_13 : decode prog_82_method_3_code 13 = .ok (.iconst 0, 1) := by decide +kernel
theorem d1_14 : decode prog_82_method_3_code 14 = .ok (.i2b, 1) := by decide +kernel
theorem d1_15 : decode prog_82_method_3_code 15 = .ok (.bastore, 1) := by decide +kernel
theorem d1_16 : decode prog_82_method_3_code 16 = .ok (.areturn, 1) := by decide +kernel
theorem pn_0 : plainName "com/example/keyslice/keyslice/types/Values" = true := by first | (simp [plainName, overriddenIn]; done) | decide +kernel
theorem ef_1 (m : MethodId) (x0 : Int32)  : entryFrame m #[(.int x0)] 1 = mkF m 0 #[.val (.int x0)] [] := by first | (simp [entryFrame, mkF, argsToLocals, Value.category]; done) | rfl
def own_q1 (Z : State) (p1 : Int32) (h0 : Heap) (n0 : Nat) (v : Option Value) (h : Heap) (L : List Loc) : Prop := ∃ (a : Addr) (k : ClassId), v = some (.ref a) ∧ Fr n0 L ∧ h0.size ≤ a ∧ Keep h0 h [] ∧ Arv Z h a k .byte (1 : Int32) [(.int (own_b p1))] (.int (0 : Int32))
set_option maxRecDepth 65536 in
set_option maxHeartbeats 40000000 in
theorem rm1 (l : Launch) (Z : State) (a0 : Array Value) (hw : ∀ d ∈ tables_1, d.before a0 Z = true) (ws : List Jvm.Cond) (p1 : Int32) (h0 : Heap) (n0 : Nat) (Z0 : n0 ≤ h0.size) :
    MetFree l (⟨"com/example/keyslice/keyslice/types/Values", "bool", "(Z)[B"⟩ : MethodName) (head1 (Jvm.Cond.code (⟨"com/example/keyslice/keyslice/types/Values", "bool", "(Z)[B"⟩ : MethodName) prog_82_method_3_code 1 (some (.array .byte)) :: ws) ({ frames := 0, cells := 1, slots := 1, locals := 0 } : Room)) (fun a U => a = #[(.int p1)] ∧ Z.Warmed39 U.vm ∧ U.heap = h0) (fun _ _ _ _ _ => True) (fun _ U o U' => ∃ v L, o = .returned v ∧ (own_q1 Z p1 h0 n0) v U'.heap L ∧ FrameEnd U o U' L ({ frames := 0, cells := 1, slots := 1, locals := 0 } : Room).cells ({ frames := 0, cells := 1, slots := 1, locals := 0 } : Room).slots) := by
  refine MetFree.of_bodySF (plainFor_of_name pn_0) hisR ?_
  intro p e s m args below meth c s₁ Bd hml0 hP hK
  obtain ⟨rfl, hZ, hh⟩ := hP
  have hx := Bd.exec
  have hby := Bd.bytes
  have hml : c.maxLocals = 1 := hml0
  have hown : s.vm.findClass "com/example/keyslice/keyslice/types/Values" = some m.cls := findClass_of_methodNamed Bd.named
  have hnm := (name_of_methodNamed Bd.named Bd.method).1
  have X0 : Stand p l e ({ frames := 0, cells := 1, slots := 1, locals := 0 } : Room) s m #[(.int p1)] below meth c s₁ [] 0 0 := Stand.of_body Bd
  have e0 : s₁.heap = h0 := by rw [← hh, Bd.state]; rfl
  have N0 := Fr.nil n0
  have Kz := Keep.refl h0 []
  have hw_4 := hw _ (List.mem_of_getElem? (i := 4) rfl)
  show own_Fin p e below (own_A s ({ frames := 0, cells := 1, slots := 1, locals := 0 } : Room).cells ({ frames := 0, cells := 1, slots := 1, locals := 0 } : Room).slots (own_q1 Z p1 h0 n0)) _
  refine own_go (fun t k => castTop (ef_1 m (p1)) k) ?_
  show own_Fin p e below _ (s₁.setTop (mkF m 0 #[.val (.int p1)] []))
  refine own_go (fun t k => XS.iconst X0.here hx rfl (hb hby d1_0) k) ?_
  show own_Fin p e below _ (s₁.setTop (mkF m 1 #[.val (.int p1)] [(.int (1 : Int32))]))
  obtain ⟨T1, h1, k1, X1, e1, E1, A1, st1⟩ := newP (aty := .byte) X0 hx hZ hw_4 e0 (g := (mkF m 1 #[.val (.int p1)] [(.int (1 : Int32))])) rfl (hb hby d1_1) rfl (by decide) (cap := 1) (by decide) (by decide) (by decide) (by decide)
  obtain ⟨b1, g1⟩ : ∃ z, z = h0.size := ⟨_, rfl⟩
  rw [← g1] at A1 st1
  have g_b1 : n0 ≤ b1 := Nat.le_trans Z0 (Nat.le_of_eq g1.symm)
  have sz_b1 : h0.size ≤ b1 := Nat.le_trans Kz.1 (Nat.le_of_eq g1.symm)
  have Zh2 : n0 ≤ h1.size := Nat.le_trans Z0 E1.1
  have K3 := Kz.ext E1
  have V1 : Arv Z h1 b1 k1 .byte (1 : Int32) [(.int (0 : Int32))] (.int (0 : Int32)) := (Arv.new A1 (by decide)).pad (pad_rep [] (.int (0 : Int32)) 1)
  refine own_go st1 ?_
  show own_Fin p e below _ (T1.setTop (mkF m 3 #[.val (.int p1)] [(.ref b1)]))
  refine own_go (fun t k => XS.dup X1.here hx rfl (hb hby d1_3) rfl rfl (XS.iconst X1.here hx rfl (hb hby d1_4) (XS.iloadN X1.here hx rfl (hb hby d1_5) rfl  k))) ?_
  show own_Fin p e below _ (T1.setTop (mkF m 6 #[.val (.int p1)] [(.int p1), (.int (0 : Int32)), (.ref b1), (.ref b1)]))
  by_cases hc4 : p1 = (0 : Int32)
  · skip
    refine own_go (fun t k => XS.ifYes X1.here hx rfl (pc0 := 6) (pc' := 13) rfl (hb hby d1_6) rfl ((if0 _ _).trans (teq hc4).1) (by decide) (by decide) (XS.iconst X1.here hx rfl (hb hby d1_13) (XS.i2b X1.here hx rfl (hb hby d1_14) rfl k))) ?_
    show own_Fin p e below _ (T1.setTop (mkF m 15 #[.val (.int p1)] [(.int ((0 : Int32).toInt8.toInt32)), (.int (0 : Int32)), (.ref b1), (.ref b1)]))
    obtain ⟨cl5, Ar5, q5, S5, M5, H5, G5⟩ := (id V1)
    have hin5 : ¬ ((0 : Int32) < 0 ∨ cl5.slots.size ≤ ((0 : Int32)).toNatClampNeg) := inb_of S5 ⟨by decide, by decide⟩
    obtain ⟨T5, h5, X5, e5, W5, st5⟩ := stB X1 hx hZ e1 Ar5 (j := (0 : Int32)) hin5 (g := (mkF m 15 #[.val (.int p1)] [(.int ((0 : Int32).toInt8.toInt32)), (.int (0 : Int32)), (.ref b1), (.ref b1)])) rfl rfl (hb hby d1_15)
    have V5 := Arv.set Ar5 q5 S5 M5 H5 G5 (fits_nar_byte _) W5 0 rfl (Nat.le_of_ble_eq_true rfl)
    have f7 : Arv Z h5 b1 k1 .byte (1 : Int32) [(.int (nar .byte ((0 : Int32).toInt8.toInt32)))] (.int (0 : Int32)) := V5
    have Zh8 : n0 ≤ h5.size := Nat.le_trans Zh2 (Nat.le_of_eq W5.size.symm)
    have N5 := Fr.snoc X5 N0 g_b1
    have K9 := K3.wr W5 (Or.inr sz_b1)
    refine own_go st5 ?_
    show own_Fin p e below _ (T5.setTop (mkF m 16 #[.val (.int p1)] [(.ref b1)]))
    exact own_out X5 (fun h => by rw [Bd.returns] at h; cases h) Bd.notSynchronized (fun fs hr => retOut X5 hx Bd.returns rfl (Or.inr (Or.inr (Or.inr (Or.inr ⟨rfl, rfl, rfl⟩)))) (hb hby d1_16) hr) (by rw [e5]; exact ⟨_, _, rfl, N5, sz_b1, K9, (by rw [(show own_b p1 = (0 : Int32) from if_pos hc4)]; exact f7)⟩) (by decide) (by decide)
  · skip
    refine own_go (fun t k => XS.ifNo X1.here hx rfl (hb hby d1_6) rfl ((if0 _ _).trans (feq hc4).1) (XS.iconst X1.here hx rfl (hb hby d1_9) (XS.goto X1.here hx rfl (pc0 := 10) (pc' := 14) rfl (hb hby d1_10) (by decide) (by decide) (XS.i2b X1.here hx rfl (hb hby d1_14) rfl k)))) ?_
    show own_Fin p e below _ (T1.setTop (mkF m 15 #[.val (.int p1)] [(.int ((1 : Int32).toInt8.toInt32)), (.int (0 : Int32)), (.ref b1), (.ref b1)]))
    obtain ⟨cl10, Ar10, q10, S10, M10, H10, G10⟩ := (id V1)
    have hin10 : ¬ ((0 : Int32) < 0 ∨ cl10.slots.size ≤ ((0 : Int32)).toNatClampNeg) := inb_of S10 ⟨by decide, by decide⟩
    obtain ⟨T10, h10, X10, e10, W10, st10⟩ := stB X1 hx hZ e1 Ar10 (j := (0 : Int32)) hin10 (g := (mkF m 15 #[.val (.int p1)] [(.int ((1 : Int32).toInt8.toInt32)), (.int (0 : Int32)), (.ref b1), (.ref b1)])) rfl rfl (hb hby d1_15)
    have V10 := Arv.set Ar10 q10 S10 M10 H10 G10 (fits_nar_byte _) W10 0 rfl (Nat.le_of_ble_eq_true rfl)
    have f12 : Arv Z h10 b1 k1 .byte (1 : Int32) [(.int (nar .byte ((1 : Int32).toInt8.toInt32)))] (.int (0 : Int32)) := V10
    have Zh13 : n0 ≤ h10.size := Nat.le_trans Zh2 (Nat.le_of_eq W10.size.symm)
    have N10 := Fr.snoc X10 N0 g_b1
    have K14 := K3.wr W10 (Or.inr sz_b1)
    refine own_go st10 ?_
    show own_Fin p e below _ (T10.setTop (mkF m 16 #[.val (.int p1)] [(.ref b1)]))
    exact own_out X10 (fun h => by rw [Bd.returns] at h; cases h) Bd.notSynchronized (fun fs hr => retOut X10 hx Bd.returns rfl (Or.inr (Or.inr (Or.inr (Or.inr ⟨rfl, rfl, rfl⟩)))) (hb hby d1_16) hr) (by rw [e10]; exact ⟨_, _, rfl, N10, sz_b1, K14, (by rw [(show own_b p1 = (1 : Int32) from if_neg hc4)]; exact f12)⟩) (by decide) (by decide)
theorem d2_0 : decode method_2_code 0 = .ok (.aload_n 0, 1) := by decide +kernel
theorem d2_1 : decode method_2_code 1 = .ok (.ifnull 9, 3) := by decide +kernel
theorem d2_4 : decode method_2_code 4 = .ok (.aload_n 0, 1) := by decide +kernel
theorem d2_5 : decode method_2_code 5 = .ok (.arraylength, 1) := by decide +kernel
theorem d2_6 : decode method_2_code 6 = .ok (.iconst 1, 1) := by decide +kernel
theorem d2_7 : decode method_2_code 7 = .ok (.if_icmp .eq 5, 3) := by decide +kernel
theorem d2_12 : decode method_2_code 12 = .ok (.iload_n 1, 1) := by decide +kernel
theorem d2_13 : decode method_2_code 13 = .ok (.ifCond .eq 16, 3) := by decide +kernel
theorem d2_16 : decode method_2_code 16 = .ok (.aload_n 0, 1) := by decide +kernel
theorem d2_17 : decode method_2_code 17 = .ok (.iconst 0, 1) := by decide +kernel
theorem d2_18 : decode method_2_code 18 = .ok (.baload, 1) := by decide +kernel
theorem d2_19 : decode method_2_code 19 = .ok (.iconst 1, 1) := by decide +kernel
theorem d2_20 : decode method_2_code 20 = .ok (.if_icmp .ne 7, 3) := by decide +kernel
theorem d2_23 : decode method_2_code 23 = .ok (.iconst 1, 1) := by decide +kernel
theorem d2_24 : decode method_2_code 24 = .ok (.goto 4, 3) := by decide +kernel
theorem d2_27 : decode method_2_code 27 = .ok (.iconst 0, 1) := by decide +kernel
theorem d2_28 : decode method_2_code 28 = .ok (.ireturn, 1) := by decide +kernel
theorem d2_29 : decode method_2_code 29 = .ok (.aload_n 0, 1) := by decide +kernel
theorem d2_30 : decode method_2_code 30 = .ok (.iconst 0, 1) := by decide +kernel
theorem d2_31 : decode method_2_code 31 = .ok (.baload, 1) := by decide +kernel
theorem d2_32 : decode method_2_code 32 = .ok (.ifCond .ne 7, 3) := by decide +kernel
theorem d2_35 : decode method_2_code 35 = .ok (.iconst 1, 1) := by decide +kernel
theorem d2_36 : decode method_2_code 36 = .ok (.goto 4, 3) := by decide +kernel
theorem d2_39 : decode method_2_code 39 = .ok (.iconst 0, 1) := by decide +kernel
theorem d2_40 : decode method_2_code 40 = .ok (.ireturn, 1) := by decide +kernel
theorem pn_1 : plainName "com/example/keyslice/keyslice/types/ValuesBoolPinLaw" = true := by first | (simp [plainName, overriddenIn]; done) | decide +kernel
theorem ef_2 (m : MethodId) (x0 : Addr) (x1 : Int32)  : entryFrame m #[(.ref x0), (.int x1)] 2 = mkF m 0 #[.val (.ref x0), .val (.int x1)] [] := by first | (simp [entryFrame, mkF, argsToLocals, Value.category]; done) | rfl
def own_en_32 (a1 : Addr) (p2 : Int32) (w : Int32) : Int32 := if w = (0 : Int32) then (1 : Int32) else (0 : Int32)
def own_en_20 (a1 : Addr) (p2 : Int32) (w : Int32) : Int32 := if w = (1 : Int32) then (1 : Int32) else (0 : Int32)
def own_en_13 (a1 : Addr) (p2 : Int32) (w : Int32) : Int32 := if p2 = (0 : Int32) then (own_en_32 a1 p2 w) else (own_en_20 a1 p2 w)
set_option maxRecDepth 65536 in
set_option maxHeartbeats 40000000 in
theorem rm2 (l : Launch) (Z : State) (a0 : Array Value) (hw : ∀ d ∈ tables_1, d.before a0 Z = true) (ws : List Jvm.Cond) (a1 : Addr) (p2 : Int32) (k1 : ClassId) (w : Int32) (h0 : Heap) (n0 : Nat) (Z0 : n0 ≤ h0.size) (V_a1 : Arv Z h0 a1 k1 .byte (1 : Int32) [(.int w)] (.int (0 : Int32))) :
    MetFree l (⟨"com/example/keyslice/keyslice/types/ValuesBoolPinLaw", "encodes", "([BZ)Z"⟩ : MethodName) (head1 (Jvm.Cond.code (⟨"com/example/keyslice/keyslice/types/ValuesBoolPinLaw", "encodes", "([BZ)Z"⟩ : MethodName) method_2_code 2 (some .boolean) :: ws) ({ frames := 0, cells := 0, slots := 0, locals := 0 } : Room)) (fun a U => a = #[(.ref a1), (.int p2)] ∧ Z.Warmed39 U.vm ∧ U.heap = h0) (fun _ _ _ _ _ => True) (fun _ U o U' => ∃ v L, o = .returned v ∧ (own_P h0 n0 (.int (own_en_13 a1 p2 w))) v U'.heap L ∧ FrameEnd U o U' L ({ frames := 0, cells := 0, slots := 0, locals := 0 } : Room).cells ({ frames := 0, cells := 0, slots := 0, locals := 0 } : Room).slots) := by
  refine MetFree.of_bodySF (plainFor_of_name pn_1) hisR ?_
  intro p e s m args below meth c s₁ Bd hml0 hP hK
  obtain ⟨rfl, hZ, hh⟩ := hP
  have hx := Bd.exec
  have hby := Bd.bytes
  have hml : c.maxLocals = 2 := hml0
  have hown : s.vm.findClass "com/example/keyslice/keyslice/types/ValuesBoolPinLaw" = some m.cls := findClass_of_methodNamed Bd.named
  have hnm := (name_of_methodNamed Bd.named Bd.method).1
  have X0 : Stand p l e ({ frames := 0, cells := 0, slots := 0, locals := 0 } : Room) s m #[(.ref a1), (.int p2)] below meth c s₁ [] 0 0 := Stand.of_body Bd
  have e0 : s₁.heap = h0 := by rw [← hh, Bd.state]; rfl
  have N0 := Fr.nil n0
  show own_Fin p e below (own_A s ({ frames := 0, cells := 0, slots := 0, locals := 0 } : Room).cells ({ frames := 0, cells := 0, slots := 0, locals := 0 } : Room).slots (own_P h0 n0 (.int (own_en_13 a1 p2 w)))) _
  refine own_go (fun t k => castTop (ef_2 m (a1) (p2)) k) ?_
  show own_Fin p e below _ (s₁.setTop (mkF m 0 #[.val (.ref a1), .val (.int p2)] []))
  refine own_go (fun t k => XS.aloadN X0.here hx rfl (hb hby d2_0) rfl rfl  k) ?_
  show own_Fin p e below _ (s₁.setTop (mkF m 1 #[.val (.ref a1), .val (.int p2)] [(.ref a1)]))
  refine own_go (fun t k => XS.ifnullNo X0.here hx rfl (hb hby d2_1) rfl (XS.aloadN X0.here hx rfl (hb hby d2_4) rfl rfl  k)) ?_
  show own_Fin p e below _ (s₁.setTop (mkF m 5 #[.val (.ref a1), .val (.int p2)] [(.ref a1)]))
  obtain ⟨cl1, Ar1, q1, S1, M1, H1, G1⟩ := (id V_a1)
  refine own_go (fun t k => X0.arraylength hx (by rw [e0]; exact Ar1.1) (State.isArrayOf_alike hZ.alike Ar1.2.1) (g := (mkF m 5 #[.val (.ref a1), .val (.int p2)] [(.ref a1)])) rfl rfl (hb hby d2_5) _ k) ?_
  rw [len_of S1 M1]
  show own_Fin p e below _ (s₁.setTop (mkF m 6 #[.val (.ref a1), .val (.int p2)] [(.int (1 : Int32))]))
  refine own_go (fun t k => XS.iconst X0.here hx rfl (hb hby d2_6) k) ?_
  show own_Fin p e below _ (s₁.setTop (mkF m 7 #[.val (.ref a1), .val (.int p2)] [(.int (1 : Int32)), (.int (1 : Int32))]))
  refine own_go (fun t k => XS.icmpYes X0.here hx rfl (pc0 := 7) (pc' := 12) rfl (hb hby d2_7) rfl (teq (by decide : (1 : Int32) = (1 : Int32))).1 (by decide) (by decide) (XS.iloadN X0.here hx rfl (hb hby d2_12) rfl  k)) ?_
  show own_Fin p e below _ (s₁.setTop (mkF m 13 #[.val (.ref a1), .val (.int p2)] [(.int p2)]))
  by_cases hc2 : p2 = (0 : Int32)
  · skip
    rw [(show (own_en_13 a1 p2 w) = (own_en_32 a1 p2 w) from if_pos hc2)]
    refine own_go (fun t k => XS.ifYes X0.here hx rfl (pc0 := 13) (pc' := 29) rfl (hb hby d2_13) rfl ((if0 _ _).trans (teq hc2).1) (by decide) (by decide) (XS.aloadN X0.here hx rfl (hb hby d2_29) rfl rfl  (XS.iconst X0.here hx rfl (hb hby d2_30) k))) ?_
    show own_Fin p e below _ (s₁.setTop (mkF m 31 #[.val (.ref a1), .val (.int p2)] [(.int (0 : Int32)), (.ref a1)]))
    obtain ⟨cl3, Ar3, q3, S3, M3, H3, G3⟩ := (id V_a1)
    have hin3 : ¬ ((0 : Int32) < 0 ∨ cl3.slots.size ≤ ((0 : Int32)).toNatClampNeg) := inb_of S3 ⟨by decide, by decide⟩
    have hat3 : cl3.slots[((0 : Int32)).toNatClampNeg]? = some (.int w) := H3.at hin3 rfl
    refine own_go (fun t k => X0.baloadBytes hx (j := (0 : Int32)) (v := (.int w)) (by rw [e0]; exact Ar3.1) (State.isArrayOf_alike hZ.alike Ar3.2.1) Ar3.2.2 hin3 hat3 (g := (mkF m 31 #[.val (.ref a1), .val (.int p2)] [(.int (0 : Int32)), (.ref a1)])) rfl rfl (hb hby d2_31) _ k) ?_
    show own_Fin p e below _ (s₁.setTop (mkF m 32 #[.val (.ref a1), .val (.int p2)] [(.int w)]))
    by_cases hc4 : w = (0 : Int32)
    · skip
      rw [(show (own_en_32 a1 p2 w) = (1 : Int32) from if_pos hc4)]
      refine own_go (fun t k => XS.ifNo X0.here hx rfl (hb hby d2_32) rfl ((if0 _ _).trans (teq hc4).2) (XS.iconst X0.here hx rfl (hb hby d2_35) (XS.goto X0.here hx rfl (pc0 := 36) (pc' := 40) rfl (hb hby d2_36) (by decide) (by decide) k))) ?_
      show own_Fin p e below _ (s₁.setTop (mkF m 40 #[.val (.ref a1), .val (.int p2)] [(.int (1 : Int32))]))
      exact own_out X0 (fun h => by rw [Bd.returns] at h; cases h) Bd.notSynchronized (fun fs hr => retN X0 hx (t := .boolean) Bd.returns (by simp) (hb hby d2_40) hr) ⟨rfl, N0, e0⟩ (by decide) (by decide)
    · skip
      rw [(show (own_en_32 a1 p2 w) = (0 : Int32) from if_neg hc4)]
      refine own_go (fun t k => XS.ifYes X0.here hx rfl (pc0 := 32) (pc' := 39) rfl (hb hby d2_32) rfl ((if0 _ _).trans (feq hc4).2) (by decide) (by decide) (XS.iconst X0.here hx rfl (hb hby d2_39) k)) ?_
      show own_Fin p e below _ (s₁.setTop (mkF m 40 #[.val (.ref a1), .val (.int p2)] [(.int (0 : Int32))]))
      exact own_out X0 (fun h => by rw [Bd.returns] at h; cases h) Bd.notSynchronized (fun fs hr => retN X0 hx (t := .boolean) Bd.returns (by simp) (hb hby d2_40) hr) ⟨rfl, N0, e0⟩ (by decide) (by decide)
  · skip
    rw [(show (own_en_13 a1 p2 w) = (own_en_20 a1 p2 w) from if_neg hc2)]
    refine own_go (fun t k => XS.ifNo X0.here hx rfl (hb hby d2_13) rfl ((if0 _ _).trans (feq hc2).1) (XS.aloadN X0.here hx rfl (hb hby d2_16) rfl rfl  (XS.iconst X0.here hx rfl (hb hby d2_17) k))) ?_
    show own_Fin p e below _ (s₁.setTop (mkF m 18 #[.val (.ref a1), .val (.int p2)] [(.int (0 : Int32)), (.ref a1)]))
    obtain ⟨cl5, Ar5, q5, S5, M5, H5, G5⟩ := (id V_a1)
    have hin5 : ¬ ((0 : Int32) < 0 ∨ cl5.slots.size ≤ ((0 : Int32)).toNatClampNeg) := inb_of S5 ⟨by decide, by decide⟩
    have hat5 : cl5.slots[((0 : Int32)).toNatClampNeg]? = some (.int w) := H5.at hin5 rfl
    refine own_go (fun t k => X0.baloadBytes hx (j := (0 : Int32)) (v := (.int w)) (by rw [e0]; exact Ar5.1) (State.isArrayOf_alike hZ.alike Ar5.2.1) Ar5.2.2 hin5 hat5 (g := (mkF m 18 #[.val (.ref a1), .val (.int p2)] [(.int (0 : Int32)), (.ref a1)])) rfl rfl (hb hby d2_18) _ (XS.iconst X0.here hx rfl (hb hby d2_19) k)) ?_
    show own_Fin p e below _ (s₁.setTop (mkF m 20 #[.val (.ref a1), .val (.int p2)] [(.int (1 : Int32)), (.int w)]))
    by_cases hc6 : w = (1 : Int32)
    · skip
      rw [(show (own_en_20 a1 p2 w) = (1 : Int32) from if_pos hc6)]
      refine own_go (fun t k => XS.icmpNo X0.here hx rfl (hb hby d2_20) rfl (teq hc6).2 (XS.iconst X0.here hx rfl (hb hby d2_23) (XS.goto X0.here hx rfl (pc0 := 24) (pc' := 28) rfl (hb hby d2_24) (by decide) (by decide) k))) ?_
      show own_Fin p e below _ (s₁.setTop (mkF m 28 #[.val (.ref a1), .val (.int p2)] [(.int (1 : Int32))]))
      exact own_out X0 (fun h => by rw [Bd.returns] at h; cases h) Bd.notSynchronized (fun fs hr => retN X0 hx (t := .boolean) Bd.returns (by simp) (hb hby d2_28) hr) ⟨rfl, N0, e0⟩ (by decide) (by decide)
    · skip
      rw [(show (own_en_20 a1 p2 w) = (0 : Int32) from if_neg hc6)]
      refine own_go (fun t k => XS.icmpYes X0.here hx rfl (pc0 := 20) (pc' := 27) rfl (hb hby d2_20) rfl (feq hc6).2 (by decide) (by decide) (XS.iconst X0.here hx rfl (hb hby d2_27) k)) ?_
      show own_Fin p e below _ (s₁.setTop (mkF m 28 #[.val (.ref a1), .val (.int p2)] [(.int (0 : Int32))]))
      exact own_out X0 (fun h => by rw [Bd.returns] at h; cases h) Bd.notSynchronized (fun fs hr => retN X0 hx (t := .boolean) Bd.returns (by simp) (hb hby d2_28) hr) ⟨rfl, N0, e0⟩ (by decide) (by decide)
theorem own_n0 (a : Addr) : ¬ (own_en_13 a (0 : Int32) (own_b (0 : Int32))) = (0 : Int32) := by show ¬ ((1 : Int32) = 0); decide
theorem own_n1 (a : Addr) : ¬ (own_en_13 a (1 : Int32) (own_b (1 : Int32))) = (0 : Int32) := by show ¬ ((1 : Int32) = 0); decide
theorem own_r0 (a : Addr) : nar .boolean (own_en_13 a (0 : Int32) (own_b (0 : Int32))) = (1 : Int32) := by
  have e : own_en_13 a (0 : Int32) (own_b (0 : Int32)) = (1 : Int32) := rfl
  rw [e]; rfl
theorem own_r1 (a : Addr) : nar .boolean (own_en_13 a (1 : Int32) (own_b (1 : Int32))) = (1 : Int32) := by
  have e : own_en_13 a (1 : Int32) (own_b (1 : Int32)) = (1 : Int32) := rfl
  rw [e]; rfl

theorem pd_0 : parseMethodDescriptor "(Z)[B" = some ⟨[.boolean], some (.array .byte)⟩ := by decide +kernel
theorem pd_1 : parseMethodDescriptor "([BZ)Z" = some ⟨[(.array .byte), .boolean], some .boolean⟩ := by decide +kernel
theorem ef_0 (m : MethodId) (x0 : Int32)  : entryFrame m #[(.int x0)] maxLocals = mkF m 0 #[.val (.int x0), .unset, .unset, .unset] [] := by first | (simp [entryFrame, mkF, argsToLocals, Value.category, maxLocals]; done) | rfl
def own_q0 (Z : State) (p1 : Int32) (h0 : Heap) (n0 : Nat) (v : Option Value) (h : Heap) (L : List Loc) : Prop := v = some (.int (1 : Int32)) ∧ Fr n0 L
set_option maxRecDepth 65536 in
set_option maxHeartbeats 40000000 in
theorem rm0 (l : Launch) (Z : State) (a0 : Array Value) (hw : ∀ d ∈ tables_1, d.before a0 Z = true) (ws : List Jvm.Cond) (p1 : Int32) (h0 : Heap) (n0 : Nat) (Z0 : n0 ≤ h0.size) :
    MetFree l x (head1 (Jvm.Cond.code x code maxLocals ret :: ws) room_1) (fun a U => a = #[(.int p1)] ∧ Z.Warmed39 U.vm ∧ U.heap = h0) (fun _ _ _ _ _ => True) (fun _ U o U' => ∃ v L, o = .returned v ∧ (own_q0 Z p1 h0 n0) v U'.heap L ∧ FrameEnd U o U' L room_1.cells room_1.slots) := by
  refine MetFree.of_bodySF (plainFor_of_name pn_1) hisR ?_
  intro p e s m args below meth c s₁ Bd hml0 hP hK
  obtain ⟨rfl, hZ, hh⟩ := hP
  have hx := Bd.exec
  have hby := Bd.bytes
  have hml : c.maxLocals = 4 := hml0
  have hown : s.vm.findClass "com/example/keyslice/keyslice/types/ValuesBoolPinLaw" = some m.cls := findClass_of_methodNamed Bd.named
  have hnm := (name_of_methodNamed Bd.named Bd.method).1
  have X0 : Stand p l e room_1 s m #[(.int p1)] below meth c s₁ [] 0 0 := Stand.of_body Bd
  have e0 : s₁.heap = h0 := by rw [← hh, Bd.state]; rfl
  have N0 := Fr.nil n0
  have hw_0 := hw _ (List.mem_of_getElem? (i := 0) rfl)
  have hw_1 := hw _ (List.mem_of_getElem? (i := 1) rfl)
  have hw_2 := hw _ (List.mem_of_getElem? (i := 2) rfl)
  have hw_3 := hw _ (List.mem_of_getElem? (i := 3) rfl)
  have hw_5 := hw _ (List.mem_of_getElem? (i := 5) rfl)
  have hw_6 := hw _ (List.mem_of_getElem? (i := 6) rfl)
  have hw_7 := hw _ (List.mem_of_getElem? (i := 7) rfl)
  have hw_8 := hw _ (List.mem_of_getElem? (i := 8) rfl)
  show own_Fin p e below (own_A s room_1.cells room_1.slots (own_q0 Z p1 h0 n0)) _
  refine own_go (fun t k => castTop (ef_0 m (p1)) k) ?_
  show own_Fin p e below _ (s₁.setTop (mkF m 0 #[.val (.int p1), .unset, .unset, .unset] []))
  refine own_go (fun t k => XS.iloadN X0.here hx rfl (hb hby at_0) rfl  (XS.iconst X0.here hx rfl (hb hby at_1) (XS.iand X0.here hx rfl (hb hby at_2) rfl k))) ?_
  show own_Fin p e below _ (s₁.setTop (mkF m 3 #[.val (.int p1), .unset, .unset, .unset] [(.int (p1 &&& (1 : Int32)))]))
  by_cases hc1 : (p1 &&& (1 : Int32)) = (0 : Int32)
  · skip
    refine own_go (fun t k => XS.ifYes X0.here hx rfl (pc0 := 3) (pc' := 10) rfl (hb hby at_3) rfl ((if0 _ _).trans (teq hc1).1) (by decide) (by decide) (XS.iconst X0.here hx rfl (hb hby at_10) (XS.istoreN X0.here hx rfl (hb hby at_11) rfl (l' := #[.val (.int p1), .val (.int (0 : Int32)), .unset, .unset]) rfl (XS.iloadN X0.here hx rfl (hb hby at_12) rfl  k)))) ?_
    show own_Fin p e below _ (s₁.setTop (mkF m 13 #[.val (.int p1), .val (.int (0 : Int32)), .unset, .unset] [(.int (0 : Int32))]))
    obtain ⟨_, _, ⟨T2, L2, k2, n2⟩, -, X2, ⟨Lc2, hQ2, l2, y2, z2⟩, st2⟩ := Jvm.LawKit.callS X0 hx (y := (⟨"com/example/keyslice/keyslice/types/Values", "bool", "(Z)[B"⟩ : MethodName)) hown (mvT hZ hw_0) (mvT hZ hw_1) (mvT hZ hw_2) (mvT hZ hw_3) (by decide) (backOf (W := 0) (rm1 l Z a0 hw [] ((0 : Int32))  h0 n0 Z0 ) hZ hw_3 hw_2 (by decide) (by decide)) (g := (mkF m 13 #[.val (.int p1), .val (.int (0 : Int32)), .unset, .unset] [(.int (0 : Int32))])) rfl (by rw [hml]; rfl) (argsL := [(.int (0 : Int32))]) (rest := []) (lenOf pd_0 rfl) rfl (by show 2 * 0 + _ ≤ _; exact Nat.le_of_eq rfl) (hb hby at_13) (fun _ _ => ⟨rfl, e0, (by decide : 0 + 1 ≤ _), (by decide : 0 + 1 ≤ _)⟩)
    dsimp only [Pt.U, Pt.locs, Pt.cells, Pt.slots] at X2 l2 y2 z2 st2 hQ2
    subst l2 y2 z2
    obtain ⟨b2, k2, rfl, N2q, sz2, K2, V2⟩ := hQ2
    have N2 := Fr.app N0 N2q
    have g_b2 : n0 ≤ b2 := Nat.le_trans Z0 sz2
    have E2 : Ext _ _ := ⟨K2.1, fun a c q => K2.2.1 a c q nin0⟩
    have Zh3 : n0 ≤ T2.heap.size := Nat.le_trans Z0 K2.1
    refine own_go st2 ?_
    show own_Fin p e below _ (T2.setTop (mkF m 16 #[.val (.int p1), .val (.int (0 : Int32)), .unset, .unset] [(.ref b2)]))
    refine own_go (fun t k => XS.astoreN X2.here hx rfl (hb hby at_16) rfl rfl (l' := #[.val (.int p1), .val (.int (0 : Int32)), .val (.ref b2), .unset]) rfl (XS.aloadN X2.here hx rfl (hb hby at_17) rfl rfl  (XS.iloadN X2.here hx rfl (hb hby at_18) rfl  k))) ?_
    show own_Fin p e below _ (T2.setTop (mkF m 19 #[.val (.int p1), .val (.int (0 : Int32)), .val (.ref b2), .unset] [(.int (0 : Int32)), (.ref b2)]))
    obtain ⟨_, _, ⟨T4, L4, k4, n4⟩, -, X4, ⟨Lc4, hQ4, l4, y4, z4⟩, st4⟩ := Jvm.LawKit.callS X2 hx (y := (⟨"com/example/keyslice/keyslice/types/ValuesBoolPinLaw", "encodes", "([BZ)Z"⟩ : MethodName)) hown (mvT hZ hw_5) (mvT hZ hw_6) (mvT hZ hw_7) (mvT hZ hw_8) (by decide) (backOf (W := 0) (rm2 l Z a0 hw [] (b2) ((0 : Int32)) k2 (own_b (0 : Int32)) T2.heap n0 Zh3 V2) hZ hw_8 hw_7 (by decide) (by decide)) (g := (mkF m 19 #[.val (.int p1), .val (.int (0 : Int32)), .val (.ref b2), .unset] [(.int (0 : Int32)), (.ref b2)])) rfl (by rw [hml]; rfl) (argsL := [(.ref b2), (.int (0 : Int32))]) (rest := []) (lenOf pd_1 rfl) rfl (by show 2 * 0 + _ ≤ _; exact Nat.le_of_eq rfl) (hb hby at_19) (fun _ _ => ⟨rfl, rfl, (by decide : 1 + 0 ≤ _), (by decide : 1 + 0 ≤ _)⟩)
    dsimp only [Pt.U, Pt.locs, Pt.cells, Pt.slots] at X4 l4 y4 z4 st4 hQ4
    subst l4 y4 z4
    obtain ⟨rfl, N4q, e4⟩ := hQ4
    have N4 := Fr.app N2 N4q
    refine own_go st4 ?_
    show own_Fin p e below _ (T4.setTop (mkF m 22 #[.val (.int p1), .val (.int (0 : Int32)), .val (.ref b2), .unset] [(.int (own_en_13 b2 (0 : Int32) (own_b (0 : Int32))))]))
    refine own_go (fun t k => XS.ifYes X4.here hx rfl (pc0 := 22) (pc' := 27) rfl (hb hby at_22) rfl ((if0 _ _).trans (feq (own_n0 _)).2) (by decide) (by decide) (XS.aloadN X4.here hx rfl (hb hby at_27) rfl rfl  (XS.iconst X4.here hx rfl (hb hby at_28) (XS.iloadN X4.here hx rfl (hb hby at_29) rfl  k)))) ?_
    show own_Fin p e below _ (T4.setTop (mkF m 30 #[.val (.int p1), .val (.int (0 : Int32)), .val (.ref b2), .unset] [(.int p1), (.int (0 : Int32)), (.ref b2)]))
    refine own_go (fun t k => XS.iconst X4.here hx rfl (hb hby at_30) (XS.ishr X4.here hx rfl (hb hby at_31) rfl (XS.i2b X4.here hx rfl (hb hby at_32) rfl k))) ?_
    show own_Fin p e below _ (T4.setTop (mkF m 33 #[.val (.int p1), .val (.int (0 : Int32)), .val (.ref b2), .unset] [(.int ((p1 >>> ((1 : Int32) &&& 31)).toInt8.toInt32)), (.int (0 : Int32)), (.ref b2)]))
    obtain ⟨cl5, Ar5, q5, S5, M5, H5, G5⟩ := (id V2)
    have hin5 : ¬ ((0 : Int32) < 0 ∨ cl5.slots.size ≤ ((0 : Int32)).toNatClampNeg) := inb_of S5 ⟨by decide, by decide⟩
    obtain ⟨T5, h5, X5, e5, W5, st5⟩ := stB X4 hx hZ e4 Ar5 (j := (0 : Int32)) hin5 (g := (mkF m 33 #[.val (.int p1), .val (.int (0 : Int32)), .val (.ref b2), .unset] [(.int ((p1 >>> ((1 : Int32) &&& 31)).toInt8.toInt32)), (.int (0 : Int32)), (.ref b2)])) rfl rfl (hb hby at_33)
    have V5 := Arv.set Ar5 q5 S5 M5 H5 G5 (fits_nar_byte _) W5 0 rfl (Nat.le_of_ble_eq_true rfl)
    have f7 : Arv Z h5 b2 k2 .byte (1 : Int32) [(.int (nar .byte ((p1 >>> ((1 : Int32) &&& 31)).toInt8.toInt32)))] (.int (0 : Int32)) := V5
    have Zh8 : n0 ≤ h5.size := Nat.le_trans Zh3 (Nat.le_of_eq W5.size.symm)
    have N5 := Fr.snoc X5 N4 g_b2
    refine own_go st5 ?_
    show own_Fin p e below _ (T5.setTop (mkF m 34 #[.val (.int p1), .val (.int (0 : Int32)), .val (.ref b2), .unset] []))
    refine own_go (fun t k => XS.iloadN X5.here hx rfl (hb hby at_34) rfl  k) ?_
    show own_Fin p e below _ (T5.setTop (mkF m 35 #[.val (.int p1), .val (.int (0 : Int32)), .val (.ref b2), .unset] [(.int (0 : Int32))]))
    obtain ⟨_, _, ⟨T9, L9, k9, n9⟩, -, X9, ⟨Lc9, hQ9, l9, y9, z9⟩, st9⟩ := Jvm.LawKit.callS X5 hx (y := (⟨"com/example/keyslice/keyslice/types/Values", "bool", "(Z)[B"⟩ : MethodName)) hown (mvT hZ hw_0) (mvT hZ hw_1) (mvT hZ hw_2) (mvT hZ hw_3) (by decide) (backOf (W := 0) (rm1 l Z a0 hw [] ((0 : Int32))  h5 n0 Zh8 ) hZ hw_3 hw_2 (by decide) (by decide)) (g := (mkF m 35 #[.val (.int p1), .val (.int (0 : Int32)), .val (.ref b2), .unset] [(.int (0 : Int32))])) rfl (by rw [hml]; rfl) (argsL := [(.int (0 : Int32))]) (rest := []) (lenOf pd_0 rfl) rfl (by show 2 * 0 + _ ≤ _; exact Nat.le_of_eq rfl) (hb hby at_35) (fun _ _ => ⟨rfl, e5, (by decide : 1 + 1 ≤ _), (by decide : 1 + 1 ≤ _)⟩)
    dsimp only [Pt.U, Pt.locs, Pt.cells, Pt.slots] at X9 l9 y9 z9 st9 hQ9
    subst l9 y9 z9
    obtain ⟨b9, k9, rfl, N9q, sz9, K9, V9⟩ := hQ9
    have N9 := Fr.app N5 N9q
    have g_b9 : n0 ≤ b9 := Nat.le_trans Zh8 sz9
    have ne_b2_b9 : b2 ≠ b9 := Nat.ne_of_lt (Nat.lt_of_lt_of_le f7.lt sz9)
    have E9 : Ext _ _ := ⟨K9.1, fun a c q => K9.2.1 a c q nin0⟩
    have f10 := f7.ext E9
    have Zh11 : n0 ≤ T9.heap.size := Nat.le_trans Zh8 K9.1
    refine own_go st9 ?_
    show own_Fin p e below _ (T9.setTop (mkF m 38 #[.val (.int p1), .val (.int (0 : Int32)), .val (.ref b2), .unset] [(.ref b9)]))
    refine own_go (fun t k => XS.astoreN X9.here hx rfl (hb hby at_38) rfl rfl (l' := #[.val (.int p1), .val (.int (0 : Int32)), .val (.ref b2), .val (.ref b9)]) rfl (XS.aloadN X9.here hx rfl (hb hby at_39) rfl rfl  (XS.aloadN X9.here hx rfl (hb hby at_40) rfl rfl  k))) ?_
    show own_Fin p e below _ (T9.setTop (mkF m 41 #[.val (.int p1), .val (.int (0 : Int32)), .val (.ref b2), .val (.ref b9)] [(.ref b2), (.ref b9)]))
    refine own_go (fun t k => Jvm.RoadKit.acmp (g := (mkF m 41 #[.val (.int p1), .val (.int (0 : Int32)), .val (.ref b2), .val (.ref b9)] [(.ref b2), (.ref b9)])) X9 hx rfl rfl rfl (pc0 := 41) (pc' := 46) (same := false) rfl (hb hby at_41) rfl (decide_eq_false fun q => (Ne.symm ne_b2_b9) (Value.ref.inj q)) (by decide) (by decide) (XS.aloadN X9.here hx rfl (hb hby at_46) rfl rfl  (XS.iloadN X9.here hx rfl (hb hby at_47) rfl  k))) ?_
    show own_Fin p e below _ (T9.setTop (mkF m 48 #[.val (.int p1), .val (.int (0 : Int32)), .val (.ref b2), .val (.ref b9)] [(.int (0 : Int32)), (.ref b9)]))
    obtain ⟨_, _, ⟨T12, L12, k12, n12⟩, -, X12, ⟨Lc12, hQ12, l12, y12, z12⟩, st12⟩ := Jvm.LawKit.callS X9 hx (y := (⟨"com/example/keyslice/keyslice/types/ValuesBoolPinLaw", "encodes", "([BZ)Z"⟩ : MethodName)) hown (mvT hZ hw_5) (mvT hZ hw_6) (mvT hZ hw_7) (mvT hZ hw_8) (by decide) (backOf (W := 0) (rm2 l Z a0 hw [] (b9) ((0 : Int32)) k9 (own_b (0 : Int32)) T9.heap n0 Zh11 V9) hZ hw_8 hw_7 (by decide) (by decide)) (g := (mkF m 48 #[.val (.int p1), .val (.int (0 : Int32)), .val (.ref b2), .val (.ref b9)] [(.int (0 : Int32)), (.ref b9)])) rfl (by rw [hml]; rfl) (argsL := [(.ref b9), (.int (0 : Int32))]) (rest := []) (lenOf pd_1 rfl) rfl (by show 2 * 0 + _ ≤ _; exact Nat.le_of_eq rfl) (hb hby at_48) (fun _ _ => ⟨rfl, rfl, (by decide : 2 + 0 ≤ _), (by decide : 2 + 0 ≤ _)⟩)
    dsimp only [Pt.U, Pt.locs, Pt.cells, Pt.slots] at X12 l12 y12 z12 st12 hQ12
    subst l12 y12 z12
    obtain ⟨rfl, N12q, e12⟩ := hQ12
    have N12 := Fr.app N9 N12q
    refine own_go st12 ?_
    show own_Fin p e below _ (T12.setTop (mkF m 51 #[.val (.int p1), .val (.int (0 : Int32)), .val (.ref b2), .val (.ref b9)] [(.int (own_en_13 b9 (0 : Int32) (own_b (0 : Int32))))]))
    exact own_out X12 (fun h => by rw [Bd.returns] at h; cases h) Bd.notSynchronized (fun fs hr => retN X12 hx (t := .boolean) Bd.returns (by simp) (hb hby at_51) hr) ⟨congrArg (fun z => some (Value.int z)) (own_r0 _), N12⟩ (by decide) (by decide)
  · skip
    refine own_go (fun t k => XS.ifNo X0.here hx rfl (hb hby at_3) rfl ((if0 _ _).trans (feq hc1).1) (XS.iconst X0.here hx rfl (hb hby at_6) (XS.goto X0.here hx rfl (pc0 := 7) (pc' := 11) rfl (hb hby at_7) (by decide) (by decide) (XS.istoreN X0.here hx rfl (hb hby at_11) rfl (l' := #[.val (.int p1), .val (.int (1 : Int32)), .unset, .unset]) rfl k)))) ?_
    show own_Fin p e below _ (s₁.setTop (mkF m 12 #[.val (.int p1), .val (.int (1 : Int32)), .unset, .unset] []))
    refine own_go (fun t k => XS.iloadN X0.here hx rfl (hb hby at_12) rfl  k) ?_
    show own_Fin p e below _ (s₁.setTop (mkF m 13 #[.val (.int p1), .val (.int (1 : Int32)), .unset, .unset] [(.int (1 : Int32))]))
    obtain ⟨_, _, ⟨T13, L13, k13, n13⟩, -, X13, ⟨Lc13, hQ13, l13, y13, z13⟩, st13⟩ := Jvm.LawKit.callS X0 hx (y := (⟨"com/example/keyslice/keyslice/types/Values", "bool", "(Z)[B"⟩ : MethodName)) hown (mvT hZ hw_0) (mvT hZ hw_1) (mvT hZ hw_2) (mvT hZ hw_3) (by decide) (backOf (W := 0) (rm1 l Z a0 hw [] ((1 : Int32))  h0 n0 Z0 ) hZ hw_3 hw_2 (by decide) (by decide)) (g := (mkF m 13 #[.val (.int p1), .val (.int (1 : Int32)), .unset, .unset] [(.int (1 : Int32))])) rfl (by rw [hml]; rfl) (argsL := [(.int (1 : Int32))]) (rest := []) (lenOf pd_0 rfl) rfl (by show 2 * 0 + _ ≤ _; exact Nat.le_of_eq rfl) (hb hby at_13) (fun _ _ => ⟨rfl, e0, (by decide : 0 + 1 ≤ _), (by decide : 0 + 1 ≤ _)⟩)
    dsimp only [Pt.U, Pt.locs, Pt.cells, Pt.slots] at X13 l13 y13 z13 st13 hQ13
    subst l13 y13 z13
    obtain ⟨b13, k13, rfl, N13q, sz13, K13, V13⟩ := hQ13
    have N13 := Fr.app N0 N13q
    have g_b13 : n0 ≤ b13 := Nat.le_trans Z0 sz13
    have E13 : Ext _ _ := ⟨K13.1, fun a c q => K13.2.1 a c q nin0⟩
    have Zh14 : n0 ≤ T13.heap.size := Nat.le_trans Z0 K13.1
    refine own_go st13 ?_
    show own_Fin p e below _ (T13.setTop (mkF m 16 #[.val (.int p1), .val (.int (1 : Int32)), .unset, .unset] [(.ref b13)]))
    refine own_go (fun t k => XS.astoreN X13.here hx rfl (hb hby at_16) rfl rfl (l' := #[.val (.int p1), .val (.int (1 : Int32)), .val (.ref b13), .unset]) rfl (XS.aloadN X13.here hx rfl (hb hby at_17) rfl rfl  (XS.iloadN X13.here hx rfl (hb hby at_18) rfl  k))) ?_
    show own_Fin p e below _ (T13.setTop (mkF m 19 #[.val (.int p1), .val (.int (1 : Int32)), .val (.ref b13), .unset] [(.int (1 : Int32)), (.ref b13)]))
    obtain ⟨_, _, ⟨T15, L15, k15, n15⟩, -, X15, ⟨Lc15, hQ15, l15, y15, z15⟩, st15⟩ := Jvm.LawKit.callS X13 hx (y := (⟨"com/example/keyslice/keyslice/types/ValuesBoolPinLaw", "encodes", "([BZ)Z"⟩ : MethodName)) hown (mvT hZ hw_5) (mvT hZ hw_6) (mvT hZ hw_7) (mvT hZ hw_8) (by decide) (backOf (W := 0) (rm2 l Z a0 hw [] (b13) ((1 : Int32)) k13 (own_b (1 : Int32)) T13.heap n0 Zh14 V13) hZ hw_8 hw_7 (by decide) (by decide)) (g := (mkF m 19 #[.val (.int p1), .val (.int (1 : Int32)), .val (.ref b13), .unset] [(.int (1 : Int32)), (.ref b13)])) rfl (by rw [hml]; rfl) (argsL := [(.ref b13), (.int (1 : Int32))]) (rest := []) (lenOf pd_1 rfl) rfl (by show 2 * 0 + _ ≤ _; exact Nat.le_of_eq rfl) (hb hby at_19) (fun _ _ => ⟨rfl, rfl, (by decide : 1 + 0 ≤ _), (by decide : 1 + 0 ≤ _)⟩)
    dsimp only [Pt.U, Pt.locs, Pt.cells, Pt.slots] at X15 l15 y15 z15 st15 hQ15
    subst l15 y15 z15
    obtain ⟨rfl, N15q, e15⟩ := hQ15
    have N15 := Fr.app N13 N15q
    refine own_go st15 ?_
    show own_Fin p e below _ (T15.setTop (mkF m 22 #[.val (.int p1), .val (.int (1 : Int32)), .val (.ref b13), .unset] [(.int (own_en_13 b13 (1 : Int32) (own_b (1 : Int32))))]))
    refine own_go (fun t k => XS.ifYes X15.here hx rfl (pc0 := 22) (pc' := 27) rfl (hb hby at_22) rfl ((if0 _ _).trans (feq (own_n1 _)).2) (by decide) (by decide) (XS.aloadN X15.here hx rfl (hb hby at_27) rfl rfl  (XS.iconst X15.here hx rfl (hb hby at_28) (XS.iloadN X15.here hx rfl (hb hby at_29) rfl  k)))) ?_
    show own_Fin p e below _ (T15.setTop (mkF m 30 #[.val (.int p1), .val (.int (1 : Int32)), .val (.ref b13), .unset] [(.int p1), (.int (0 : Int32)), (.ref b13)]))
    refine own_go (fun t k => XS.iconst X15.here hx rfl (hb hby at_30) (XS.ishr X15.here hx rfl (hb hby at_31) rfl (XS.i2b X15.here hx rfl (hb hby at_32) rfl k))) ?_
    show own_Fin p e below _ (T15.setTop (mkF m 33 #[.val (.int p1), .val (.int (1 : Int32)), .val (.ref b13), .unset] [(.int ((p1 >>> ((1 : Int32) &&& 31)).toInt8.toInt32)), (.int (0 : Int32)), (.ref b13)]))
    obtain ⟨cl16, Ar16, q16, S16, M16, H16, G16⟩ := (id V13)
    have hin16 : ¬ ((0 : Int32) < 0 ∨ cl16.slots.size ≤ ((0 : Int32)).toNatClampNeg) := inb_of S16 ⟨by decide, by decide⟩
    obtain ⟨T16, h16, X16, e16, W16, st16⟩ := stB X15 hx hZ e15 Ar16 (j := (0 : Int32)) hin16 (g := (mkF m 33 #[.val (.int p1), .val (.int (1 : Int32)), .val (.ref b13), .unset] [(.int ((p1 >>> ((1 : Int32) &&& 31)).toInt8.toInt32)), (.int (0 : Int32)), (.ref b13)])) rfl rfl (hb hby at_33)
    have V16 := Arv.set Ar16 q16 S16 M16 H16 G16 (fits_nar_byte _) W16 0 rfl (Nat.le_of_ble_eq_true rfl)
    have f18 : Arv Z h16 b13 k13 .byte (1 : Int32) [(.int (nar .byte ((p1 >>> ((1 : Int32) &&& 31)).toInt8.toInt32)))] (.int (0 : Int32)) := V16
    have Zh19 : n0 ≤ h16.size := Nat.le_trans Zh14 (Nat.le_of_eq W16.size.symm)
    have N16 := Fr.snoc X16 N15 g_b13
    refine own_go st16 ?_
    show own_Fin p e below _ (T16.setTop (mkF m 34 #[.val (.int p1), .val (.int (1 : Int32)), .val (.ref b13), .unset] []))
    refine own_go (fun t k => XS.iloadN X16.here hx rfl (hb hby at_34) rfl  k) ?_
    show own_Fin p e below _ (T16.setTop (mkF m 35 #[.val (.int p1), .val (.int (1 : Int32)), .val (.ref b13), .unset] [(.int (1 : Int32))]))
    obtain ⟨_, _, ⟨T20, L20, k20, n20⟩, -, X20, ⟨Lc20, hQ20, l20, y20, z20⟩, st20⟩ := Jvm.LawKit.callS X16 hx (y := (⟨"com/example/keyslice/keyslice/types/Values", "bool", "(Z)[B"⟩ : MethodName)) hown (mvT hZ hw_0) (mvT hZ hw_1) (mvT hZ hw_2) (mvT hZ hw_3) (by decide) (backOf (W := 0) (rm1 l Z a0 hw [] ((1 : Int32))  h16 n0 Zh19 ) hZ hw_3 hw_2 (by decide) (by decide)) (g := (mkF m 35 #[.val (.int p1), .val (.int (1 : Int32)), .val (.ref b13), .unset] [(.int (1 : Int32))])) rfl (by rw [hml]; rfl) (argsL := [(.int (1 : Int32))]) (rest := []) (lenOf pd_0 rfl) rfl (by show 2 * 0 + _ ≤ _; exact Nat.le_of_eq rfl) (hb hby at_35) (fun _ _ => ⟨rfl, e16, (by decide : 1 + 1 ≤ _), (by decide : 1 + 1 ≤ _)⟩)
    dsimp only [Pt.U, Pt.locs, Pt.cells, Pt.slots] at X20 l20 y20 z20 st20 hQ20
    subst l20 y20 z20
    obtain ⟨b20, k20, rfl, N20q, sz20, K20, V20⟩ := hQ20
    have N20 := Fr.app N16 N20q
    have g_b20 : n0 ≤ b20 := Nat.le_trans Zh19 sz20
    have ne_b13_b20 : b13 ≠ b20 := Nat.ne_of_lt (Nat.lt_of_lt_of_le f18.lt sz20)
    have E20 : Ext _ _ := ⟨K20.1, fun a c q => K20.2.1 a c q nin0⟩
    have f21 := f18.ext E20
    have Zh22 : n0 ≤ T20.heap.size := Nat.le_trans Zh19 K20.1
    refine own_go st20 ?_
    show own_Fin p e below _ (T20.setTop (mkF m 38 #[.val (.int p1), .val (.int (1 : Int32)), .val (.ref b13), .unset] [(.ref b20)]))
    refine own_go (fun t k => XS.astoreN X20.here hx rfl (hb hby at_38) rfl rfl (l' := #[.val (.int p1), .val (.int (1 : Int32)), .val (.ref b13), .val (.ref b20)]) rfl (XS.aloadN X20.here hx rfl (hb hby at_39) rfl rfl  (XS.aloadN X20.here hx rfl (hb hby at_40) rfl rfl  k))) ?_
    show own_Fin p e below _ (T20.setTop (mkF m 41 #[.val (.int p1), .val (.int (1 : Int32)), .val (.ref b13), .val (.ref b20)] [(.ref b13), (.ref b20)]))
    refine own_go (fun t k => Jvm.RoadKit.acmp (g := (mkF m 41 #[.val (.int p1), .val (.int (1 : Int32)), .val (.ref b13), .val (.ref b20)] [(.ref b13), (.ref b20)])) X20 hx rfl rfl rfl (pc0 := 41) (pc' := 46) (same := false) rfl (hb hby at_41) rfl (decide_eq_false fun q => (Ne.symm ne_b13_b20) (Value.ref.inj q)) (by decide) (by decide) (XS.aloadN X20.here hx rfl (hb hby at_46) rfl rfl  (XS.iloadN X20.here hx rfl (hb hby at_47) rfl  k))) ?_
    show own_Fin p e below _ (T20.setTop (mkF m 48 #[.val (.int p1), .val (.int (1 : Int32)), .val (.ref b13), .val (.ref b20)] [(.int (1 : Int32)), (.ref b20)]))
    obtain ⟨_, _, ⟨T23, L23, k23, n23⟩, -, X23, ⟨Lc23, hQ23, l23, y23, z23⟩, st23⟩ := Jvm.LawKit.callS X20 hx (y := (⟨"com/example/keyslice/keyslice/types/ValuesBoolPinLaw", "encodes", "([BZ)Z"⟩ : MethodName)) hown (mvT hZ hw_5) (mvT hZ hw_6) (mvT hZ hw_7) (mvT hZ hw_8) (by decide) (backOf (W := 0) (rm2 l Z a0 hw [] (b20) ((1 : Int32)) k20 (own_b (1 : Int32)) T20.heap n0 Zh22 V20) hZ hw_8 hw_7 (by decide) (by decide)) (g := (mkF m 48 #[.val (.int p1), .val (.int (1 : Int32)), .val (.ref b13), .val (.ref b20)] [(.int (1 : Int32)), (.ref b20)])) rfl (by rw [hml]; rfl) (argsL := [(.ref b20), (.int (1 : Int32))]) (rest := []) (lenOf pd_1 rfl) rfl (by show 2 * 0 + _ ≤ _; exact Nat.le_of_eq rfl) (hb hby at_48) (fun _ _ => ⟨rfl, rfl, (by decide : 2 + 0 ≤ _), (by decide : 2 + 0 ≤ _)⟩)
    dsimp only [Pt.U, Pt.locs, Pt.cells, Pt.slots] at X23 l23 y23 z23 st23 hQ23
    subst l23 y23 z23
    obtain ⟨rfl, N23q, e23⟩ := hQ23
    have N23 := Fr.app N20 N23q
    refine own_go st23 ?_
    show own_Fin p e below _ (T23.setTop (mkF m 51 #[.val (.int p1), .val (.int (1 : Int32)), .val (.ref b13), .val (.ref b20)] [(.int (own_en_13 b20 (1 : Int32) (own_b (1 : Int32))))]))
    exact own_out X23 (fun h => by rw [Bd.returns] at h; cases h) Bd.notSynchronized (fun fs hr => retN X23 hx (t := .boolean) Bd.returns (by simp) (hb hby at_51) hr) ⟨congrArg (fun z => some (Value.int z)) (own_r1 _), N23⟩ (by decide) (by decide)
set_option maxRecDepth 65536 in
set_option maxHeartbeats 40000000 in
theorem comes_1 {Post : Tables → Env → Array Value → State → Outcome → State → Prop} (hpost : ∀ tb e args s v u, (limb_1_1.after args s (.returned v) u = true ∧ limb_1_2.after args s (.returned v) u = true ∧ True) → FrameEnd s (.returned v) u (Jvm.fieldLocs frame_1_writes args s ++ Jvm.arrayLocs frame_1_arrays args s ++ Jvm.staticLocs frame_1_statics s) 16 128 → Post tb e args s (.returned v) u) :
    ArmFor flags0 classFile x code maxLocals ret World_1 tables_1 room_1 Calls_1 rest_1 Pre_1 Post := by
  intro l hfl _ _ p e ha hc hk s m args below hf hA hF happ hP
  obtain ⟨hcalls, hrest, hpre⟩ := hP
  obtain ⟨-, -, -, hnamed, -, -, -, hat⟩ := (Spec.applies_iff hf).mp happ
  obtain ⟨hg, hn⟩ := and_e (Cond.before_iff.mp (show (Jvm.Cond.and given_1 narrow_1).before args s = true from hpre))
  obtain ⟨g0, r0⟩ := and_e hg
  obtain ⟨w0, rfl⟩ : ∃ w0 : Value, args = #[w0] := by
    have hs : args.size = 1 := by simpa [Cond.value, given_1] using g0
    obtain ⟨L⟩ := args
    match L, hs with
    | [w0], _ => exact ⟨w0, rfl⟩
  have hw := fun d (hd : d ∈ tables_1) => atoms_spec (ws := Jvm.Cond.code x code maxLocals ret :: tables_1) hat d (List.mem_cons_of_mem _ hd)
  have hfit : Fit s := fun {y c} hc i hi => by
    obtain ⟨ha, rfl⟩ := Array.getElem?_eq_some_iff.mp hc
    have q := List.all_eq_true.mp ((Array.all_eq_true_iff_forall_mem.mp hF) _ (Array.getElem_mem ha)) i (List.mem_range.mpr hi)
    simpa [Array.getElem?_eq_getElem hi] using q
  obtain ⟨i0, ei0⟩ := is_v r0
  obtain rfl : w0 = (.int i0) := Option.some.inj ei0
  obtain ⟨n, o, h1, h2, h3, _, L, rfl, ⟨rfl, N⟩, hq⟩ := rm0 l s _ hw tables_1 i0  s.heap s.heap.size (Nat.le_refl _)  p e ha hc hk s m _ below hf ((Spec.applies_iff_loose hf).mp happ).1 ⟨rfl, State.Warmed39.refl s, rfl⟩ trivial
  refine ⟨n, _, h1, h2, h3, hpost _ _ _ _ _ _ ⟨Cond.after_iff.mpr rfl, Cond.after_iff.mpr (eq_i res_at (Term.int_eval (1)) rfl), trivial⟩ ⟨hq.1, hq.2.1, (hq.2.2.sift fun y hy => Or.inr (N y hy)).mono (by decide) (by decide)⟩⟩
theorem main_1_1 : Claimed_1_1 := comes_1 fun _ _ _ _ _ _ h hF => ⟨h.1, hF⟩
theorem main_1_2 : Claimed_1_2 := comes_1 fun _ _ _ _ _ _ h hF => ⟨h.2.1, hF⟩
end Jvm.Pilot.@@N@@
namespace Jvm.Pilot.@@N@@
open Jvm Jvm.ClassFile Sem Op Lib Jvm.Free Jvm.Stand Jvm.Pilot.@@N@@.Jvm.D
/-! MADE BY PROGRAM (witnessworld.py) out of the Statement's table words and the real class files: 9 classes; the members and pool entries that the words name. The judged class is class 1, her method 2. -/
namespace start1
open Jvm.ClassFile
def u (s : String) : CpInfo := .utf8 (stringToUtf16 s)
/-- a pool by its gaps: so many unusable entries, then the entry; so many at the end -/
def gap : Nat → List CpInfo → List CpInfo
  | 0, r => r
  | n + 1, r => .unusable :: gap n r
def poolList (es : List (Nat × CpInfo)) (last : Nat) : List CpInfo := es.foldr (fun e r => gap e.1 (e.2 :: r)) (gap last [])
def pool (es : List (Nat × CpInfo)) (last : Nat) : Array CpInfo := ⟨poolList es last⟩
def fileOf (pool : Array CpInfo) (this : Nat) (attrs : Array Attribute := #[]) (ms : Array MethodInfo := #[]) (fl : Nat := 33) (sup : Nat := 0) (ifs : Array Nat := #[]) (fds : Array FieldInfo := #[]) : ClassFile where
  minorVersion := 0
  majorVersion := 65
  constantPool := pool
  accessFlags := fl
  thisClass := this
  superClass := sup
  interfaces := ifs
  fields := fds
  methods := ms
  attributes := attrs
def plain (name : String) (sup : Option ClassId) : Class where
  name := name
  kind := .ordinary
  loader := none
  accessFlags := 33
  super := sup
  interfaces := #[]
  cf := none
  fields := #[]
  methods := #[]
  instanceTypes := #[]
  staticTypes := #[]
  resolved := #[]
  callSites := []
  init := .initialized
  statics := none
  mirror := none

def pool0 : Array CpInfo := pool [(5, u "<init>"), (0, u "()V"), (1, .class_ 10), (1, u "java/lang/Object")] 113

def k0m0 : Method := { name := "<init>", desc := "()V", sig := { parameters := [], returnType := none }, accessFlags := 1, code := none }
/-- java/lang/Object -/
def k0 : Class := { plain "java/lang/Object" none with
  accessFlags := 33
  interfaces := #[]
  cf := some (fileOf pool0 8 #[] #[{ accessFlags := 1, nameIndex := 5, descriptorIndex := 6, attributes := #[] }] 33 0 #[] #[])
  fields := #[]
  methods := #[k0m0]
  instanceTypes := #[]
  staticTypes := #[]
  resolved := Array.replicate 124 none
  statics := none }

def pool1 : Array CpInfo := pool [(2, .class_ 4), (1, u "java/lang/Object"), (0, u "<init>"), (0, u "()V"), (0, .methodref 8 9), (0, .class_ 10), (0, .nameAndType 11 12), (0, u "com/example/keyslice/keyslice/types/Values"), (0, u "bool"), (0, u "(Z)[B"), (0, .methodref 14 15), (0, .class_ 16), (0, .nameAndType 17 18), (0, u "com/example/keyslice/keyslice/types/ValuesBoolPinLaw"), (0, u "encodes"), (0, u "([BZ)Z"), (3, u "law"), (0, u "(I)Z")] 4

def k1m0 : Method := { name := "<init>", desc := "()V", sig := { parameters := [], returnType := none }, accessFlags := 2, code := none }
def k1c1 : Code := { maxStack := 2, maxLocals := 2, code := method_2_code, exceptionTable := #[], attributes := #[] }
def k1m1 : Method := { name := "encodes", desc := "([BZ)Z", sig := { parameters := [(.array .byte), .boolean], returnType := some .boolean }, accessFlags := 10, code := some k1c1 }
def k1c2 : Code := { maxStack := 4, maxLocals := 4, code := code, exceptionTable := #[], attributes := #[] }
def k1m2 : Method := { name := "law", desc := "(I)Z", sig := { parameters := [.int], returnType := some .boolean }, accessFlags := 9, code := some k1c2 }
/-- com/example/keyslice/keyslice/types/ValuesBoolPinLaw -/
def k1 : Class := { plain "com/example/keyslice/keyslice/types/ValuesBoolPinLaw" (some 0) with
  accessFlags := 49
  interfaces := #[]
  cf := some (fileOf pool1 14 #[] #[{ accessFlags := 2, nameIndex := 5, descriptorIndex := 6, attributes := #[] }, { accessFlags := 10, nameIndex := 17, descriptorIndex := 18, attributes := #[] }, { accessFlags := 9, nameIndex := 22, descriptorIndex := 23, attributes := #[] }] 49 2 #[] #[])
  fields := #[]
  methods := #[k1m0, k1m1, k1m2]
  instanceTypes := #[]
  staticTypes := #[]
  resolved := Array.replicate 28 none
  statics := none }

def pool2 : Array CpInfo := pool [(2, .class_ 4), (1, u "java/lang/Object"), (0, u "<init>"), (0, u "()V"), (63, .class_ 72), (1, u "com/example/keyslice/keyslice/types/Values"), (126, u "NULL_LENGTH"), (0, u "I"), (4, u "bool"), (0, u "(Z)[B")] 61

def k2m0 : Method := { name := "<init>", desc := "()V", sig := { parameters := [], returnType := none }, accessFlags := 2, code := none }
def k2c1 : Code := { maxStack := 4, maxLocals := 1, code := prog_82_method_3_code, exceptionTable := #[], attributes := #[] }
def k2m1 : Method := { name := "bool", desc := "(Z)[B", sig := { parameters := [.boolean], returnType := some (.array .byte) }, accessFlags := 9, code := some k2c1 }
/-- com/example/keyslice/keyslice/types/Values -/
def k2 : Class := { plain "com/example/keyslice/keyslice/types/Values" (some 0) with
  accessFlags := 49
  interfaces := #[]
  cf := some (fileOf pool2 70 #[] #[{ accessFlags := 2, nameIndex := 5, descriptorIndex := 6, attributes := #[] }, { accessFlags := 9, nameIndex := 205, descriptorIndex := 206, attributes := #[] }] 49 2 #[] #[{ accessFlags := 26, nameIndex := 199, descriptorIndex := 200, attributes := #[] }])
  fields := #[{ name := "NULL_LENGTH", type := .int, accessFlags := 26, slot := 0, constantValue := 0 }]
  methods := #[k2m0, k2m1]
  instanceTypes := #[]
  staticTypes := #[.int]
  resolved := Array.replicate 268 none
  statics := none }

def pool3 : Array CpInfo := pool [(1, u "java/lang/Cloneable"), (0, .class_ 1), (0, u "java/lang/Object"), (0, .class_ 3)] 3

/-- java/lang/Cloneable -/
def k3 : Class := { plain "java/lang/Cloneable" (some 0) with
  accessFlags := 1537
  interfaces := #[]
  cf := some (fileOf pool3 2 #[] #[] 1537 4 #[] #[])
  fields := #[]
  methods := #[]
  instanceTypes := #[]
  staticTypes := #[]
  resolved := Array.replicate 8 none
  statics := none }

def pool4 : Array CpInfo := pool [(1, u "java/io/Serializable"), (0, .class_ 1), (0, u "java/lang/Object"), (0, .class_ 3)] 3

/-- java/io/Serializable -/
def k4 : Class := { plain "java/io/Serializable" (some 0) with
  accessFlags := 1537
  interfaces := #[]
  cf := some (fileOf pool4 2 #[] #[] 1537 4 #[] #[])
  fields := #[]
  methods := #[]
  instanceTypes := #[]
  staticTypes := #[]
  resolved := Array.replicate 8 none
  statics := none }

/-- the primitive byte -/
def k5 : Class := { plain "byte" none with kind := .primitive 'B', accessFlags := 0x411 }
/-- [B -/
def k6 : Class := { plain "[B" (some 0) with kind := .array 5 .byte, interfaces := #[3, 4], accessFlags := 1041 }

/-- the primitive int -/
def k7 : Class := { plain "int" none with kind := .primitive 'I', accessFlags := 0x411 }
/-- [I -/
def k8 : Class := { plain "[I" (some 0) with kind := .array 7 .int, interfaces := #[3, 4], accessFlags := 1041 }

def heap : Heap := #[]
def classes : Array Class := #[k0, k1, k2, k3, k4, k5, k6, k7, k8]
def interned : List (Array UInt16 × Addr) := []
def slotsUsed : Nat := 0
def theMethod : MethodId := ⟨1, 2⟩
def args0 : Array Value := #[.int 5]
def aboutOver (below : List Frame) : State where
  vm := { classes := classes, interned := interned.toArray }
  heap := heap
  slotsUsed := slotsUsed
  threads := #[{ frames := .invoking theMethod args0 :: below }]
def below0 : List Frame := [.native { method := ⟨0, 0⟩, args := #[] }]
def about1 : State := aboutOver below0
def p0 : Program := .bare "" "" ""
def e0 : Env := launch0.env 0 0 0
theorem w_frames : about1.frames = Frame.invoking theMethod args0 :: below0 := rfl
set_option maxRecDepth 65536 in
theorem w_args : argsFit about1.vm theMethod args0 = true := by decide +kernel
set_option maxRecDepth 65536 in
theorem w_heap : heapFits about1 = true := by decide +kernel
set_option maxRecDepth 65536 in
theorem w_runnable : about1.curStatus? = some .runnable := by decide +kernel
set_option maxRecDepth 65536 in
theorem w_alone : about1.alone = true := by decide +kernel
set_option maxRecDepth 65536 in
theorem w_named : about1.methodNamed? x = some theMethod := by decide +kernel
set_option maxRecDepth 65536 in
theorem w_hears : about1.hears theMethod below0 = true := by decide +kernel
set_option maxRecDepth 65536 in
theorem w_ripe : about1.ripe theMethod args0 below0 = true := by decide +kernel
theorem w_running : about1.status = .running := rfl
set_option maxRecDepth 65536 in
theorem w_room : about1.hasRoom e0.platform room_1 = true :=
  launch0.hasRoom_least _ room_1 (by decide +kernel) (by decide +kernel) (by decide +kernel) (by decide +kernel) (by decide +kernel) (by decide +kernel)
theorem allAtoms_all (ts : List Jvm.Cond) (a : Array Jvm.Value) (st : Jvm.State) : (allAtoms ts).before a st = ts.all (fun c => c.before a st) := by
  induction ts with
  | nil => rfl
  | cons c t ih =>
    show (Jvm.Cond.and c (allAtoms t)).before a st = _
    rw [Jvm.Cond.before_and, ih, List.all_cons]
def words1 : List Jvm.Cond := Jvm.Cond.code x code maxLocals ret :: tables_1
/-- a 'code' word, met by the world's own term for the bytes: nothing is compared byte by byte -/
theorem code_word {y : MethodName} {bytes : ByteArray} {mx : Nat} {rt : Option FieldType} {a : Array Value} {s : State} {m : MethodId} {meth : Method} {c : Code} (h1 : s.methodNamed? y = some m) (h2 : s.vm.method? m = some meth) (h3 : meth.code = some c) (h4 : c.code = bytes)
    (h5 : (c.maxLocals == mx && c.exceptionTable.isEmpty && decide (c.maxStack ≤ mostOperands) && decide (meth.sig.returnType = rt) && !meth.locks && decide (parseMethodDescriptor y.desc = some meth.sig)) = true) : (Jvm.Cond.code y bytes mx rt).before a s = true := by
  simp only [Bool.and_eq_true, beq_iff_eq, Bool.not_eq_true', decide_eq_true_eq] at h5
  obtain ⟨⟨⟨⟨⟨g1, g2⟩, g3⟩, g4⟩, g5⟩, g6⟩ := h5
  simp [Cond.before, Cond.holds, Cond.value, h1, h2, h3, h4, g1, g2, g3, g4, g5, g6]
def isCode : Jvm.Cond → Bool
  | .code _ _ _ _ => true
  | _ => false
theorem all_split {L : List Jvm.Cond} {P : Jvm.Cond → Bool} (h1 : L.all (fun c => isCode c || P c) = true) (h2 : ∀ c ∈ L.filter isCode, P c = true) : L.all P = true := by
  refine List.all_eq_true.mpr fun c hc => ?_
  have h := List.all_eq_true.mp h1 c hc
  rcases Bool.eq_false_or_eq_true (isCode c) with hi | hi
  · exact h2 c (List.mem_filter.mpr ⟨hc, hi⟩)
  · simpa [hi] using h
set_option maxRecDepth 65536 in
theorem w_c0 : (Jvm.Cond.code x code maxLocals ret).before args0 about1 = true := code_word (m := ⟨1, 2⟩) (meth := k1m2) (c := k1c2) (by decide +kernel) rfl rfl rfl (by decide +kernel)
set_option maxRecDepth 65536 in
theorem w_c1 : (Jvm.Cond.code ({ cls := "com/example/keyslice/keyslice/types/Values", name := "bool", desc := "(Z)[B" } : Jvm.MethodName) prog_82_method_3_code (1 : Nat) (Option.some (Jvm.ClassFile.FieldType.array Jvm.ClassFile.FieldType.byte))).before args0 about1 = true := code_word (m := ⟨2, 1⟩) (meth := k2m1) (c := k2c1) (by decide +kernel) rfl rfl rfl (by decide +kernel)
set_option maxRecDepth 65536 in
theorem w_c2 : (Jvm.Cond.code ({ cls := "com/example/keyslice/keyslice/types/ValuesBoolPinLaw", name := "encodes", desc := "([BZ)Z" } : Jvm.MethodName) method_2_code (2 : Nat) (Option.some Jvm.ClassFile.FieldType.boolean)).before args0 about1 = true := code_word (m := ⟨1, 1⟩) (meth := k1m1) (c := k1c1) (by decide +kernel) rfl rfl rfl (by decide +kernel)
def codes1 : List Jvm.Cond := [Jvm.Cond.code x code maxLocals ret, Jvm.Cond.code ({ cls := "com/example/keyslice/keyslice/types/Values", name := "bool", desc := "(Z)[B" } : Jvm.MethodName) prog_82_method_3_code (1 : Nat) (Option.some (Jvm.ClassFile.FieldType.array Jvm.ClassFile.FieldType.byte)), Jvm.Cond.code ({ cls := "com/example/keyslice/keyslice/types/ValuesBoolPinLaw", name := "encodes", desc := "([BZ)Z" } : Jvm.MethodName) method_2_code (2 : Nat) (Option.some Jvm.ClassFile.FieldType.boolean)]
set_option maxRecDepth 65536 in
theorem codes_eq : words1.filter isCode = codes1 := rfl
theorem w_codes : ∀ c ∈ words1.filter isCode, c.before args0 about1 = true := by
  rw [codes_eq]
  intro c hc
  simp only [codes1, List.mem_cons, List.not_mem_nil, or_false] at hc
  rcases hc with rfl | rfl | rfl
  · exact w_c0
  · exact w_c1
  · exact w_c2
set_option maxRecDepth 65536 in
theorem w_t1 : words1.all (fun c => isCode c || c.before args0 about1) = true := by decide +kernel
theorem w_tables : (allAtoms (Jvm.Cond.code x code maxLocals ret :: tables_1)).before args0 about1 = true := by
  rw [allAtoms_all]
  show words1.all (fun c => c.before args0 about1) = true
  refine all_split ?_ w_codes
  rw [w_t1]
set_option maxRecDepth 65536 in
theorem w_case : (Jvm.Cond.and given_1 narrow_1).before args0 about1 = true := by decide +kernel
theorem w_applies : (headSpec (Jvm.Cond.code x code maxLocals ret :: tables_1) room_1).applies x e0.platform about1 = true :=
  (Spec.applies_iff w_frames).mpr ⟨w_running, w_runnable, w_alone, w_named, w_hears, w_ripe, w_room, w_tables⟩
theorem atStart : AtStart classFile x code maxLocals ret World_1 tables_1 room_1 Calls_1 rest_1 Pre_1 launch0 p0 e0 about1 theMethod args0 below0 :=
  ⟨lists_1, trivial, launch0.admits_env _ _ _, launch0.least_env, fairChoices_fair.cas, fairChoices_fair.clock, w_frames, w_args, w_heap, w_applies, trivial, trivial, w_case⟩
end start1
theorem witness_1 : WitnessClaimed_1 := ⟨start1.p0, start1.e0, start1.about1, start1.theMethod, start1.args0, start1.below0, start1.atStart⟩
end Jvm.Pilot.@@N@@
