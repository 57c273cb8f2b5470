import JvmDerived
import JvmDerived.Pilot.@@N@@Statement
import JvmDerived.Pilot.@@N@@Code
set_option linter.unusedVariables false
set_option linter.unusedSimpArgs false
namespace Jvm.RoadKit
open Sem ClassFile Op Lib Jvm.Stand Jvm.Free Jvm.LawKit
section New
variable {p : Program} {l : Launch} {e : Env} {R : Room} {s : State} {m : MethodId} {args : Array Value} {below : List Frame} {meth : Method} {c : Code} {T : State} {locs : List Loc} {cells slots : Nat}
theorem retI (X : Stand p l e R s m args below meth c T locs cells slots) (hx : p.tables.exec = Jvm.exec) {pc : Nat} {Ls : Array Slot} {z : Int32} {rest : List Value} (hret : meth.sig.returnType = some .int) (hd : decode c.code pc = .ok (.ireturn, 1)) {fs : List Frame}
    (hl : ∀ (f : JFrame) (acts : List Action), f.method = m → f.locked = none → f.entered = [] → (doReturn e (T.setTop f) acts (some (.int z))).1 = T.setFrames fs) : Steps p.tables e below (T.setTop (mkF m pc Ls (.int z :: rest))) (T.setFrames fs) := by
  have hm' : T.vm.method? m = some meth := X.method'
  have hn : narrow .int (.int z) = .int z := rfl
  show Steps p.tables e below (T.setTop { method := m, pc := pc, locals := Ls, stack := _ :: rest, locked := none }) _
  jvm_step X.here [X.here.top, hx, hd, hm', hret, hn]
  first | (intro acts; rw [hl _ acts rfl rfl rfl]) | rw [hl _ _ rfl rfl rfl]
  exact Steps.refl _
/-- from the state S the run comes to an end at which A holds -/
def own_Fin (p : Program) (e : Env) (below : List Frame) (A : State → Outcome → Prop) (S : State) : Prop := ∃ s₂ o, Steps p.tables e below S s₂ ∧ s₂.status = .running ∧ Ended s₂ below o ∧ A s₂ o
theorem own_go {A : State → Outcome → Prop} {S S' : State} (k : ∀ t, Steps p.tables e below S' t → Steps p.tables e below S t) (h : own_Fin p e below A S') : own_Fin p e below A S := by
  obtain ⟨t, o, h1, h2⟩ := h; exact ⟨t, o, k t h1, h2⟩
/-- what a walk leaves: Q of the value, the heap and the written places -/
def own_A (s : State) (C S : Nat) (Q : Option Value → Heap → List Loc → Prop) : State → Outcome → Prop := fun U' o => ∃ v L, o = .returned v ∧ Q v U'.heap L ∧ FrameEnd s o U' L C S
/-- a body that writes nothing: its value, the heap as it was -/
def own_P (h0 : Heap) (n0 : Nat) (w : Value) (v : Option Value) (h : Heap) (L : List Loc) : Prop := v = some w ∧ Fr n0 L ∧ h = h0
theorem own_out (X : Stand p l e R s m args below meth c T locs cells slots) {v : Option Value} {Q : Option Value → Heap → List Loc → Prop} {C S : Nat} {g : JFrame}
    (hv : meth.sig.returnType = none → v = none) (hlocks : meth.locks = false)
    (st : ∀ fs, (∀ (f : JFrame) (acts : List Action), f.method = m → f.locked = none → f.entered = [] → (doReturn e (T.setTop f) acts v).1 = T.setFrames fs) → Steps p.tables e below (T.setTop g) (T.setFrames fs))
    (hQ : Q v T.heap locs) (hc : cells ≤ C) (hs : slots ≤ S) : own_Fin p e below (own_A s C S Q) (T.setTop g) := by
  obtain ⟨fs, hr, hrun, hended, hW, hsame⟩ := X.leave (v := v) hv hlocks
  exact ⟨_, _, st fs hr, hrun, hended, _, _, rfl, hQ, ⟨_, rfl⟩, hW, hsame.mono hc hs⟩
end New
end Jvm.RoadKit
namespace Jvm.Pilot.@@N@@
open Jvm Jvm.ClassFile Sem Op Lib Jvm.Free Jvm.Stand Jvm.LawKit Jvm.RoadKit Bundle Jvm.Pilot.@@N@@.Jvm.D
theorem d1_0 : decode method_2_code 0 = .ok (.aload_n 0, 1) := by decide +kernel
theorem d1_1 : decode method_2_code 1 = .ok (.iload_n 1, 1) := by decide +kernel
theorem d1_2 : decode method_2_code 2 = .ok (.iload_n 2, 1) := by decide +kernel
theorem d1_3 : decode method_2_code 3 = .ok (.i2b, 1) := by decide +kernel
theorem d1_4 : decode method_2_code 4 = .ok (.bastore, 1) := by decide +kernel
theorem d1_5 : decode method_2_code 5 = .ok (.aload_n 0, 1) := by decide +kernel
theorem d1_6 : decode method_2_code 6 = .ok (.iload_n 1, 1) := by decide +kernel
theorem d1_7 : decode method_2_code 7 = .ok (.iconst 1, 1) := by decide +kernel
theorem d1_8 : decode method_2_code 8 = .ok (.iadd, 1) := by decide +kernel
theorem d1_9 : decode method_2_code 9 = .ok (.iload_n 2, 1) := by decide +kernel
theorem d1_10 : decode method_2_code 10 = .ok (.bipush 8, 2) := by decide +kernel
theorem d1_12 : decode method_2_code 12 = .ok (.iushr, 1) := by decide +kernel
theorem d1_13 : decode method_2_code 13 = .ok (.i2b, 1) := by decide +kernel
theorem d1_14 : decode method_2_code 14 = .ok (.bastore, 1) := by decide +kernel
theorem d1_15 : decode method_2_code 15 = .ok (.aload_n 0, 1) := by decide +kernel
theorem d1_16 : decode method_2_code 16 = .ok (.iload_n 1, 1) := by decide +kernel
theorem d1_17 : decode method_2_code 17 = .ok (.iconst 2, 1) := by decide +kernel
theorem d1_18 : decode method_2_code 18 = .ok (.iadd, 1) := by decide +kernel
theorem d1_19 : decode method_2_code 19 = .ok (.iload_n 2, 1) := by decide +kernel
theorem d1_20 : decode method_2_code 20 = .ok (.bipush 16, 2) := by decide +kernel
theorem d1_22 : decode method_2_code 22 = .ok (.iushr, 1) := by decide +kernel
theorem d1_23 : decode method_2_code 23 = .ok (.i2b, 1) := by decide +kernel
theorem d1_24 : decode method_2_code 24 = .ok (.bastore, 1) := by decide +kernel
theorem d1_25 : decode method_2_code 25 = .ok (.aload_n 0, 1) := by decide +kernel
theorem d1_26 : decode method_2_code 26 = .ok (.iload_n 1, 1) := by decide +kernel
theorem d1_27 : decode method_2_code 27 = .ok (.iconst 3, 1) := by decide +kernel
theorem d1_28 : decode method_2_code 28 = .ok (.iadd, 1) := by decide +kernel
theorem d1_29 : decode method_2_code 29 = .ok (.iload_n 2, 1) := by decide +kernel
theorem d1_30 : decode method_2_code 30 = .ok (.bipush 24, 2) := by decide +kernel
theorem d1_32 : decode method_2_code 32 = .ok (.iushr, 1) := by decide +kernel
theorem d1_33 : decode method_2_code 33 = .ok (.i2b, 1) := by decide +kernel
theorem d1_34 : decode method_2_code 34 = .ok (.bastore, 1) := by decide +kernel
theorem d1_35 : decode method_2_code 35 = .ok (.return_, 1) := by decide +kernel
theorem pn_0 : plainName "com/example/palimpsest/palimpsest/chain/CurveScalarsDecodePinLaw" = true := by first | (simp [plainName, overriddenIn]; done) | decide +kernel
theorem ef_1p0 (m : MethodId) (x0 : Addr) (x1 : Int32) (x2 : Int32)  : entryFrame m #[(.ref x0), (.int x1), (.int x2)] 3 = mkF m 0 #[.val (.ref x0), .val (.int x1), .val (.int x2)] [] := by first | (simp [entryFrame, mkF, argsToLocals, Value.category]; done) | rfl
def own_q1p0 (Z : State) (a1 : Addr) (p3 : Int32) (k1 : ClassId) (u0 u1 u2 u3 u4 u5 u6 u7 u8 u9 u10 u11 u12 : Int32) (h0 : Heap) (n0 : Nat) (v : Option Value) (h : Heap) (L : List Loc) : Prop := v = none ∧ Fr n0 L ∧ Keep h0 h [a1] ∧ Arv Z h a1 k1 .byte (13 : Int32) [(.int (nar .byte (p3.toInt8.toInt32))), (.int (nar .byte (((p3.toUInt32 >>> ((8 : Int32) &&& 31).toUInt32).toInt32).toInt8.toInt32))), (.int (nar .byte (((p3.toUInt32 >>> ((16 : Int32) &&& 31).toUInt32).toInt32).toInt8.toInt32))), (.int (nar .byte (((p3.toUInt32 >>> ((24 : Int32) &&& 31).toUInt32).toInt32).toInt8.toInt32))), (.int u4), (.int u5), (.int u6), (.int u7), (.int u8), (.int u9), (.int u10), (.int u11), (.int u12)] (.int (0 : Int32))
set_option maxRecDepth 65536 in
set_option maxHeartbeats 40000000 in
theorem rm1p0 (l : Launch) (Z : State) (a0 : Array Value) (hw : ∀ d ∈ tables_1, d.before a0 Z = true) (ws : List Jvm.Cond) (a1 : Addr) (p3 : Int32) (k1 : ClassId) (u0 u1 u2 u3 u4 u5 u6 u7 u8 u9 u10 u11 u12 : Int32) (h0 : Heap) (n0 : Nat) (Z0 : n0 ≤ h0.size) (V_a1 : Arv Z h0 a1 k1 .byte (13 : Int32) [(.int u0), (.int u1), (.int u2), (.int u3), (.int u4), (.int u5), (.int u6), (.int u7), (.int u8), (.int u9), (.int u10), (.int u11), (.int u12)] (.int (0 : Int32))) (g_a1 : n0 ≤ a1) :
    MetFree l (⟨"com/example/palimpsest/palimpsest/chain/CurveScalarsDecodePinLaw", "put", "([BII)V"⟩ : MethodName) (head1 (Jvm.Cond.code (⟨"com/example/palimpsest/palimpsest/chain/CurveScalarsDecodePinLaw", "put", "([BII)V"⟩ : MethodName) method_2_code 3 none :: ws) ({ frames := 0, cells := 0, slots := 0, locals := 0 } : Room)) (fun a U => a = #[(.ref a1), (.int (0 : Int32)), (.int p3)] ∧ Z.Warmed39 U.vm ∧ U.heap = h0) (fun _ _ _ _ _ => True) (fun _ U o U' => ∃ v L, o = .returned v ∧ (own_q1p0 Z a1 p3 k1 u0 u1 u2 u3 u4 u5 u6 u7 u8 u9 u10 u11 u12 h0 n0) v U'.heap L ∧ FrameEnd U o U' L ({ frames := 0, cells := 0, slots := 0, locals := 0 } : Room).cells ({ frames := 0, cells := 0, slots := 0, locals := 0 } : Room).slots) := by
  refine MetFree.of_bodySF (plainFor_of_name pn_0) hisR ?_
  intro p e s m args below meth c s₁ Bd hml0 hP hK
  obtain ⟨rfl, hZ, hh⟩ := hP
  have hx := Bd.exec
  have hby := Bd.bytes
  have hml : c.maxLocals = 3 := hml0
  have hown : s.vm.findClass "com/example/palimpsest/palimpsest/chain/CurveScalarsDecodePinLaw" = some m.cls := findClass_of_methodNamed Bd.named
  have hnm := (name_of_methodNamed Bd.named Bd.method).1
  have X0 : Stand p l e ({ frames := 0, cells := 0, slots := 0, locals := 0 } : Room) s m #[(.ref a1), (.int (0 : Int32)), (.int p3)] below meth c s₁ [] 0 0 := Stand.of_body Bd
  have e0 : s₁.heap = h0 := by rw [← hh, Bd.state]; rfl
  have N0 := Fr.nil n0
  have Kz := Keep.refl h0 [a1]
  show own_Fin p e below (own_A s ({ frames := 0, cells := 0, slots := 0, locals := 0 } : Room).cells ({ frames := 0, cells := 0, slots := 0, locals := 0 } : Room).slots (own_q1p0 Z a1 p3 k1 u0 u1 u2 u3 u4 u5 u6 u7 u8 u9 u10 u11 u12 h0 n0)) _
  refine own_go (fun t k => castTop (ef_1p0 m (a1) ((0 : Int32)) (p3)) k) ?_
  show own_Fin p e below _ (s₁.setTop (mkF m 0 #[.val (.ref a1), .val (.int (0 : Int32)), .val (.int p3)] []))
  refine own_go (fun t k => XS.aloadN X0.here hx rfl (hb hby d1_0) rfl rfl  (XS.iloadN X0.here hx rfl (hb hby d1_1) rfl  (XS.iloadN X0.here hx rfl (hb hby d1_2) rfl  (XS.i2b X0.here hx rfl (hb hby d1_3) rfl k)))) ?_
  show own_Fin p e below _ (s₁.setTop (mkF m 4 #[.val (.ref a1), .val (.int (0 : Int32)), .val (.int p3)] [(.int (p3.toInt8.toInt32)), (.int (0 : Int32)), (.ref a1)]))
  obtain ⟨cl1, Ar1, q1, S1, M1, H1, G1⟩ := (id V_a1)
  have hin1 : ¬ ((0 : Int32) < 0 ∨ cl1.slots.size ≤ ((0 : Int32)).toNatClampNeg) := inb_of S1 ⟨by decide, by decide⟩
  obtain ⟨T1, h1, X1, e1, W1, st1⟩ := stB X0 hx hZ e0 Ar1 (j := (0 : Int32)) hin1 (g := (mkF m 4 #[.val (.ref a1), .val (.int (0 : Int32)), .val (.int p3)] [(.int (p3.toInt8.toInt32)), (.int (0 : Int32)), (.ref a1)])) rfl rfl (hb hby d1_4)
  have V1 := Arv.set Ar1 q1 S1 M1 H1 G1 (fits_nar_byte _) W1 0 rfl (Nat.le_of_ble_eq_true rfl)
  have f3 : Arv Z h1 a1 k1 .byte (13 : Int32) [(.int (nar .byte (p3.toInt8.toInt32))), (.int u1), (.int u2), (.int u3), (.int u4), (.int u5), (.int u6), (.int u7), (.int u8), (.int u9), (.int u10), (.int u11), (.int u12)] (.int (0 : Int32)) := V1
  have Zh4 : n0 ≤ h1.size := Nat.le_trans Z0 (Nat.le_of_eq W1.size.symm)
  have N1 := Fr.snoc X1 N0 g_a1
  have K5 := Kz.wr W1 (Or.inl (List.mem_of_getElem? (i := 0) rfl))
  refine own_go st1 ?_
  show own_Fin p e below _ (T1.setTop (mkF m 5 #[.val (.ref a1), .val (.int (0 : Int32)), .val (.int p3)] []))
  refine own_go (fun t k => XS.aloadN X1.here hx rfl (hb hby d1_5) rfl rfl  (XS.iloadN X1.here hx rfl (hb hby d1_6) rfl  (XS.iconst X1.here hx rfl (hb hby d1_7) (XS.iadd X1.here hx rfl (hb hby d1_8) rfl k)))) ?_
  show own_Fin p e below _ (T1.setTop (mkF m 9 #[.val (.ref a1), .val (.int (0 : Int32)), .val (.int p3)] [(.int (1 : Int32)), (.ref a1)]))
  refine own_go (fun t k => XS.iloadN X1.here hx rfl (hb hby d1_9) rfl  (XS.bipush X1.here hx rfl (hb hby d1_10) (XS.iushr X1.here hx rfl (hb hby d1_12) rfl (XS.i2b X1.here hx rfl (hb hby d1_13) rfl k)))) ?_
  show own_Fin p e below _ (T1.setTop (mkF m 14 #[.val (.ref a1), .val (.int (0 : Int32)), .val (.int p3)] [(.int (((p3.toUInt32 >>> ((8 : Int32) &&& 31).toUInt32).toInt32).toInt8.toInt32)), (.int (1 : Int32)), (.ref a1)]))
  obtain ⟨cl6, Ar6, q6, S6, M6, H6, G6⟩ := (id f3)
  have hin6 : ¬ ((1 : Int32) < 0 ∨ cl6.slots.size ≤ ((1 : Int32)).toNatClampNeg) := inb_of S6 ⟨by decide, by decide⟩
  obtain ⟨T6, h6, X6, e6, W6, st6⟩ := stB X1 hx hZ e1 Ar6 (j := (1 : Int32)) hin6 (g := (mkF m 14 #[.val (.ref a1), .val (.int (0 : Int32)), .val (.int p3)] [(.int (((p3.toUInt32 >>> ((8 : Int32) &&& 31).toUInt32).toInt32).toInt8.toInt32)), (.int (1 : Int32)), (.ref a1)])) rfl rfl (hb hby d1_14)
  have V6 := Arv.set Ar6 q6 S6 M6 H6 G6 (fits_nar_byte _) W6 1 rfl (Nat.le_of_ble_eq_true rfl)
  have f8 : Arv Z h6 a1 k1 .byte (13 : Int32) [(.int (nar .byte (p3.toInt8.toInt32))), (.int (nar .byte (((p3.toUInt32 >>> ((8 : Int32) &&& 31).toUInt32).toInt32).toInt8.toInt32))), (.int u2), (.int u3), (.int u4), (.int u5), (.int u6), (.int u7), (.int u8), (.int u9), (.int u10), (.int u11), (.int u12)] (.int (0 : Int32)) := V6
  have Zh9 : n0 ≤ h6.size := Nat.le_trans Zh4 (Nat.le_of_eq W6.size.symm)
  have N6 := Fr.snoc X6 N1 g_a1
  have K10 := K5.wr W6 (Or.inl (List.mem_of_getElem? (i := 0) rfl))
  refine own_go st6 ?_
  show own_Fin p e below _ (T6.setTop (mkF m 15 #[.val (.ref a1), .val (.int (0 : Int32)), .val (.int p3)] []))
  refine own_go (fun t k => XS.aloadN X6.here hx rfl (hb hby d1_15) rfl rfl  (XS.iloadN X6.here hx rfl (hb hby d1_16) rfl  (XS.iconst X6.here hx rfl (hb hby d1_17) (XS.iadd X6.here hx rfl (hb hby d1_18) rfl k)))) ?_
  show own_Fin p e below _ (T6.setTop (mkF m 19 #[.val (.ref a1), .val (.int (0 : Int32)), .val (.int p3)] [(.int (2 : Int32)), (.ref a1)]))
  refine own_go (fun t k => XS.iloadN X6.here hx rfl (hb hby d1_19) rfl  (XS.bipush X6.here hx rfl (hb hby d1_20) (XS.iushr X6.here hx rfl (hb hby d1_22) rfl (XS.i2b X6.here hx rfl (hb hby d1_23) rfl k)))) ?_
  show own_Fin p e below _ (T6.setTop (mkF m 24 #[.val (.ref a1), .val (.int (0 : Int32)), .val (.int p3)] [(.int (((p3.toUInt32 >>> ((16 : Int32) &&& 31).toUInt32).toInt32).toInt8.toInt32)), (.int (2 : Int32)), (.ref a1)]))
  obtain ⟨cl11, Ar11, q11, S11, M11, H11, G11⟩ := (id f8)
  have hin11 : ¬ ((2 : Int32) < 0 ∨ cl11.slots.size ≤ ((2 : Int32)).toNatClampNeg) := inb_of S11 ⟨by decide, by decide⟩
  obtain ⟨T11, h11, X11, e11, W11, st11⟩ := stB X6 hx hZ e6 Ar11 (j := (2 : Int32)) hin11 (g := (mkF m 24 #[.val (.ref a1), .val (.int (0 : Int32)), .val (.int p3)] [(.int (((p3.toUInt32 >>> ((16 : Int32) &&& 31).toUInt32).toInt32).toInt8.toInt32)), (.int (2 : Int32)), (.ref a1)])) rfl rfl (hb hby d1_24)
  have V11 := Arv.set Ar11 q11 S11 M11 H11 G11 (fits_nar_byte _) W11 2 rfl (Nat.le_of_ble_eq_true rfl)
  have f13 : Arv Z h11 a1 k1 .byte (13 : Int32) [(.int (nar .byte (p3.toInt8.toInt32))), (.int (nar .byte (((p3.toUInt32 >>> ((8 : Int32) &&& 31).toUInt32).toInt32).toInt8.toInt32))), (.int (nar .byte (((p3.toUInt32 >>> ((16 : Int32) &&& 31).toUInt32).toInt32).toInt8.toInt32))), (.int u3), (.int u4), (.int u5), (.int u6), (.int u7), (.int u8), (.int u9), (.int u10), (.int u11), (.int u12)] (.int (0 : Int32)) := V11
  have Zh14 : n0 ≤ h11.size := Nat.le_trans Zh9 (Nat.le_of_eq W11.size.symm)
  have N11 := Fr.snoc X11 N6 g_a1
  have K15 := K10.wr W11 (Or.inl (List.mem_of_getElem? (i := 0) rfl))
  refine own_go st11 ?_
  show own_Fin p e below _ (T11.setTop (mkF m 25 #[.val (.ref a1), .val (.int (0 : Int32)), .val (.int p3)] []))
  refine own_go (fun t k => XS.aloadN X11.here hx rfl (hb hby d1_25) rfl rfl  (XS.iloadN X11.here hx rfl (hb hby d1_26) rfl  (XS.iconst X11.here hx rfl (hb hby d1_27) (XS.iadd X11.here hx rfl (hb hby d1_28) rfl k)))) ?_
  show own_Fin p e below _ (T11.setTop (mkF m 29 #[.val (.ref a1), .val (.int (0 : Int32)), .val (.int p3)] [(.int (3 : Int32)), (.ref a1)]))
  refine own_go (fun t k => XS.iloadN X11.here hx rfl (hb hby d1_29) rfl  (XS.bipush X11.here hx rfl (hb hby d1_30) (XS.iushr X11.here hx rfl (hb hby d1_32) rfl (XS.i2b X11.here hx rfl (hb hby d1_33) rfl k)))) ?_
  show own_Fin p e below _ (T11.setTop (mkF m 34 #[.val (.ref a1), .val (.int (0 : Int32)), .val (.int p3)] [(.int (((p3.toUInt32 >>> ((24 : Int32) &&& 31).toUInt32).toInt32).toInt8.toInt32)), (.int (3 : Int32)), (.ref a1)]))
  obtain ⟨cl16, Ar16, q16, S16, M16, H16, G16⟩ := (id f13)
  have hin16 : ¬ ((3 : Int32) < 0 ∨ cl16.slots.size ≤ ((3 : Int32)).toNatClampNeg) := inb_of S16 ⟨by decide, by decide⟩
  obtain ⟨T16, h16, X16, e16, W16, st16⟩ := stB X11 hx hZ e11 Ar16 (j := (3 : Int32)) hin16 (g := (mkF m 34 #[.val (.ref a1), .val (.int (0 : Int32)), .val (.int p3)] [(.int (((p3.toUInt32 >>> ((24 : Int32) &&& 31).toUInt32).toInt32).toInt8.toInt32)), (.int (3 : Int32)), (.ref a1)])) rfl rfl (hb hby d1_34)
  have V16 := Arv.set Ar16 q16 S16 M16 H16 G16 (fits_nar_byte _) W16 3 rfl (Nat.le_of_ble_eq_true rfl)
  have f18 : Arv Z h16 a1 k1 .byte (13 : Int32) [(.int (nar .byte (p3.toInt8.toInt32))), (.int (nar .byte (((p3.toUInt32 >>> ((8 : Int32) &&& 31).toUInt32).toInt32).toInt8.toInt32))), (.int (nar .byte (((p3.toUInt32 >>> ((16 : Int32) &&& 31).toUInt32).toInt32).toInt8.toInt32))), (.int (nar .byte (((p3.toUInt32 >>> ((24 : Int32) &&& 31).toUInt32).toInt32).toInt8.toInt32))), (.int u4), (.int u5), (.int u6), (.int u7), (.int u8), (.int u9), (.int u10), (.int u11), (.int u12)] (.int (0 : Int32)) := V16
  have Zh19 : n0 ≤ h16.size := Nat.le_trans Zh14 (Nat.le_of_eq W16.size.symm)
  have N16 := Fr.snoc X16 N11 g_a1
  have K20 := K15.wr W16 (Or.inl (List.mem_of_getElem? (i := 0) rfl))
  refine own_go st16 ?_
  show own_Fin p e below _ (T16.setTop (mkF m 35 #[.val (.ref a1), .val (.int (0 : Int32)), .val (.int p3)] []))
  exact own_out X16 (fun _ => rfl) Bd.notSynchronized (fun fs hr => X16.returnOut hx Bd.returns (hb hby d1_35) hr) (by rw [e16]; exact ⟨rfl, N16, K20, f18⟩) (by decide) (by decide)
theorem ef_1p1 (m : MethodId) (x0 : Addr) (x1 : Int32) (x2 : Int32)  : entryFrame m #[(.ref x0), (.int x1), (.int x2)] 3 = mkF m 0 #[.val (.ref x0), .val (.int x1), .val (.int x2)] [] := by first | (simp [entryFrame, mkF, argsToLocals, Value.category]; done) | rfl
def own_q1p1 (Z : State) (a1 : Addr) (p3 : Int32) (k1 : ClassId) (u0 u1 u2 u3 u4 u5 u6 u7 u8 u9 u10 u11 u12 : Int32) (h0 : Heap) (n0 : Nat) (v : Option Value) (h : Heap) (L : List Loc) : Prop := v = none ∧ Fr n0 L ∧ Keep h0 h [a1] ∧ Arv Z h a1 k1 .byte (13 : Int32) [(.int u0), (.int (nar .byte (p3.toInt8.toInt32))), (.int (nar .byte (((p3.toUInt32 >>> ((8 : Int32) &&& 31).toUInt32).toInt32).toInt8.toInt32))), (.int (nar .byte (((p3.toUInt32 >>> ((16 : Int32) &&& 31).toUInt32).toInt32).toInt8.toInt32))), (.int (nar .byte (((p3.toUInt32 >>> ((24 : Int32) &&& 31).toUInt32).toInt32).toInt8.toInt32))), (.int u5), (.int u6), (.int u7), (.int u8), (.int u9), (.int u10), (.int u11), (.int u12)] (.int (0 : Int32))
set_option maxRecDepth 65536 in
set_option maxHeartbeats 40000000 in
theorem rm1p1 (l : Launch) (Z : State) (a0 : Array Value) (hw : ∀ d ∈ tables_1, d.before a0 Z = true) (ws : List Jvm.Cond) (a1 : Addr) (p3 : Int32) (k1 : ClassId) (u0 u1 u2 u3 u4 u5 u6 u7 u8 u9 u10 u11 u12 : Int32) (h0 : Heap) (n0 : Nat) (Z0 : n0 ≤ h0.size) (V_a1 : Arv Z h0 a1 k1 .byte (13 : Int32) [(.int u0), (.int u1), (.int u2), (.int u3), (.int u4), (.int u5), (.int u6), (.int u7), (.int u8), (.int u9), (.int u10), (.int u11), (.int u12)] (.int (0 : Int32))) (g_a1 : n0 ≤ a1) :
    MetFree l (⟨"com/example/palimpsest/palimpsest/chain/CurveScalarsDecodePinLaw", "put", "([BII)V"⟩ : MethodName) (head1 (Jvm.Cond.code (⟨"com/example/palimpsest/palimpsest/chain/CurveScalarsDecodePinLaw", "put", "([BII)V"⟩ : MethodName) method_2_code 3 none :: ws) ({ frames := 0, cells := 0, slots := 0, locals := 0 } : Room)) (fun a U => a = #[(.ref a1), (.int (1 : Int32)), (.int p3)] ∧ Z.Warmed39 U.vm ∧ U.heap = h0) (fun _ _ _ _ _ => True) (fun _ U o U' => ∃ v L, o = .returned v ∧ (own_q1p1 Z a1 p3 k1 u0 u1 u2 u3 u4 u5 u6 u7 u8 u9 u10 u11 u12 h0 n0) v U'.heap L ∧ FrameEnd U o U' L ({ frames := 0, cells := 0, slots := 0, locals := 0 } : Room).cells ({ frames := 0, cells := 0, slots := 0, locals := 0 } : Room).slots) := by
  refine MetFree.of_bodySF (plainFor_of_name pn_0) hisR ?_
  intro p e s m args below meth c s₁ Bd hml0 hP hK
  obtain ⟨rfl, hZ, hh⟩ := hP
  have hx := Bd.exec
  have hby := Bd.bytes
  have hml : c.maxLocals = 3 := hml0
  have hown : s.vm.findClass "com/example/palimpsest/palimpsest/chain/CurveScalarsDecodePinLaw" = some m.cls := findClass_of_methodNamed Bd.named
  have hnm := (name_of_methodNamed Bd.named Bd.method).1
  have X0 : Stand p l e ({ frames := 0, cells := 0, slots := 0, locals := 0 } : Room) s m #[(.ref a1), (.int (1 : Int32)), (.int p3)] below meth c s₁ [] 0 0 := Stand.of_body Bd
  have e0 : s₁.heap = h0 := by rw [← hh, Bd.state]; rfl
  have N0 := Fr.nil n0
  have Kz := Keep.refl h0 [a1]
  show own_Fin p e below (own_A s ({ frames := 0, cells := 0, slots := 0, locals := 0 } : Room).cells ({ frames := 0, cells := 0, slots := 0, locals := 0 } : Room).slots (own_q1p1 Z a1 p3 k1 u0 u1 u2 u3 u4 u5 u6 u7 u8 u9 u10 u11 u12 h0 n0)) _
  refine own_go (fun t k => castTop (ef_1p1 m (a1) ((1 : Int32)) (p3)) k) ?_
  show own_Fin p e below _ (s₁.setTop (mkF m 0 #[.val (.ref a1), .val (.int (1 : Int32)), .val (.int p3)] []))
  refine own_go (fun t k => XS.aloadN X0.here hx rfl (hb hby d1_0) rfl rfl  (XS.iloadN X0.here hx rfl (hb hby d1_1) rfl  (XS.iloadN X0.here hx rfl (hb hby d1_2) rfl  (XS.i2b X0.here hx rfl (hb hby d1_3) rfl k)))) ?_
  show own_Fin p e below _ (s₁.setTop (mkF m 4 #[.val (.ref a1), .val (.int (1 : Int32)), .val (.int p3)] [(.int (p3.toInt8.toInt32)), (.int (1 : Int32)), (.ref a1)]))
  obtain ⟨cl1, Ar1, q1, S1, M1, H1, G1⟩ := (id V_a1)
  have hin1 : ¬ ((1 : Int32) < 0 ∨ cl1.slots.size ≤ ((1 : Int32)).toNatClampNeg) := inb_of S1 ⟨by decide, by decide⟩
  obtain ⟨T1, h1, X1, e1, W1, st1⟩ := stB X0 hx hZ e0 Ar1 (j := (1 : Int32)) hin1 (g := (mkF m 4 #[.val (.ref a1), .val (.int (1 : Int32)), .val (.int p3)] [(.int (p3.toInt8.toInt32)), (.int (1 : Int32)), (.ref a1)])) rfl rfl (hb hby d1_4)
  have V1 := Arv.set Ar1 q1 S1 M1 H1 G1 (fits_nar_byte _) W1 1 rfl (Nat.le_of_ble_eq_true rfl)
  have f3 : Arv Z h1 a1 k1 .byte (13 : Int32) [(.int u0), (.int (nar .byte (p3.toInt8.toInt32))), (.int u2), (.int u3), (.int u4), (.int u5), (.int u6), (.int u7), (.int u8), (.int u9), (.int u10), (.int u11), (.int u12)] (.int (0 : Int32)) := V1
  have Zh4 : n0 ≤ h1.size := Nat.le_trans Z0 (Nat.le_of_eq W1.size.symm)
  have N1 := Fr.snoc X1 N0 g_a1
  have K5 := Kz.wr W1 (Or.inl (List.mem_of_getElem? (i := 0) rfl))
  refine own_go st1 ?_
  show own_Fin p e below _ (T1.setTop (mkF m 5 #[.val (.ref a1), .val (.int (1 : Int32)), .val (.int p3)] []))
  refine own_go (fun t k => XS.aloadN X1.here hx rfl (hb hby d1_5) rfl rfl  (XS.iloadN X1.here hx rfl (hb hby d1_6) rfl  (XS.iconst X1.here hx rfl (hb hby d1_7) (XS.iadd X1.here hx rfl (hb hby d1_8) rfl k)))) ?_
  show own_Fin p e below _ (T1.setTop (mkF m 9 #[.val (.ref a1), .val (.int (1 : Int32)), .val (.int p3)] [(.int (2 : Int32)), (.ref a1)]))
  refine own_go (fun t k => XS.iloadN X1.here hx rfl (hb hby d1_9) rfl  (XS.bipush X1.here hx rfl (hb hby d1_10) (XS.iushr X1.here hx rfl (hb hby d1_12) rfl (XS.i2b X1.here hx rfl (hb hby d1_13) rfl k)))) ?_
  show own_Fin p e below _ (T1.setTop (mkF m 14 #[.val (.ref a1), .val (.int (1 : Int32)), .val (.int p3)] [(.int (((p3.toUInt32 >>> ((8 : Int32) &&& 31).toUInt32).toInt32).toInt8.toInt32)), (.int (2 : Int32)), (.ref a1)]))
  obtain ⟨cl6, Ar6, q6, S6, M6, H6, G6⟩ := (id f3)
  have hin6 : ¬ ((2 : Int32) < 0 ∨ cl6.slots.size ≤ ((2 : Int32)).toNatClampNeg) := inb_of S6 ⟨by decide, by decide⟩
  obtain ⟨T6, h6, X6, e6, W6, st6⟩ := stB X1 hx hZ e1 Ar6 (j := (2 : Int32)) hin6 (g := (mkF m 14 #[.val (.ref a1), .val (.int (1 : Int32)), .val (.int p3)] [(.int (((p3.toUInt32 >>> ((8 : Int32) &&& 31).toUInt32).toInt32).toInt8.toInt32)), (.int (2 : Int32)), (.ref a1)])) rfl rfl (hb hby d1_14)
  have V6 := Arv.set Ar6 q6 S6 M6 H6 G6 (fits_nar_byte _) W6 2 rfl (Nat.le_of_ble_eq_true rfl)
  have f8 : Arv Z h6 a1 k1 .byte (13 : Int32) [(.int u0), (.int (nar .byte (p3.toInt8.toInt32))), (.int (nar .byte (((p3.toUInt32 >>> ((8 : Int32) &&& 31).toUInt32).toInt32).toInt8.toInt32))), (.int u3), (.int u4), (.int u5), (.int u6), (.int u7), (.int u8), (.int u9), (.int u10), (.int u11), (.int u12)] (.int (0 : Int32)) := V6
  have Zh9 : n0 ≤ h6.size := Nat.le_trans Zh4 (Nat.le_of_eq W6.size.symm)
  have N6 := Fr.snoc X6 N1 g_a1
  have K10 := K5.wr W6 (Or.inl (List.mem_of_getElem? (i := 0) rfl))
  refine own_go st6 ?_
  show own_Fin p e below _ (T6.setTop (mkF m 15 #[.val (.ref a1), .val (.int (1 : Int32)), .val (.int p3)] []))
  refine own_go (fun t k => XS.aloadN X6.here hx rfl (hb hby d1_15) rfl rfl  (XS.iloadN X6.here hx rfl (hb hby d1_16) rfl  (XS.iconst X6.here hx rfl (hb hby d1_17) (XS.iadd X6.here hx rfl (hb hby d1_18) rfl k)))) ?_
  show own_Fin p e below _ (T6.setTop (mkF m 19 #[.val (.ref a1), .val (.int (1 : Int32)), .val (.int p3)] [(.int (3 : Int32)), (.ref a1)]))
  refine own_go (fun t k => XS.iloadN X6.here hx rfl (hb hby d1_19) rfl  (XS.bipush X6.here hx rfl (hb hby d1_20) (XS.iushr X6.here hx rfl (hb hby d1_22) rfl (XS.i2b X6.here hx rfl (hb hby d1_23) rfl k)))) ?_
  show own_Fin p e below _ (T6.setTop (mkF m 24 #[.val (.ref a1), .val (.int (1 : Int32)), .val (.int p3)] [(.int (((p3.toUInt32 >>> ((16 : Int32) &&& 31).toUInt32).toInt32).toInt8.toInt32)), (.int (3 : Int32)), (.ref a1)]))
  obtain ⟨cl11, Ar11, q11, S11, M11, H11, G11⟩ := (id f8)
  have hin11 : ¬ ((3 : Int32) < 0 ∨ cl11.slots.size ≤ ((3 : Int32)).toNatClampNeg) := inb_of S11 ⟨by decide, by decide⟩
  obtain ⟨T11, h11, X11, e11, W11, st11⟩ := stB X6 hx hZ e6 Ar11 (j := (3 : Int32)) hin11 (g := (mkF m 24 #[.val (.ref a1), .val (.int (1 : Int32)), .val (.int p3)] [(.int (((p3.toUInt32 >>> ((16 : Int32) &&& 31).toUInt32).toInt32).toInt8.toInt32)), (.int (3 : Int32)), (.ref a1)])) rfl rfl (hb hby d1_24)
  have V11 := Arv.set Ar11 q11 S11 M11 H11 G11 (fits_nar_byte _) W11 3 rfl (Nat.le_of_ble_eq_true rfl)
  have f13 : Arv Z h11 a1 k1 .byte (13 : Int32) [(.int u0), (.int (nar .byte (p3.toInt8.toInt32))), (.int (nar .byte (((p3.toUInt32 >>> ((8 : Int32) &&& 31).toUInt32).toInt32).toInt8.toInt32))), (.int (nar .byte (((p3.toUInt32 >>> ((16 : Int32) &&& 31).toUInt32).toInt32).toInt8.toInt32))), (.int u4), (.int u5), (.int u6), (.int u7), (.int u8), (.int u9), (.int u10), (.int u11), (.int u12)] (.int (0 : Int32)) := V11
  have Zh14 : n0 ≤ h11.size := Nat.le_trans Zh9 (Nat.le_of_eq W11.size.symm)
  have N11 := Fr.snoc X11 N6 g_a1
  have K15 := K10.wr W11 (Or.inl (List.mem_of_getElem? (i := 0) rfl))
  refine own_go st11 ?_
  show own_Fin p e below _ (T11.setTop (mkF m 25 #[.val (.ref a1), .val (.int (1 : Int32)), .val (.int p3)] []))
  refine own_go (fun t k => XS.aloadN X11.here hx rfl (hb hby d1_25) rfl rfl  (XS.iloadN X11.here hx rfl (hb hby d1_26) rfl  (XS.iconst X11.here hx rfl (hb hby d1_27) (XS.iadd X11.here hx rfl (hb hby d1_28) rfl k)))) ?_
  show own_Fin p e below _ (T11.setTop (mkF m 29 #[.val (.ref a1), .val (.int (1 : Int32)), .val (.int p3)] [(.int (4 : Int32)), (.ref a1)]))
  refine own_go (fun t k => XS.iloadN X11.here hx rfl (hb hby d1_29) rfl  (XS.bipush X11.here hx rfl (hb hby d1_30) (XS.iushr X11.here hx rfl (hb hby d1_32) rfl (XS.i2b X11.here hx rfl (hb hby d1_33) rfl k)))) ?_
  show own_Fin p e below _ (T11.setTop (mkF m 34 #[.val (.ref a1), .val (.int (1 : Int32)), .val (.int p3)] [(.int (((p3.toUInt32 >>> ((24 : Int32) &&& 31).toUInt32).toInt32).toInt8.toInt32)), (.int (4 : Int32)), (.ref a1)]))
  obtain ⟨cl16, Ar16, q16, S16, M16, H16, G16⟩ := (id f13)
  have hin16 : ¬ ((4 : Int32) < 0 ∨ cl16.slots.size ≤ ((4 : Int32)).toNatClampNeg) := inb_of S16 ⟨by decide, by decide⟩
  obtain ⟨T16, h16, X16, e16, W16, st16⟩ := stB X11 hx hZ e11 Ar16 (j := (4 : Int32)) hin16 (g := (mkF m 34 #[.val (.ref a1), .val (.int (1 : Int32)), .val (.int p3)] [(.int (((p3.toUInt32 >>> ((24 : Int32) &&& 31).toUInt32).toInt32).toInt8.toInt32)), (.int (4 : Int32)), (.ref a1)])) rfl rfl (hb hby d1_34)
  have V16 := Arv.set Ar16 q16 S16 M16 H16 G16 (fits_nar_byte _) W16 4 rfl (Nat.le_of_ble_eq_true rfl)
  have f18 : Arv Z h16 a1 k1 .byte (13 : Int32) [(.int u0), (.int (nar .byte (p3.toInt8.toInt32))), (.int (nar .byte (((p3.toUInt32 >>> ((8 : Int32) &&& 31).toUInt32).toInt32).toInt8.toInt32))), (.int (nar .byte (((p3.toUInt32 >>> ((16 : Int32) &&& 31).toUInt32).toInt32).toInt8.toInt32))), (.int (nar .byte (((p3.toUInt32 >>> ((24 : Int32) &&& 31).toUInt32).toInt32).toInt8.toInt32))), (.int u5), (.int u6), (.int u7), (.int u8), (.int u9), (.int u10), (.int u11), (.int u12)] (.int (0 : Int32)) := V16
  have Zh19 : n0 ≤ h16.size := Nat.le_trans Zh14 (Nat.le_of_eq W16.size.symm)
  have N16 := Fr.snoc X16 N11 g_a1
  have K20 := K15.wr W16 (Or.inl (List.mem_of_getElem? (i := 0) rfl))
  refine own_go st16 ?_
  show own_Fin p e below _ (T16.setTop (mkF m 35 #[.val (.ref a1), .val (.int (1 : Int32)), .val (.int p3)] []))
  exact own_out X16 (fun _ => rfl) Bd.notSynchronized (fun fs hr => X16.returnOut hx Bd.returns (hb hby d1_35) hr) (by rw [e16]; exact ⟨rfl, N16, K20, f18⟩) (by decide) (by decide)
theorem ef_1p4 (m : MethodId) (x0 : Addr) (x1 : Int32) (x2 : Int32)  : entryFrame m #[(.ref x0), (.int x1), (.int x2)] 3 = mkF m 0 #[.val (.ref x0), .val (.int x1), .val (.int x2)] [] := by first | (simp [entryFrame, mkF, argsToLocals, Value.category]; done) | rfl
def own_q1p4 (Z : State) (a1 : Addr) (p3 : Int32) (k1 : ClassId) (u0 u1 u2 u3 u4 u5 u6 u7 u8 u9 u10 u11 u12 : Int32) (h0 : Heap) (n0 : Nat) (v : Option Value) (h : Heap) (L : List Loc) : Prop := v = none ∧ Fr n0 L ∧ Keep h0 h [a1] ∧ Arv Z h a1 k1 .byte (13 : Int32) [(.int u0), (.int u1), (.int u2), (.int u3), (.int (nar .byte (p3.toInt8.toInt32))), (.int (nar .byte (((p3.toUInt32 >>> ((8 : Int32) &&& 31).toUInt32).toInt32).toInt8.toInt32))), (.int (nar .byte (((p3.toUInt32 >>> ((16 : Int32) &&& 31).toUInt32).toInt32).toInt8.toInt32))), (.int (nar .byte (((p3.toUInt32 >>> ((24 : Int32) &&& 31).toUInt32).toInt32).toInt8.toInt32))), (.int u8), (.int u9), (.int u10), (.int u11), (.int u12)] (.int (0 : Int32))
set_option maxRecDepth 65536 in
set_option maxHeartbeats 40000000 in
theorem rm1p4 (l : Launch) (Z : State) (a0 : Array Value) (hw : ∀ d ∈ tables_1, d.before a0 Z = true) (ws : List Jvm.Cond) (a1 : Addr) (p3 : Int32) (k1 : ClassId) (u0 u1 u2 u3 u4 u5 u6 u7 u8 u9 u10 u11 u12 : Int32) (h0 : Heap) (n0 : Nat) (Z0 : n0 ≤ h0.size) (V_a1 : Arv Z h0 a1 k1 .byte (13 : Int32) [(.int u0), (.int u1), (.int u2), (.int u3), (.int u4), (.int u5), (.int u6), (.int u7), (.int u8), (.int u9), (.int u10), (.int u11), (.int u12)] (.int (0 : Int32))) (g_a1 : n0 ≤ a1) :
    MetFree l (⟨"com/example/palimpsest/palimpsest/chain/CurveScalarsDecodePinLaw", "put", "([BII)V"⟩ : MethodName) (head1 (Jvm.Cond.code (⟨"com/example/palimpsest/palimpsest/chain/CurveScalarsDecodePinLaw", "put", "([BII)V"⟩ : MethodName) method_2_code 3 none :: ws) ({ frames := 0, cells := 0, slots := 0, locals := 0 } : Room)) (fun a U => a = #[(.ref a1), (.int (4 : Int32)), (.int p3)] ∧ Z.Warmed39 U.vm ∧ U.heap = h0) (fun _ _ _ _ _ => True) (fun _ U o U' => ∃ v L, o = .returned v ∧ (own_q1p4 Z a1 p3 k1 u0 u1 u2 u3 u4 u5 u6 u7 u8 u9 u10 u11 u12 h0 n0) v U'.heap L ∧ FrameEnd U o U' L ({ frames := 0, cells := 0, slots := 0, locals := 0 } : Room).cells ({ frames := 0, cells := 0, slots := 0, locals := 0 } : Room).slots) := by
  refine MetFree.of_bodySF (plainFor_of_name pn_0) hisR ?_
  intro p e s m args below meth c s₁ Bd hml0 hP hK
  obtain ⟨rfl, hZ, hh⟩ := hP
  have hx := Bd.exec
  have hby := Bd.bytes
  have hml : c.maxLocals = 3 := hml0
  have hown : s.vm.findClass "com/example/palimpsest/palimpsest/chain/CurveScalarsDecodePinLaw" = some m.cls := findClass_of_methodNamed Bd.named
  have hnm := (name_of_methodNamed Bd.named Bd.method).1
  have X0 : Stand p l e ({ frames := 0, cells := 0, slots := 0, locals := 0 } : Room) s m #[(.ref a1), (.int (4 : Int32)), (.int p3)] below meth c s₁ [] 0 0 := Stand.of_body Bd
  have e0 : s₁.heap = h0 := by rw [← hh, Bd.state]; rfl
  have N0 := Fr.nil n0
  have Kz := Keep.refl h0 [a1]
  show own_Fin p e below (own_A s ({ frames := 0, cells := 0, slots := 0, locals := 0 } : Room).cells ({ frames := 0, cells := 0, slots := 0, locals := 0 } : Room).slots (own_q1p4 Z a1 p3 k1 u0 u1 u2 u3 u4 u5 u6 u7 u8 u9 u10 u11 u12 h0 n0)) _
  refine own_go (fun t k => castTop (ef_1p4 m (a1) ((4 : Int32)) (p3)) k) ?_
  show own_Fin p e below _ (s₁.setTop (mkF m 0 #[.val (.ref a1), .val (.int (4 : Int32)), .val (.int p3)] []))
  refine own_go (fun t k => XS.aloadN X0.here hx rfl (hb hby d1_0) rfl rfl  (XS.iloadN X0.here hx rfl (hb hby d1_1) rfl  (XS.iloadN X0.here hx rfl (hb hby d1_2) rfl  (XS.i2b X0.here hx rfl (hb hby d1_3) rfl k)))) ?_
  show own_Fin p e below _ (s₁.setTop (mkF m 4 #[.val (.ref a1), .val (.int (4 : Int32)), .val (.int p3)] [(.int (p3.toInt8.toInt32)), (.int (4 : Int32)), (.ref a1)]))
  obtain ⟨cl1, Ar1, q1, S1, M1, H1, G1⟩ := (id V_a1)
  have hin1 : ¬ ((4 : Int32) < 0 ∨ cl1.slots.size ≤ ((4 : Int32)).toNatClampNeg) := inb_of S1 ⟨by decide, by decide⟩
  obtain ⟨T1, h1, X1, e1, W1, st1⟩ := stB X0 hx hZ e0 Ar1 (j := (4 : Int32)) hin1 (g := (mkF m 4 #[.val (.ref a1), .val (.int (4 : Int32)), .val (.int p3)] [(.int (p3.toInt8.toInt32)), (.int (4 : Int32)), (.ref a1)])) rfl rfl (hb hby d1_4)
  have V1 := Arv.set Ar1 q1 S1 M1 H1 G1 (fits_nar_byte _) W1 4 rfl (Nat.le_of_ble_eq_true rfl)
  have f3 : Arv Z h1 a1 k1 .byte (13 : Int32) [(.int u0), (.int u1), (.int u2), (.int u3), (.int (nar .byte (p3.toInt8.toInt32))), (.int u5), (.int u6), (.int u7), (.int u8), (.int u9), (.int u10), (.int u11), (.int u12)] (.int (0 : Int32)) := V1
  have Zh4 : n0 ≤ h1.size := Nat.le_trans Z0 (Nat.le_of_eq W1.size.symm)
  have N1 := Fr.snoc X1 N0 g_a1
  have K5 := Kz.wr W1 (Or.inl (List.mem_of_getElem? (i := 0) rfl))
  refine own_go st1 ?_
  show own_Fin p e below _ (T1.setTop (mkF m 5 #[.val (.ref a1), .val (.int (4 : Int32)), .val (.int p3)] []))
  refine own_go (fun t k => XS.aloadN X1.here hx rfl (hb hby d1_5) rfl rfl  (XS.iloadN X1.here hx rfl (hb hby d1_6) rfl  (XS.iconst X1.here hx rfl (hb hby d1_7) (XS.iadd X1.here hx rfl (hb hby d1_8) rfl k)))) ?_
  show own_Fin p e below _ (T1.setTop (mkF m 9 #[.val (.ref a1), .val (.int (4 : Int32)), .val (.int p3)] [(.int (5 : Int32)), (.ref a1)]))
  refine own_go (fun t k => XS.iloadN X1.here hx rfl (hb hby d1_9) rfl  (XS.bipush X1.here hx rfl (hb hby d1_10) (XS.iushr X1.here hx rfl (hb hby d1_12) rfl (XS.i2b X1.here hx rfl (hb hby d1_13) rfl k)))) ?_
  show own_Fin p e below _ (T1.setTop (mkF m 14 #[.val (.ref a1), .val (.int (4 : Int32)), .val (.int p3)] [(.int (((p3.toUInt32 >>> ((8 : Int32) &&& 31).toUInt32).toInt32).toInt8.toInt32)), (.int (5 : Int32)), (.ref a1)]))
  obtain ⟨cl6, Ar6, q6, S6, M6, H6, G6⟩ := (id f3)
  have hin6 : ¬ ((5 : Int32) < 0 ∨ cl6.slots.size ≤ ((5 : Int32)).toNatClampNeg) := inb_of S6 ⟨by decide, by decide⟩
  obtain ⟨T6, h6, X6, e6, W6, st6⟩ := stB X1 hx hZ e1 Ar6 (j := (5 : Int32)) hin6 (g := (mkF m 14 #[.val (.ref a1), .val (.int (4 : Int32)), .val (.int p3)] [(.int (((p3.toUInt32 >>> ((8 : Int32) &&& 31).toUInt32).toInt32).toInt8.toInt32)), (.int (5 : Int32)), (.ref a1)])) rfl rfl (hb hby d1_14)
  have V6 := Arv.set Ar6 q6 S6 M6 H6 G6 (fits_nar_byte _) W6 5 rfl (Nat.le_of_ble_eq_true rfl)
  have f8 : Arv Z h6 a1 k1 .byte (13 : Int32) [(.int u0), (.int u1), (.int u2), (.int u3), (.int (nar .byte (p3.toInt8.toInt32))), (.int (nar .byte (((p3.toUInt32 >>> ((8 : Int32) &&& 31).toUInt32).toInt32).toInt8.toInt32))), (.int u6), (.int u7), (.int u8), (.int u9), (.int u10), (.int u11), (.int u12)] (.int (0 : Int32)) := V6
  have Zh9 : n0 ≤ h6.size := Nat.le_trans Zh4 (Nat.le_of_eq W6.size.symm)
  have N6 := Fr.snoc X6 N1 g_a1
  have K10 := K5.wr W6 (Or.inl (List.mem_of_getElem? (i := 0) rfl))
  refine own_go st6 ?_
  show own_Fin p e below _ (T6.setTop (mkF m 15 #[.val (.ref a1), .val (.int (4 : Int32)), .val (.int p3)] []))
  refine own_go (fun t k => XS.aloadN X6.here hx rfl (hb hby d1_15) rfl rfl  (XS.iloadN X6.here hx rfl (hb hby d1_16) rfl  (XS.iconst X6.here hx rfl (hb hby d1_17) (XS.iadd X6.here hx rfl (hb hby d1_18) rfl k)))) ?_
  show own_Fin p e below _ (T6.setTop (mkF m 19 #[.val (.ref a1), .val (.int (4 : Int32)), .val (.int p3)] [(.int (6 : Int32)), (.ref a1)]))
  refine own_go (fun t k => XS.iloadN X6.here hx rfl (hb hby d1_19) rfl  (XS.bipush X6.here hx rfl (hb hby d1_20) (XS.iushr X6.here hx rfl (hb hby d1_22) rfl (XS.i2b X6.here hx rfl (hb hby d1_23) rfl k)))) ?_
  show own_Fin p e below _ (T6.setTop (mkF m 24 #[.val (.ref a1), .val (.int (4 : Int32)), .val (.int p3)] [(.int (((p3.toUInt32 >>> ((16 : Int32) &&& 31).toUInt32).toInt32).toInt8.toInt32)), (.int (6 : Int32)), (.ref a1)]))
  obtain ⟨cl11, Ar11, q11, S11, M11, H11, G11⟩ := (id f8)
  have hin11 : ¬ ((6 : Int32) < 0 ∨ cl11.slots.size ≤ ((6 : Int32)).toNatClampNeg) := inb_of S11 ⟨by decide, by decide⟩
  obtain ⟨T11, h11, X11, e11, W11, st11⟩ := stB X6 hx hZ e6 Ar11 (j := (6 : Int32)) hin11 (g := (mkF m 24 #[.val (.ref a1), .val (.int (4 : Int32)), .val (.int p3)] [(.int (((p3.toUInt32 >>> ((16 : Int32) &&& 31).toUInt32).toInt32).toInt8.toInt32)), (.int (6 : Int32)), (.ref a1)])) rfl rfl (hb hby d1_24)
  have V11 := Arv.set Ar11 q11 S11 M11 H11 G11 (fits_nar_byte _) W11 6 rfl (Nat.le_of_ble_eq_true rfl)
  have f13 : Arv Z h11 a1 k1 .byte (13 : Int32) [(.int u0), (.int u1), (.int u2), (.int u3), (.int (nar .byte (p3.toInt8.toInt32))), (.int (nar .byte (((p3.toUInt32 >>> ((8 : Int32) &&& 31).toUInt32).toInt32).toInt8.toInt32))), (.int (nar .byte (((p3.toUInt32 >>> ((16 : Int32) &&& 31).toUInt32).toInt32).toInt8.toInt32))), (.int u7), (.int u8), (.int u9), (.int u10), (.int u11), (.int u12)] (.int (0 : Int32)) := V11
  have Zh14 : n0 ≤ h11.size := Nat.le_trans Zh9 (Nat.le_of_eq W11.size.symm)
  have N11 := Fr.snoc X11 N6 g_a1
  have K15 := K10.wr W11 (Or.inl (List.mem_of_getElem? (i := 0) rfl))
  refine own_go st11 ?_
  show own_Fin p e below _ (T11.setTop (mkF m 25 #[.val (.ref a1), .val (.int (4 : Int32)), .val (.int p3)] []))
  refine own_go (fun t k => XS.aloadN X11.here hx rfl (hb hby d1_25) rfl rfl  (XS.iloadN X11.here hx rfl (hb hby d1_26) rfl  (XS.iconst X11.here hx rfl (hb hby d1_27) (XS.iadd X11.here hx rfl (hb hby d1_28) rfl k)))) ?_
  show own_Fin p e below _ (T11.setTop (mkF m 29 #[.val (.ref a1), .val (.int (4 : Int32)), .val (.int p3)] [(.int (7 : Int32)), (.ref a1)]))
  refine own_go (fun t k => XS.iloadN X11.here hx rfl (hb hby d1_29) rfl  (XS.bipush X11.here hx rfl (hb hby d1_30) (XS.iushr X11.here hx rfl (hb hby d1_32) rfl (XS.i2b X11.here hx rfl (hb hby d1_33) rfl k)))) ?_
  show own_Fin p e below _ (T11.setTop (mkF m 34 #[.val (.ref a1), .val (.int (4 : Int32)), .val (.int p3)] [(.int (((p3.toUInt32 >>> ((24 : Int32) &&& 31).toUInt32).toInt32).toInt8.toInt32)), (.int (7 : Int32)), (.ref a1)]))
  obtain ⟨cl16, Ar16, q16, S16, M16, H16, G16⟩ := (id f13)
  have hin16 : ¬ ((7 : Int32) < 0 ∨ cl16.slots.size ≤ ((7 : Int32)).toNatClampNeg) := inb_of S16 ⟨by decide, by decide⟩
  obtain ⟨T16, h16, X16, e16, W16, st16⟩ := stB X11 hx hZ e11 Ar16 (j := (7 : Int32)) hin16 (g := (mkF m 34 #[.val (.ref a1), .val (.int (4 : Int32)), .val (.int p3)] [(.int (((p3.toUInt32 >>> ((24 : Int32) &&& 31).toUInt32).toInt32).toInt8.toInt32)), (.int (7 : Int32)), (.ref a1)])) rfl rfl (hb hby d1_34)
  have V16 := Arv.set Ar16 q16 S16 M16 H16 G16 (fits_nar_byte _) W16 7 rfl (Nat.le_of_ble_eq_true rfl)
  have f18 : Arv Z h16 a1 k1 .byte (13 : Int32) [(.int u0), (.int u1), (.int u2), (.int u3), (.int (nar .byte (p3.toInt8.toInt32))), (.int (nar .byte (((p3.toUInt32 >>> ((8 : Int32) &&& 31).toUInt32).toInt32).toInt8.toInt32))), (.int (nar .byte (((p3.toUInt32 >>> ((16 : Int32) &&& 31).toUInt32).toInt32).toInt8.toInt32))), (.int (nar .byte (((p3.toUInt32 >>> ((24 : Int32) &&& 31).toUInt32).toInt32).toInt8.toInt32))), (.int u8), (.int u9), (.int u10), (.int u11), (.int u12)] (.int (0 : Int32)) := V16
  have Zh19 : n0 ≤ h16.size := Nat.le_trans Zh14 (Nat.le_of_eq W16.size.symm)
  have N16 := Fr.snoc X16 N11 g_a1
  have K20 := K15.wr W16 (Or.inl (List.mem_of_getElem? (i := 0) rfl))
  refine own_go st16 ?_
  show own_Fin p e below _ (T16.setTop (mkF m 35 #[.val (.ref a1), .val (.int (4 : Int32)), .val (.int p3)] []))
  exact own_out X16 (fun _ => rfl) Bd.notSynchronized (fun fs hr => X16.returnOut hx Bd.returns (hb hby d1_35) hr) (by rw [e16]; exact ⟨rfl, N16, K20, f18⟩) (by decide) (by decide)
theorem ef_1p5 (m : MethodId) (x0 : Addr) (x1 : Int32) (x2 : Int32)  : entryFrame m #[(.ref x0), (.int x1), (.int x2)] 3 = mkF m 0 #[.val (.ref x0), .val (.int x1), .val (.int x2)] [] := by first | (simp [entryFrame, mkF, argsToLocals, Value.category]; done) | rfl
def own_q1p5 (Z : State) (a1 : Addr) (p3 : Int32) (k1 : ClassId) (u0 u1 u2 u3 u4 u5 u6 u7 u8 u9 u10 u11 u12 : Int32) (h0 : Heap) (n0 : Nat) (v : Option Value) (h : Heap) (L : List Loc) : Prop := v = none ∧ Fr n0 L ∧ Keep h0 h [a1] ∧ Arv Z h a1 k1 .byte (13 : Int32) [(.int u0), (.int u1), (.int u2), (.int u3), (.int u4), (.int (nar .byte (p3.toInt8.toInt32))), (.int (nar .byte (((p3.toUInt32 >>> ((8 : Int32) &&& 31).toUInt32).toInt32).toInt8.toInt32))), (.int (nar .byte (((p3.toUInt32 >>> ((16 : Int32) &&& 31).toUInt32).toInt32).toInt8.toInt32))), (.int (nar .byte (((p3.toUInt32 >>> ((24 : Int32) &&& 31).toUInt32).toInt32).toInt8.toInt32))), (.int u9), (.int u10), (.int u11), (.int u12)] (.int (0 : Int32))
set_option maxRecDepth 65536 in
set_option maxHeartbeats 40000000 in
theorem rm1p5 (l : Launch) (Z : State) (a0 : Array Value) (hw : ∀ d ∈ tables_1, d.before a0 Z = true) (ws : List Jvm.Cond) (a1 : Addr) (p3 : Int32) (k1 : ClassId) (u0 u1 u2 u3 u4 u5 u6 u7 u8 u9 u10 u11 u12 : Int32) (h0 : Heap) (n0 : Nat) (Z0 : n0 ≤ h0.size) (V_a1 : Arv Z h0 a1 k1 .byte (13 : Int32) [(.int u0), (.int u1), (.int u2), (.int u3), (.int u4), (.int u5), (.int u6), (.int u7), (.int u8), (.int u9), (.int u10), (.int u11), (.int u12)] (.int (0 : Int32))) (g_a1 : n0 ≤ a1) :
    MetFree l (⟨"com/example/palimpsest/palimpsest/chain/CurveScalarsDecodePinLaw", "put", "([BII)V"⟩ : MethodName) (head1 (Jvm.Cond.code (⟨"com/example/palimpsest/palimpsest/chain/CurveScalarsDecodePinLaw", "put", "([BII)V"⟩ : MethodName) method_2_code 3 none :: ws) ({ frames := 0, cells := 0, slots := 0, locals := 0 } : Room)) (fun a U => a = #[(.ref a1), (.int (5 : Int32)), (.int p3)] ∧ Z.Warmed39 U.vm ∧ U.heap = h0) (fun _ _ _ _ _ => True) (fun _ U o U' => ∃ v L, o = .returned v ∧ (own_q1p5 Z a1 p3 k1 u0 u1 u2 u3 u4 u5 u6 u7 u8 u9 u10 u11 u12 h0 n0) v U'.heap L ∧ FrameEnd U o U' L ({ frames := 0, cells := 0, slots := 0, locals := 0 } : Room).cells ({ frames := 0, cells := 0, slots := 0, locals := 0 } : Room).slots) := by
  refine MetFree.of_bodySF (plainFor_of_name pn_0) hisR ?_
  intro p e s m args below meth c s₁ Bd hml0 hP hK
  obtain ⟨rfl, hZ, hh⟩ := hP
  have hx := Bd.exec
  have hby := Bd.bytes
  have hml : c.maxLocals = 3 := hml0
  have hown : s.vm.findClass "com/example/palimpsest/palimpsest/chain/CurveScalarsDecodePinLaw" = some m.cls := findClass_of_methodNamed Bd.named
  have hnm := (name_of_methodNamed Bd.named Bd.method).1
  have X0 : Stand p l e ({ frames := 0, cells := 0, slots := 0, locals := 0 } : Room) s m #[(.ref a1), (.int (5 : Int32)), (.int p3)] below meth c s₁ [] 0 0 := Stand.of_body Bd
  have e0 : s₁.heap = h0 := by rw [← hh, Bd.state]; rfl
  have N0 := Fr.nil n0
  have Kz := Keep.refl h0 [a1]
  show own_Fin p e below (own_A s ({ frames := 0, cells := 0, slots := 0, locals := 0 } : Room).cells ({ frames := 0, cells := 0, slots := 0, locals := 0 } : Room).slots (own_q1p5 Z a1 p3 k1 u0 u1 u2 u3 u4 u5 u6 u7 u8 u9 u10 u11 u12 h0 n0)) _
  refine own_go (fun t k => castTop (ef_1p5 m (a1) ((5 : Int32)) (p3)) k) ?_
  show own_Fin p e below _ (s₁.setTop (mkF m 0 #[.val (.ref a1), .val (.int (5 : Int32)), .val (.int p3)] []))
  refine own_go (fun t k => XS.aloadN X0.here hx rfl (hb hby d1_0) rfl rfl  (XS.iloadN X0.here hx rfl (hb hby d1_1) rfl  (XS.iloadN X0.here hx rfl (hb hby d1_2) rfl  (XS.i2b X0.here hx rfl (hb hby d1_3) rfl k)))) ?_
  show own_Fin p e below _ (s₁.setTop (mkF m 4 #[.val (.ref a1), .val (.int (5 : Int32)), .val (.int p3)] [(.int (p3.toInt8.toInt32)), (.int (5 : Int32)), (.ref a1)]))
  obtain ⟨cl1, Ar1, q1, S1, M1, H1, G1⟩ := (id V_a1)
  have hin1 : ¬ ((5 : Int32) < 0 ∨ cl1.slots.size ≤ ((5 : Int32)).toNatClampNeg) := inb_of S1 ⟨by decide, by decide⟩
  obtain ⟨T1, h1, X1, e1, W1, st1⟩ := stB X0 hx hZ e0 Ar1 (j := (5 : Int32)) hin1 (g := (mkF m 4 #[.val (.ref a1), .val (.int (5 : Int32)), .val (.int p3)] [(.int (p3.toInt8.toInt32)), (.int (5 : Int32)), (.ref a1)])) rfl rfl (hb hby d1_4)
  have V1 := Arv.set Ar1 q1 S1 M1 H1 G1 (fits_nar_byte _) W1 5 rfl (Nat.le_of_ble_eq_true rfl)
  have f3 : Arv Z h1 a1 k1 .byte (13 : Int32) [(.int u0), (.int u1), (.int u2), (.int u3), (.int u4), (.int (nar .byte (p3.toInt8.toInt32))), (.int u6), (.int u7), (.int u8), (.int u9), (.int u10), (.int u11), (.int u12)] (.int (0 : Int32)) := V1
  have Zh4 : n0 ≤ h1.size := Nat.le_trans Z0 (Nat.le_of_eq W1.size.symm)
  have N1 := Fr.snoc X1 N0 g_a1
  have K5 := Kz.wr W1 (Or.inl (List.mem_of_getElem? (i := 0) rfl))
  refine own_go st1 ?_
  show own_Fin p e below _ (T1.setTop (mkF m 5 #[.val (.ref a1), .val (.int (5 : Int32)), .val (.int p3)] []))
  refine own_go (fun t k => XS.aloadN X1.here hx rfl (hb hby d1_5) rfl rfl  (XS.iloadN X1.here hx rfl (hb hby d1_6) rfl  (XS.iconst X1.here hx rfl (hb hby d1_7) (XS.iadd X1.here hx rfl (hb hby d1_8) rfl k)))) ?_
  show own_Fin p e below _ (T1.setTop (mkF m 9 #[.val (.ref a1), .val (.int (5 : Int32)), .val (.int p3)] [(.int (6 : Int32)), (.ref a1)]))
  refine own_go (fun t k => XS.iloadN X1.here hx rfl (hb hby d1_9) rfl  (XS.bipush X1.here hx rfl (hb hby d1_10) (XS.iushr X1.here hx rfl (hb hby d1_12) rfl (XS.i2b X1.here hx rfl (hb hby d1_13) rfl k)))) ?_
  show own_Fin p e below _ (T1.setTop (mkF m 14 #[.val (.ref a1), .val (.int (5 : Int32)), .val (.int p3)] [(.int (((p3.toUInt32 >>> ((8 : Int32) &&& 31).toUInt32).toInt32).toInt8.toInt32)), (.int (6 : Int32)), (.ref a1)]))
  obtain ⟨cl6, Ar6, q6, S6, M6, H6, G6⟩ := (id f3)
  have hin6 : ¬ ((6 : Int32) < 0 ∨ cl6.slots.size ≤ ((6 : Int32)).toNatClampNeg) := inb_of S6 ⟨by decide, by decide⟩
  obtain ⟨T6, h6, X6, e6, W6, st6⟩ := stB X1 hx hZ e1 Ar6 (j := (6 : Int32)) hin6 (g := (mkF m 14 #[.val (.ref a1), .val (.int (5 : Int32)), .val (.int p3)] [(.int (((p3.toUInt32 >>> ((8 : Int32) &&& 31).toUInt32).toInt32).toInt8.toInt32)), (.int (6 : Int32)), (.ref a1)])) rfl rfl (hb hby d1_14)
  have V6 := Arv.set Ar6 q6 S6 M6 H6 G6 (fits_nar_byte _) W6 6 rfl (Nat.le_of_ble_eq_true rfl)
  have f8 : Arv Z h6 a1 k1 .byte (13 : Int32) [(.int u0), (.int u1), (.int u2), (.int u3), (.int u4), (.int (nar .byte (p3.toInt8.toInt32))), (.int (nar .byte (((p3.toUInt32 >>> ((8 : Int32) &&& 31).toUInt32).toInt32).toInt8.toInt32))), (.int u7), (.int u8), (.int u9), (.int u10), (.int u11), (.int u12)] (.int (0 : Int32)) := V6
  have Zh9 : n0 ≤ h6.size := Nat.le_trans Zh4 (Nat.le_of_eq W6.size.symm)
  have N6 := Fr.snoc X6 N1 g_a1
  have K10 := K5.wr W6 (Or.inl (List.mem_of_getElem? (i := 0) rfl))
  refine own_go st6 ?_
  show own_Fin p e below _ (T6.setTop (mkF m 15 #[.val (.ref a1), .val (.int (5 : Int32)), .val (.int p3)] []))
  refine own_go (fun t k => XS.aloadN X6.here hx rfl (hb hby d1_15) rfl rfl  (XS.iloadN X6.here hx rfl (hb hby d1_16) rfl  (XS.iconst X6.here hx rfl (hb hby d1_17) (XS.iadd X6.here hx rfl (hb hby d1_18) rfl k)))) ?_
  show own_Fin p e below _ (T6.setTop (mkF m 19 #[.val (.ref a1), .val (.int (5 : Int32)), .val (.int p3)] [(.int (7 : Int32)), (.ref a1)]))
  refine own_go (fun t k => XS.iloadN X6.here hx rfl (hb hby d1_19) rfl  (XS.bipush X6.here hx rfl (hb hby d1_20) (XS.iushr X6.here hx rfl (hb hby d1_22) rfl (XS.i2b X6.here hx rfl (hb hby d1_23) rfl k)))) ?_
  show own_Fin p e below _ (T6.setTop (mkF m 24 #[.val (.ref a1), .val (.int (5 : Int32)), .val (.int p3)] [(.int (((p3.toUInt32 >>> ((16 : Int32) &&& 31).toUInt32).toInt32).toInt8.toInt32)), (.int (7 : Int32)), (.ref a1)]))
  obtain ⟨cl11, Ar11, q11, S11, M11, H11, G11⟩ := (id f8)
  have hin11 : ¬ ((7 : Int32) < 0 ∨ cl11.slots.size ≤ ((7 : Int32)).toNatClampNeg) := inb_of S11 ⟨by decide, by decide⟩
  obtain ⟨T11, h11, X11, e11, W11, st11⟩ := stB X6 hx hZ e6 Ar11 (j := (7 : Int32)) hin11 (g := (mkF m 24 #[.val (.ref a1), .val (.int (5 : Int32)), .val (.int p3)] [(.int (((p3.toUInt32 >>> ((16 : Int32) &&& 31).toUInt32).toInt32).toInt8.toInt32)), (.int (7 : Int32)), (.ref a1)])) rfl rfl (hb hby d1_24)
  have V11 := Arv.set Ar11 q11 S11 M11 H11 G11 (fits_nar_byte _) W11 7 rfl (Nat.le_of_ble_eq_true rfl)
  have f13 : Arv Z h11 a1 k1 .byte (13 : Int32) [(.int u0), (.int u1), (.int u2), (.int u3), (.int u4), (.int (nar .byte (p3.toInt8.toInt32))), (.int (nar .byte (((p3.toUInt32 >>> ((8 : Int32) &&& 31).toUInt32).toInt32).toInt8.toInt32))), (.int (nar .byte (((p3.toUInt32 >>> ((16 : Int32) &&& 31).toUInt32).toInt32).toInt8.toInt32))), (.int u8), (.int u9), (.int u10), (.int u11), (.int u12)] (.int (0 : Int32)) := V11
  have Zh14 : n0 ≤ h11.size := Nat.le_trans Zh9 (Nat.le_of_eq W11.size.symm)
  have N11 := Fr.snoc X11 N6 g_a1
  have K15 := K10.wr W11 (Or.inl (List.mem_of_getElem? (i := 0) rfl))
  refine own_go st11 ?_
  show own_Fin p e below _ (T11.setTop (mkF m 25 #[.val (.ref a1), .val (.int (5 : Int32)), .val (.int p3)] []))
  refine own_go (fun t k => XS.aloadN X11.here hx rfl (hb hby d1_25) rfl rfl  (XS.iloadN X11.here hx rfl (hb hby d1_26) rfl  (XS.iconst X11.here hx rfl (hb hby d1_27) (XS.iadd X11.here hx rfl (hb hby d1_28) rfl k)))) ?_
  show own_Fin p e below _ (T11.setTop (mkF m 29 #[.val (.ref a1), .val (.int (5 : Int32)), .val (.int p3)] [(.int (8 : Int32)), (.ref a1)]))
  refine own_go (fun t k => XS.iloadN X11.here hx rfl (hb hby d1_29) rfl  (XS.bipush X11.here hx rfl (hb hby d1_30) (XS.iushr X11.here hx rfl (hb hby d1_32) rfl (XS.i2b X11.here hx rfl (hb hby d1_33) rfl k)))) ?_
  show own_Fin p e below _ (T11.setTop (mkF m 34 #[.val (.ref a1), .val (.int (5 : Int32)), .val (.int p3)] [(.int (((p3.toUInt32 >>> ((24 : Int32) &&& 31).toUInt32).toInt32).toInt8.toInt32)), (.int (8 : Int32)), (.ref a1)]))
  obtain ⟨cl16, Ar16, q16, S16, M16, H16, G16⟩ := (id f13)
  have hin16 : ¬ ((8 : Int32) < 0 ∨ cl16.slots.size ≤ ((8 : Int32)).toNatClampNeg) := inb_of S16 ⟨by decide, by decide⟩
  obtain ⟨T16, h16, X16, e16, W16, st16⟩ := stB X11 hx hZ e11 Ar16 (j := (8 : Int32)) hin16 (g := (mkF m 34 #[.val (.ref a1), .val (.int (5 : Int32)), .val (.int p3)] [(.int (((p3.toUInt32 >>> ((24 : Int32) &&& 31).toUInt32).toInt32).toInt8.toInt32)), (.int (8 : Int32)), (.ref a1)])) rfl rfl (hb hby d1_34)
  have V16 := Arv.set Ar16 q16 S16 M16 H16 G16 (fits_nar_byte _) W16 8 rfl (Nat.le_of_ble_eq_true rfl)
  have f18 : Arv Z h16 a1 k1 .byte (13 : Int32) [(.int u0), (.int u1), (.int u2), (.int u3), (.int u4), (.int (nar .byte (p3.toInt8.toInt32))), (.int (nar .byte (((p3.toUInt32 >>> ((8 : Int32) &&& 31).toUInt32).toInt32).toInt8.toInt32))), (.int (nar .byte (((p3.toUInt32 >>> ((16 : Int32) &&& 31).toUInt32).toInt32).toInt8.toInt32))), (.int (nar .byte (((p3.toUInt32 >>> ((24 : Int32) &&& 31).toUInt32).toInt32).toInt8.toInt32))), (.int u9), (.int u10), (.int u11), (.int u12)] (.int (0 : Int32)) := V16
  have Zh19 : n0 ≤ h16.size := Nat.le_trans Zh14 (Nat.le_of_eq W16.size.symm)
  have N16 := Fr.snoc X16 N11 g_a1
  have K20 := K15.wr W16 (Or.inl (List.mem_of_getElem? (i := 0) rfl))
  refine own_go st16 ?_
  show own_Fin p e below _ (T16.setTop (mkF m 35 #[.val (.ref a1), .val (.int (5 : Int32)), .val (.int p3)] []))
  exact own_out X16 (fun _ => rfl) Bd.notSynchronized (fun fs hr => X16.returnOut hx Bd.returns (hb hby d1_35) hr) (by rw [e16]; exact ⟨rfl, N16, K20, f18⟩) (by decide) (by decide)
theorem ef_1p8 (m : MethodId) (x0 : Addr) (x1 : Int32) (x2 : Int32)  : entryFrame m #[(.ref x0), (.int x1), (.int x2)] 3 = mkF m 0 #[.val (.ref x0), .val (.int x1), .val (.int x2)] [] := by first | (simp [entryFrame, mkF, argsToLocals, Value.category]; done) | rfl
def own_q1p8 (Z : State) (a1 : Addr) (p3 : Int32) (k1 : ClassId) (u0 u1 u2 u3 u4 u5 u6 u7 u8 u9 u10 u11 u12 : Int32) (h0 : Heap) (n0 : Nat) (v : Option Value) (h : Heap) (L : List Loc) : Prop := v = none ∧ Fr n0 L ∧ Keep h0 h [a1] ∧ Arv Z h a1 k1 .byte (13 : Int32) [(.int u0), (.int u1), (.int u2), (.int u3), (.int u4), (.int u5), (.int u6), (.int u7), (.int (nar .byte (p3.toInt8.toInt32))), (.int (nar .byte (((p3.toUInt32 >>> ((8 : Int32) &&& 31).toUInt32).toInt32).toInt8.toInt32))), (.int (nar .byte (((p3.toUInt32 >>> ((16 : Int32) &&& 31).toUInt32).toInt32).toInt8.toInt32))), (.int (nar .byte (((p3.toUInt32 >>> ((24 : Int32) &&& 31).toUInt32).toInt32).toInt8.toInt32))), (.int u12)] (.int (0 : Int32))
set_option maxRecDepth 65536 in
set_option maxHeartbeats 40000000 in
theorem rm1p8 (l : Launch) (Z : State) (a0 : Array Value) (hw : ∀ d ∈ tables_1, d.before a0 Z = true) (ws : List Jvm.Cond) (a1 : Addr) (p3 : Int32) (k1 : ClassId) (u0 u1 u2 u3 u4 u5 u6 u7 u8 u9 u10 u11 u12 : Int32) (h0 : Heap) (n0 : Nat) (Z0 : n0 ≤ h0.size) (V_a1 : Arv Z h0 a1 k1 .byte (13 : Int32) [(.int u0), (.int u1), (.int u2), (.int u3), (.int u4), (.int u5), (.int u6), (.int u7), (.int u8), (.int u9), (.int u10), (.int u11), (.int u12)] (.int (0 : Int32))) (g_a1 : n0 ≤ a1) :
    MetFree l (⟨"com/example/palimpsest/palimpsest/chain/CurveScalarsDecodePinLaw", "put", "([BII)V"⟩ : MethodName) (head1 (Jvm.Cond.code (⟨"com/example/palimpsest/palimpsest/chain/CurveScalarsDecodePinLaw", "put", "([BII)V"⟩ : MethodName) method_2_code 3 none :: ws) ({ frames := 0, cells := 0, slots := 0, locals := 0 } : Room)) (fun a U => a = #[(.ref a1), (.int (8 : Int32)), (.int p3)] ∧ Z.Warmed39 U.vm ∧ U.heap = h0) (fun _ _ _ _ _ => True) (fun _ U o U' => ∃ v L, o = .returned v ∧ (own_q1p8 Z a1 p3 k1 u0 u1 u2 u3 u4 u5 u6 u7 u8 u9 u10 u11 u12 h0 n0) v U'.heap L ∧ FrameEnd U o U' L ({ frames := 0, cells := 0, slots := 0, locals := 0 } : Room).cells ({ frames := 0, cells := 0, slots := 0, locals := 0 } : Room).slots) := by
  refine MetFree.of_bodySF (plainFor_of_name pn_0) hisR ?_
  intro p e s m args below meth c s₁ Bd hml0 hP hK
  obtain ⟨rfl, hZ, hh⟩ := hP
  have hx := Bd.exec
  have hby := Bd.bytes
  have hml : c.maxLocals = 3 := hml0
  have hown : s.vm.findClass "com/example/palimpsest/palimpsest/chain/CurveScalarsDecodePinLaw" = some m.cls := findClass_of_methodNamed Bd.named
  have hnm := (name_of_methodNamed Bd.named Bd.method).1
  have X0 : Stand p l e ({ frames := 0, cells := 0, slots := 0, locals := 0 } : Room) s m #[(.ref a1), (.int (8 : Int32)), (.int p3)] below meth c s₁ [] 0 0 := Stand.of_body Bd
  have e0 : s₁.heap = h0 := by rw [← hh, Bd.state]; rfl
  have N0 := Fr.nil n0
  have Kz := Keep.refl h0 [a1]
  show own_Fin p e below (own_A s ({ frames := 0, cells := 0, slots := 0, locals := 0 } : Room).cells ({ frames := 0, cells := 0, slots := 0, locals := 0 } : Room).slots (own_q1p8 Z a1 p3 k1 u0 u1 u2 u3 u4 u5 u6 u7 u8 u9 u10 u11 u12 h0 n0)) _
  refine own_go (fun t k => castTop (ef_1p8 m (a1) ((8 : Int32)) (p3)) k) ?_
  show own_Fin p e below _ (s₁.setTop (mkF m 0 #[.val (.ref a1), .val (.int (8 : Int32)), .val (.int p3)] []))
  refine own_go (fun t k => XS.aloadN X0.here hx rfl (hb hby d1_0) rfl rfl  (XS.iloadN X0.here hx rfl (hb hby d1_1) rfl  (XS.iloadN X0.here hx rfl (hb hby d1_2) rfl  (XS.i2b X0.here hx rfl (hb hby d1_3) rfl k)))) ?_
  show own_Fin p e below _ (s₁.setTop (mkF m 4 #[.val (.ref a1), .val (.int (8 : Int32)), .val (.int p3)] [(.int (p3.toInt8.toInt32)), (.int (8 : Int32)), (.ref a1)]))
  obtain ⟨cl1, Ar1, q1, S1, M1, H1, G1⟩ := (id V_a1)
  have hin1 : ¬ ((8 : Int32) < 0 ∨ cl1.slots.size ≤ ((8 : Int32)).toNatClampNeg) := inb_of S1 ⟨by decide, by decide⟩
  obtain ⟨T1, h1, X1, e1, W1, st1⟩ := stB X0 hx hZ e0 Ar1 (j := (8 : Int32)) hin1 (g := (mkF m 4 #[.val (.ref a1), .val (.int (8 : Int32)), .val (.int p3)] [(.int (p3.toInt8.toInt32)), (.int (8 : Int32)), (.ref a1)])) rfl rfl (hb hby d1_4)
  have V1 := Arv.set Ar1 q1 S1 M1 H1 G1 (fits_nar_byte _) W1 8 rfl (Nat.le_of_ble_eq_true rfl)
  have f3 : Arv Z h1 a1 k1 .byte (13 : Int32) [(.int u0), (.int u1), (.int u2), (.int u3), (.int u4), (.int u5), (.int u6), (.int u7), (.int (nar .byte (p3.toInt8.toInt32))), (.int u9), (.int u10), (.int u11), (.int u12)] (.int (0 : Int32)) := V1
  have Zh4 : n0 ≤ h1.size := Nat.le_trans Z0 (Nat.le_of_eq W1.size.symm)
  have N1 := Fr.snoc X1 N0 g_a1
  have K5 := Kz.wr W1 (Or.inl (List.mem_of_getElem? (i := 0) rfl))
  refine own_go st1 ?_
  show own_Fin p e below _ (T1.setTop (mkF m 5 #[.val (.ref a1), .val (.int (8 : Int32)), .val (.int p3)] []))
  refine own_go (fun t k => XS.aloadN X1.here hx rfl (hb hby d1_5) rfl rfl  (XS.iloadN X1.here hx rfl (hb hby d1_6) rfl  (XS.iconst X1.here hx rfl (hb hby d1_7) (XS.iadd X1.here hx rfl (hb hby d1_8) rfl k)))) ?_
  show own_Fin p e below _ (T1.setTop (mkF m 9 #[.val (.ref a1), .val (.int (8 : Int32)), .val (.int p3)] [(.int (9 : Int32)), (.ref a1)]))
  refine own_go (fun t k => XS.iloadN X1.here hx rfl (hb hby d1_9) rfl  (XS.bipush X1.here hx rfl (hb hby d1_10) (XS.iushr X1.here hx rfl (hb hby d1_12) rfl (XS.i2b X1.here hx rfl (hb hby d1_13) rfl k)))) ?_
  show own_Fin p e below _ (T1.setTop (mkF m 14 #[.val (.ref a1), .val (.int (8 : Int32)), .val (.int p3)] [(.int (((p3.toUInt32 >>> ((8 : Int32) &&& 31).toUInt32).toInt32).toInt8.toInt32)), (.int (9 : Int32)), (.ref a1)]))
  obtain ⟨cl6, Ar6, q6, S6, M6, H6, G6⟩ := (id f3)
  have hin6 : ¬ ((9 : Int32) < 0 ∨ cl6.slots.size ≤ ((9 : Int32)).toNatClampNeg) := inb_of S6 ⟨by decide, by decide⟩
  obtain ⟨T6, h6, X6, e6, W6, st6⟩ := stB X1 hx hZ e1 Ar6 (j := (9 : Int32)) hin6 (g := (mkF m 14 #[.val (.ref a1), .val (.int (8 : Int32)), .val (.int p3)] [(.int (((p3.toUInt32 >>> ((8 : Int32) &&& 31).toUInt32).toInt32).toInt8.toInt32)), (.int (9 : Int32)), (.ref a1)])) rfl rfl (hb hby d1_14)
  have V6 := Arv.set Ar6 q6 S6 M6 H6 G6 (fits_nar_byte _) W6 9 rfl (Nat.le_of_ble_eq_true rfl)
  have f8 : Arv Z h6 a1 k1 .byte (13 : Int32) [(.int u0), (.int u1), (.int u2), (.int u3), (.int u4), (.int u5), (.int u6), (.int u7), (.int (nar .byte (p3.toInt8.toInt32))), (.int (nar .byte (((p3.toUInt32 >>> ((8 : Int32) &&& 31).toUInt32).toInt32).toInt8.toInt32))), (.int u10), (.int u11), (.int u12)] (.int (0 : Int32)) := V6
  have Zh9 : n0 ≤ h6.size := Nat.le_trans Zh4 (Nat.le_of_eq W6.size.symm)
  have N6 := Fr.snoc X6 N1 g_a1
  have K10 := K5.wr W6 (Or.inl (List.mem_of_getElem? (i := 0) rfl))
  refine own_go st6 ?_
  show own_Fin p e below _ (T6.setTop (mkF m 15 #[.val (.ref a1), .val (.int (8 : Int32)), .val (.int p3)] []))
  refine own_go (fun t k => XS.aloadN X6.here hx rfl (hb hby d1_15) rfl rfl  (XS.iloadN X6.here hx rfl (hb hby d1_16) rfl  (XS.iconst X6.here hx rfl (hb hby d1_17) (XS.iadd X6.here hx rfl (hb hby d1_18) rfl k)))) ?_
  show own_Fin p e below _ (T6.setTop (mkF m 19 #[.val (.ref a1), .val (.int (8 : Int32)), .val (.int p3)] [(.int (10 : Int32)), (.ref a1)]))
  refine own_go (fun t k => XS.iloadN X6.here hx rfl (hb hby d1_19) rfl  (XS.bipush X6.here hx rfl (hb hby d1_20) (XS.iushr X6.here hx rfl (hb hby d1_22) rfl (XS.i2b X6.here hx rfl (hb hby d1_23) rfl k)))) ?_
  show own_Fin p e below _ (T6.setTop (mkF m 24 #[.val (.ref a1), .val (.int (8 : Int32)), .val (.int p3)] [(.int (((p3.toUInt32 >>> ((16 : Int32) &&& 31).toUInt32).toInt32).toInt8.toInt32)), (.int (10 : Int32)), (.ref a1)]))
  obtain ⟨cl11, Ar11, q11, S11, M11, H11, G11⟩ := (id f8)
  have hin11 : ¬ ((10 : Int32) < 0 ∨ cl11.slots.size ≤ ((10 : Int32)).toNatClampNeg) := inb_of S11 ⟨by decide, by decide⟩
  obtain ⟨T11, h11, X11, e11, W11, st11⟩ := stB X6 hx hZ e6 Ar11 (j := (10 : Int32)) hin11 (g := (mkF m 24 #[.val (.ref a1), .val (.int (8 : Int32)), .val (.int p3)] [(.int (((p3.toUInt32 >>> ((16 : Int32) &&& 31).toUInt32).toInt32).toInt8.toInt32)), (.int (10 : Int32)), (.ref a1)])) rfl rfl (hb hby d1_24)
  have V11 := Arv.set Ar11 q11 S11 M11 H11 G11 (fits_nar_byte _) W11 10 rfl (Nat.le_of_ble_eq_true rfl)
  have f13 : Arv Z h11 a1 k1 .byte (13 : Int32) [(.int u0), (.int u1), (.int u2), (.int u3), (.int u4), (.int u5), (.int u6), (.int u7), (.int (nar .byte (p3.toInt8.toInt32))), (.int (nar .byte (((p3.toUInt32 >>> ((8 : Int32) &&& 31).toUInt32).toInt32).toInt8.toInt32))), (.int (nar .byte (((p3.toUInt32 >>> ((16 : Int32) &&& 31).toUInt32).toInt32).toInt8.toInt32))), (.int u11), (.int u12)] (.int (0 : Int32)) := V11
  have Zh14 : n0 ≤ h11.size := Nat.le_trans Zh9 (Nat.le_of_eq W11.size.symm)
  have N11 := Fr.snoc X11 N6 g_a1
  have K15 := K10.wr W11 (Or.inl (List.mem_of_getElem? (i := 0) rfl))
  refine own_go st11 ?_
  show own_Fin p e below _ (T11.setTop (mkF m 25 #[.val (.ref a1), .val (.int (8 : Int32)), .val (.int p3)] []))
  refine own_go (fun t k => XS.aloadN X11.here hx rfl (hb hby d1_25) rfl rfl  (XS.iloadN X11.here hx rfl (hb hby d1_26) rfl  (XS.iconst X11.here hx rfl (hb hby d1_27) (XS.iadd X11.here hx rfl (hb hby d1_28) rfl k)))) ?_
  show own_Fin p e below _ (T11.setTop (mkF m 29 #[.val (.ref a1), .val (.int (8 : Int32)), .val (.int p3)] [(.int (11 : Int32)), (.ref a1)]))
  refine own_go (fun t k => XS.iloadN X11.here hx rfl (hb hby d1_29) rfl  (XS.bipush X11.here hx rfl (hb hby d1_30) (XS.iushr X11.here hx rfl (hb hby d1_32) rfl (XS.i2b X11.here hx rfl (hb hby d1_33) rfl k)))) ?_
  show own_Fin p e below _ (T11.setTop (mkF m 34 #[.val (.ref a1), .val (.int (8 : Int32)), .val (.int p3)] [(.int (((p3.toUInt32 >>> ((24 : Int32) &&& 31).toUInt32).toInt32).toInt8.toInt32)), (.int (11 : Int32)), (.ref a1)]))
  obtain ⟨cl16, Ar16, q16, S16, M16, H16, G16⟩ := (id f13)
  have hin16 : ¬ ((11 : Int32) < 0 ∨ cl16.slots.size ≤ ((11 : Int32)).toNatClampNeg) := inb_of S16 ⟨by decide, by decide⟩
  obtain ⟨T16, h16, X16, e16, W16, st16⟩ := stB X11 hx hZ e11 Ar16 (j := (11 : Int32)) hin16 (g := (mkF m 34 #[.val (.ref a1), .val (.int (8 : Int32)), .val (.int p3)] [(.int (((p3.toUInt32 >>> ((24 : Int32) &&& 31).toUInt32).toInt32).toInt8.toInt32)), (.int (11 : Int32)), (.ref a1)])) rfl rfl (hb hby d1_34)
  have V16 := Arv.set Ar16 q16 S16 M16 H16 G16 (fits_nar_byte _) W16 11 rfl (Nat.le_of_ble_eq_true rfl)
  have f18 : Arv Z h16 a1 k1 .byte (13 : Int32) [(.int u0), (.int u1), (.int u2), (.int u3), (.int u4), (.int u5), (.int u6), (.int u7), (.int (nar .byte (p3.toInt8.toInt32))), (.int (nar .byte (((p3.toUInt32 >>> ((8 : Int32) &&& 31).toUInt32).toInt32).toInt8.toInt32))), (.int (nar .byte (((p3.toUInt32 >>> ((16 : Int32) &&& 31).toUInt32).toInt32).toInt8.toInt32))), (.int (nar .byte (((p3.toUInt32 >>> ((24 : Int32) &&& 31).toUInt32).toInt32).toInt8.toInt32))), (.int u12)] (.int (0 : Int32)) := V16
  have Zh19 : n0 ≤ h16.size := Nat.le_trans Zh14 (Nat.le_of_eq W16.size.symm)
  have N16 := Fr.snoc X16 N11 g_a1
  have K20 := K15.wr W16 (Or.inl (List.mem_of_getElem? (i := 0) rfl))
  refine own_go st16 ?_
  show own_Fin p e below _ (T16.setTop (mkF m 35 #[.val (.ref a1), .val (.int (8 : Int32)), .val (.int p3)] []))
  exact own_out X16 (fun _ => rfl) Bd.notSynchronized (fun fs hr => X16.returnOut hx Bd.returns (hb hby d1_35) hr) (by rw [e16]; exact ⟨rfl, N16, K20, f18⟩) (by decide) (by decide)
theorem ef_1p9 (m : MethodId) (x0 : Addr) (x1 : Int32) (x2 : Int32)  : entryFrame m #[(.ref x0), (.int x1), (.int x2)] 3 = mkF m 0 #[.val (.ref x0), .val (.int x1), .val (.int x2)] [] := by first | (simp [entryFrame, mkF, argsToLocals, Value.category]; done) | rfl
def own_q1p9 (Z : State) (a1 : Addr) (p3 : Int32) (k1 : ClassId) (u0 u1 u2 u3 u4 u5 u6 u7 u8 u9 u10 u11 u12 : Int32) (h0 : Heap) (n0 : Nat) (v : Option Value) (h : Heap) (L : List Loc) : Prop := v = none ∧ Fr n0 L ∧ Keep h0 h [a1] ∧ Arv Z h a1 k1 .byte (13 : Int32) [(.int u0), (.int u1), (.int u2), (.int u3), (.int u4), (.int u5), (.int u6), (.int u7), (.int u8), (.int (nar .byte (p3.toInt8.toInt32))), (.int (nar .byte (((p3.toUInt32 >>> ((8 : Int32) &&& 31).toUInt32).toInt32).toInt8.toInt32))), (.int (nar .byte (((p3.toUInt32 >>> ((16 : Int32) &&& 31).toUInt32).toInt32).toInt8.toInt32))), (.int (nar .byte (((p3.toUInt32 >>> ((24 : Int32) &&& 31).toUInt32).toInt32).toInt8.toInt32)))] (.int (0 : Int32))
set_option maxRecDepth 65536 in
set_option maxHeartbeats 40000000 in
theorem rm1p9 (l : Launch) (Z : State) (a0 : Array Value) (hw : ∀ d ∈ tables_1, d.before a0 Z = true) (ws : List Jvm.Cond) (a1 : Addr) (p3 : Int32) (k1 : ClassId) (u0 u1 u2 u3 u4 u5 u6 u7 u8 u9 u10 u11 u12 : Int32) (h0 : Heap) (n0 : Nat) (Z0 : n0 ≤ h0.size) (V_a1 : Arv Z h0 a1 k1 .byte (13 : Int32) [(.int u0), (.int u1), (.int u2), (.int u3), (.int u4), (.int u5), (.int u6), (.int u7), (.int u8), (.int u9), (.int u10), (.int u11), (.int u12)] (.int (0 : Int32))) (g_a1 : n0 ≤ a1) :
    MetFree l (⟨"com/example/palimpsest/palimpsest/chain/CurveScalarsDecodePinLaw", "put", "([BII)V"⟩ : MethodName) (head1 (Jvm.Cond.code (⟨"com/example/palimpsest/palimpsest/chain/CurveScalarsDecodePinLaw", "put", "([BII)V"⟩ : MethodName) method_2_code 3 none :: ws) ({ frames := 0, cells := 0, slots := 0, locals := 0 } : Room)) (fun a U => a = #[(.ref a1), (.int (9 : Int32)), (.int p3)] ∧ Z.Warmed39 U.vm ∧ U.heap = h0) (fun _ _ _ _ _ => True) (fun _ U o U' => ∃ v L, o = .returned v ∧ (own_q1p9 Z a1 p3 k1 u0 u1 u2 u3 u4 u5 u6 u7 u8 u9 u10 u11 u12 h0 n0) v U'.heap L ∧ FrameEnd U o U' L ({ frames := 0, cells := 0, slots := 0, locals := 0 } : Room).cells ({ frames := 0, cells := 0, slots := 0, locals := 0 } : Room).slots) := by
  refine MetFree.of_bodySF (plainFor_of_name pn_0) hisR ?_
  intro p e s m args below meth c s₁ Bd hml0 hP hK
  obtain ⟨rfl, hZ, hh⟩ := hP
  have hx := Bd.exec
  have hby := Bd.bytes
  have hml : c.maxLocals = 3 := hml0
  have hown : s.vm.findClass "com/example/palimpsest/palimpsest/chain/CurveScalarsDecodePinLaw" = some m.cls := findClass_of_methodNamed Bd.named
  have hnm := (name_of_methodNamed Bd.named Bd.method).1
  have X0 : Stand p l e ({ frames := 0, cells := 0, slots := 0, locals := 0 } : Room) s m #[(.ref a1), (.int (9 : Int32)), (.int p3)] below meth c s₁ [] 0 0 := Stand.of_body Bd
  have e0 : s₁.heap = h0 := by rw [← hh, Bd.state]; rfl
  have N0 := Fr.nil n0
  have Kz := Keep.refl h0 [a1]
  show own_Fin p e below (own_A s ({ frames := 0, cells := 0, slots := 0, locals := 0 } : Room).cells ({ frames := 0, cells := 0, slots := 0, locals := 0 } : Room).slots (own_q1p9 Z a1 p3 k1 u0 u1 u2 u3 u4 u5 u6 u7 u8 u9 u10 u11 u12 h0 n0)) _
  refine own_go (fun t k => castTop (ef_1p9 m (a1) ((9 : Int32)) (p3)) k) ?_
  show own_Fin p e below _ (s₁.setTop (mkF m 0 #[.val (.ref a1), .val (.int (9 : Int32)), .val (.int p3)] []))
  refine own_go (fun t k => XS.aloadN X0.here hx rfl (hb hby d1_0) rfl rfl  (XS.iloadN X0.here hx rfl (hb hby d1_1) rfl  (XS.iloadN X0.here hx rfl (hb hby d1_2) rfl  (XS.i2b X0.here hx rfl (hb hby d1_3) rfl k)))) ?_
  show own_Fin p e below _ (s₁.setTop (mkF m 4 #[.val (.ref a1), .val (.int (9 : Int32)), .val (.int p3)] [(.int (p3.toInt8.toInt32)), (.int (9 : Int32)), (.ref a1)]))
  obtain ⟨cl1, Ar1, q1, S1, M1, H1, G1⟩ := (id V_a1)
  have hin1 : ¬ ((9 : Int32) < 0 ∨ cl1.slots.size ≤ ((9 : Int32)).toNatClampNeg) := inb_of S1 ⟨by decide, by decide⟩
  obtain ⟨T1, h1, X1, e1, W1, st1⟩ := stB X0 hx hZ e0 Ar1 (j := (9 : Int32)) hin1 (g := (mkF m 4 #[.val (.ref a1), .val (.int (9 : Int32)), .val (.int p3)] [(.int (p3.toInt8.toInt32)), (.int (9 : Int32)), (.ref a1)])) rfl rfl (hb hby d1_4)
  have V1 := Arv.set Ar1 q1 S1 M1 H1 G1 (fits_nar_byte _) W1 9 rfl (Nat.le_of_ble_eq_true rfl)
  have f3 : Arv Z h1 a1 k1 .byte (13 : Int32) [(.int u0), (.int u1), (.int u2), (.int u3), (.int u4), (.int u5), (.int u6), (.int u7), (.int u8), (.int (nar .byte (p3.toInt8.toInt32))), (.int u10), (.int u11), (.int u12)] (.int (0 : Int32)) := V1
  have Zh4 : n0 ≤ h1.size := Nat.le_trans Z0 (Nat.le_of_eq W1.size.symm)
  have N1 := Fr.snoc X1 N0 g_a1
  have K5 := Kz.wr W1 (Or.inl (List.mem_of_getElem? (i := 0) rfl))
  refine own_go st1 ?_
  show own_Fin p e below _ (T1.setTop (mkF m 5 #[.val (.ref a1), .val (.int (9 : Int32)), .val (.int p3)] []))
  refine own_go (fun t k => XS.aloadN X1.here hx rfl (hb hby d1_5) rfl rfl  (XS.iloadN X1.here hx rfl (hb hby d1_6) rfl  (XS.iconst X1.here hx rfl (hb hby d1_7) (XS.iadd X1.here hx rfl (hb hby d1_8) rfl k)))) ?_
  show own_Fin p e below _ (T1.setTop (mkF m 9 #[.val (.ref a1), .val (.int (9 : Int32)), .val (.int p3)] [(.int (10 : Int32)), (.ref a1)]))
  refine own_go (fun t k => XS.iloadN X1.here hx rfl (hb hby d1_9) rfl  (XS.bipush X1.here hx rfl (hb hby d1_10) (XS.iushr X1.here hx rfl (hb hby d1_12) rfl (XS.i2b X1.here hx rfl (hb hby d1_13) rfl k)))) ?_
  show own_Fin p e below _ (T1.setTop (mkF m 14 #[.val (.ref a1), .val (.int (9 : Int32)), .val (.int p3)] [(.int (((p3.toUInt32 >>> ((8 : Int32) &&& 31).toUInt32).toInt32).toInt8.toInt32)), (.int (10 : Int32)), (.ref a1)]))
  obtain ⟨cl6, Ar6, q6, S6, M6, H6, G6⟩ := (id f3)
  have hin6 : ¬ ((10 : Int32) < 0 ∨ cl6.slots.size ≤ ((10 : Int32)).toNatClampNeg) := inb_of S6 ⟨by decide, by decide⟩
  obtain ⟨T6, h6, X6, e6, W6, st6⟩ := stB X1 hx hZ e1 Ar6 (j := (10 : Int32)) hin6 (g := (mkF m 14 #[.val (.ref a1), .val (.int (9 : Int32)), .val (.int p3)] [(.int (((p3.toUInt32 >>> ((8 : Int32) &&& 31).toUInt32).toInt32).toInt8.toInt32)), (.int (10 : Int32)), (.ref a1)])) rfl rfl (hb hby d1_14)
  have V6 := Arv.set Ar6 q6 S6 M6 H6 G6 (fits_nar_byte _) W6 10 rfl (Nat.le_of_ble_eq_true rfl)
  have f8 : Arv Z h6 a1 k1 .byte (13 : Int32) [(.int u0), (.int u1), (.int u2), (.int u3), (.int u4), (.int u5), (.int u6), (.int u7), (.int u8), (.int (nar .byte (p3.toInt8.toInt32))), (.int (nar .byte (((p3.toUInt32 >>> ((8 : Int32) &&& 31).toUInt32).toInt32).toInt8.toInt32))), (.int u11), (.int u12)] (.int (0 : Int32)) := V6
  have Zh9 : n0 ≤ h6.size := Nat.le_trans Zh4 (Nat.le_of_eq W6.size.symm)
  have N6 := Fr.snoc X6 N1 g_a1
  have K10 := K5.wr W6 (Or.inl (List.mem_of_getElem? (i := 0) rfl))
  refine own_go st6 ?_
  show own_Fin p e below _ (T6.setTop (mkF m 15 #[.val (.ref a1), .val (.int (9 : Int32)), .val (.int p3)] []))
  refine own_go (fun t k => XS.aloadN X6.here hx rfl (hb hby d1_15) rfl rfl  (XS.iloadN X6.here hx rfl (hb hby d1_16) rfl  (XS.iconst X6.here hx rfl (hb hby d1_17) (XS.iadd X6.here hx rfl (hb hby d1_18) rfl k)))) ?_
  show own_Fin p e below _ (T6.setTop (mkF m 19 #[.val (.ref a1), .val (.int (9 : Int32)), .val (.int p3)] [(.int (11 : Int32)), (.ref a1)]))
  refine own_go (fun t k => XS.iloadN X6.here hx rfl (hb hby d1_19) rfl  (XS.bipush X6.here hx rfl (hb hby d1_20) (XS.iushr X6.here hx rfl (hb hby d1_22) rfl (XS.i2b X6.here hx rfl (hb hby d1_23) rfl k)))) ?_
  show own_Fin p e below _ (T6.setTop (mkF m 24 #[.val (.ref a1), .val (.int (9 : Int32)), .val (.int p3)] [(.int (((p3.toUInt32 >>> ((16 : Int32) &&& 31).toUInt32).toInt32).toInt8.toInt32)), (.int (11 : Int32)), (.ref a1)]))
  obtain ⟨cl11, Ar11, q11, S11, M11, H11, G11⟩ := (id f8)
  have hin11 : ¬ ((11 : Int32) < 0 ∨ cl11.slots.size ≤ ((11 : Int32)).toNatClampNeg) := inb_of S11 ⟨by decide, by decide⟩
  obtain ⟨T11, h11, X11, e11, W11, st11⟩ := stB X6 hx hZ e6 Ar11 (j := (11 : Int32)) hin11 (g := (mkF m 24 #[.val (.ref a1), .val (.int (9 : Int32)), .val (.int p3)] [(.int (((p3.toUInt32 >>> ((16 : Int32) &&& 31).toUInt32).toInt32).toInt8.toInt32)), (.int (11 : Int32)), (.ref a1)])) rfl rfl (hb hby d1_24)
  have V11 := Arv.set Ar11 q11 S11 M11 H11 G11 (fits_nar_byte _) W11 11 rfl (Nat.le_of_ble_eq_true rfl)
  have f13 : Arv Z h11 a1 k1 .byte (13 : Int32) [(.int u0), (.int u1), (.int u2), (.int u3), (.int u4), (.int u5), (.int u6), (.int u7), (.int u8), (.int (nar .byte (p3.toInt8.toInt32))), (.int (nar .byte (((p3.toUInt32 >>> ((8 : Int32) &&& 31).toUInt32).toInt32).toInt8.toInt32))), (.int (nar .byte (((p3.toUInt32 >>> ((16 : Int32) &&& 31).toUInt32).toInt32).toInt8.toInt32))), (.int u12)] (.int (0 : Int32)) := V11
  have Zh14 : n0 ≤ h11.size := Nat.le_trans Zh9 (Nat.le_of_eq W11.size.symm)
  have N11 := Fr.snoc X11 N6 g_a1
  have K15 := K10.wr W11 (Or.inl (List.mem_of_getElem? (i := 0) rfl))
  refine own_go st11 ?_
  show own_Fin p e below _ (T11.setTop (mkF m 25 #[.val (.ref a1), .val (.int (9 : Int32)), .val (.int p3)] []))
  refine own_go (fun t k => XS.aloadN X11.here hx rfl (hb hby d1_25) rfl rfl  (XS.iloadN X11.here hx rfl (hb hby d1_26) rfl  (XS.iconst X11.here hx rfl (hb hby d1_27) (XS.iadd X11.here hx rfl (hb hby d1_28) rfl k)))) ?_
  show own_Fin p e below _ (T11.setTop (mkF m 29 #[.val (.ref a1), .val (.int (9 : Int32)), .val (.int p3)] [(.int (12 : Int32)), (.ref a1)]))
  refine own_go (fun t k => XS.iloadN X11.here hx rfl (hb hby d1_29) rfl  (XS.bipush X11.here hx rfl (hb hby d1_30) (XS.iushr X11.here hx rfl (hb hby d1_32) rfl (XS.i2b X11.here hx rfl (hb hby d1_33) rfl k)))) ?_
  show own_Fin p e below _ (T11.setTop (mkF m 34 #[.val (.ref a1), .val (.int (9 : Int32)), .val (.int p3)] [(.int (((p3.toUInt32 >>> ((24 : Int32) &&& 31).toUInt32).toInt32).toInt8.toInt32)), (.int (12 : Int32)), (.ref a1)]))
  obtain ⟨cl16, Ar16, q16, S16, M16, H16, G16⟩ := (id f13)
  have hin16 : ¬ ((12 : Int32) < 0 ∨ cl16.slots.size ≤ ((12 : Int32)).toNatClampNeg) := inb_of S16 ⟨by decide, by decide⟩
  obtain ⟨T16, h16, X16, e16, W16, st16⟩ := stB X11 hx hZ e11 Ar16 (j := (12 : Int32)) hin16 (g := (mkF m 34 #[.val (.ref a1), .val (.int (9 : Int32)), .val (.int p3)] [(.int (((p3.toUInt32 >>> ((24 : Int32) &&& 31).toUInt32).toInt32).toInt8.toInt32)), (.int (12 : Int32)), (.ref a1)])) rfl rfl (hb hby d1_34)
  have V16 := Arv.set Ar16 q16 S16 M16 H16 G16 (fits_nar_byte _) W16 12 rfl (Nat.le_of_ble_eq_true rfl)
  have f18 : Arv Z h16 a1 k1 .byte (13 : Int32) [(.int u0), (.int u1), (.int u2), (.int u3), (.int u4), (.int u5), (.int u6), (.int u7), (.int u8), (.int (nar .byte (p3.toInt8.toInt32))), (.int (nar .byte (((p3.toUInt32 >>> ((8 : Int32) &&& 31).toUInt32).toInt32).toInt8.toInt32))), (.int (nar .byte (((p3.toUInt32 >>> ((16 : Int32) &&& 31).toUInt32).toInt32).toInt8.toInt32))), (.int (nar .byte (((p3.toUInt32 >>> ((24 : Int32) &&& 31).toUInt32).toInt32).toInt8.toInt32)))] (.int (0 : Int32)) := V16
  have Zh19 : n0 ≤ h16.size := Nat.le_trans Zh14 (Nat.le_of_eq W16.size.symm)
  have N16 := Fr.snoc X16 N11 g_a1
  have K20 := K15.wr W16 (Or.inl (List.mem_of_getElem? (i := 0) rfl))
  refine own_go st16 ?_
  show own_Fin p e below _ (T16.setTop (mkF m 35 #[.val (.ref a1), .val (.int (9 : Int32)), .val (.int p3)] []))
  exact own_out X16 (fun _ => rfl) Bd.notSynchronized (fun fs hr => X16.returnOut hx Bd.returns (hb hby d1_35) hr) (by rw [e16]; exact ⟨rfl, N16, K20, f18⟩) (by decide) (by decide)
def own_w (b0 b1 b2 b3 : Int32) : Int32 := ((((b0 &&& (255 : Int32)) ||| ((b1 &&& (255 : Int32)) <<< ((8 : Int32) &&& 31))) ||| ((b2 &&& (255 : Int32)) <<< ((16 : Int32) &&& 31))) ||| ((b3 &&& (255 : Int32)) <<< ((24 : Int32) &&& 31)))
theorem d2_0 : decode prog_6_method_2_code 0 = .ok (.iload_n 2, 1) := by decide +kernel
theorem d2_1 : decode prog_6_method_2_code 1 = .ok (.iconst 4, 1) := by decide +kernel
theorem d2_2 : decode prog_6_method_2_code 2 = .ok (.idiv, 1) := by decide +kernel
theorem d2_3 : decode prog_6_method_2_code 3 = .ok (.newarray .int, 2) := by decide +kernel
theorem d2_5 : decode prog_6_method_2_code 5 = .ok (.astore_n 3, 1) := by decide +kernel
theorem d2_6 : decode prog_6_method_2_code 6 = .ok (.iconst 0, 1) := by decide +kernel
theorem d2_7 : decode prog_6_method_2_code 7 = .ok (.istore 4, 2) := by decide +kernel
theorem d2_9 : decode prog_6_method_2_code 9 = .ok (.iload 4, 2) := by decide +kernel
theorem d2_11 : decode prog_6_method_2_code 11 = .ok (.aload_n 3, 1) := by decide +kernel
theorem d2_12 : decode prog_6_method_2_code 12 = .ok (.arraylength, 1) := by decide +kernel
theorem d2_13 : decode prog_6_method_2_code 13 = .ok (.if_icmp .ge 71, 3) := by decide +kernel
theorem d2_84 : decode prog_6_method_2_code 84 = .ok (.aload_n 3, 1) := by decide +kernel
theorem d2_85 : decode prog_6_method_2_code 85 = .ok (.areturn, 1) := by decide +kernel
theorem pn_1 : plainName "com/example/palimpsest/palimpsest/chain/CurveScalars" = true := by first | (simp [plainName, overriddenIn]; done) | decide +kernel
theorem ef_2o0c0 (m : MethodId) (x0 : Addr) (x1 : Int32) (x2 : Int32)  : entryFrame m #[(.ref x0), (.int x1), (.int x2)] 6 = mkF m 0 #[.val (.ref x0), .val (.int x1), .val (.int x2), .unset, .unset, .unset] [] := by first | (simp [entryFrame, mkF, argsToLocals, Value.category]; done) | rfl
def own_q2o0c0 (Z : State) (a1 : Addr) (k1 : ClassId) (u0 u1 u2 u3 u4 u5 u6 u7 u8 u9 u10 u11 u12 : Int32) (h0 : Heap) (n0 : Nat) (v : Option Value) (h : Heap) (L : List Loc) : Prop := ∃ (a : Addr) (k : ClassId), v = some (.ref a) ∧ Fr n0 L ∧ h0.size ≤ a ∧ Keep h0 h [] ∧ Arv Z h a k .int (0 : Int32) [] (.int (0 : Int32))
set_option maxRecDepth 65536 in
set_option maxHeartbeats 40000000 in
theorem rm2o0c0 (l : Launch) (Z : State) (a0 : Array Value) (hw : ∀ d ∈ tables_1, d.before a0 Z = true) (ws : List Jvm.Cond) (a1 : Addr) (k1 : ClassId) (u0 u1 u2 u3 u4 u5 u6 u7 u8 u9 u10 u11 u12 : Int32) (h0 : Heap) (n0 : Nat) (Z0 : n0 ≤ h0.size) (V_a1 : Arv Z h0 a1 k1 .byte (13 : Int32) [(.int u0), (.int u1), (.int u2), (.int u3), (.int u4), (.int u5), (.int u6), (.int u7), (.int u8), (.int u9), (.int u10), (.int u11), (.int u12)] (.int (0 : Int32))) :
    MetFree l (⟨"com/example/palimpsest/palimpsest/chain/CurveScalars", "decode", "([BII)[I"⟩ : MethodName) (head1 (Jvm.Cond.code (⟨"com/example/palimpsest/palimpsest/chain/CurveScalars", "decode", "([BII)[I"⟩ : MethodName) prog_6_method_2_code 6 (some (.array .int)) :: ws) ({ frames := 0, cells := 1, slots := 0, locals := 0 } : Room)) (fun a U => a = #[(.ref a1), (.int (0 : Int32)), (.int (0 : Int32))] ∧ Z.Warmed39 U.vm ∧ U.heap = h0) (fun _ _ _ _ _ => True) (fun _ U o U' => ∃ v L, o = .returned v ∧ (own_q2o0c0 Z a1 k1 u0 u1 u2 u3 u4 u5 u6 u7 u8 u9 u10 u11 u12 h0 n0) v U'.heap L ∧ FrameEnd U o U' L ({ frames := 0, cells := 1, slots := 0, locals := 0 } : Room).cells ({ frames := 0, cells := 1, slots := 0, locals := 0 } : Room).slots) := by
  refine MetFree.of_bodySF (plainFor_of_name pn_1) hisR ?_
  intro p e s m args below meth c s₁ Bd hml0 hP hK
  obtain ⟨rfl, hZ, hh⟩ := hP
  have hx := Bd.exec
  have hby := Bd.bytes
  have hml : c.maxLocals = 6 := hml0
  have hown : s.vm.findClass "com/example/palimpsest/palimpsest/chain/CurveScalars" = some m.cls := findClass_of_methodNamed Bd.named
  have hnm := (name_of_methodNamed Bd.named Bd.method).1
  have X0 : Stand p l e ({ frames := 0, cells := 1, slots := 0, locals := 0 } : Room) s m #[(.ref a1), (.int (0 : Int32)), (.int (0 : Int32))] below meth c s₁ [] 0 0 := Stand.of_body Bd
  have e0 : s₁.heap = h0 := by rw [← hh, Bd.state]; rfl
  have N0 := Fr.nil n0
  have Kz := Keep.refl h0 []
  have hw_9 := hw _ (List.mem_of_getElem? (i := 9) rfl)
  show own_Fin p e below (own_A s ({ frames := 0, cells := 1, slots := 0, locals := 0 } : Room).cells ({ frames := 0, cells := 1, slots := 0, locals := 0 } : Room).slots (own_q2o0c0 Z a1 k1 u0 u1 u2 u3 u4 u5 u6 u7 u8 u9 u10 u11 u12 h0 n0)) _
  refine own_go (fun t k => castTop (ef_2o0c0 m (a1) ((0 : Int32)) ((0 : Int32))) k) ?_
  show own_Fin p e below _ (s₁.setTop (mkF m 0 #[.val (.ref a1), .val (.int (0 : Int32)), .val (.int (0 : Int32)), .unset, .unset, .unset] []))
  refine own_go (fun t k => XS.iloadN X0.here hx rfl (hb hby d2_0) rfl  (XS.iconst X0.here hx rfl (hb hby d2_1) (XS.idiv X0.here hx rfl (hb hby d2_2) rfl (by decide) k))) ?_
  show own_Fin p e below _ (s₁.setTop (mkF m 3 #[.val (.ref a1), .val (.int (0 : Int32)), .val (.int (0 : Int32)), .unset, .unset, .unset] [(.int (0 : Int32))]))
  obtain ⟨T1, h1, k1, X1, e1, E1, A1, st1⟩ := newP (aty := .int) X0 hx hZ hw_9 e0 (g := (mkF m 3 #[.val (.ref a1), .val (.int (0 : Int32)), .val (.int (0 : Int32)), .unset, .unset, .unset] [(.int (0 : Int32))])) rfl (hb hby d2_3) rfl (by decide) (cap := 0) (by decide) (by decide) (by decide) (by decide)
  obtain ⟨b1, g1⟩ : ∃ z, z = h0.size := ⟨_, rfl⟩
  rw [← g1] at A1 st1
  have g_b1 : n0 ≤ b1 := Nat.le_trans Z0 (Nat.le_of_eq g1.symm)
  have sz_b1 : h0.size ≤ b1 := Nat.le_trans Kz.1 (Nat.le_of_eq g1.symm)
  have ne_a1_b1 : a1 ≠ b1 := Nat.ne_of_lt (Nat.lt_of_lt_of_le V_a1.lt (Nat.le_of_eq g1.symm))
  have f2 := V_a1.ext E1
  have Zh3 : n0 ≤ h1.size := Nat.le_trans Z0 E1.1
  have K4 := Kz.ext E1
  have V1 : Arv Z h1 b1 k1 .int (0 : Int32) [] (.int (0 : Int32)) := (Arv.new A1 (by decide)).pad (pad_rep [] (.int (0 : Int32)) 0)
  refine own_go st1 ?_
  show own_Fin p e below _ (T1.setTop (mkF m 5 #[.val (.ref a1), .val (.int (0 : Int32)), .val (.int (0 : Int32)), .unset, .unset, .unset] [(.ref b1)]))
  refine own_go (fun t k => XS.astoreN X1.here hx rfl (hb hby d2_5) rfl rfl (l' := #[.val (.ref a1), .val (.int (0 : Int32)), .val (.int (0 : Int32)), .val (.ref b1), .unset, .unset]) rfl (XS.iconst X1.here hx rfl (hb hby d2_6) (XS.istore X1.here hx rfl (hb hby d2_7) rfl (l' := #[.val (.ref a1), .val (.int (0 : Int32)), .val (.int (0 : Int32)), .val (.ref b1), .val (.int (0 : Int32)), .unset]) rfl (XS.iload X1.here hx rfl (hb hby d2_9) rfl  k)))) ?_
  show own_Fin p e below _ (T1.setTop (mkF m 11 #[.val (.ref a1), .val (.int (0 : Int32)), .val (.int (0 : Int32)), .val (.ref b1), .val (.int (0 : Int32)), .unset] [(.int (0 : Int32))]))
  refine own_go (fun t k => XS.aloadN X1.here hx rfl (hb hby d2_11) rfl rfl  k) ?_
  show own_Fin p e below _ (T1.setTop (mkF m 12 #[.val (.ref a1), .val (.int (0 : Int32)), .val (.int (0 : Int32)), .val (.ref b1), .val (.int (0 : Int32)), .unset] [(.ref b1), (.int (0 : Int32))]))
  obtain ⟨cl5, Ar5, q5, S5, M5, H5, G5⟩ := (id V1)
  refine own_go (fun t k => X1.arraylength hx (by rw [e1]; exact Ar5.1) (State.isArrayOf_alike hZ.alike Ar5.2.1) (g := (mkF m 12 #[.val (.ref a1), .val (.int (0 : Int32)), .val (.int (0 : Int32)), .val (.ref b1), .val (.int (0 : Int32)), .unset] [(.ref b1), (.int (0 : Int32))])) rfl rfl (hb hby d2_12) _ k) ?_
  rw [len_of S5 M5]
  show own_Fin p e below _ (T1.setTop (mkF m 13 #[.val (.ref a1), .val (.int (0 : Int32)), .val (.int (0 : Int32)), .val (.ref b1), .val (.int (0 : Int32)), .unset] [(.int (0 : Int32)), (.int (0 : Int32))]))
  refine own_go (fun t k => XS.icmpYes X1.here hx rfl (pc0 := 13) (pc' := 84) rfl (hb hby d2_13) rfl (flt (by decide : ¬ ((0 : Int32) < (0 : Int32)))).2.1 (by decide) (by decide) (XS.aloadN X1.here hx rfl (hb hby d2_84) rfl rfl  k)) ?_
  show own_Fin p e below _ (T1.setTop (mkF m 85 #[.val (.ref a1), .val (.int (0 : Int32)), .val (.int (0 : Int32)), .val (.ref b1), .val (.int (0 : Int32)), .unset] [(.ref b1)]))
  exact own_out X1 (fun h => by rw [Bd.returns] at h; cases h) Bd.notSynchronized (fun fs hr => retOut X1 hx Bd.returns rfl (Or.inr (Or.inr (Or.inr (Or.inr ⟨rfl, rfl, rfl⟩)))) (hb hby d2_85) hr) (by rw [e1]; exact ⟨_, _, rfl, N0, sz_b1, K4, V1⟩) (by decide) (by decide)
theorem d2_16 : decode prog_6_method_2_code 16 = .ok (.iload_n 1, 1) := by decide +kernel
theorem d2_17 : decode prog_6_method_2_code 17 = .ok (.iconst 4, 1) := by decide +kernel
theorem d2_18 : decode prog_6_method_2_code 18 = .ok (.iload 4, 2) := by decide +kernel
theorem d2_20 : decode prog_6_method_2_code 20 = .ok (.imul, 1) := by decide +kernel
theorem d2_21 : decode prog_6_method_2_code 21 = .ok (.iadd, 1) := by decide +kernel
theorem d2_22 : decode prog_6_method_2_code 22 = .ok (.istore 5, 2) := by decide +kernel
theorem d2_24 : decode prog_6_method_2_code 24 = .ok (.aload_n 3, 1) := by decide +kernel
theorem d2_25 : decode prog_6_method_2_code 25 = .ok (.iload 4, 2) := by decide +kernel
theorem d2_27 : decode prog_6_method_2_code 27 = .ok (.aload_n 0, 1) := by decide +kernel
theorem d2_28 : decode prog_6_method_2_code 28 = .ok (.iload 5, 2) := by decide +kernel
theorem d2_30 : decode prog_6_method_2_code 30 = .ok (.baload, 1) := by decide +kernel
theorem d2_31 : decode prog_6_method_2_code 31 = .ok (.sipush 255, 3) := by decide +kernel
theorem d2_34 : decode prog_6_method_2_code 34 = .ok (.iand, 1) := by decide +kernel
theorem d2_35 : decode prog_6_method_2_code 35 = .ok (.aload_n 0, 1) := by decide +kernel
theorem d2_36 : decode prog_6_method_2_code 36 = .ok (.iload 5, 2) := by decide +kernel
theorem d2_38 : decode prog_6_method_2_code 38 = .ok (.iconst 1, 1) := by decide +kernel
theorem d2_39 : decode prog_6_method_2_code 39 = .ok (.iadd, 1) := by decide +kernel
theorem d2_40 : decode prog_6_method_2_code 40 = .ok (.baload, 1) := by decide +kernel
theorem d2_41 : decode prog_6_method_2_code 41 = .ok (.sipush 255, 3) := by decide +kernel
theorem d2_44 : decode prog_6_method_2_code 44 = .ok (.iand, 1) := by decide +kernel
theorem d2_45 : decode prog_6_method_2_code 45 = .ok (.bipush 8, 2) := by decide +kernel
theorem d2_47 : decode prog_6_method_2_code 47 = .ok (.ishl, 1) := by decide +kernel
theorem d2_48 : decode prog_6_method_2_code 48 = .ok (.ior, 1) := by decide +kernel
theorem d2_49 : decode prog_6_method_2_code 49 = .ok (.aload_n 0, 1) := by decide +kernel
theorem d2_50 : decode prog_6_method_2_code 50 = .ok (.iload 5, 2) := by decide +kernel
theorem d2_52 : decode prog_6_method_2_code 52 = .ok (.iconst 2, 1) := by decide +kernel
theorem d2_53 : decode prog_6_method_2_code 53 = .ok (.iadd, 1) := by decide +kernel
theorem d2_54 : decode prog_6_method_2_code 54 = .ok (.baload, 1) := by decide +kernel
theorem d2_55 : decode prog_6_method_2_code 55 = .ok (.sipush 255, 3) := by decide +kernel
theorem d2_58 : decode prog_6_method_2_code 58 = .ok (.iand, 1) := by decide +kernel
theorem d2_59 : decode prog_6_method_2_code 59 = .ok (.bipush 16, 2) := by decide +kernel
theorem d2_61 : decode prog_6_method_2_code 61 = .ok (.ishl, 1) := by decide +kernel
theorem d2_62 : decode prog_6_method_2_code 62 = .ok (.ior, 1) := by decide +kernel
theorem d2_63 : decode prog_6_method_2_code 63 = .ok (.aload_n 0, 1) := by decide +kernel
theorem d2_64 : decode prog_6_method_2_code 64 = .ok (.iload 5, 2) := by decide +kernel
theorem d2_66 : decode prog_6_method_2_code 66 = .ok (.iconst 3, 1) := by decide +kernel
theorem d2_67 : decode prog_6_method_2_code 67 = .ok (.iadd, 1) := by decide +kernel
theorem d2_68 : decode prog_6_method_2_code 68 = .ok (.baload, 1) := by decide +kernel
theorem d2_69 : decode prog_6_method_2_code 69 = .ok (.sipush 255, 3) := by decide +kernel
theorem d2_72 : decode prog_6_method_2_code 72 = .ok (.iand, 1) := by decide +kernel
theorem d2_73 : decode prog_6_method_2_code 73 = .ok (.bipush 24, 2) := by decide +kernel
theorem d2_75 : decode prog_6_method_2_code 75 = .ok (.ishl, 1) := by decide +kernel
theorem d2_76 : decode prog_6_method_2_code 76 = .ok (.ior, 1) := by decide +kernel
theorem d2_77 : decode prog_6_method_2_code 77 = .ok (.iastore, 1) := by decide +kernel
theorem d2_78 : decode prog_6_method_2_code 78 = .ok (.iinc 4 1, 3) := by decide +kernel
theorem d2_81 : decode prog_6_method_2_code 81 = .ok (.goto (-72), 3) := by decide +kernel
theorem ef_2o0c1 (m : MethodId) (x0 : Addr) (x1 : Int32) (x2 : Int32)  : entryFrame m #[(.ref x0), (.int x1), (.int x2)] 6 = mkF m 0 #[.val (.ref x0), .val (.int x1), .val (.int x2), .unset, .unset, .unset] [] := by first | (simp [entryFrame, mkF, argsToLocals, Value.category]; done) | rfl
def own_q2o0c1 (Z : State) (a1 : Addr) (k1 : ClassId) (u0 u1 u2 u3 u4 u5 u6 u7 u8 u9 u10 u11 u12 : Int32) (h0 : Heap) (n0 : Nat) (v : Option Value) (h : Heap) (L : List Loc) : Prop := ∃ (a : Addr) (k : ClassId), v = some (.ref a) ∧ Fr n0 L ∧ h0.size ≤ a ∧ Keep h0 h [] ∧ Arv Z h a k .int (1 : Int32) [(.int (own_w u0 u1 u2 u3))] (.int (0 : Int32))
set_option maxRecDepth 65536 in
set_option maxHeartbeats 40000000 in
theorem rm2o0c1 (l : Launch) (Z : State) (a0 : Array Value) (hw : ∀ d ∈ tables_1, d.before a0 Z = true) (ws : List Jvm.Cond) (a1 : Addr) (k1 : ClassId) (u0 u1 u2 u3 u4 u5 u6 u7 u8 u9 u10 u11 u12 : Int32) (h0 : Heap) (n0 : Nat) (Z0 : n0 ≤ h0.size) (V_a1 : Arv Z h0 a1 k1 .byte (13 : Int32) [(.int u0), (.int u1), (.int u2), (.int u3), (.int u4), (.int u5), (.int u6), (.int u7), (.int u8), (.int u9), (.int u10), (.int u11), (.int u12)] (.int (0 : Int32))) :
    MetFree l (⟨"com/example/palimpsest/palimpsest/chain/CurveScalars", "decode", "([BII)[I"⟩ : MethodName) (head1 (Jvm.Cond.code (⟨"com/example/palimpsest/palimpsest/chain/CurveScalars", "decode", "([BII)[I"⟩ : MethodName) prog_6_method_2_code 6 (some (.array .int)) :: ws) ({ frames := 0, cells := 1, slots := 1, locals := 0 } : Room)) (fun a U => a = #[(.ref a1), (.int (0 : Int32)), (.int (4 : Int32))] ∧ Z.Warmed39 U.vm ∧ U.heap = h0) (fun _ _ _ _ _ => True) (fun _ U o U' => ∃ v L, o = .returned v ∧ (own_q2o0c1 Z a1 k1 u0 u1 u2 u3 u4 u5 u6 u7 u8 u9 u10 u11 u12 h0 n0) v U'.heap L ∧ FrameEnd U o U' L ({ frames := 0, cells := 1, slots := 1, locals := 0 } : Room).cells ({ frames := 0, cells := 1, slots := 1, locals := 0 } : Room).slots) := by
  refine MetFree.of_bodySF (plainFor_of_name pn_1) hisR ?_
  intro p e s m args below meth c s₁ Bd hml0 hP hK
  obtain ⟨rfl, hZ, hh⟩ := hP
  have hx := Bd.exec
  have hby := Bd.bytes
  have hml : c.maxLocals = 6 := hml0
  have hown : s.vm.findClass "com/example/palimpsest/palimpsest/chain/CurveScalars" = some m.cls := findClass_of_methodNamed Bd.named
  have hnm := (name_of_methodNamed Bd.named Bd.method).1
  have X0 : Stand p l e ({ frames := 0, cells := 1, slots := 1, locals := 0 } : Room) s m #[(.ref a1), (.int (0 : Int32)), (.int (4 : Int32))] below meth c s₁ [] 0 0 := Stand.of_body Bd
  have e0 : s₁.heap = h0 := by rw [← hh, Bd.state]; rfl
  have N0 := Fr.nil n0
  have Kz := Keep.refl h0 []
  have hw_9 := hw _ (List.mem_of_getElem? (i := 9) rfl)
  show own_Fin p e below (own_A s ({ frames := 0, cells := 1, slots := 1, locals := 0 } : Room).cells ({ frames := 0, cells := 1, slots := 1, locals := 0 } : Room).slots (own_q2o0c1 Z a1 k1 u0 u1 u2 u3 u4 u5 u6 u7 u8 u9 u10 u11 u12 h0 n0)) _
  refine own_go (fun t k => castTop (ef_2o0c1 m (a1) ((0 : Int32)) ((4 : Int32))) k) ?_
  show own_Fin p e below _ (s₁.setTop (mkF m 0 #[.val (.ref a1), .val (.int (0 : Int32)), .val (.int (4 : Int32)), .unset, .unset, .unset] []))
  refine own_go (fun t k => XS.iloadN X0.here hx rfl (hb hby d2_0) rfl  (XS.iconst X0.here hx rfl (hb hby d2_1) (XS.idiv X0.here hx rfl (hb hby d2_2) rfl (by decide) k))) ?_
  show own_Fin p e below _ (s₁.setTop (mkF m 3 #[.val (.ref a1), .val (.int (0 : Int32)), .val (.int (4 : Int32)), .unset, .unset, .unset] [(.int (1 : Int32))]))
  obtain ⟨T1, h1, k1, X1, e1, E1, A1, st1⟩ := newP (aty := .int) X0 hx hZ hw_9 e0 (g := (mkF m 3 #[.val (.ref a1), .val (.int (0 : Int32)), .val (.int (4 : Int32)), .unset, .unset, .unset] [(.int (1 : Int32))])) rfl (hb hby d2_3) rfl (by decide) (cap := 1) (by decide) (by decide) (by decide) (by decide)
  obtain ⟨b1, g1⟩ : ∃ z, z = h0.size := ⟨_, rfl⟩
  rw [← g1] at A1 st1
  have g_b1 : n0 ≤ b1 := Nat.le_trans Z0 (Nat.le_of_eq g1.symm)
  have sz_b1 : h0.size ≤ b1 := Nat.le_trans Kz.1 (Nat.le_of_eq g1.symm)
  have ne_a1_b1 : a1 ≠ b1 := Nat.ne_of_lt (Nat.lt_of_lt_of_le V_a1.lt (Nat.le_of_eq g1.symm))
  have f2 := V_a1.ext E1
  have Zh3 : n0 ≤ h1.size := Nat.le_trans Z0 E1.1
  have K4 := Kz.ext E1
  have V1 : Arv Z h1 b1 k1 .int (1 : Int32) [(.int (0 : Int32))] (.int (0 : Int32)) := (Arv.new A1 (by decide)).pad (pad_rep [] (.int (0 : Int32)) 1)
  refine own_go st1 ?_
  show own_Fin p e below _ (T1.setTop (mkF m 5 #[.val (.ref a1), .val (.int (0 : Int32)), .val (.int (4 : Int32)), .unset, .unset, .unset] [(.ref b1)]))
  refine own_go (fun t k => XS.astoreN X1.here hx rfl (hb hby d2_5) rfl rfl (l' := #[.val (.ref a1), .val (.int (0 : Int32)), .val (.int (4 : Int32)), .val (.ref b1), .unset, .unset]) rfl (XS.iconst X1.here hx rfl (hb hby d2_6) (XS.istore X1.here hx rfl (hb hby d2_7) rfl (l' := #[.val (.ref a1), .val (.int (0 : Int32)), .val (.int (4 : Int32)), .val (.ref b1), .val (.int (0 : Int32)), .unset]) rfl (XS.iload X1.here hx rfl (hb hby d2_9) rfl  k)))) ?_
  show own_Fin p e below _ (T1.setTop (mkF m 11 #[.val (.ref a1), .val (.int (0 : Int32)), .val (.int (4 : Int32)), .val (.ref b1), .val (.int (0 : Int32)), .unset] [(.int (0 : Int32))]))
  refine own_go (fun t k => XS.aloadN X1.here hx rfl (hb hby d2_11) rfl rfl  k) ?_
  show own_Fin p e below _ (T1.setTop (mkF m 12 #[.val (.ref a1), .val (.int (0 : Int32)), .val (.int (4 : Int32)), .val (.ref b1), .val (.int (0 : Int32)), .unset] [(.ref b1), (.int (0 : Int32))]))
  obtain ⟨cl5, Ar5, q5, S5, M5, H5, G5⟩ := (id V1)
  refine own_go (fun t k => X1.arraylength hx (by rw [e1]; exact Ar5.1) (State.isArrayOf_alike hZ.alike Ar5.2.1) (g := (mkF m 12 #[.val (.ref a1), .val (.int (0 : Int32)), .val (.int (4 : Int32)), .val (.ref b1), .val (.int (0 : Int32)), .unset] [(.ref b1), (.int (0 : Int32))])) rfl rfl (hb hby d2_12) _ k) ?_
  rw [len_of S5 M5]
  show own_Fin p e below _ (T1.setTop (mkF m 13 #[.val (.ref a1), .val (.int (0 : Int32)), .val (.int (4 : Int32)), .val (.ref b1), .val (.int (0 : Int32)), .unset] [(.int (1 : Int32)), (.int (0 : Int32))]))
  refine own_go (fun t k => XS.icmpNo X1.here hx rfl (hb hby d2_13) rfl (tlt (by decide : (0 : Int32) < (1 : Int32))).2.1 (XS.iloadN X1.here hx rfl (hb hby d2_16) rfl  (XS.iconst X1.here hx rfl (hb hby d2_17) (XS.iload X1.here hx rfl (hb hby d2_18) rfl  k)))) ?_
  show own_Fin p e below _ (T1.setTop (mkF m 20 #[.val (.ref a1), .val (.int (0 : Int32)), .val (.int (4 : Int32)), .val (.ref b1), .val (.int (0 : Int32)), .unset] [(.int (0 : Int32)), (.int (4 : Int32)), (.int (0 : Int32))]))
  refine own_go (fun t k => XS.imul X1.here hx rfl (hb hby d2_20) rfl (XS.iadd X1.here hx rfl (hb hby d2_21) rfl (XS.istore X1.here hx rfl (hb hby d2_22) rfl (l' := #[.val (.ref a1), .val (.int (0 : Int32)), .val (.int (4 : Int32)), .val (.ref b1), .val (.int (0 : Int32)), .val (.int (0 : Int32))]) rfl (XS.aloadN X1.here hx rfl (hb hby d2_24) rfl rfl  k)))) ?_
  show own_Fin p e below _ (T1.setTop (mkF m 25 #[.val (.ref a1), .val (.int (0 : Int32)), .val (.int (4 : Int32)), .val (.ref b1), .val (.int (0 : Int32)), .val (.int (0 : Int32))] [(.ref b1)]))
  refine own_go (fun t k => XS.iload X1.here hx rfl (hb hby d2_25) rfl  (XS.aloadN X1.here hx rfl (hb hby d2_27) rfl rfl  (XS.iload X1.here hx rfl (hb hby d2_28) rfl  k))) ?_
  show own_Fin p e below _ (T1.setTop (mkF m 30 #[.val (.ref a1), .val (.int (0 : Int32)), .val (.int (4 : Int32)), .val (.ref b1), .val (.int (0 : Int32)), .val (.int (0 : Int32))] [(.int (0 : Int32)), (.ref a1), (.int (0 : Int32)), (.ref b1)]))
  obtain ⟨cl6, Ar6, q6, S6, M6, H6, G6⟩ := (id f2)
  have hin6 : ¬ ((0 : Int32) < 0 ∨ cl6.slots.size ≤ ((0 : Int32)).toNatClampNeg) := inb_of S6 ⟨by decide, by decide⟩
  have hat6 : cl6.slots[((0 : Int32)).toNatClampNeg]? = some (.int u0) := H6.at hin6 rfl
  refine own_go (fun t k => X1.baloadBytes hx (j := (0 : Int32)) (v := (.int u0)) (by rw [e1]; exact Ar6.1) (State.isArrayOf_alike hZ.alike Ar6.2.1) Ar6.2.2 hin6 hat6 (g := (mkF m 30 #[.val (.ref a1), .val (.int (0 : Int32)), .val (.int (4 : Int32)), .val (.ref b1), .val (.int (0 : Int32)), .val (.int (0 : Int32))] [(.int (0 : Int32)), (.ref a1), (.int (0 : Int32)), (.ref b1)])) rfl rfl (hb hby d2_30) _ (XS.sipush X1.here hx rfl (hb hby d2_31) (XS.iand X1.here hx rfl (hb hby d2_34) rfl (XS.aloadN X1.here hx rfl (hb hby d2_35) rfl rfl  k)))) ?_
  show own_Fin p e below _ (T1.setTop (mkF m 36 #[.val (.ref a1), .val (.int (0 : Int32)), .val (.int (4 : Int32)), .val (.ref b1), .val (.int (0 : Int32)), .val (.int (0 : Int32))] [(.ref a1), (.int (u0 &&& (255 : Int32))), (.int (0 : Int32)), (.ref b1)]))
  refine own_go (fun t k => XS.iload X1.here hx rfl (hb hby d2_36) rfl  (XS.iconst X1.here hx rfl (hb hby d2_38) (XS.iadd X1.here hx rfl (hb hby d2_39) rfl k))) ?_
  show own_Fin p e below _ (T1.setTop (mkF m 40 #[.val (.ref a1), .val (.int (0 : Int32)), .val (.int (4 : Int32)), .val (.ref b1), .val (.int (0 : Int32)), .val (.int (0 : Int32))] [(.int (1 : Int32)), (.ref a1), (.int (u0 &&& (255 : Int32))), (.int (0 : Int32)), (.ref b1)]))
  obtain ⟨cl7, Ar7, q7, S7, M7, H7, G7⟩ := (id f2)
  have hin7 : ¬ ((1 : Int32) < 0 ∨ cl7.slots.size ≤ ((1 : Int32)).toNatClampNeg) := inb_of S7 ⟨by decide, by decide⟩
  have hat7 : cl7.slots[((1 : Int32)).toNatClampNeg]? = some (.int u1) := H7.at hin7 rfl
  refine own_go (fun t k => X1.baloadBytes hx (j := (1 : Int32)) (v := (.int u1)) (by rw [e1]; exact Ar7.1) (State.isArrayOf_alike hZ.alike Ar7.2.1) Ar7.2.2 hin7 hat7 (g := (mkF m 40 #[.val (.ref a1), .val (.int (0 : Int32)), .val (.int (4 : Int32)), .val (.ref b1), .val (.int (0 : Int32)), .val (.int (0 : Int32))] [(.int (1 : Int32)), (.ref a1), (.int (u0 &&& (255 : Int32))), (.int (0 : Int32)), (.ref b1)])) rfl rfl (hb hby d2_40) _ (XS.sipush X1.here hx rfl (hb hby d2_41) (XS.iand X1.here hx rfl (hb hby d2_44) rfl (XS.bipush X1.here hx rfl (hb hby d2_45) k)))) ?_
  show own_Fin p e below _ (T1.setTop (mkF m 47 #[.val (.ref a1), .val (.int (0 : Int32)), .val (.int (4 : Int32)), .val (.ref b1), .val (.int (0 : Int32)), .val (.int (0 : Int32))] [(.int (8 : Int32)), (.int (u1 &&& (255 : Int32))), (.int (u0 &&& (255 : Int32))), (.int (0 : Int32)), (.ref b1)]))
  refine own_go (fun t k => XS.ishl X1.here hx rfl (hb hby d2_47) rfl (XS.ior X1.here hx rfl (hb hby d2_48) rfl (XS.aloadN X1.here hx rfl (hb hby d2_49) rfl rfl  (XS.iload X1.here hx rfl (hb hby d2_50) rfl  k)))) ?_
  show own_Fin p e below _ (T1.setTop (mkF m 52 #[.val (.ref a1), .val (.int (0 : Int32)), .val (.int (4 : Int32)), .val (.ref b1), .val (.int (0 : Int32)), .val (.int (0 : Int32))] [(.int (0 : Int32)), (.ref a1), (.int ((u0 &&& (255 : Int32)) ||| ((u1 &&& (255 : Int32)) <<< ((8 : Int32) &&& 31)))), (.int (0 : Int32)), (.ref b1)]))
  refine own_go (fun t k => XS.iconst X1.here hx rfl (hb hby d2_52) (XS.iadd X1.here hx rfl (hb hby d2_53) rfl k)) ?_
  show own_Fin p e below _ (T1.setTop (mkF m 54 #[.val (.ref a1), .val (.int (0 : Int32)), .val (.int (4 : Int32)), .val (.ref b1), .val (.int (0 : Int32)), .val (.int (0 : Int32))] [(.int (2 : Int32)), (.ref a1), (.int ((u0 &&& (255 : Int32)) ||| ((u1 &&& (255 : Int32)) <<< ((8 : Int32) &&& 31)))), (.int (0 : Int32)), (.ref b1)]))
  obtain ⟨cl8, Ar8, q8, S8, M8, H8, G8⟩ := (id f2)
  have hin8 : ¬ ((2 : Int32) < 0 ∨ cl8.slots.size ≤ ((2 : Int32)).toNatClampNeg) := inb_of S8 ⟨by decide, by decide⟩
  have hat8 : cl8.slots[((2 : Int32)).toNatClampNeg]? = some (.int u2) := H8.at hin8 rfl
  refine own_go (fun t k => X1.baloadBytes hx (j := (2 : Int32)) (v := (.int u2)) (by rw [e1]; exact Ar8.1) (State.isArrayOf_alike hZ.alike Ar8.2.1) Ar8.2.2 hin8 hat8 (g := (mkF m 54 #[.val (.ref a1), .val (.int (0 : Int32)), .val (.int (4 : Int32)), .val (.ref b1), .val (.int (0 : Int32)), .val (.int (0 : Int32))] [(.int (2 : Int32)), (.ref a1), (.int ((u0 &&& (255 : Int32)) ||| ((u1 &&& (255 : Int32)) <<< ((8 : Int32) &&& 31)))), (.int (0 : Int32)), (.ref b1)])) rfl rfl (hb hby d2_54) _ (XS.sipush X1.here hx rfl (hb hby d2_55) (XS.iand X1.here hx rfl (hb hby d2_58) rfl (XS.bipush X1.here hx rfl (hb hby d2_59) k)))) ?_
  show own_Fin p e below _ (T1.setTop (mkF m 61 #[.val (.ref a1), .val (.int (0 : Int32)), .val (.int (4 : Int32)), .val (.ref b1), .val (.int (0 : Int32)), .val (.int (0 : Int32))] [(.int (16 : Int32)), (.int (u2 &&& (255 : Int32))), (.int ((u0 &&& (255 : Int32)) ||| ((u1 &&& (255 : Int32)) <<< ((8 : Int32) &&& 31)))), (.int (0 : Int32)), (.ref b1)]))
  refine own_go (fun t k => XS.ishl X1.here hx rfl (hb hby d2_61) rfl (XS.ior X1.here hx rfl (hb hby d2_62) rfl (XS.aloadN X1.here hx rfl (hb hby d2_63) rfl rfl  (XS.iload X1.here hx rfl (hb hby d2_64) rfl  k)))) ?_
  show own_Fin p e below _ (T1.setTop (mkF m 66 #[.val (.ref a1), .val (.int (0 : Int32)), .val (.int (4 : Int32)), .val (.ref b1), .val (.int (0 : Int32)), .val (.int (0 : Int32))] [(.int (0 : Int32)), (.ref a1), (.int (((u0 &&& (255 : Int32)) ||| ((u1 &&& (255 : Int32)) <<< ((8 : Int32) &&& 31))) ||| ((u2 &&& (255 : Int32)) <<< ((16 : Int32) &&& 31)))), (.int (0 : Int32)), (.ref b1)]))
  refine own_go (fun t k => XS.iconst X1.here hx rfl (hb hby d2_66) (XS.iadd X1.here hx rfl (hb hby d2_67) rfl k)) ?_
  show own_Fin p e below _ (T1.setTop (mkF m 68 #[.val (.ref a1), .val (.int (0 : Int32)), .val (.int (4 : Int32)), .val (.ref b1), .val (.int (0 : Int32)), .val (.int (0 : Int32))] [(.int (3 : Int32)), (.ref a1), (.int (((u0 &&& (255 : Int32)) ||| ((u1 &&& (255 : Int32)) <<< ((8 : Int32) &&& 31))) ||| ((u2 &&& (255 : Int32)) <<< ((16 : Int32) &&& 31)))), (.int (0 : Int32)), (.ref b1)]))
  obtain ⟨cl9, Ar9, q9, S9, M9, H9, G9⟩ := (id f2)
  have hin9 : ¬ ((3 : Int32) < 0 ∨ cl9.slots.size ≤ ((3 : Int32)).toNatClampNeg) := inb_of S9 ⟨by decide, by decide⟩
  have hat9 : cl9.slots[((3 : Int32)).toNatClampNeg]? = some (.int u3) := H9.at hin9 rfl
  refine own_go (fun t k => X1.baloadBytes hx (j := (3 : Int32)) (v := (.int u3)) (by rw [e1]; exact Ar9.1) (State.isArrayOf_alike hZ.alike Ar9.2.1) Ar9.2.2 hin9 hat9 (g := (mkF m 68 #[.val (.ref a1), .val (.int (0 : Int32)), .val (.int (4 : Int32)), .val (.ref b1), .val (.int (0 : Int32)), .val (.int (0 : Int32))] [(.int (3 : Int32)), (.ref a1), (.int (((u0 &&& (255 : Int32)) ||| ((u1 &&& (255 : Int32)) <<< ((8 : Int32) &&& 31))) ||| ((u2 &&& (255 : Int32)) <<< ((16 : Int32) &&& 31)))), (.int (0 : Int32)), (.ref b1)])) rfl rfl (hb hby d2_68) _ (XS.sipush X1.here hx rfl (hb hby d2_69) (XS.iand X1.here hx rfl (hb hby d2_72) rfl (XS.bipush X1.here hx rfl (hb hby d2_73) k)))) ?_
  show own_Fin p e below _ (T1.setTop (mkF m 75 #[.val (.ref a1), .val (.int (0 : Int32)), .val (.int (4 : Int32)), .val (.ref b1), .val (.int (0 : Int32)), .val (.int (0 : Int32))] [(.int (24 : Int32)), (.int (u3 &&& (255 : Int32))), (.int (((u0 &&& (255 : Int32)) ||| ((u1 &&& (255 : Int32)) <<< ((8 : Int32) &&& 31))) ||| ((u2 &&& (255 : Int32)) <<< ((16 : Int32) &&& 31)))), (.int (0 : Int32)), (.ref b1)]))
  refine own_go (fun t k => XS.ishl X1.here hx rfl (hb hby d2_75) rfl (XS.ior X1.here hx rfl (hb hby d2_76) rfl k)) ?_
  show own_Fin p e below _ (T1.setTop (mkF m 77 #[.val (.ref a1), .val (.int (0 : Int32)), .val (.int (4 : Int32)), .val (.ref b1), .val (.int (0 : Int32)), .val (.int (0 : Int32))] [(.int ((((u0 &&& (255 : Int32)) ||| ((u1 &&& (255 : Int32)) <<< ((8 : Int32) &&& 31))) ||| ((u2 &&& (255 : Int32)) <<< ((16 : Int32) &&& 31))) ||| ((u3 &&& (255 : Int32)) <<< ((24 : Int32) &&& 31)))), (.int (0 : Int32)), (.ref b1)]))
  obtain ⟨cl10, Ar10, q10, S10, M10, H10, G10⟩ := (id V1)
  have hin10 : ¬ ((0 : Int32) < 0 ∨ cl10.slots.size ≤ ((0 : Int32)).toNatClampNeg) := inb_of S10 ⟨by decide, by decide⟩
  obtain ⟨T10, h10, X10, e10, W10, st10⟩ := stI X1 hx hZ e1 Ar10 (j := (0 : Int32)) hin10 (g := (mkF m 77 #[.val (.ref a1), .val (.int (0 : Int32)), .val (.int (4 : Int32)), .val (.ref b1), .val (.int (0 : Int32)), .val (.int (0 : Int32))] [(.int ((((u0 &&& (255 : Int32)) ||| ((u1 &&& (255 : Int32)) <<< ((8 : Int32) &&& 31))) ||| ((u2 &&& (255 : Int32)) <<< ((16 : Int32) &&& 31))) ||| ((u3 &&& (255 : Int32)) <<< ((24 : Int32) &&& 31)))), (.int (0 : Int32)), (.ref b1)])) rfl rfl (hb hby d2_77)
  have f11 := f2.other W10 ne_a1_b1
  have V10 := Arv.set Ar10 q10 S10 M10 H10 G10 rfl W10 0 rfl (Nat.le_of_ble_eq_true rfl)
  have f13 : Arv Z h10 b1 k1 .int (1 : Int32) [(.int ((((u0 &&& (255 : Int32)) ||| ((u1 &&& (255 : Int32)) <<< ((8 : Int32) &&& 31))) ||| ((u2 &&& (255 : Int32)) <<< ((16 : Int32) &&& 31))) ||| ((u3 &&& (255 : Int32)) <<< ((24 : Int32) &&& 31))))] (.int (0 : Int32)) := V10
  have Zh14 : n0 ≤ h10.size := Nat.le_trans Zh3 (Nat.le_of_eq W10.size.symm)
  have N10 := Fr.snoc X10 N0 g_b1
  have K15 := K4.wr W10 (Or.inr sz_b1)
  refine own_go st10 ?_
  show own_Fin p e below _ (T10.setTop (mkF m 78 #[.val (.ref a1), .val (.int (0 : Int32)), .val (.int (4 : Int32)), .val (.ref b1), .val (.int (0 : Int32)), .val (.int (0 : Int32))] []))
  refine own_go (fun t k => XS.iinc X10.here hx rfl (hb hby d2_78) rfl (l' := #[.val (.ref a1), .val (.int (0 : Int32)), .val (.int (4 : Int32)), .val (.ref b1), .val (.int (1 : Int32)), .val (.int (0 : Int32))]) rfl (XS.goto X10.here hx rfl (pc0 := 81) (pc' := 9) rfl (hb hby d2_81) (by decide) (by decide) (XS.iload X10.here hx rfl (hb hby d2_9) rfl  (XS.aloadN X10.here hx rfl (hb hby d2_11) rfl rfl  k)))) ?_
  show own_Fin p e below _ (T10.setTop (mkF m 12 #[.val (.ref a1), .val (.int (0 : Int32)), .val (.int (4 : Int32)), .val (.ref b1), .val (.int (1 : Int32)), .val (.int (0 : Int32))] [(.ref b1), (.int (1 : Int32))]))
  obtain ⟨cl16, Ar16, q16, S16, M16, H16, G16⟩ := (id f13)
  refine own_go (fun t k => X10.arraylength hx (by rw [e10]; exact Ar16.1) (State.isArrayOf_alike hZ.alike Ar16.2.1) (g := (mkF m 12 #[.val (.ref a1), .val (.int (0 : Int32)), .val (.int (4 : Int32)), .val (.ref b1), .val (.int (1 : Int32)), .val (.int (0 : Int32))] [(.ref b1), (.int (1 : Int32))])) rfl rfl (hb hby d2_12) _ k) ?_
  rw [len_of S16 M16]
  show own_Fin p e below _ (T10.setTop (mkF m 13 #[.val (.ref a1), .val (.int (0 : Int32)), .val (.int (4 : Int32)), .val (.ref b1), .val (.int (1 : Int32)), .val (.int (0 : Int32))] [(.int (1 : Int32)), (.int (1 : Int32))]))
  refine own_go (fun t k => XS.icmpYes X10.here hx rfl (pc0 := 13) (pc' := 84) rfl (hb hby d2_13) rfl (flt (by decide : ¬ ((1 : Int32) < (1 : Int32)))).2.1 (by decide) (by decide) (XS.aloadN X10.here hx rfl (hb hby d2_84) rfl rfl  k)) ?_
  show own_Fin p e below _ (T10.setTop (mkF m 85 #[.val (.ref a1), .val (.int (0 : Int32)), .val (.int (4 : Int32)), .val (.ref b1), .val (.int (1 : Int32)), .val (.int (0 : Int32))] [(.ref b1)]))
  exact own_out X10 (fun h => by rw [Bd.returns] at h; cases h) Bd.notSynchronized (fun fs hr => retOut X10 hx Bd.returns rfl (Or.inr (Or.inr (Or.inr (Or.inr ⟨rfl, rfl, rfl⟩)))) (hb hby d2_85) hr) (by rw [e10]; exact ⟨_, _, rfl, N10, sz_b1, K15, f13⟩) (by decide) (by decide)
theorem ef_2o0c2 (m : MethodId) (x0 : Addr) (x1 : Int32) (x2 : Int32)  : entryFrame m #[(.ref x0), (.int x1), (.int x2)] 6 = mkF m 0 #[.val (.ref x0), .val (.int x1), .val (.int x2), .unset, .unset, .unset] [] := by first | (simp [entryFrame, mkF, argsToLocals, Value.category]; done) | rfl
def own_q2o0c2 (Z : State) (a1 : Addr) (k1 : ClassId) (u0 u1 u2 u3 u4 u5 u6 u7 u8 u9 u10 u11 u12 : Int32) (h0 : Heap) (n0 : Nat) (v : Option Value) (h : Heap) (L : List Loc) : Prop := ∃ (a : Addr) (k : ClassId), v = some (.ref a) ∧ Fr n0 L ∧ h0.size ≤ a ∧ Keep h0 h [] ∧ Arv Z h a k .int (2 : Int32) [(.int (own_w u0 u1 u2 u3)), (.int (own_w u4 u5 u6 u7))] (.int (0 : Int32))
set_option maxRecDepth 65536 in
set_option maxHeartbeats 40000000 in
theorem rm2o0c2 (l : Launch) (Z : State) (a0 : Array Value) (hw : ∀ d ∈ tables_1, d.before a0 Z = true) (ws : List Jvm.Cond) (a1 : Addr) (k1 : ClassId) (u0 u1 u2 u3 u4 u5 u6 u7 u8 u9 u10 u11 u12 : Int32) (h0 : Heap) (n0 : Nat) (Z0 : n0 ≤ h0.size) (V_a1 : Arv Z h0 a1 k1 .byte (13 : Int32) [(.int u0), (.int u1), (.int u2), (.int u3), (.int u4), (.int u5), (.int u6), (.int u7), (.int u8), (.int u9), (.int u10), (.int u11), (.int u12)] (.int (0 : Int32))) :
    MetFree l (⟨"com/example/palimpsest/palimpsest/chain/CurveScalars", "decode", "([BII)[I"⟩ : MethodName) (head1 (Jvm.Cond.code (⟨"com/example/palimpsest/palimpsest/chain/CurveScalars", "decode", "([BII)[I"⟩ : MethodName) prog_6_method_2_code 6 (some (.array .int)) :: ws) ({ frames := 0, cells := 1, slots := 2, locals := 0 } : Room)) (fun a U => a = #[(.ref a1), (.int (0 : Int32)), (.int (8 : Int32))] ∧ Z.Warmed39 U.vm ∧ U.heap = h0) (fun _ _ _ _ _ => True) (fun _ U o U' => ∃ v L, o = .returned v ∧ (own_q2o0c2 Z a1 k1 u0 u1 u2 u3 u4 u5 u6 u7 u8 u9 u10 u11 u12 h0 n0) v U'.heap L ∧ FrameEnd U o U' L ({ frames := 0, cells := 1, slots := 2, locals := 0 } : Room).cells ({ frames := 0, cells := 1, slots := 2, locals := 0 } : Room).slots) := by
  refine MetFree.of_bodySF (plainFor_of_name pn_1) hisR ?_
  intro p e s m args below meth c s₁ Bd hml0 hP hK
  obtain ⟨rfl, hZ, hh⟩ := hP
  have hx := Bd.exec
  have hby := Bd.bytes
  have hml : c.maxLocals = 6 := hml0
  have hown : s.vm.findClass "com/example/palimpsest/palimpsest/chain/CurveScalars" = some m.cls := findClass_of_methodNamed Bd.named
  have hnm := (name_of_methodNamed Bd.named Bd.method).1
  have X0 : Stand p l e ({ frames := 0, cells := 1, slots := 2, locals := 0 } : Room) s m #[(.ref a1), (.int (0 : Int32)), (.int (8 : Int32))] below meth c s₁ [] 0 0 := Stand.of_body Bd
  have e0 : s₁.heap = h0 := by rw [← hh, Bd.state]; rfl
  have N0 := Fr.nil n0
  have Kz := Keep.refl h0 []
  have hw_9 := hw _ (List.mem_of_getElem? (i := 9) rfl)
  show own_Fin p e below (own_A s ({ frames := 0, cells := 1, slots := 2, locals := 0 } : Room).cells ({ frames := 0, cells := 1, slots := 2, locals := 0 } : Room).slots (own_q2o0c2 Z a1 k1 u0 u1 u2 u3 u4 u5 u6 u7 u8 u9 u10 u11 u12 h0 n0)) _
  refine own_go (fun t k => castTop (ef_2o0c2 m (a1) ((0 : Int32)) ((8 : Int32))) k) ?_
  show own_Fin p e below _ (s₁.setTop (mkF m 0 #[.val (.ref a1), .val (.int (0 : Int32)), .val (.int (8 : Int32)), .unset, .unset, .unset] []))
  refine own_go (fun t k => XS.iloadN X0.here hx rfl (hb hby d2_0) rfl  (XS.iconst X0.here hx rfl (hb hby d2_1) (XS.idiv X0.here hx rfl (hb hby d2_2) rfl (by decide) k))) ?_
  show own_Fin p e below _ (s₁.setTop (mkF m 3 #[.val (.ref a1), .val (.int (0 : Int32)), .val (.int (8 : Int32)), .unset, .unset, .unset] [(.int (2 : Int32))]))
  obtain ⟨T1, h1, k1, X1, e1, E1, A1, st1⟩ := newP (aty := .int) X0 hx hZ hw_9 e0 (g := (mkF m 3 #[.val (.ref a1), .val (.int (0 : Int32)), .val (.int (8 : Int32)), .unset, .unset, .unset] [(.int (2 : Int32))])) rfl (hb hby d2_3) rfl (by decide) (cap := 2) (by decide) (by decide) (by decide) (by decide)
  obtain ⟨b1, g1⟩ : ∃ z, z = h0.size := ⟨_, rfl⟩
  rw [← g1] at A1 st1
  have g_b1 : n0 ≤ b1 := Nat.le_trans Z0 (Nat.le_of_eq g1.symm)
  have sz_b1 : h0.size ≤ b1 := Nat.le_trans Kz.1 (Nat.le_of_eq g1.symm)
  have ne_a1_b1 : a1 ≠ b1 := Nat.ne_of_lt (Nat.lt_of_lt_of_le V_a1.lt (Nat.le_of_eq g1.symm))
  have f2 := V_a1.ext E1
  have Zh3 : n0 ≤ h1.size := Nat.le_trans Z0 E1.1
  have K4 := Kz.ext E1
  have V1 : Arv Z h1 b1 k1 .int (2 : Int32) [(.int (0 : Int32)), (.int (0 : Int32))] (.int (0 : Int32)) := (Arv.new A1 (by decide)).pad (pad_rep [] (.int (0 : Int32)) 2)
  refine own_go st1 ?_
  show own_Fin p e below _ (T1.setTop (mkF m 5 #[.val (.ref a1), .val (.int (0 : Int32)), .val (.int (8 : Int32)), .unset, .unset, .unset] [(.ref b1)]))
  refine own_go (fun t k => XS.astoreN X1.here hx rfl (hb hby d2_5) rfl rfl (l' := #[.val (.ref a1), .val (.int (0 : Int32)), .val (.int (8 : Int32)), .val (.ref b1), .unset, .unset]) rfl (XS.iconst X1.here hx rfl (hb hby d2_6) (XS.istore X1.here hx rfl (hb hby d2_7) rfl (l' := #[.val (.ref a1), .val (.int (0 : Int32)), .val (.int (8 : Int32)), .val (.ref b1), .val (.int (0 : Int32)), .unset]) rfl (XS.iload X1.here hx rfl (hb hby d2_9) rfl  k)))) ?_
  show own_Fin p e below _ (T1.setTop (mkF m 11 #[.val (.ref a1), .val (.int (0 : Int32)), .val (.int (8 : Int32)), .val (.ref b1), .val (.int (0 : Int32)), .unset] [(.int (0 : Int32))]))
  refine own_go (fun t k => XS.aloadN X1.here hx rfl (hb hby d2_11) rfl rfl  k) ?_
  show own_Fin p e below _ (T1.setTop (mkF m 12 #[.val (.ref a1), .val (.int (0 : Int32)), .val (.int (8 : Int32)), .val (.ref b1), .val (.int (0 : Int32)), .unset] [(.ref b1), (.int (0 : Int32))]))
  obtain ⟨cl5, Ar5, q5, S5, M5, H5, G5⟩ := (id V1)
  refine own_go (fun t k => X1.arraylength hx (by rw [e1]; exact Ar5.1) (State.isArrayOf_alike hZ.alike Ar5.2.1) (g := (mkF m 12 #[.val (.ref a1), .val (.int (0 : Int32)), .val (.int (8 : Int32)), .val (.ref b1), .val (.int (0 : Int32)), .unset] [(.ref b1), (.int (0 : Int32))])) rfl rfl (hb hby d2_12) _ k) ?_
  rw [len_of S5 M5]
  show own_Fin p e below _ (T1.setTop (mkF m 13 #[.val (.ref a1), .val (.int (0 : Int32)), .val (.int (8 : Int32)), .val (.ref b1), .val (.int (0 : Int32)), .unset] [(.int (2 : Int32)), (.int (0 : Int32))]))
  refine own_go (fun t k => XS.icmpNo X1.here hx rfl (hb hby d2_13) rfl (tlt (by decide : (0 : Int32) < (2 : Int32))).2.1 (XS.iloadN X1.here hx rfl (hb hby d2_16) rfl  (XS.iconst X1.here hx rfl (hb hby d2_17) (XS.iload X1.here hx rfl (hb hby d2_18) rfl  k)))) ?_
  show own_Fin p e below _ (T1.setTop (mkF m 20 #[.val (.ref a1), .val (.int (0 : Int32)), .val (.int (8 : Int32)), .val (.ref b1), .val (.int (0 : Int32)), .unset] [(.int (0 : Int32)), (.int (4 : Int32)), (.int (0 : Int32))]))
  refine own_go (fun t k => XS.imul X1.here hx rfl (hb hby d2_20) rfl (XS.iadd X1.here hx rfl (hb hby d2_21) rfl (XS.istore X1.here hx rfl (hb hby d2_22) rfl (l' := #[.val (.ref a1), .val (.int (0 : Int32)), .val (.int (8 : Int32)), .val (.ref b1), .val (.int (0 : Int32)), .val (.int (0 : Int32))]) rfl (XS.aloadN X1.here hx rfl (hb hby d2_24) rfl rfl  k)))) ?_
  show own_Fin p e below _ (T1.setTop (mkF m 25 #[.val (.ref a1), .val (.int (0 : Int32)), .val (.int (8 : Int32)), .val (.ref b1), .val (.int (0 : Int32)), .val (.int (0 : Int32))] [(.ref b1)]))
  refine own_go (fun t k => XS.iload X1.here hx rfl (hb hby d2_25) rfl  (XS.aloadN X1.here hx rfl (hb hby d2_27) rfl rfl  (XS.iload X1.here hx rfl (hb hby d2_28) rfl  k))) ?_
  show own_Fin p e below _ (T1.setTop (mkF m 30 #[.val (.ref a1), .val (.int (0 : Int32)), .val (.int (8 : Int32)), .val (.ref b1), .val (.int (0 : Int32)), .val (.int (0 : Int32))] [(.int (0 : Int32)), (.ref a1), (.int (0 : Int32)), (.ref b1)]))
  obtain ⟨cl6, Ar6, q6, S6, M6, H6, G6⟩ := (id f2)
  have hin6 : ¬ ((0 : Int32) < 0 ∨ cl6.slots.size ≤ ((0 : Int32)).toNatClampNeg) := inb_of S6 ⟨by decide, by decide⟩
  have hat6 : cl6.slots[((0 : Int32)).toNatClampNeg]? = some (.int u0) := H6.at hin6 rfl
  refine own_go (fun t k => X1.baloadBytes hx (j := (0 : Int32)) (v := (.int u0)) (by rw [e1]; exact Ar6.1) (State.isArrayOf_alike hZ.alike Ar6.2.1) Ar6.2.2 hin6 hat6 (g := (mkF m 30 #[.val (.ref a1), .val (.int (0 : Int32)), .val (.int (8 : Int32)), .val (.ref b1), .val (.int (0 : Int32)), .val (.int (0 : Int32))] [(.int (0 : Int32)), (.ref a1), (.int (0 : Int32)), (.ref b1)])) rfl rfl (hb hby d2_30) _ (XS.sipush X1.here hx rfl (hb hby d2_31) (XS.iand X1.here hx rfl (hb hby d2_34) rfl (XS.aloadN X1.here hx rfl (hb hby d2_35) rfl rfl  k)))) ?_
  show own_Fin p e below _ (T1.setTop (mkF m 36 #[.val (.ref a1), .val (.int (0 : Int32)), .val (.int (8 : Int32)), .val (.ref b1), .val (.int (0 : Int32)), .val (.int (0 : Int32))] [(.ref a1), (.int (u0 &&& (255 : Int32))), (.int (0 : Int32)), (.ref b1)]))
  refine own_go (fun t k => XS.iload X1.here hx rfl (hb hby d2_36) rfl  (XS.iconst X1.here hx rfl (hb hby d2_38) (XS.iadd X1.here hx rfl (hb hby d2_39) rfl k))) ?_
  show own_Fin p e below _ (T1.setTop (mkF m 40 #[.val (.ref a1), .val (.int (0 : Int32)), .val (.int (8 : Int32)), .val (.ref b1), .val (.int (0 : Int32)), .val (.int (0 : Int32))] [(.int (1 : Int32)), (.ref a1), (.int (u0 &&& (255 : Int32))), (.int (0 : Int32)), (.ref b1)]))
  obtain ⟨cl7, Ar7, q7, S7, M7, H7, G7⟩ := (id f2)
  have hin7 : ¬ ((1 : Int32) < 0 ∨ cl7.slots.size ≤ ((1 : Int32)).toNatClampNeg) := inb_of S7 ⟨by decide, by decide⟩
  have hat7 : cl7.slots[((1 : Int32)).toNatClampNeg]? = some (.int u1) := H7.at hin7 rfl
  refine own_go (fun t k => X1.baloadBytes hx (j := (1 : Int32)) (v := (.int u1)) (by rw [e1]; exact Ar7.1) (State.isArrayOf_alike hZ.alike Ar7.2.1) Ar7.2.2 hin7 hat7 (g := (mkF m 40 #[.val (.ref a1), .val (.int (0 : Int32)), .val (.int (8 : Int32)), .val (.ref b1), .val (.int (0 : Int32)), .val (.int (0 : Int32))] [(.int (1 : Int32)), (.ref a1), (.int (u0 &&& (255 : Int32))), (.int (0 : Int32)), (.ref b1)])) rfl rfl (hb hby d2_40) _ (XS.sipush X1.here hx rfl (hb hby d2_41) (XS.iand X1.here hx rfl (hb hby d2_44) rfl (XS.bipush X1.here hx rfl (hb hby d2_45) k)))) ?_
  show own_Fin p e below _ (T1.setTop (mkF m 47 #[.val (.ref a1), .val (.int (0 : Int32)), .val (.int (8 : Int32)), .val (.ref b1), .val (.int (0 : Int32)), .val (.int (0 : Int32))] [(.int (8 : Int32)), (.int (u1 &&& (255 : Int32))), (.int (u0 &&& (255 : Int32))), (.int (0 : Int32)), (.ref b1)]))
  refine own_go (fun t k => XS.ishl X1.here hx rfl (hb hby d2_47) rfl (XS.ior X1.here hx rfl (hb hby d2_48) rfl (XS.aloadN X1.here hx rfl (hb hby d2_49) rfl rfl  (XS.iload X1.here hx rfl (hb hby d2_50) rfl  k)))) ?_
  show own_Fin p e below _ (T1.setTop (mkF m 52 #[.val (.ref a1), .val (.int (0 : Int32)), .val (.int (8 : Int32)), .val (.ref b1), .val (.int (0 : Int32)), .val (.int (0 : Int32))] [(.int (0 : Int32)), (.ref a1), (.int ((u0 &&& (255 : Int32)) ||| ((u1 &&& (255 : Int32)) <<< ((8 : Int32) &&& 31)))), (.int (0 : Int32)), (.ref b1)]))
  refine own_go (fun t k => XS.iconst X1.here hx rfl (hb hby d2_52) (XS.iadd X1.here hx rfl (hb hby d2_53) rfl k)) ?_
  show own_Fin p e below _ (T1.setTop (mkF m 54 #[.val (.ref a1), .val (.int (0 : Int32)), .val (.int (8 : Int32)), .val (.ref b1), .val (.int (0 : Int32)), .val (.int (0 : Int32))] [(.int (2 : Int32)), (.ref a1), (.int ((u0 &&& (255 : Int32)) ||| ((u1 &&& (255 : Int32)) <<< ((8 : Int32) &&& 31)))), (.int (0 : Int32)), (.ref b1)]))
  obtain ⟨cl8, Ar8, q8, S8, M8, H8, G8⟩ := (id f2)
  have hin8 : ¬ ((2 : Int32) < 0 ∨ cl8.slots.size ≤ ((2 : Int32)).toNatClampNeg) := inb_of S8 ⟨by decide, by decide⟩
  have hat8 : cl8.slots[((2 : Int32)).toNatClampNeg]? = some (.int u2) := H8.at hin8 rfl
  refine own_go (fun t k => X1.baloadBytes hx (j := (2 : Int32)) (v := (.int u2)) (by rw [e1]; exact Ar8.1) (State.isArrayOf_alike hZ.alike Ar8.2.1) Ar8.2.2 hin8 hat8 (g := (mkF m 54 #[.val (.ref a1), .val (.int (0 : Int32)), .val (.int (8 : Int32)), .val (.ref b1), .val (.int (0 : Int32)), .val (.int (0 : Int32))] [(.int (2 : Int32)), (.ref a1), (.int ((u0 &&& (255 : Int32)) ||| ((u1 &&& (255 : Int32)) <<< ((8 : Int32) &&& 31)))), (.int (0 : Int32)), (.ref b1)])) rfl rfl (hb hby d2_54) _ (XS.sipush X1.here hx rfl (hb hby d2_55) (XS.iand X1.here hx rfl (hb hby d2_58) rfl (XS.bipush X1.here hx rfl (hb hby d2_59) k)))) ?_
  show own_Fin p e below _ (T1.setTop (mkF m 61 #[.val (.ref a1), .val (.int (0 : Int32)), .val (.int (8 : Int32)), .val (.ref b1), .val (.int (0 : Int32)), .val (.int (0 : Int32))] [(.int (16 : Int32)), (.int (u2 &&& (255 : Int32))), (.int ((u0 &&& (255 : Int32)) ||| ((u1 &&& (255 : Int32)) <<< ((8 : Int32) &&& 31)))), (.int (0 : Int32)), (.ref b1)]))
  refine own_go (fun t k => XS.ishl X1.here hx rfl (hb hby d2_61) rfl (XS.ior X1.here hx rfl (hb hby d2_62) rfl (XS.aloadN X1.here hx rfl (hb hby d2_63) rfl rfl  (XS.iload X1.here hx rfl (hb hby d2_64) rfl  k)))) ?_
  show own_Fin p e below _ (T1.setTop (mkF m 66 #[.val (.ref a1), .val (.int (0 : Int32)), .val (.int (8 : Int32)), .val (.ref b1), .val (.int (0 : Int32)), .val (.int (0 : Int32))] [(.int (0 : Int32)), (.ref a1), (.int (((u0 &&& (255 : Int32)) ||| ((u1 &&& (255 : Int32)) <<< ((8 : Int32) &&& 31))) ||| ((u2 &&& (255 : Int32)) <<< ((16 : Int32) &&& 31)))), (.int (0 : Int32)), (.ref b1)]))
  refine own_go (fun t k => XS.iconst X1.here hx rfl (hb hby d2_66) (XS.iadd X1.here hx rfl (hb hby d2_67) rfl k)) ?_
  show own_Fin p e below _ (T1.setTop (mkF m 68 #[.val (.ref a1), .val (.int (0 : Int32)), .val (.int (8 : Int32)), .val (.ref b1), .val (.int (0 : Int32)), .val (.int (0 : Int32))] [(.int (3 : Int32)), (.ref a1), (.int (((u0 &&& (255 : Int32)) ||| ((u1 &&& (255 : Int32)) <<< ((8 : Int32) &&& 31))) ||| ((u2 &&& (255 : Int32)) <<< ((16 : Int32) &&& 31)))), (.int (0 : Int32)), (.ref b1)]))
  obtain ⟨cl9, Ar9, q9, S9, M9, H9, G9⟩ := (id f2)
  have hin9 : ¬ ((3 : Int32) < 0 ∨ cl9.slots.size ≤ ((3 : Int32)).toNatClampNeg) := inb_of S9 ⟨by decide, by decide⟩
  have hat9 : cl9.slots[((3 : Int32)).toNatClampNeg]? = some (.int u3) := H9.at hin9 rfl
  refine own_go (fun t k => X1.baloadBytes hx (j := (3 : Int32)) (v := (.int u3)) (by rw [e1]; exact Ar9.1) (State.isArrayOf_alike hZ.alike Ar9.2.1) Ar9.2.2 hin9 hat9 (g := (mkF m 68 #[.val (.ref a1), .val (.int (0 : Int32)), .val (.int (8 : Int32)), .val (.ref b1), .val (.int (0 : Int32)), .val (.int (0 : Int32))] [(.int (3 : Int32)), (.ref a1), (.int (((u0 &&& (255 : Int32)) ||| ((u1 &&& (255 : Int32)) <<< ((8 : Int32) &&& 31))) ||| ((u2 &&& (255 : Int32)) <<< ((16 : Int32) &&& 31)))), (.int (0 : Int32)), (.ref b1)])) rfl rfl (hb hby d2_68) _ (XS.sipush X1.here hx rfl (hb hby d2_69) (XS.iand X1.here hx rfl (hb hby d2_72) rfl (XS.bipush X1.here hx rfl (hb hby d2_73) k)))) ?_
  show own_Fin p e below _ (T1.setTop (mkF m 75 #[.val (.ref a1), .val (.int (0 : Int32)), .val (.int (8 : Int32)), .val (.ref b1), .val (.int (0 : Int32)), .val (.int (0 : Int32))] [(.int (24 : Int32)), (.int (u3 &&& (255 : Int32))), (.int (((u0 &&& (255 : Int32)) ||| ((u1 &&& (255 : Int32)) <<< ((8 : Int32) &&& 31))) ||| ((u2 &&& (255 : Int32)) <<< ((16 : Int32) &&& 31)))), (.int (0 : Int32)), (.ref b1)]))
  refine own_go (fun t k => XS.ishl X1.here hx rfl (hb hby d2_75) rfl (XS.ior X1.here hx rfl (hb hby d2_76) rfl k)) ?_
  show own_Fin p e below _ (T1.setTop (mkF m 77 #[.val (.ref a1), .val (.int (0 : Int32)), .val (.int (8 : Int32)), .val (.ref b1), .val (.int (0 : Int32)), .val (.int (0 : Int32))] [(.int ((((u0 &&& (255 : Int32)) ||| ((u1 &&& (255 : Int32)) <<< ((8 : Int32) &&& 31))) ||| ((u2 &&& (255 : Int32)) <<< ((16 : Int32) &&& 31))) ||| ((u3 &&& (255 : Int32)) <<< ((24 : Int32) &&& 31)))), (.int (0 : Int32)), (.ref b1)]))
  obtain ⟨cl10, Ar10, q10, S10, M10, H10, G10⟩ := (id V1)
  have hin10 : ¬ ((0 : Int32) < 0 ∨ cl10.slots.size ≤ ((0 : Int32)).toNatClampNeg) := inb_of S10 ⟨by decide, by decide⟩
  obtain ⟨T10, h10, X10, e10, W10, st10⟩ := stI X1 hx hZ e1 Ar10 (j := (0 : Int32)) hin10 (g := (mkF m 77 #[.val (.ref a1), .val (.int (0 : Int32)), .val (.int (8 : Int32)), .val (.ref b1), .val (.int (0 : Int32)), .val (.int (0 : Int32))] [(.int ((((u0 &&& (255 : Int32)) ||| ((u1 &&& (255 : Int32)) <<< ((8 : Int32) &&& 31))) ||| ((u2 &&& (255 : Int32)) <<< ((16 : Int32) &&& 31))) ||| ((u3 &&& (255 : Int32)) <<< ((24 : Int32) &&& 31)))), (.int (0 : Int32)), (.ref b1)])) rfl rfl (hb hby d2_77)
  have f11 := f2.other W10 ne_a1_b1
  have V10 := Arv.set Ar10 q10 S10 M10 H10 G10 rfl W10 0 rfl (Nat.le_of_ble_eq_true rfl)
  have f13 : Arv Z h10 b1 k1 .int (2 : Int32) [(.int ((((u0 &&& (255 : Int32)) ||| ((u1 &&& (255 : Int32)) <<< ((8 : Int32) &&& 31))) ||| ((u2 &&& (255 : Int32)) <<< ((16 : Int32) &&& 31))) ||| ((u3 &&& (255 : Int32)) <<< ((24 : Int32) &&& 31)))), (.int (0 : Int32))] (.int (0 : Int32)) := V10
  have Zh14 : n0 ≤ h10.size := Nat.le_trans Zh3 (Nat.le_of_eq W10.size.symm)
  have N10 := Fr.snoc X10 N0 g_b1
  have K15 := K4.wr W10 (Or.inr sz_b1)
  refine own_go st10 ?_
  show own_Fin p e below _ (T10.setTop (mkF m 78 #[.val (.ref a1), .val (.int (0 : Int32)), .val (.int (8 : Int32)), .val (.ref b1), .val (.int (0 : Int32)), .val (.int (0 : Int32))] []))
  refine own_go (fun t k => XS.iinc X10.here hx rfl (hb hby d2_78) rfl (l' := #[.val (.ref a1), .val (.int (0 : Int32)), .val (.int (8 : Int32)), .val (.ref b1), .val (.int (1 : Int32)), .val (.int (0 : Int32))]) rfl (XS.goto X10.here hx rfl (pc0 := 81) (pc' := 9) rfl (hb hby d2_81) (by decide) (by decide) (XS.iload X10.here hx rfl (hb hby d2_9) rfl  (XS.aloadN X10.here hx rfl (hb hby d2_11) rfl rfl  k)))) ?_
  show own_Fin p e below _ (T10.setTop (mkF m 12 #[.val (.ref a1), .val (.int (0 : Int32)), .val (.int (8 : Int32)), .val (.ref b1), .val (.int (1 : Int32)), .val (.int (0 : Int32))] [(.ref b1), (.int (1 : Int32))]))
  obtain ⟨cl16, Ar16, q16, S16, M16, H16, G16⟩ := (id f13)
  refine own_go (fun t k => X10.arraylength hx (by rw [e10]; exact Ar16.1) (State.isArrayOf_alike hZ.alike Ar16.2.1) (g := (mkF m 12 #[.val (.ref a1), .val (.int (0 : Int32)), .val (.int (8 : Int32)), .val (.ref b1), .val (.int (1 : Int32)), .val (.int (0 : Int32))] [(.ref b1), (.int (1 : Int32))])) rfl rfl (hb hby d2_12) _ k) ?_
  rw [len_of S16 M16]
  show own_Fin p e below _ (T10.setTop (mkF m 13 #[.val (.ref a1), .val (.int (0 : Int32)), .val (.int (8 : Int32)), .val (.ref b1), .val (.int (1 : Int32)), .val (.int (0 : Int32))] [(.int (2 : Int32)), (.int (1 : Int32))]))
  refine own_go (fun t k => XS.icmpNo X10.here hx rfl (hb hby d2_13) rfl (tlt (by decide : (1 : Int32) < (2 : Int32))).2.1 (XS.iloadN X10.here hx rfl (hb hby d2_16) rfl  (XS.iconst X10.here hx rfl (hb hby d2_17) (XS.iload X10.here hx rfl (hb hby d2_18) rfl  k)))) ?_
  show own_Fin p e below _ (T10.setTop (mkF m 20 #[.val (.ref a1), .val (.int (0 : Int32)), .val (.int (8 : Int32)), .val (.ref b1), .val (.int (1 : Int32)), .val (.int (0 : Int32))] [(.int (1 : Int32)), (.int (4 : Int32)), (.int (0 : Int32))]))
  refine own_go (fun t k => XS.imul X10.here hx rfl (hb hby d2_20) rfl (XS.iadd X10.here hx rfl (hb hby d2_21) rfl (XS.istore X10.here hx rfl (hb hby d2_22) rfl (l' := #[.val (.ref a1), .val (.int (0 : Int32)), .val (.int (8 : Int32)), .val (.ref b1), .val (.int (1 : Int32)), .val (.int (4 : Int32))]) rfl (XS.aloadN X10.here hx rfl (hb hby d2_24) rfl rfl  k)))) ?_
  show own_Fin p e below _ (T10.setTop (mkF m 25 #[.val (.ref a1), .val (.int (0 : Int32)), .val (.int (8 : Int32)), .val (.ref b1), .val (.int (1 : Int32)), .val (.int (4 : Int32))] [(.ref b1)]))
  refine own_go (fun t k => XS.iload X10.here hx rfl (hb hby d2_25) rfl  (XS.aloadN X10.here hx rfl (hb hby d2_27) rfl rfl  (XS.iload X10.here hx rfl (hb hby d2_28) rfl  k))) ?_
  show own_Fin p e below _ (T10.setTop (mkF m 30 #[.val (.ref a1), .val (.int (0 : Int32)), .val (.int (8 : Int32)), .val (.ref b1), .val (.int (1 : Int32)), .val (.int (4 : Int32))] [(.int (4 : Int32)), (.ref a1), (.int (1 : Int32)), (.ref b1)]))
  obtain ⟨cl17, Ar17, q17, S17, M17, H17, G17⟩ := (id f11)
  have hin17 : ¬ ((4 : Int32) < 0 ∨ cl17.slots.size ≤ ((4 : Int32)).toNatClampNeg) := inb_of S17 ⟨by decide, by decide⟩
  have hat17 : cl17.slots[((4 : Int32)).toNatClampNeg]? = some (.int u4) := H17.at hin17 rfl
  refine own_go (fun t k => X10.baloadBytes hx (j := (4 : Int32)) (v := (.int u4)) (by rw [e10]; exact Ar17.1) (State.isArrayOf_alike hZ.alike Ar17.2.1) Ar17.2.2 hin17 hat17 (g := (mkF m 30 #[.val (.ref a1), .val (.int (0 : Int32)), .val (.int (8 : Int32)), .val (.ref b1), .val (.int (1 : Int32)), .val (.int (4 : Int32))] [(.int (4 : Int32)), (.ref a1), (.int (1 : Int32)), (.ref b1)])) rfl rfl (hb hby d2_30) _ (XS.sipush X10.here hx rfl (hb hby d2_31) (XS.iand X10.here hx rfl (hb hby d2_34) rfl (XS.aloadN X10.here hx rfl (hb hby d2_35) rfl rfl  k)))) ?_
  show own_Fin p e below _ (T10.setTop (mkF m 36 #[.val (.ref a1), .val (.int (0 : Int32)), .val (.int (8 : Int32)), .val (.ref b1), .val (.int (1 : Int32)), .val (.int (4 : Int32))] [(.ref a1), (.int (u4 &&& (255 : Int32))), (.int (1 : Int32)), (.ref b1)]))
  refine own_go (fun t k => XS.iload X10.here hx rfl (hb hby d2_36) rfl  (XS.iconst X10.here hx rfl (hb hby d2_38) (XS.iadd X10.here hx rfl (hb hby d2_39) rfl k))) ?_
  show own_Fin p e below _ (T10.setTop (mkF m 40 #[.val (.ref a1), .val (.int (0 : Int32)), .val (.int (8 : Int32)), .val (.ref b1), .val (.int (1 : Int32)), .val (.int (4 : Int32))] [(.int (5 : Int32)), (.ref a1), (.int (u4 &&& (255 : Int32))), (.int (1 : Int32)), (.ref b1)]))
  obtain ⟨cl18, Ar18, q18, S18, M18, H18, G18⟩ := (id f11)
  have hin18 : ¬ ((5 : Int32) < 0 ∨ cl18.slots.size ≤ ((5 : Int32)).toNatClampNeg) := inb_of S18 ⟨by decide, by decide⟩
  have hat18 : cl18.slots[((5 : Int32)).toNatClampNeg]? = some (.int u5) := H18.at hin18 rfl
  refine own_go (fun t k => X10.baloadBytes hx (j := (5 : Int32)) (v := (.int u5)) (by rw [e10]; exact Ar18.1) (State.isArrayOf_alike hZ.alike Ar18.2.1) Ar18.2.2 hin18 hat18 (g := (mkF m 40 #[.val (.ref a1), .val (.int (0 : Int32)), .val (.int (8 : Int32)), .val (.ref b1), .val (.int (1 : Int32)), .val (.int (4 : Int32))] [(.int (5 : Int32)), (.ref a1), (.int (u4 &&& (255 : Int32))), (.int (1 : Int32)), (.ref b1)])) rfl rfl (hb hby d2_40) _ (XS.sipush X10.here hx rfl (hb hby d2_41) (XS.iand X10.here hx rfl (hb hby d2_44) rfl (XS.bipush X10.here hx rfl (hb hby d2_45) k)))) ?_
  show own_Fin p e below _ (T10.setTop (mkF m 47 #[.val (.ref a1), .val (.int (0 : Int32)), .val (.int (8 : Int32)), .val (.ref b1), .val (.int (1 : Int32)), .val (.int (4 : Int32))] [(.int (8 : Int32)), (.int (u5 &&& (255 : Int32))), (.int (u4 &&& (255 : Int32))), (.int (1 : Int32)), (.ref b1)]))
  refine own_go (fun t k => XS.ishl X10.here hx rfl (hb hby d2_47) rfl (XS.ior X10.here hx rfl (hb hby d2_48) rfl (XS.aloadN X10.here hx rfl (hb hby d2_49) rfl rfl  (XS.iload X10.here hx rfl (hb hby d2_50) rfl  k)))) ?_
  show own_Fin p e below _ (T10.setTop (mkF m 52 #[.val (.ref a1), .val (.int (0 : Int32)), .val (.int (8 : Int32)), .val (.ref b1), .val (.int (1 : Int32)), .val (.int (4 : Int32))] [(.int (4 : Int32)), (.ref a1), (.int ((u4 &&& (255 : Int32)) ||| ((u5 &&& (255 : Int32)) <<< ((8 : Int32) &&& 31)))), (.int (1 : Int32)), (.ref b1)]))
  refine own_go (fun t k => XS.iconst X10.here hx rfl (hb hby d2_52) (XS.iadd X10.here hx rfl (hb hby d2_53) rfl k)) ?_
  show own_Fin p e below _ (T10.setTop (mkF m 54 #[.val (.ref a1), .val (.int (0 : Int32)), .val (.int (8 : Int32)), .val (.ref b1), .val (.int (1 : Int32)), .val (.int (4 : Int32))] [(.int (6 : Int32)), (.ref a1), (.int ((u4 &&& (255 : Int32)) ||| ((u5 &&& (255 : Int32)) <<< ((8 : Int32) &&& 31)))), (.int (1 : Int32)), (.ref b1)]))
  obtain ⟨cl19, Ar19, q19, S19, M19, H19, G19⟩ := (id f11)
  have hin19 : ¬ ((6 : Int32) < 0 ∨ cl19.slots.size ≤ ((6 : Int32)).toNatClampNeg) := inb_of S19 ⟨by decide, by decide⟩
  have hat19 : cl19.slots[((6 : Int32)).toNatClampNeg]? = some (.int u6) := H19.at hin19 rfl
  refine own_go (fun t k => X10.baloadBytes hx (j := (6 : Int32)) (v := (.int u6)) (by rw [e10]; exact Ar19.1) (State.isArrayOf_alike hZ.alike Ar19.2.1) Ar19.2.2 hin19 hat19 (g := (mkF m 54 #[.val (.ref a1), .val (.int (0 : Int32)), .val (.int (8 : Int32)), .val (.ref b1), .val (.int (1 : Int32)), .val (.int (4 : Int32))] [(.int (6 : Int32)), (.ref a1), (.int ((u4 &&& (255 : Int32)) ||| ((u5 &&& (255 : Int32)) <<< ((8 : Int32) &&& 31)))), (.int (1 : Int32)), (.ref b1)])) rfl rfl (hb hby d2_54) _ (XS.sipush X10.here hx rfl (hb hby d2_55) (XS.iand X10.here hx rfl (hb hby d2_58) rfl (XS.bipush X10.here hx rfl (hb hby d2_59) k)))) ?_
  show own_Fin p e below _ (T10.setTop (mkF m 61 #[.val (.ref a1), .val (.int (0 : Int32)), .val (.int (8 : Int32)), .val (.ref b1), .val (.int (1 : Int32)), .val (.int (4 : Int32))] [(.int (16 : Int32)), (.int (u6 &&& (255 : Int32))), (.int ((u4 &&& (255 : Int32)) ||| ((u5 &&& (255 : Int32)) <<< ((8 : Int32) &&& 31)))), (.int (1 : Int32)), (.ref b1)]))
  refine own_go (fun t k => XS.ishl X10.here hx rfl (hb hby d2_61) rfl (XS.ior X10.here hx rfl (hb hby d2_62) rfl (XS.aloadN X10.here hx rfl (hb hby d2_63) rfl rfl  (XS.iload X10.here hx rfl (hb hby d2_64) rfl  k)))) ?_
  show own_Fin p e below _ (T10.setTop (mkF m 66 #[.val (.ref a1), .val (.int (0 : Int32)), .val (.int (8 : Int32)), .val (.ref b1), .val (.int (1 : Int32)), .val (.int (4 : Int32))] [(.int (4 : Int32)), (.ref a1), (.int (((u4 &&& (255 : Int32)) ||| ((u5 &&& (255 : Int32)) <<< ((8 : Int32) &&& 31))) ||| ((u6 &&& (255 : Int32)) <<< ((16 : Int32) &&& 31)))), (.int (1 : Int32)), (.ref b1)]))
  refine own_go (fun t k => XS.iconst X10.here hx rfl (hb hby d2_66) (XS.iadd X10.here hx rfl (hb hby d2_67) rfl k)) ?_
  show own_Fin p e below _ (T10.setTop (mkF m 68 #[.val (.ref a1), .val (.int (0 : Int32)), .val (.int (8 : Int32)), .val (.ref b1), .val (.int (1 : Int32)), .val (.int (4 : Int32))] [(.int (7 : Int32)), (.ref a1), (.int (((u4 &&& (255 : Int32)) ||| ((u5 &&& (255 : Int32)) <<< ((8 : Int32) &&& 31))) ||| ((u6 &&& (255 : Int32)) <<< ((16 : Int32) &&& 31)))), (.int (1 : Int32)), (.ref b1)]))
  obtain ⟨cl20, Ar20, q20, S20, M20, H20, G20⟩ := (id f11)
  have hin20 : ¬ ((7 : Int32) < 0 ∨ cl20.slots.size ≤ ((7 : Int32)).toNatClampNeg) := inb_of S20 ⟨by decide, by decide⟩
  have hat20 : cl20.slots[((7 : Int32)).toNatClampNeg]? = some (.int u7) := H20.at hin20 rfl
  refine own_go (fun t k => X10.baloadBytes hx (j := (7 : Int32)) (v := (.int u7)) (by rw [e10]; exact Ar20.1) (State.isArrayOf_alike hZ.alike Ar20.2.1) Ar20.2.2 hin20 hat20 (g := (mkF m 68 #[.val (.ref a1), .val (.int (0 : Int32)), .val (.int (8 : Int32)), .val (.ref b1), .val (.int (1 : Int32)), .val (.int (4 : Int32))] [(.int (7 : Int32)), (.ref a1), (.int (((u4 &&& (255 : Int32)) ||| ((u5 &&& (255 : Int32)) <<< ((8 : Int32) &&& 31))) ||| ((u6 &&& (255 : Int32)) <<< ((16 : Int32) &&& 31)))), (.int (1 : Int32)), (.ref b1)])) rfl rfl (hb hby d2_68) _ (XS.sipush X10.here hx rfl (hb hby d2_69) (XS.iand X10.here hx rfl (hb hby d2_72) rfl (XS.bipush X10.here hx rfl (hb hby d2_73) k)))) ?_
  show own_Fin p e below _ (T10.setTop (mkF m 75 #[.val (.ref a1), .val (.int (0 : Int32)), .val (.int (8 : Int32)), .val (.ref b1), .val (.int (1 : Int32)), .val (.int (4 : Int32))] [(.int (24 : Int32)), (.int (u7 &&& (255 : Int32))), (.int (((u4 &&& (255 : Int32)) ||| ((u5 &&& (255 : Int32)) <<< ((8 : Int32) &&& 31))) ||| ((u6 &&& (255 : Int32)) <<< ((16 : Int32) &&& 31)))), (.int (1 : Int32)), (.ref b1)]))
  refine own_go (fun t k => XS.ishl X10.here hx rfl (hb hby d2_75) rfl (XS.ior X10.here hx rfl (hb hby d2_76) rfl k)) ?_
  show own_Fin p e below _ (T10.setTop (mkF m 77 #[.val (.ref a1), .val (.int (0 : Int32)), .val (.int (8 : Int32)), .val (.ref b1), .val (.int (1 : Int32)), .val (.int (4 : Int32))] [(.int ((((u4 &&& (255 : Int32)) ||| ((u5 &&& (255 : Int32)) <<< ((8 : Int32) &&& 31))) ||| ((u6 &&& (255 : Int32)) <<< ((16 : Int32) &&& 31))) ||| ((u7 &&& (255 : Int32)) <<< ((24 : Int32) &&& 31)))), (.int (1 : Int32)), (.ref b1)]))
  obtain ⟨cl21, Ar21, q21, S21, M21, H21, G21⟩ := (id f13)
  have hin21 : ¬ ((1 : Int32) < 0 ∨ cl21.slots.size ≤ ((1 : Int32)).toNatClampNeg) := inb_of S21 ⟨by decide, by decide⟩
  obtain ⟨T21, h21, X21, e21, W21, st21⟩ := stI X10 hx hZ e10 Ar21 (j := (1 : Int32)) hin21 (g := (mkF m 77 #[.val (.ref a1), .val (.int (0 : Int32)), .val (.int (8 : Int32)), .val (.ref b1), .val (.int (1 : Int32)), .val (.int (4 : Int32))] [(.int ((((u4 &&& (255 : Int32)) ||| ((u5 &&& (255 : Int32)) <<< ((8 : Int32) &&& 31))) ||| ((u6 &&& (255 : Int32)) <<< ((16 : Int32) &&& 31))) ||| ((u7 &&& (255 : Int32)) <<< ((24 : Int32) &&& 31)))), (.int (1 : Int32)), (.ref b1)])) rfl rfl (hb hby d2_77)
  have f22 := f11.other W21 ne_a1_b1
  have V21 := Arv.set Ar21 q21 S21 M21 H21 G21 rfl W21 1 rfl (Nat.le_of_ble_eq_true rfl)
  have f24 : Arv Z h21 b1 k1 .int (2 : Int32) [(.int ((((u0 &&& (255 : Int32)) ||| ((u1 &&& (255 : Int32)) <<< ((8 : Int32) &&& 31))) ||| ((u2 &&& (255 : Int32)) <<< ((16 : Int32) &&& 31))) ||| ((u3 &&& (255 : Int32)) <<< ((24 : Int32) &&& 31)))), (.int ((((u4 &&& (255 : Int32)) ||| ((u5 &&& (255 : Int32)) <<< ((8 : Int32) &&& 31))) ||| ((u6 &&& (255 : Int32)) <<< ((16 : Int32) &&& 31))) ||| ((u7 &&& (255 : Int32)) <<< ((24 : Int32) &&& 31))))] (.int (0 : Int32)) := V21
  have Zh25 : n0 ≤ h21.size := Nat.le_trans Zh14 (Nat.le_of_eq W21.size.symm)
  have N21 := Fr.snoc X21 N10 g_b1
  have K26 := K15.wr W21 (Or.inr sz_b1)
  refine own_go st21 ?_
  show own_Fin p e below _ (T21.setTop (mkF m 78 #[.val (.ref a1), .val (.int (0 : Int32)), .val (.int (8 : Int32)), .val (.ref b1), .val (.int (1 : Int32)), .val (.int (4 : Int32))] []))
  refine own_go (fun t k => XS.iinc X21.here hx rfl (hb hby d2_78) rfl (l' := #[.val (.ref a1), .val (.int (0 : Int32)), .val (.int (8 : Int32)), .val (.ref b1), .val (.int (2 : Int32)), .val (.int (4 : Int32))]) rfl (XS.goto X21.here hx rfl (pc0 := 81) (pc' := 9) rfl (hb hby d2_81) (by decide) (by decide) (XS.iload X21.here hx rfl (hb hby d2_9) rfl  (XS.aloadN X21.here hx rfl (hb hby d2_11) rfl rfl  k)))) ?_
  show own_Fin p e below _ (T21.setTop (mkF m 12 #[.val (.ref a1), .val (.int (0 : Int32)), .val (.int (8 : Int32)), .val (.ref b1), .val (.int (2 : Int32)), .val (.int (4 : Int32))] [(.ref b1), (.int (2 : Int32))]))
  obtain ⟨cl27, Ar27, q27, S27, M27, H27, G27⟩ := (id f24)
  refine own_go (fun t k => X21.arraylength hx (by rw [e21]; exact Ar27.1) (State.isArrayOf_alike hZ.alike Ar27.2.1) (g := (mkF m 12 #[.val (.ref a1), .val (.int (0 : Int32)), .val (.int (8 : Int32)), .val (.ref b1), .val (.int (2 : Int32)), .val (.int (4 : Int32))] [(.ref b1), (.int (2 : Int32))])) rfl rfl (hb hby d2_12) _ k) ?_
  rw [len_of S27 M27]
  show own_Fin p e below _ (T21.setTop (mkF m 13 #[.val (.ref a1), .val (.int (0 : Int32)), .val (.int (8 : Int32)), .val (.ref b1), .val (.int (2 : Int32)), .val (.int (4 : Int32))] [(.int (2 : Int32)), (.int (2 : Int32))]))
  refine own_go (fun t k => XS.icmpYes X21.here hx rfl (pc0 := 13) (pc' := 84) rfl (hb hby d2_13) rfl (flt (by decide : ¬ ((2 : Int32) < (2 : Int32)))).2.1 (by decide) (by decide) (XS.aloadN X21.here hx rfl (hb hby d2_84) rfl rfl  k)) ?_
  show own_Fin p e below _ (T21.setTop (mkF m 85 #[.val (.ref a1), .val (.int (0 : Int32)), .val (.int (8 : Int32)), .val (.ref b1), .val (.int (2 : Int32)), .val (.int (4 : Int32))] [(.ref b1)]))
  exact own_out X21 (fun h => by rw [Bd.returns] at h; cases h) Bd.notSynchronized (fun fs hr => retOut X21 hx Bd.returns rfl (Or.inr (Or.inr (Or.inr (Or.inr ⟨rfl, rfl, rfl⟩)))) (hb hby d2_85) hr) (by rw [e21]; exact ⟨_, _, rfl, N21, sz_b1, K26, f24⟩) (by decide) (by decide)
theorem ef_2o0c3 (m : MethodId) (x0 : Addr) (x1 : Int32) (x2 : Int32)  : entryFrame m #[(.ref x0), (.int x1), (.int x2)] 6 = mkF m 0 #[.val (.ref x0), .val (.int x1), .val (.int x2), .unset, .unset, .unset] [] := by first | (simp [entryFrame, mkF, argsToLocals, Value.category]; done) | rfl
def own_q2o0c3 (Z : State) (a1 : Addr) (k1 : ClassId) (u0 u1 u2 u3 u4 u5 u6 u7 u8 u9 u10 u11 u12 : Int32) (h0 : Heap) (n0 : Nat) (v : Option Value) (h : Heap) (L : List Loc) : Prop := ∃ (a : Addr) (k : ClassId), v = some (.ref a) ∧ Fr n0 L ∧ h0.size ≤ a ∧ Keep h0 h [] ∧ Arv Z h a k .int (3 : Int32) [(.int (own_w u0 u1 u2 u3)), (.int (own_w u4 u5 u6 u7)), (.int (own_w u8 u9 u10 u11))] (.int (0 : Int32))
set_option maxRecDepth 65536 in
set_option maxHeartbeats 40000000 in
theorem rm2o0c3 (l : Launch) (Z : State) (a0 : Array Value) (hw : ∀ d ∈ tables_1, d.before a0 Z = true) (ws : List Jvm.Cond) (a1 : Addr) (k1 : ClassId) (u0 u1 u2 u3 u4 u5 u6 u7 u8 u9 u10 u11 u12 : Int32) (h0 : Heap) (n0 : Nat) (Z0 : n0 ≤ h0.size) (V_a1 : Arv Z h0 a1 k1 .byte (13 : Int32) [(.int u0), (.int u1), (.int u2), (.int u3), (.int u4), (.int u5), (.int u6), (.int u7), (.int u8), (.int u9), (.int u10), (.int u11), (.int u12)] (.int (0 : Int32))) :
    MetFree l (⟨"com/example/palimpsest/palimpsest/chain/CurveScalars", "decode", "([BII)[I"⟩ : MethodName) (head1 (Jvm.Cond.code (⟨"com/example/palimpsest/palimpsest/chain/CurveScalars", "decode", "([BII)[I"⟩ : MethodName) prog_6_method_2_code 6 (some (.array .int)) :: ws) ({ frames := 0, cells := 1, slots := 3, locals := 0 } : Room)) (fun a U => a = #[(.ref a1), (.int (0 : Int32)), (.int (12 : Int32))] ∧ Z.Warmed39 U.vm ∧ U.heap = h0) (fun _ _ _ _ _ => True) (fun _ U o U' => ∃ v L, o = .returned v ∧ (own_q2o0c3 Z a1 k1 u0 u1 u2 u3 u4 u5 u6 u7 u8 u9 u10 u11 u12 h0 n0) v U'.heap L ∧ FrameEnd U o U' L ({ frames := 0, cells := 1, slots := 3, locals := 0 } : Room).cells ({ frames := 0, cells := 1, slots := 3, locals := 0 } : Room).slots) := by
  refine MetFree.of_bodySF (plainFor_of_name pn_1) hisR ?_
  intro p e s m args below meth c s₁ Bd hml0 hP hK
  obtain ⟨rfl, hZ, hh⟩ := hP
  have hx := Bd.exec
  have hby := Bd.bytes
  have hml : c.maxLocals = 6 := hml0
  have hown : s.vm.findClass "com/example/palimpsest/palimpsest/chain/CurveScalars" = some m.cls := findClass_of_methodNamed Bd.named
  have hnm := (name_of_methodNamed Bd.named Bd.method).1
  have X0 : Stand p l e ({ frames := 0, cells := 1, slots := 3, locals := 0 } : Room) s m #[(.ref a1), (.int (0 : Int32)), (.int (12 : Int32))] below meth c s₁ [] 0 0 := Stand.of_body Bd
  have e0 : s₁.heap = h0 := by rw [← hh, Bd.state]; rfl
  have N0 := Fr.nil n0
  have Kz := Keep.refl h0 []
  have hw_9 := hw _ (List.mem_of_getElem? (i := 9) rfl)
  show own_Fin p e below (own_A s ({ frames := 0, cells := 1, slots := 3, locals := 0 } : Room).cells ({ frames := 0, cells := 1, slots := 3, locals := 0 } : Room).slots (own_q2o0c3 Z a1 k1 u0 u1 u2 u3 u4 u5 u6 u7 u8 u9 u10 u11 u12 h0 n0)) _
  refine own_go (fun t k => castTop (ef_2o0c3 m (a1) ((0 : Int32)) ((12 : Int32))) k) ?_
  show own_Fin p e below _ (s₁.setTop (mkF m 0 #[.val (.ref a1), .val (.int (0 : Int32)), .val (.int (12 : Int32)), .unset, .unset, .unset] []))
  refine own_go (fun t k => XS.iloadN X0.here hx rfl (hb hby d2_0) rfl  (XS.iconst X0.here hx rfl (hb hby d2_1) (XS.idiv X0.here hx rfl (hb hby d2_2) rfl (by decide) k))) ?_
  show own_Fin p e below _ (s₁.setTop (mkF m 3 #[.val (.ref a1), .val (.int (0 : Int32)), .val (.int (12 : Int32)), .unset, .unset, .unset] [(.int (3 : Int32))]))
  obtain ⟨T1, h1, k1, X1, e1, E1, A1, st1⟩ := newP (aty := .int) X0 hx hZ hw_9 e0 (g := (mkF m 3 #[.val (.ref a1), .val (.int (0 : Int32)), .val (.int (12 : Int32)), .unset, .unset, .unset] [(.int (3 : Int32))])) rfl (hb hby d2_3) rfl (by decide) (cap := 3) (by decide) (by decide) (by decide) (by decide)
  obtain ⟨b1, g1⟩ : ∃ z, z = h0.size := ⟨_, rfl⟩
  rw [← g1] at A1 st1
  have g_b1 : n0 ≤ b1 := Nat.le_trans Z0 (Nat.le_of_eq g1.symm)
  have sz_b1 : h0.size ≤ b1 := Nat.le_trans Kz.1 (Nat.le_of_eq g1.symm)
  have ne_a1_b1 : a1 ≠ b1 := Nat.ne_of_lt (Nat.lt_of_lt_of_le V_a1.lt (Nat.le_of_eq g1.symm))
  have f2 := V_a1.ext E1
  have Zh3 : n0 ≤ h1.size := Nat.le_trans Z0 E1.1
  have K4 := Kz.ext E1
  have V1 : Arv Z h1 b1 k1 .int (3 : Int32) [(.int (0 : Int32)), (.int (0 : Int32)), (.int (0 : Int32))] (.int (0 : Int32)) := (Arv.new A1 (by decide)).pad (pad_rep [] (.int (0 : Int32)) 3)
  refine own_go st1 ?_
  show own_Fin p e below _ (T1.setTop (mkF m 5 #[.val (.ref a1), .val (.int (0 : Int32)), .val (.int (12 : Int32)), .unset, .unset, .unset] [(.ref b1)]))
  refine own_go (fun t k => XS.astoreN X1.here hx rfl (hb hby d2_5) rfl rfl (l' := #[.val (.ref a1), .val (.int (0 : Int32)), .val (.int (12 : Int32)), .val (.ref b1), .unset, .unset]) rfl (XS.iconst X1.here hx rfl (hb hby d2_6) (XS.istore X1.here hx rfl (hb hby d2_7) rfl (l' := #[.val (.ref a1), .val (.int (0 : Int32)), .val (.int (12 : Int32)), .val (.ref b1), .val (.int (0 : Int32)), .unset]) rfl (XS.iload X1.here hx rfl (hb hby d2_9) rfl  k)))) ?_
  show own_Fin p e below _ (T1.setTop (mkF m 11 #[.val (.ref a1), .val (.int (0 : Int32)), .val (.int (12 : Int32)), .val (.ref b1), .val (.int (0 : Int32)), .unset] [(.int (0 : Int32))]))
  refine own_go (fun t k => XS.aloadN X1.here hx rfl (hb hby d2_11) rfl rfl  k) ?_
  show own_Fin p e below _ (T1.setTop (mkF m 12 #[.val (.ref a1), .val (.int (0 : Int32)), .val (.int (12 : Int32)), .val (.ref b1), .val (.int (0 : Int32)), .unset] [(.ref b1), (.int (0 : Int32))]))
  obtain ⟨cl5, Ar5, q5, S5, M5, H5, G5⟩ := (id V1)
  refine own_go (fun t k => X1.arraylength hx (by rw [e1]; exact Ar5.1) (State.isArrayOf_alike hZ.alike Ar5.2.1) (g := (mkF m 12 #[.val (.ref a1), .val (.int (0 : Int32)), .val (.int (12 : Int32)), .val (.ref b1), .val (.int (0 : Int32)), .unset] [(.ref b1), (.int (0 : Int32))])) rfl rfl (hb hby d2_12) _ k) ?_
  rw [len_of S5 M5]
  show own_Fin p e below _ (T1.setTop (mkF m 13 #[.val (.ref a1), .val (.int (0 : Int32)), .val (.int (12 : Int32)), .val (.ref b1), .val (.int (0 : Int32)), .unset] [(.int (3 : Int32)), (.int (0 : Int32))]))
  refine own_go (fun t k => XS.icmpNo X1.here hx rfl (hb hby d2_13) rfl (tlt (by decide : (0 : Int32) < (3 : Int32))).2.1 (XS.iloadN X1.here hx rfl (hb hby d2_16) rfl  (XS.iconst X1.here hx rfl (hb hby d2_17) (XS.iload X1.here hx rfl (hb hby d2_18) rfl  k)))) ?_
  show own_Fin p e below _ (T1.setTop (mkF m 20 #[.val (.ref a1), .val (.int (0 : Int32)), .val (.int (12 : Int32)), .val (.ref b1), .val (.int (0 : Int32)), .unset] [(.int (0 : Int32)), (.int (4 : Int32)), (.int (0 : Int32))]))
  refine own_go (fun t k => XS.imul X1.here hx rfl (hb hby d2_20) rfl (XS.iadd X1.here hx rfl (hb hby d2_21) rfl (XS.istore X1.here hx rfl (hb hby d2_22) rfl (l' := #[.val (.ref a1), .val (.int (0 : Int32)), .val (.int (12 : Int32)), .val (.ref b1), .val (.int (0 : Int32)), .val (.int (0 : Int32))]) rfl (XS.aloadN X1.here hx rfl (hb hby d2_24) rfl rfl  k)))) ?_
  show own_Fin p e below _ (T1.setTop (mkF m 25 #[.val (.ref a1), .val (.int (0 : Int32)), .val (.int (12 : Int32)), .val (.ref b1), .val (.int (0 : Int32)), .val (.int (0 : Int32))] [(.ref b1)]))
  refine own_go (fun t k => XS.iload X1.here hx rfl (hb hby d2_25) rfl  (XS.aloadN X1.here hx rfl (hb hby d2_27) rfl rfl  (XS.iload X1.here hx rfl (hb hby d2_28) rfl  k))) ?_
  show own_Fin p e below _ (T1.setTop (mkF m 30 #[.val (.ref a1), .val (.int (0 : Int32)), .val (.int (12 : Int32)), .val (.ref b1), .val (.int (0 : Int32)), .val (.int (0 : Int32))] [(.int (0 : Int32)), (.ref a1), (.int (0 : Int32)), (.ref b1)]))
  obtain ⟨cl6, Ar6, q6, S6, M6, H6, G6⟩ := (id f2)
  have hin6 : ¬ ((0 : Int32) < 0 ∨ cl6.slots.size ≤ ((0 : Int32)).toNatClampNeg) := inb_of S6 ⟨by decide, by decide⟩
  have hat6 : cl6.slots[((0 : Int32)).toNatClampNeg]? = some (.int u0) := H6.at hin6 rfl
  refine own_go (fun t k => X1.baloadBytes hx (j := (0 : Int32)) (v := (.int u0)) (by rw [e1]; exact Ar6.1) (State.isArrayOf_alike hZ.alike Ar6.2.1) Ar6.2.2 hin6 hat6 (g := (mkF m 30 #[.val (.ref a1), .val (.int (0 : Int32)), .val (.int (12 : Int32)), .val (.ref b1), .val (.int (0 : Int32)), .val (.int (0 : Int32))] [(.int (0 : Int32)), (.ref a1), (.int (0 : Int32)), (.ref b1)])) rfl rfl (hb hby d2_30) _ (XS.sipush X1.here hx rfl (hb hby d2_31) (XS.iand X1.here hx rfl (hb hby d2_34) rfl (XS.aloadN X1.here hx rfl (hb hby d2_35) rfl rfl  k)))) ?_
  show own_Fin p e below _ (T1.setTop (mkF m 36 #[.val (.ref a1), .val (.int (0 : Int32)), .val (.int (12 : Int32)), .val (.ref b1), .val (.int (0 : Int32)), .val (.int (0 : Int32))] [(.ref a1), (.int (u0 &&& (255 : Int32))), (.int (0 : Int32)), (.ref b1)]))
  refine own_go (fun t k => XS.iload X1.here hx rfl (hb hby d2_36) rfl  (XS.iconst X1.here hx rfl (hb hby d2_38) (XS.iadd X1.here hx rfl (hb hby d2_39) rfl k))) ?_
  show own_Fin p e below _ (T1.setTop (mkF m 40 #[.val (.ref a1), .val (.int (0 : Int32)), .val (.int (12 : Int32)), .val (.ref b1), .val (.int (0 : Int32)), .val (.int (0 : Int32))] [(.int (1 : Int32)), (.ref a1), (.int (u0 &&& (255 : Int32))), (.int (0 : Int32)), (.ref b1)]))
  obtain ⟨cl7, Ar7, q7, S7, M7, H7, G7⟩ := (id f2)
  have hin7 : ¬ ((1 : Int32) < 0 ∨ cl7.slots.size ≤ ((1 : Int32)).toNatClampNeg) := inb_of S7 ⟨by decide, by decide⟩
  have hat7 : cl7.slots[((1 : Int32)).toNatClampNeg]? = some (.int u1) := H7.at hin7 rfl
  refine own_go (fun t k => X1.baloadBytes hx (j := (1 : Int32)) (v := (.int u1)) (by rw [e1]; exact Ar7.1) (State.isArrayOf_alike hZ.alike Ar7.2.1) Ar7.2.2 hin7 hat7 (g := (mkF m 40 #[.val (.ref a1), .val (.int (0 : Int32)), .val (.int (12 : Int32)), .val (.ref b1), .val (.int (0 : Int32)), .val (.int (0 : Int32))] [(.int (1 : Int32)), (.ref a1), (.int (u0 &&& (255 : Int32))), (.int (0 : Int32)), (.ref b1)])) rfl rfl (hb hby d2_40) _ (XS.sipush X1.here hx rfl (hb hby d2_41) (XS.iand X1.here hx rfl (hb hby d2_44) rfl (XS.bipush X1.here hx rfl (hb hby d2_45) k)))) ?_
  show own_Fin p e below _ (T1.setTop (mkF m 47 #[.val (.ref a1), .val (.int (0 : Int32)), .val (.int (12 : Int32)), .val (.ref b1), .val (.int (0 : Int32)), .val (.int (0 : Int32))] [(.int (8 : Int32)), (.int (u1 &&& (255 : Int32))), (.int (u0 &&& (255 : Int32))), (.int (0 : Int32)), (.ref b1)]))
  refine own_go (fun t k => XS.ishl X1.here hx rfl (hb hby d2_47) rfl (XS.ior X1.here hx rfl (hb hby d2_48) rfl (XS.aloadN X1.here hx rfl (hb hby d2_49) rfl rfl  (XS.iload X1.here hx rfl (hb hby d2_50) rfl  k)))) ?_
  show own_Fin p e below _ (T1.setTop (mkF m 52 #[.val (.ref a1), .val (.int (0 : Int32)), .val (.int (12 : Int32)), .val (.ref b1), .val (.int (0 : Int32)), .val (.int (0 : Int32))] [(.int (0 : Int32)), (.ref a1), (.int ((u0 &&& (255 : Int32)) ||| ((u1 &&& (255 : Int32)) <<< ((8 : Int32) &&& 31)))), (.int (0 : Int32)), (.ref b1)]))
  refine own_go (fun t k => XS.iconst X1.here hx rfl (hb hby d2_52) (XS.iadd X1.here hx rfl (hb hby d2_53) rfl k)) ?_
  show own_Fin p e below _ (T1.setTop (mkF m 54 #[.val (.ref a1), .val (.int (0 : Int32)), .val (.int (12 : Int32)), .val (.ref b1), .val (.int (0 : Int32)), .val (.int (0 : Int32))] [(.int (2 : Int32)), (.ref a1), (.int ((u0 &&& (255 : Int32)) ||| ((u1 &&& (255 : Int32)) <<< ((8 : Int32) &&& 31)))), (.int (0 : Int32)), (.ref b1)]))
  obtain ⟨cl8, Ar8, q8, S8, M8, H8, G8⟩ := (id f2)
  have hin8 : ¬ ((2 : Int32) < 0 ∨ cl8.slots.size ≤ ((2 : Int32)).toNatClampNeg) := inb_of S8 ⟨by decide, by decide⟩
  have hat8 : cl8.slots[((2 : Int32)).toNatClampNeg]? = some (.int u2) := H8.at hin8 rfl
  refine own_go (fun t k => X1.baloadBytes hx (j := (2 : Int32)) (v := (.int u2)) (by rw [e1]; exact Ar8.1) (State.isArrayOf_alike hZ.alike Ar8.2.1) Ar8.2.2 hin8 hat8 (g := (mkF m 54 #[.val (.ref a1), .val (.int (0 : Int32)), .val (.int (12 : Int32)), .val (.ref b1), .val (.int (0 : Int32)), .val (.int (0 : Int32))] [(.int (2 : Int32)), (.ref a1), (.int ((u0 &&& (255 : Int32)) ||| ((u1 &&& (255 : Int32)) <<< ((8 : Int32) &&& 31)))), (.int (0 : Int32)), (.ref b1)])) rfl rfl (hb hby d2_54) _ (XS.sipush X1.here hx rfl (hb hby d2_55) (XS.iand X1.here hx rfl (hb hby d2_58) rfl (XS.bipush X1.here hx rfl (hb hby d2_59) k)))) ?_
  show own_Fin p e below _ (T1.setTop (mkF m 61 #[.val (.ref a1), .val (.int (0 : Int32)), .val (.int (12 : Int32)), .val (.ref b1), .val (.int (0 : Int32)), .val (.int (0 : Int32))] [(.int (16 : Int32)), (.int (u2 &&& (255 : Int32))), (.int ((u0 &&& (255 : Int32)) ||| ((u1 &&& (255 : Int32)) <<< ((8 : Int32) &&& 31)))), (.int (0 : Int32)), (.ref b1)]))
  refine own_go (fun t k => XS.ishl X1.here hx rfl (hb hby d2_61) rfl (XS.ior X1.here hx rfl (hb hby d2_62) rfl (XS.aloadN X1.here hx rfl (hb hby d2_63) rfl rfl  (XS.iload X1.here hx rfl (hb hby d2_64) rfl  k)))) ?_
  show own_Fin p e below _ (T1.setTop (mkF m 66 #[.val (.ref a1), .val (.int (0 : Int32)), .val (.int (12 : Int32)), .val (.ref b1), .val (.int (0 : Int32)), .val (.int (0 : Int32))] [(.int (0 : Int32)), (.ref a1), (.int (((u0 &&& (255 : Int32)) ||| ((u1 &&& (255 : Int32)) <<< ((8 : Int32) &&& 31))) ||| ((u2 &&& (255 : Int32)) <<< ((16 : Int32) &&& 31)))), (.int (0 : Int32)), (.ref b1)]))
  refine own_go (fun t k => XS.iconst X1.here hx rfl (hb hby d2_66) (XS.iadd X1.here hx rfl (hb hby d2_67) rfl k)) ?_
  show own_Fin p e below _ (T1.setTop (mkF m 68 #[.val (.ref a1), .val (.int (0 : Int32)), .val (.int (12 : Int32)), .val (.ref b1), .val (.int (0 : Int32)), .val (.int (0 : Int32))] [(.int (3 : Int32)), (.ref a1), (.int (((u0 &&& (255 : Int32)) ||| ((u1 &&& (255 : Int32)) <<< ((8 : Int32) &&& 31))) ||| ((u2 &&& (255 : Int32)) <<< ((16 : Int32) &&& 31)))), (.int (0 : Int32)), (.ref b1)]))
  obtain ⟨cl9, Ar9, q9, S9, M9, H9, G9⟩ := (id f2)
  have hin9 : ¬ ((3 : Int32) < 0 ∨ cl9.slots.size ≤ ((3 : Int32)).toNatClampNeg) := inb_of S9 ⟨by decide, by decide⟩
  have hat9 : cl9.slots[((3 : Int32)).toNatClampNeg]? = some (.int u3) := H9.at hin9 rfl
  refine own_go (fun t k => X1.baloadBytes hx (j := (3 : Int32)) (v := (.int u3)) (by rw [e1]; exact Ar9.1) (State.isArrayOf_alike hZ.alike Ar9.2.1) Ar9.2.2 hin9 hat9 (g := (mkF m 68 #[.val (.ref a1), .val (.int (0 : Int32)), .val (.int (12 : Int32)), .val (.ref b1), .val (.int (0 : Int32)), .val (.int (0 : Int32))] [(.int (3 : Int32)), (.ref a1), (.int (((u0 &&& (255 : Int32)) ||| ((u1 &&& (255 : Int32)) <<< ((8 : Int32) &&& 31))) ||| ((u2 &&& (255 : Int32)) <<< ((16 : Int32) &&& 31)))), (.int (0 : Int32)), (.ref b1)])) rfl rfl (hb hby d2_68) _ (XS.sipush X1.here hx rfl (hb hby d2_69) (XS.iand X1.here hx rfl (hb hby d2_72) rfl (XS.bipush X1.here hx rfl (hb hby d2_73) k)))) ?_
  show own_Fin p e below _ (T1.setTop (mkF m 75 #[.val (.ref a1), .val (.int (0 : Int32)), .val (.int (12 : Int32)), .val (.ref b1), .val (.int (0 : Int32)), .val (.int (0 : Int32))] [(.int (24 : Int32)), (.int (u3 &&& (255 : Int32))), (.int (((u0 &&& (255 : Int32)) ||| ((u1 &&& (255 : Int32)) <<< ((8 : Int32) &&& 31))) ||| ((u2 &&& (255 : Int32)) <<< ((16 : Int32) &&& 31)))), (.int (0 : Int32)), (.ref b1)]))
  refine own_go (fun t k => XS.ishl X1.here hx rfl (hb hby d2_75) rfl (XS.ior X1.here hx rfl (hb hby d2_76) rfl k)) ?_
  show own_Fin p e below _ (T1.setTop (mkF m 77 #[.val (.ref a1), .val (.int (0 : Int32)), .val (.int (12 : Int32)), .val (.ref b1), .val (.int (0 : Int32)), .val (.int (0 : Int32))] [(.int ((((u0 &&& (255 : Int32)) ||| ((u1 &&& (255 : Int32)) <<< ((8 : Int32) &&& 31))) ||| ((u2 &&& (255 : Int32)) <<< ((16 : Int32) &&& 31))) ||| ((u3 &&& (255 : Int32)) <<< ((24 : Int32) &&& 31)))), (.int (0 : Int32)), (.ref b1)]))
  obtain ⟨cl10, Ar10, q10, S10, M10, H10, G10⟩ := (id V1)
  have hin10 : ¬ ((0 : Int32) < 0 ∨ cl10.slots.size ≤ ((0 : Int32)).toNatClampNeg) := inb_of S10 ⟨by decide, by decide⟩
  obtain ⟨T10, h10, X10, e10, W10, st10⟩ := stI X1 hx hZ e1 Ar10 (j := (0 : Int32)) hin10 (g := (mkF m 77 #[.val (.ref a1), .val (.int (0 : Int32)), .val (.int (12 : Int32)), .val (.ref b1), .val (.int (0 : Int32)), .val (.int (0 : Int32))] [(.int ((((u0 &&& (255 : Int32)) ||| ((u1 &&& (255 : Int32)) <<< ((8 : Int32) &&& 31))) ||| ((u2 &&& (255 : Int32)) <<< ((16 : Int32) &&& 31))) ||| ((u3 &&& (255 : Int32)) <<< ((24 : Int32) &&& 31)))), (.int (0 : Int32)), (.ref b1)])) rfl rfl (hb hby d2_77)
  have f11 := f2.other W10 ne_a1_b1
  have V10 := Arv.set Ar10 q10 S10 M10 H10 G10 rfl W10 0 rfl (Nat.le_of_ble_eq_true rfl)
  have f13 : Arv Z h10 b1 k1 .int (3 : Int32) [(.int ((((u0 &&& (255 : Int32)) ||| ((u1 &&& (255 : Int32)) <<< ((8 : Int32) &&& 31))) ||| ((u2 &&& (255 : Int32)) <<< ((16 : Int32) &&& 31))) ||| ((u3 &&& (255 : Int32)) <<< ((24 : Int32) &&& 31)))), (.int (0 : Int32)), (.int (0 : Int32))] (.int (0 : Int32)) := V10
  have Zh14 : n0 ≤ h10.size := Nat.le_trans Zh3 (Nat.le_of_eq W10.size.symm)
  have N10 := Fr.snoc X10 N0 g_b1
  have K15 := K4.wr W10 (Or.inr sz_b1)
  refine own_go st10 ?_
  show own_Fin p e below _ (T10.setTop (mkF m 78 #[.val (.ref a1), .val (.int (0 : Int32)), .val (.int (12 : Int32)), .val (.ref b1), .val (.int (0 : Int32)), .val (.int (0 : Int32))] []))
  refine own_go (fun t k => XS.iinc X10.here hx rfl (hb hby d2_78) rfl (l' := #[.val (.ref a1), .val (.int (0 : Int32)), .val (.int (12 : Int32)), .val (.ref b1), .val (.int (1 : Int32)), .val (.int (0 : Int32))]) rfl (XS.goto X10.here hx rfl (pc0 := 81) (pc' := 9) rfl (hb hby d2_81) (by decide) (by decide) (XS.iload X10.here hx rfl (hb hby d2_9) rfl  (XS.aloadN X10.here hx rfl (hb hby d2_11) rfl rfl  k)))) ?_
  show own_Fin p e below _ (T10.setTop (mkF m 12 #[.val (.ref a1), .val (.int (0 : Int32)), .val (.int (12 : Int32)), .val (.ref b1), .val (.int (1 : Int32)), .val (.int (0 : Int32))] [(.ref b1), (.int (1 : Int32))]))
  obtain ⟨cl16, Ar16, q16, S16, M16, H16, G16⟩ := (id f13)
  refine own_go (fun t k => X10.arraylength hx (by rw [e10]; exact Ar16.1) (State.isArrayOf_alike hZ.alike Ar16.2.1) (g := (mkF m 12 #[.val (.ref a1), .val (.int (0 : Int32)), .val (.int (12 : Int32)), .val (.ref b1), .val (.int (1 : Int32)), .val (.int (0 : Int32))] [(.ref b1), (.int (1 : Int32))])) rfl rfl (hb hby d2_12) _ k) ?_
  rw [len_of S16 M16]
  show own_Fin p e below _ (T10.setTop (mkF m 13 #[.val (.ref a1), .val (.int (0 : Int32)), .val (.int (12 : Int32)), .val (.ref b1), .val (.int (1 : Int32)), .val (.int (0 : Int32))] [(.int (3 : Int32)), (.int (1 : Int32))]))
  refine own_go (fun t k => XS.icmpNo X10.here hx rfl (hb hby d2_13) rfl (tlt (by decide : (1 : Int32) < (3 : Int32))).2.1 (XS.iloadN X10.here hx rfl (hb hby d2_16) rfl  (XS.iconst X10.here hx rfl (hb hby d2_17) (XS.iload X10.here hx rfl (hb hby d2_18) rfl  k)))) ?_
  show own_Fin p e below _ (T10.setTop (mkF m 20 #[.val (.ref a1), .val (.int (0 : Int32)), .val (.int (12 : Int32)), .val (.ref b1), .val (.int (1 : Int32)), .val (.int (0 : Int32))] [(.int (1 : Int32)), (.int (4 : Int32)), (.int (0 : Int32))]))
  refine own_go (fun t k => XS.imul X10.here hx rfl (hb hby d2_20) rfl (XS.iadd X10.here hx rfl (hb hby d2_21) rfl (XS.istore X10.here hx rfl (hb hby d2_22) rfl (l' := #[.val (.ref a1), .val (.int (0 : Int32)), .val (.int (12 : Int32)), .val (.ref b1), .val (.int (1 : Int32)), .val (.int (4 : Int32))]) rfl (XS.aloadN X10.here hx rfl (hb hby d2_24) rfl rfl  k)))) ?_
  show own_Fin p e below _ (T10.setTop (mkF m 25 #[.val (.ref a1), .val (.int (0 : Int32)), .val (.int (12 : Int32)), .val (.ref b1), .val (.int (1 : Int32)), .val (.int (4 : Int32))] [(.ref b1)]))
  refine own_go (fun t k => XS.iload X10.here hx rfl (hb hby d2_25) rfl  (XS.aloadN X10.here hx rfl (hb hby d2_27) rfl rfl  (XS.iload X10.here hx rfl (hb hby d2_28) rfl  k))) ?_
  show own_Fin p e below _ (T10.setTop (mkF m 30 #[.val (.ref a1), .val (.int (0 : Int32)), .val (.int (12 : Int32)), .val (.ref b1), .val (.int (1 : Int32)), .val (.int (4 : Int32))] [(.int (4 : Int32)), (.ref a1), (.int (1 : Int32)), (.ref b1)]))
  obtain ⟨cl17, Ar17, q17, S17, M17, H17, G17⟩ := (id f11)
  have hin17 : ¬ ((4 : Int32) < 0 ∨ cl17.slots.size ≤ ((4 : Int32)).toNatClampNeg) := inb_of S17 ⟨by decide, by decide⟩
  have hat17 : cl17.slots[((4 : Int32)).toNatClampNeg]? = some (.int u4) := H17.at hin17 rfl
  refine own_go (fun t k => X10.baloadBytes hx (j := (4 : Int32)) (v := (.int u4)) (by rw [e10]; exact Ar17.1) (State.isArrayOf_alike hZ.alike Ar17.2.1) Ar17.2.2 hin17 hat17 (g := (mkF m 30 #[.val (.ref a1), .val (.int (0 : Int32)), .val (.int (12 : Int32)), .val (.ref b1), .val (.int (1 : Int32)), .val (.int (4 : Int32))] [(.int (4 : Int32)), (.ref a1), (.int (1 : Int32)), (.ref b1)])) rfl rfl (hb hby d2_30) _ (XS.sipush X10.here hx rfl (hb hby d2_31) (XS.iand X10.here hx rfl (hb hby d2_34) rfl (XS.aloadN X10.here hx rfl (hb hby d2_35) rfl rfl  k)))) ?_
  show own_Fin p e below _ (T10.setTop (mkF m 36 #[.val (.ref a1), .val (.int (0 : Int32)), .val (.int (12 : Int32)), .val (.ref b1), .val (.int (1 : Int32)), .val (.int (4 : Int32))] [(.ref a1), (.int (u4 &&& (255 : Int32))), (.int (1 : Int32)), (.ref b1)]))
  refine own_go (fun t k => XS.iload X10.here hx rfl (hb hby d2_36) rfl  (XS.iconst X10.here hx rfl (hb hby d2_38) (XS.iadd X10.here hx rfl (hb hby d2_39) rfl k))) ?_
  show own_Fin p e below _ (T10.setTop (mkF m 40 #[.val (.ref a1), .val (.int (0 : Int32)), .val (.int (12 : Int32)), .val (.ref b1), .val (.int (1 : Int32)), .val (.int (4 : Int32))] [(.int (5 : Int32)), (.ref a1), (.int (u4 &&& (255 : Int32))), (.int (1 : Int32)), (.ref b1)]))
  obtain ⟨cl18, Ar18, q18, S18, M18, H18, G18⟩ := (id f11)
  have hin18 : ¬ ((5 : Int32) < 0 ∨ cl18.slots.size ≤ ((5 : Int32)).toNatClampNeg) := inb_of S18 ⟨by decide, by decide⟩
  have hat18 : cl18.slots[((5 : Int32)).toNatClampNeg]? = some (.int u5) := H18.at hin18 rfl
  refine own_go (fun t k => X10.baloadBytes hx (j := (5 : Int32)) (v := (.int u5)) (by rw [e10]; exact Ar18.1) (State.isArrayOf_alike hZ.alike Ar18.2.1) Ar18.2.2 hin18 hat18 (g := (mkF m 40 #[.val (.ref a1), .val (.int (0 : Int32)), .val (.int (12 : Int32)), .val (.ref b1), .val (.int (1 : Int32)), .val (.int (4 : Int32))] [(.int (5 : Int32)), (.ref a1), (.int (u4 &&& (255 : Int32))), (.int (1 : Int32)), (.ref b1)])) rfl rfl (hb hby d2_40) _ (XS.sipush X10.here hx rfl (hb hby d2_41) (XS.iand X10.here hx rfl (hb hby d2_44) rfl (XS.bipush X10.here hx rfl (hb hby d2_45) k)))) ?_
  show own_Fin p e below _ (T10.setTop (mkF m 47 #[.val (.ref a1), .val (.int (0 : Int32)), .val (.int (12 : Int32)), .val (.ref b1), .val (.int (1 : Int32)), .val (.int (4 : Int32))] [(.int (8 : Int32)), (.int (u5 &&& (255 : Int32))), (.int (u4 &&& (255 : Int32))), (.int (1 : Int32)), (.ref b1)]))
  refine own_go (fun t k => XS.ishl X10.here hx rfl (hb hby d2_47) rfl (XS.ior X10.here hx rfl (hb hby d2_48) rfl (XS.aloadN X10.here hx rfl (hb hby d2_49) rfl rfl  (XS.iload X10.here hx rfl (hb hby d2_50) rfl  k)))) ?_
  show own_Fin p e below _ (T10.setTop (mkF m 52 #[.val (.ref a1), .val (.int (0 : Int32)), .val (.int (12 : Int32)), .val (.ref b1), .val (.int (1 : Int32)), .val (.int (4 : Int32))] [(.int (4 : Int32)), (.ref a1), (.int ((u4 &&& (255 : Int32)) ||| ((u5 &&& (255 : Int32)) <<< ((8 : Int32) &&& 31)))), (.int (1 : Int32)), (.ref b1)]))
  refine own_go (fun t k => XS.iconst X10.here hx rfl (hb hby d2_52) (XS.iadd X10.here hx rfl (hb hby d2_53) rfl k)) ?_
  show own_Fin p e below _ (T10.setTop (mkF m 54 #[.val (.ref a1), .val (.int (0 : Int32)), .val (.int (12 : Int32)), .val (.ref b1), .val (.int (1 : Int32)), .val (.int (4 : Int32))] [(.int (6 : Int32)), (.ref a1), (.int ((u4 &&& (255 : Int32)) ||| ((u5 &&& (255 : Int32)) <<< ((8 : Int32) &&& 31)))), (.int (1 : Int32)), (.ref b1)]))
  obtain ⟨cl19, Ar19, q19, S19, M19, H19, G19⟩ := (id f11)
  have hin19 : ¬ ((6 : Int32) < 0 ∨ cl19.slots.size ≤ ((6 : Int32)).toNatClampNeg) := inb_of S19 ⟨by decide, by decide⟩
  have hat19 : cl19.slots[((6 : Int32)).toNatClampNeg]? = some (.int u6) := H19.at hin19 rfl
  refine own_go (fun t k => X10.baloadBytes hx (j := (6 : Int32)) (v := (.int u6)) (by rw [e10]; exact Ar19.1) (State.isArrayOf_alike hZ.alike Ar19.2.1) Ar19.2.2 hin19 hat19 (g := (mkF m 54 #[.val (.ref a1), .val (.int (0 : Int32)), .val (.int (12 : Int32)), .val (.ref b1), .val (.int (1 : Int32)), .val (.int (4 : Int32))] [(.int (6 : Int32)), (.ref a1), (.int ((u4 &&& (255 : Int32)) ||| ((u5 &&& (255 : Int32)) <<< ((8 : Int32) &&& 31)))), (.int (1 : Int32)), (.ref b1)])) rfl rfl (hb hby d2_54) _ (XS.sipush X10.here hx rfl (hb hby d2_55) (XS.iand X10.here hx rfl (hb hby d2_58) rfl (XS.bipush X10.here hx rfl (hb hby d2_59) k)))) ?_
  show own_Fin p e below _ (T10.setTop (mkF m 61 #[.val (.ref a1), .val (.int (0 : Int32)), .val (.int (12 : Int32)), .val (.ref b1), .val (.int (1 : Int32)), .val (.int (4 : Int32))] [(.int (16 : Int32)), (.int (u6 &&& (255 : Int32))), (.int ((u4 &&& (255 : Int32)) ||| ((u5 &&& (255 : Int32)) <<< ((8 : Int32) &&& 31)))), (.int (1 : Int32)), (.ref b1)]))
  refine own_go (fun t k => XS.ishl X10.here hx rfl (hb hby d2_61) rfl (XS.ior X10.here hx rfl (hb hby d2_62) rfl (XS.aloadN X10.here hx rfl (hb hby d2_63) rfl rfl  (XS.iload X10.here hx rfl (hb hby d2_64) rfl  k)))) ?_
  show own_Fin p e below _ (T10.setTop (mkF m 66 #[.val (.ref a1), .val (.int (0 : Int32)), .val (.int (12 : Int32)), .val (.ref b1), .val (.int (1 : Int32)), .val (.int (4 : Int32))] [(.int (4 : Int32)), (.ref a1), (.int (((u4 &&& (255 : Int32)) ||| ((u5 &&& (255 : Int32)) <<< ((8 : Int32) &&& 31))) ||| ((u6 &&& (255 : Int32)) <<< ((16 : Int32) &&& 31)))), (.int (1 : Int32)), (.ref b1)]))
  refine own_go (fun t k => XS.iconst X10.here hx rfl (hb hby d2_66) (XS.iadd X10.here hx rfl (hb hby d2_67) rfl k)) ?_
  show own_Fin p e below _ (T10.setTop (mkF m 68 #[.val (.ref a1), .val (.int (0 : Int32)), .val (.int (12 : Int32)), .val (.ref b1), .val (.int (1 : Int32)), .val (.int (4 : Int32))] [(.int (7 : Int32)), (.ref a1), (.int (((u4 &&& (255 : Int32)) ||| ((u5 &&& (255 : Int32)) <<< ((8 : Int32) &&& 31))) ||| ((u6 &&& (255 : Int32)) <<< ((16 : Int32) &&& 31)))), (.int (1 : Int32)), (.ref b1)]))
  obtain ⟨cl20, Ar20, q20, S20, M20, H20, G20⟩ := (id f11)
  have hin20 : ¬ ((7 : Int32) < 0 ∨ cl20.slots.size ≤ ((7 : Int32)).toNatClampNeg) := inb_of S20 ⟨by decide, by decide⟩
  have hat20 : cl20.slots[((7 : Int32)).toNatClampNeg]? = some (.int u7) := H20.at hin20 rfl
  refine own_go (fun t k => X10.baloadBytes hx (j := (7 : Int32)) (v := (.int u7)) (by rw [e10]; exact Ar20.1) (State.isArrayOf_alike hZ.alike Ar20.2.1) Ar20.2.2 hin20 hat20 (g := (mkF m 68 #[.val (.ref a1), .val (.int (0 : Int32)), .val (.int (12 : Int32)), .val (.ref b1), .val (.int (1 : Int32)), .val (.int (4 : Int32))] [(.int (7 : Int32)), (.ref a1), (.int (((u4 &&& (255 : Int32)) ||| ((u5 &&& (255 : Int32)) <<< ((8 : Int32) &&& 31))) ||| ((u6 &&& (255 : Int32)) <<< ((16 : Int32) &&& 31)))), (.int (1 : Int32)), (.ref b1)])) rfl rfl (hb hby d2_68) _ (XS.sipush X10.here hx rfl (hb hby d2_69) (XS.iand X10.here hx rfl (hb hby d2_72) rfl (XS.bipush X10.here hx rfl (hb hby d2_73) k)))) ?_
  show own_Fin p e below _ (T10.setTop (mkF m 75 #[.val (.ref a1), .val (.int (0 : Int32)), .val (.int (12 : Int32)), .val (.ref b1), .val (.int (1 : Int32)), .val (.int (4 : Int32))] [(.int (24 : Int32)), (.int (u7 &&& (255 : Int32))), (.int (((u4 &&& (255 : Int32)) ||| ((u5 &&& (255 : Int32)) <<< ((8 : Int32) &&& 31))) ||| ((u6 &&& (255 : Int32)) <<< ((16 : Int32) &&& 31)))), (.int (1 : Int32)), (.ref b1)]))
  refine own_go (fun t k => XS.ishl X10.here hx rfl (hb hby d2_75) rfl (XS.ior X10.here hx rfl (hb hby d2_76) rfl k)) ?_
  show own_Fin p e below _ (T10.setTop (mkF m 77 #[.val (.ref a1), .val (.int (0 : Int32)), .val (.int (12 : Int32)), .val (.ref b1), .val (.int (1 : Int32)), .val (.int (4 : Int32))] [(.int ((((u4 &&& (255 : Int32)) ||| ((u5 &&& (255 : Int32)) <<< ((8 : Int32) &&& 31))) ||| ((u6 &&& (255 : Int32)) <<< ((16 : Int32) &&& 31))) ||| ((u7 &&& (255 : Int32)) <<< ((24 : Int32) &&& 31)))), (.int (1 : Int32)), (.ref b1)]))
  obtain ⟨cl21, Ar21, q21, S21, M21, H21, G21⟩ := (id f13)
  have hin21 : ¬ ((1 : Int32) < 0 ∨ cl21.slots.size ≤ ((1 : Int32)).toNatClampNeg) := inb_of S21 ⟨by decide, by decide⟩
  obtain ⟨T21, h21, X21, e21, W21, st21⟩ := stI X10 hx hZ e10 Ar21 (j := (1 : Int32)) hin21 (g := (mkF m 77 #[.val (.ref a1), .val (.int (0 : Int32)), .val (.int (12 : Int32)), .val (.ref b1), .val (.int (1 : Int32)), .val (.int (4 : Int32))] [(.int ((((u4 &&& (255 : Int32)) ||| ((u5 &&& (255 : Int32)) <<< ((8 : Int32) &&& 31))) ||| ((u6 &&& (255 : Int32)) <<< ((16 : Int32) &&& 31))) ||| ((u7 &&& (255 : Int32)) <<< ((24 : Int32) &&& 31)))), (.int (1 : Int32)), (.ref b1)])) rfl rfl (hb hby d2_77)
  have f22 := f11.other W21 ne_a1_b1
  have V21 := Arv.set Ar21 q21 S21 M21 H21 G21 rfl W21 1 rfl (Nat.le_of_ble_eq_true rfl)
  have f24 : Arv Z h21 b1 k1 .int (3 : Int32) [(.int ((((u0 &&& (255 : Int32)) ||| ((u1 &&& (255 : Int32)) <<< ((8 : Int32) &&& 31))) ||| ((u2 &&& (255 : Int32)) <<< ((16 : Int32) &&& 31))) ||| ((u3 &&& (255 : Int32)) <<< ((24 : Int32) &&& 31)))), (.int ((((u4 &&& (255 : Int32)) ||| ((u5 &&& (255 : Int32)) <<< ((8 : Int32) &&& 31))) ||| ((u6 &&& (255 : Int32)) <<< ((16 : Int32) &&& 31))) ||| ((u7 &&& (255 : Int32)) <<< ((24 : Int32) &&& 31)))), (.int (0 : Int32))] (.int (0 : Int32)) := V21
  have Zh25 : n0 ≤ h21.size := Nat.le_trans Zh14 (Nat.le_of_eq W21.size.symm)
  have N21 := Fr.snoc X21 N10 g_b1
  have K26 := K15.wr W21 (Or.inr sz_b1)
  refine own_go st21 ?_
  show own_Fin p e below _ (T21.setTop (mkF m 78 #[.val (.ref a1), .val (.int (0 : Int32)), .val (.int (12 : Int32)), .val (.ref b1), .val (.int (1 : Int32)), .val (.int (4 : Int32))] []))
  refine own_go (fun t k => XS.iinc X21.here hx rfl (hb hby d2_78) rfl (l' := #[.val (.ref a1), .val (.int (0 : Int32)), .val (.int (12 : Int32)), .val (.ref b1), .val (.int (2 : Int32)), .val (.int (4 : Int32))]) rfl (XS.goto X21.here hx rfl (pc0 := 81) (pc' := 9) rfl (hb hby d2_81) (by decide) (by decide) (XS.iload X21.here hx rfl (hb hby d2_9) rfl  (XS.aloadN X21.here hx rfl (hb hby d2_11) rfl rfl  k)))) ?_
  show own_Fin p e below _ (T21.setTop (mkF m 12 #[.val (.ref a1), .val (.int (0 : Int32)), .val (.int (12 : Int32)), .val (.ref b1), .val (.int (2 : Int32)), .val (.int (4 : Int32))] [(.ref b1), (.int (2 : Int32))]))
  obtain ⟨cl27, Ar27, q27, S27, M27, H27, G27⟩ := (id f24)
  refine own_go (fun t k => X21.arraylength hx (by rw [e21]; exact Ar27.1) (State.isArrayOf_alike hZ.alike Ar27.2.1) (g := (mkF m 12 #[.val (.ref a1), .val (.int (0 : Int32)), .val (.int (12 : Int32)), .val (.ref b1), .val (.int (2 : Int32)), .val (.int (4 : Int32))] [(.ref b1), (.int (2 : Int32))])) rfl rfl (hb hby d2_12) _ k) ?_
  rw [len_of S27 M27]
  show own_Fin p e below _ (T21.setTop (mkF m 13 #[.val (.ref a1), .val (.int (0 : Int32)), .val (.int (12 : Int32)), .val (.ref b1), .val (.int (2 : Int32)), .val (.int (4 : Int32))] [(.int (3 : Int32)), (.int (2 : Int32))]))
  refine own_go (fun t k => XS.icmpNo X21.here hx rfl (hb hby d2_13) rfl (tlt (by decide : (2 : Int32) < (3 : Int32))).2.1 (XS.iloadN X21.here hx rfl (hb hby d2_16) rfl  (XS.iconst X21.here hx rfl (hb hby d2_17) (XS.iload X21.here hx rfl (hb hby d2_18) rfl  k)))) ?_
  show own_Fin p e below _ (T21.setTop (mkF m 20 #[.val (.ref a1), .val (.int (0 : Int32)), .val (.int (12 : Int32)), .val (.ref b1), .val (.int (2 : Int32)), .val (.int (4 : Int32))] [(.int (2 : Int32)), (.int (4 : Int32)), (.int (0 : Int32))]))
  refine own_go (fun t k => XS.imul X21.here hx rfl (hb hby d2_20) rfl (XS.iadd X21.here hx rfl (hb hby d2_21) rfl (XS.istore X21.here hx rfl (hb hby d2_22) rfl (l' := #[.val (.ref a1), .val (.int (0 : Int32)), .val (.int (12 : Int32)), .val (.ref b1), .val (.int (2 : Int32)), .val (.int (8 : Int32))]) rfl (XS.aloadN X21.here hx rfl (hb hby d2_24) rfl rfl  k)))) ?_
  show own_Fin p e below _ (T21.setTop (mkF m 25 #[.val (.ref a1), .val (.int (0 : Int32)), .val (.int (12 : Int32)), .val (.ref b1), .val (.int (2 : Int32)), .val (.int (8 : Int32))] [(.ref b1)]))
  refine own_go (fun t k => XS.iload X21.here hx rfl (hb hby d2_25) rfl  (XS.aloadN X21.here hx rfl (hb hby d2_27) rfl rfl  (XS.iload X21.here hx rfl (hb hby d2_28) rfl  k))) ?_
  show own_Fin p e below _ (T21.setTop (mkF m 30 #[.val (.ref a1), .val (.int (0 : Int32)), .val (.int (12 : Int32)), .val (.ref b1), .val (.int (2 : Int32)), .val (.int (8 : Int32))] [(.int (8 : Int32)), (.ref a1), (.int (2 : Int32)), (.ref b1)]))
  obtain ⟨cl28, Ar28, q28, S28, M28, H28, G28⟩ := (id f22)
  have hin28 : ¬ ((8 : Int32) < 0 ∨ cl28.slots.size ≤ ((8 : Int32)).toNatClampNeg) := inb_of S28 ⟨by decide, by decide⟩
  have hat28 : cl28.slots[((8 : Int32)).toNatClampNeg]? = some (.int u8) := H28.at hin28 rfl
  refine own_go (fun t k => X21.baloadBytes hx (j := (8 : Int32)) (v := (.int u8)) (by rw [e21]; exact Ar28.1) (State.isArrayOf_alike hZ.alike Ar28.2.1) Ar28.2.2 hin28 hat28 (g := (mkF m 30 #[.val (.ref a1), .val (.int (0 : Int32)), .val (.int (12 : Int32)), .val (.ref b1), .val (.int (2 : Int32)), .val (.int (8 : Int32))] [(.int (8 : Int32)), (.ref a1), (.int (2 : Int32)), (.ref b1)])) rfl rfl (hb hby d2_30) _ (XS.sipush X21.here hx rfl (hb hby d2_31) (XS.iand X21.here hx rfl (hb hby d2_34) rfl (XS.aloadN X21.here hx rfl (hb hby d2_35) rfl rfl  k)))) ?_
  show own_Fin p e below _ (T21.setTop (mkF m 36 #[.val (.ref a1), .val (.int (0 : Int32)), .val (.int (12 : Int32)), .val (.ref b1), .val (.int (2 : Int32)), .val (.int (8 : Int32))] [(.ref a1), (.int (u8 &&& (255 : Int32))), (.int (2 : Int32)), (.ref b1)]))
  refine own_go (fun t k => XS.iload X21.here hx rfl (hb hby d2_36) rfl  (XS.iconst X21.here hx rfl (hb hby d2_38) (XS.iadd X21.here hx rfl (hb hby d2_39) rfl k))) ?_
  show own_Fin p e below _ (T21.setTop (mkF m 40 #[.val (.ref a1), .val (.int (0 : Int32)), .val (.int (12 : Int32)), .val (.ref b1), .val (.int (2 : Int32)), .val (.int (8 : Int32))] [(.int (9 : Int32)), (.ref a1), (.int (u8 &&& (255 : Int32))), (.int (2 : Int32)), (.ref b1)]))
  obtain ⟨cl29, Ar29, q29, S29, M29, H29, G29⟩ := (id f22)
  have hin29 : ¬ ((9 : Int32) < 0 ∨ cl29.slots.size ≤ ((9 : Int32)).toNatClampNeg) := inb_of S29 ⟨by decide, by decide⟩
  have hat29 : cl29.slots[((9 : Int32)).toNatClampNeg]? = some (.int u9) := H29.at hin29 rfl
  refine own_go (fun t k => X21.baloadBytes hx (j := (9 : Int32)) (v := (.int u9)) (by rw [e21]; exact Ar29.1) (State.isArrayOf_alike hZ.alike Ar29.2.1) Ar29.2.2 hin29 hat29 (g := (mkF m 40 #[.val (.ref a1), .val (.int (0 : Int32)), .val (.int (12 : Int32)), .val (.ref b1), .val (.int (2 : Int32)), .val (.int (8 : Int32))] [(.int (9 : Int32)), (.ref a1), (.int (u8 &&& (255 : Int32))), (.int (2 : Int32)), (.ref b1)])) rfl rfl (hb hby d2_40) _ (XS.sipush X21.here hx rfl (hb hby d2_41) (XS.iand X21.here hx rfl (hb hby d2_44) rfl (XS.bipush X21.here hx rfl (hb hby d2_45) k)))) ?_
  show own_Fin p e below _ (T21.setTop (mkF m 47 #[.val (.ref a1), .val (.int (0 : Int32)), .val (.int (12 : Int32)), .val (.ref b1), .val (.int (2 : Int32)), .val (.int (8 : Int32))] [(.int (8 : Int32)), (.int (u9 &&& (255 : Int32))), (.int (u8 &&& (255 : Int32))), (.int (2 : Int32)), (.ref b1)]))
  refine own_go (fun t k => XS.ishl X21.here hx rfl (hb hby d2_47) rfl (XS.ior X21.here hx rfl (hb hby d2_48) rfl (XS.aloadN X21.here hx rfl (hb hby d2_49) rfl rfl  (XS.iload X21.here hx rfl (hb hby d2_50) rfl  k)))) ?_
  show own_Fin p e below _ (T21.setTop (mkF m 52 #[.val (.ref a1), .val (.int (0 : Int32)), .val (.int (12 : Int32)), .val (.ref b1), .val (.int (2 : Int32)), .val (.int (8 : Int32))] [(.int (8 : Int32)), (.ref a1), (.int ((u8 &&& (255 : Int32)) ||| ((u9 &&& (255 : Int32)) <<< ((8 : Int32) &&& 31)))), (.int (2 : Int32)), (.ref b1)]))
  refine own_go (fun t k => XS.iconst X21.here hx rfl (hb hby d2_52) (XS.iadd X21.here hx rfl (hb hby d2_53) rfl k)) ?_
  show own_Fin p e below _ (T21.setTop (mkF m 54 #[.val (.ref a1), .val (.int (0 : Int32)), .val (.int (12 : Int32)), .val (.ref b1), .val (.int (2 : Int32)), .val (.int (8 : Int32))] [(.int (10 : Int32)), (.ref a1), (.int ((u8 &&& (255 : Int32)) ||| ((u9 &&& (255 : Int32)) <<< ((8 : Int32) &&& 31)))), (.int (2 : Int32)), (.ref b1)]))
  obtain ⟨cl30, Ar30, q30, S30, M30, H30, G30⟩ := (id f22)
  have hin30 : ¬ ((10 : Int32) < 0 ∨ cl30.slots.size ≤ ((10 : Int32)).toNatClampNeg) := inb_of S30 ⟨by decide, by decide⟩
  have hat30 : cl30.slots[((10 : Int32)).toNatClampNeg]? = some (.int u10) := H30.at hin30 rfl
  refine own_go (fun t k => X21.baloadBytes hx (j := (10 : Int32)) (v := (.int u10)) (by rw [e21]; exact Ar30.1) (State.isArrayOf_alike hZ.alike Ar30.2.1) Ar30.2.2 hin30 hat30 (g := (mkF m 54 #[.val (.ref a1), .val (.int (0 : Int32)), .val (.int (12 : Int32)), .val (.ref b1), .val (.int (2 : Int32)), .val (.int (8 : Int32))] [(.int (10 : Int32)), (.ref a1), (.int ((u8 &&& (255 : Int32)) ||| ((u9 &&& (255 : Int32)) <<< ((8 : Int32) &&& 31)))), (.int (2 : Int32)), (.ref b1)])) rfl rfl (hb hby d2_54) _ (XS.sipush X21.here hx rfl (hb hby d2_55) (XS.iand X21.here hx rfl (hb hby d2_58) rfl (XS.bipush X21.here hx rfl (hb hby d2_59) k)))) ?_
  show own_Fin p e below _ (T21.setTop (mkF m 61 #[.val (.ref a1), .val (.int (0 : Int32)), .val (.int (12 : Int32)), .val (.ref b1), .val (.int (2 : Int32)), .val (.int (8 : Int32))] [(.int (16 : Int32)), (.int (u10 &&& (255 : Int32))), (.int ((u8 &&& (255 : Int32)) ||| ((u9 &&& (255 : Int32)) <<< ((8 : Int32) &&& 31)))), (.int (2 : Int32)), (.ref b1)]))
  refine own_go (fun t k => XS.ishl X21.here hx rfl (hb hby d2_61) rfl (XS.ior X21.here hx rfl (hb hby d2_62) rfl (XS.aloadN X21.here hx rfl (hb hby d2_63) rfl rfl  (XS.iload X21.here hx rfl (hb hby d2_64) rfl  k)))) ?_
  show own_Fin p e below _ (T21.setTop (mkF m 66 #[.val (.ref a1), .val (.int (0 : Int32)), .val (.int (12 : Int32)), .val (.ref b1), .val (.int (2 : Int32)), .val (.int (8 : Int32))] [(.int (8 : Int32)), (.ref a1), (.int (((u8 &&& (255 : Int32)) ||| ((u9 &&& (255 : Int32)) <<< ((8 : Int32) &&& 31))) ||| ((u10 &&& (255 : Int32)) <<< ((16 : Int32) &&& 31)))), (.int (2 : Int32)), (.ref b1)]))
  refine own_go (fun t k => XS.iconst X21.here hx rfl (hb hby d2_66) (XS.iadd X21.here hx rfl (hb hby d2_67) rfl k)) ?_
  show own_Fin p e below _ (T21.setTop (mkF m 68 #[.val (.ref a1), .val (.int (0 : Int32)), .val (.int (12 : Int32)), .val (.ref b1), .val (.int (2 : Int32)), .val (.int (8 : Int32))] [(.int (11 : Int32)), (.ref a1), (.int (((u8 &&& (255 : Int32)) ||| ((u9 &&& (255 : Int32)) <<< ((8 : Int32) &&& 31))) ||| ((u10 &&& (255 : Int32)) <<< ((16 : Int32) &&& 31)))), (.int (2 : Int32)), (.ref b1)]))
  obtain ⟨cl31, Ar31, q31, S31, M31, H31, G31⟩ := (id f22)
  have hin31 : ¬ ((11 : Int32) < 0 ∨ cl31.slots.size ≤ ((11 : Int32)).toNatClampNeg) := inb_of S31 ⟨by decide, by decide⟩
  have hat31 : cl31.slots[((11 : Int32)).toNatClampNeg]? = some (.int u11) := H31.at hin31 rfl
  refine own_go (fun t k => X21.baloadBytes hx (j := (11 : Int32)) (v := (.int u11)) (by rw [e21]; exact Ar31.1) (State.isArrayOf_alike hZ.alike Ar31.2.1) Ar31.2.2 hin31 hat31 (g := (mkF m 68 #[.val (.ref a1), .val (.int (0 : Int32)), .val (.int (12 : Int32)), .val (.ref b1), .val (.int (2 : Int32)), .val (.int (8 : Int32))] [(.int (11 : Int32)), (.ref a1), (.int (((u8 &&& (255 : Int32)) ||| ((u9 &&& (255 : Int32)) <<< ((8 : Int32) &&& 31))) ||| ((u10 &&& (255 : Int32)) <<< ((16 : Int32) &&& 31)))), (.int (2 : Int32)), (.ref b1)])) rfl rfl (hb hby d2_68) _ (XS.sipush X21.here hx rfl (hb hby d2_69) (XS.iand X21.here hx rfl (hb hby d2_72) rfl (XS.bipush X21.here hx rfl (hb hby d2_73) k)))) ?_
  show own_Fin p e below _ (T21.setTop (mkF m 75 #[.val (.ref a1), .val (.int (0 : Int32)), .val (.int (12 : Int32)), .val (.ref b1), .val (.int (2 : Int32)), .val (.int (8 : Int32))] [(.int (24 : Int32)), (.int (u11 &&& (255 : Int32))), (.int (((u8 &&& (255 : Int32)) ||| ((u9 &&& (255 : Int32)) <<< ((8 : Int32) &&& 31))) ||| ((u10 &&& (255 : Int32)) <<< ((16 : Int32) &&& 31)))), (.int (2 : Int32)), (.ref b1)]))
  refine own_go (fun t k => XS.ishl X21.here hx rfl (hb hby d2_75) rfl (XS.ior X21.here hx rfl (hb hby d2_76) rfl k)) ?_
  show own_Fin p e below _ (T21.setTop (mkF m 77 #[.val (.ref a1), .val (.int (0 : Int32)), .val (.int (12 : Int32)), .val (.ref b1), .val (.int (2 : Int32)), .val (.int (8 : Int32))] [(.int ((((u8 &&& (255 : Int32)) ||| ((u9 &&& (255 : Int32)) <<< ((8 : Int32) &&& 31))) ||| ((u10 &&& (255 : Int32)) <<< ((16 : Int32) &&& 31))) ||| ((u11 &&& (255 : Int32)) <<< ((24 : Int32) &&& 31)))), (.int (2 : Int32)), (.ref b1)]))
  obtain ⟨cl32, Ar32, q32, S32, M32, H32, G32⟩ := (id f24)
  have hin32 : ¬ ((2 : Int32) < 0 ∨ cl32.slots.size ≤ ((2 : Int32)).toNatClampNeg) := inb_of S32 ⟨by decide, by decide⟩
  obtain ⟨T32, h32, X32, e32, W32, st32⟩ := stI X21 hx hZ e21 Ar32 (j := (2 : Int32)) hin32 (g := (mkF m 77 #[.val (.ref a1), .val (.int (0 : Int32)), .val (.int (12 : Int32)), .val (.ref b1), .val (.int (2 : Int32)), .val (.int (8 : Int32))] [(.int ((((u8 &&& (255 : Int32)) ||| ((u9 &&& (255 : Int32)) <<< ((8 : Int32) &&& 31))) ||| ((u10 &&& (255 : Int32)) <<< ((16 : Int32) &&& 31))) ||| ((u11 &&& (255 : Int32)) <<< ((24 : Int32) &&& 31)))), (.int (2 : Int32)), (.ref b1)])) rfl rfl (hb hby d2_77)
  have f33 := f22.other W32 ne_a1_b1
  have V32 := Arv.set Ar32 q32 S32 M32 H32 G32 rfl W32 2 rfl (Nat.le_of_ble_eq_true rfl)
  have f35 : Arv Z h32 b1 k1 .int (3 : Int32) [(.int ((((u0 &&& (255 : Int32)) ||| ((u1 &&& (255 : Int32)) <<< ((8 : Int32) &&& 31))) ||| ((u2 &&& (255 : Int32)) <<< ((16 : Int32) &&& 31))) ||| ((u3 &&& (255 : Int32)) <<< ((24 : Int32) &&& 31)))), (.int ((((u4 &&& (255 : Int32)) ||| ((u5 &&& (255 : Int32)) <<< ((8 : Int32) &&& 31))) ||| ((u6 &&& (255 : Int32)) <<< ((16 : Int32) &&& 31))) ||| ((u7 &&& (255 : Int32)) <<< ((24 : Int32) &&& 31)))), (.int ((((u8 &&& (255 : Int32)) ||| ((u9 &&& (255 : Int32)) <<< ((8 : Int32) &&& 31))) ||| ((u10 &&& (255 : Int32)) <<< ((16 : Int32) &&& 31))) ||| ((u11 &&& (255 : Int32)) <<< ((24 : Int32) &&& 31))))] (.int (0 : Int32)) := V32
  have Zh36 : n0 ≤ h32.size := Nat.le_trans Zh25 (Nat.le_of_eq W32.size.symm)
  have N32 := Fr.snoc X32 N21 g_b1
  have K37 := K26.wr W32 (Or.inr sz_b1)
  refine own_go st32 ?_
  show own_Fin p e below _ (T32.setTop (mkF m 78 #[.val (.ref a1), .val (.int (0 : Int32)), .val (.int (12 : Int32)), .val (.ref b1), .val (.int (2 : Int32)), .val (.int (8 : Int32))] []))
  refine own_go (fun t k => XS.iinc X32.here hx rfl (hb hby d2_78) rfl (l' := #[.val (.ref a1), .val (.int (0 : Int32)), .val (.int (12 : Int32)), .val (.ref b1), .val (.int (3 : Int32)), .val (.int (8 : Int32))]) rfl (XS.goto X32.here hx rfl (pc0 := 81) (pc' := 9) rfl (hb hby d2_81) (by decide) (by decide) (XS.iload X32.here hx rfl (hb hby d2_9) rfl  (XS.aloadN X32.here hx rfl (hb hby d2_11) rfl rfl  k)))) ?_
  show own_Fin p e below _ (T32.setTop (mkF m 12 #[.val (.ref a1), .val (.int (0 : Int32)), .val (.int (12 : Int32)), .val (.ref b1), .val (.int (3 : Int32)), .val (.int (8 : Int32))] [(.ref b1), (.int (3 : Int32))]))
  obtain ⟨cl38, Ar38, q38, S38, M38, H38, G38⟩ := (id f35)
  refine own_go (fun t k => X32.arraylength hx (by rw [e32]; exact Ar38.1) (State.isArrayOf_alike hZ.alike Ar38.2.1) (g := (mkF m 12 #[.val (.ref a1), .val (.int (0 : Int32)), .val (.int (12 : Int32)), .val (.ref b1), .val (.int (3 : Int32)), .val (.int (8 : Int32))] [(.ref b1), (.int (3 : Int32))])) rfl rfl (hb hby d2_12) _ k) ?_
  rw [len_of S38 M38]
  show own_Fin p e below _ (T32.setTop (mkF m 13 #[.val (.ref a1), .val (.int (0 : Int32)), .val (.int (12 : Int32)), .val (.ref b1), .val (.int (3 : Int32)), .val (.int (8 : Int32))] [(.int (3 : Int32)), (.int (3 : Int32))]))
  refine own_go (fun t k => XS.icmpYes X32.here hx rfl (pc0 := 13) (pc' := 84) rfl (hb hby d2_13) rfl (flt (by decide : ¬ ((3 : Int32) < (3 : Int32)))).2.1 (by decide) (by decide) (XS.aloadN X32.here hx rfl (hb hby d2_84) rfl rfl  k)) ?_
  show own_Fin p e below _ (T32.setTop (mkF m 85 #[.val (.ref a1), .val (.int (0 : Int32)), .val (.int (12 : Int32)), .val (.ref b1), .val (.int (3 : Int32)), .val (.int (8 : Int32))] [(.ref b1)]))
  exact own_out X32 (fun h => by rw [Bd.returns] at h; cases h) Bd.notSynchronized (fun fs hr => retOut X32 hx Bd.returns rfl (Or.inr (Or.inr (Or.inr (Or.inr ⟨rfl, rfl, rfl⟩)))) (hb hby d2_85) hr) (by rw [e32]; exact ⟨_, _, rfl, N32, sz_b1, K37, f35⟩) (by decide) (by decide)
theorem ef_2o1c0 (m : MethodId) (x0 : Addr) (x1 : Int32) (x2 : Int32)  : entryFrame m #[(.ref x0), (.int x1), (.int x2)] 6 = mkF m 0 #[.val (.ref x0), .val (.int x1), .val (.int x2), .unset, .unset, .unset] [] := by first | (simp [entryFrame, mkF, argsToLocals, Value.category]; done) | rfl
def own_q2o1c0 (Z : State) (a1 : Addr) (k1 : ClassId) (u0 u1 u2 u3 u4 u5 u6 u7 u8 u9 u10 u11 u12 : Int32) (h0 : Heap) (n0 : Nat) (v : Option Value) (h : Heap) (L : List Loc) : Prop := ∃ (a : Addr) (k : ClassId), v = some (.ref a) ∧ Fr n0 L ∧ h0.size ≤ a ∧ Keep h0 h [] ∧ Arv Z h a k .int (0 : Int32) [] (.int (0 : Int32))
set_option maxRecDepth 65536 in
set_option maxHeartbeats 40000000 in
theorem rm2o1c0 (l : Launch) (Z : State) (a0 : Array Value) (hw : ∀ d ∈ tables_1, d.before a0 Z = true) (ws : List Jvm.Cond) (a1 : Addr) (k1 : ClassId) (u0 u1 u2 u3 u4 u5 u6 u7 u8 u9 u10 u11 u12 : Int32) (h0 : Heap) (n0 : Nat) (Z0 : n0 ≤ h0.size) (V_a1 : Arv Z h0 a1 k1 .byte (13 : Int32) [(.int u0), (.int u1), (.int u2), (.int u3), (.int u4), (.int u5), (.int u6), (.int u7), (.int u8), (.int u9), (.int u10), (.int u11), (.int u12)] (.int (0 : Int32))) :
    MetFree l (⟨"com/example/palimpsest/palimpsest/chain/CurveScalars", "decode", "([BII)[I"⟩ : MethodName) (head1 (Jvm.Cond.code (⟨"com/example/palimpsest/palimpsest/chain/CurveScalars", "decode", "([BII)[I"⟩ : MethodName) prog_6_method_2_code 6 (some (.array .int)) :: ws) ({ frames := 0, cells := 1, slots := 0, locals := 0 } : Room)) (fun a U => a = #[(.ref a1), (.int (1 : Int32)), (.int (0 : Int32))] ∧ Z.Warmed39 U.vm ∧ U.heap = h0) (fun _ _ _ _ _ => True) (fun _ U o U' => ∃ v L, o = .returned v ∧ (own_q2o1c0 Z a1 k1 u0 u1 u2 u3 u4 u5 u6 u7 u8 u9 u10 u11 u12 h0 n0) v U'.heap L ∧ FrameEnd U o U' L ({ frames := 0, cells := 1, slots := 0, locals := 0 } : Room).cells ({ frames := 0, cells := 1, slots := 0, locals := 0 } : Room).slots) := by
  refine MetFree.of_bodySF (plainFor_of_name pn_1) hisR ?_
  intro p e s m args below meth c s₁ Bd hml0 hP hK
  obtain ⟨rfl, hZ, hh⟩ := hP
  have hx := Bd.exec
  have hby := Bd.bytes
  have hml : c.maxLocals = 6 := hml0
  have hown : s.vm.findClass "com/example/palimpsest/palimpsest/chain/CurveScalars" = some m.cls := findClass_of_methodNamed Bd.named
  have hnm := (name_of_methodNamed Bd.named Bd.method).1
  have X0 : Stand p l e ({ frames := 0, cells := 1, slots := 0, locals := 0 } : Room) s m #[(.ref a1), (.int (1 : Int32)), (.int (0 : Int32))] below meth c s₁ [] 0 0 := Stand.of_body Bd
  have e0 : s₁.heap = h0 := by rw [← hh, Bd.state]; rfl
  have N0 := Fr.nil n0
  have Kz := Keep.refl h0 []
  have hw_9 := hw _ (List.mem_of_getElem? (i := 9) rfl)
  show own_Fin p e below (own_A s ({ frames := 0, cells := 1, slots := 0, locals := 0 } : Room).cells ({ frames := 0, cells := 1, slots := 0, locals := 0 } : Room).slots (own_q2o1c0 Z a1 k1 u0 u1 u2 u3 u4 u5 u6 u7 u8 u9 u10 u11 u12 h0 n0)) _
  refine own_go (fun t k => castTop (ef_2o1c0 m (a1) ((1 : Int32)) ((0 : Int32))) k) ?_
  show own_Fin p e below _ (s₁.setTop (mkF m 0 #[.val (.ref a1), .val (.int (1 : Int32)), .val (.int (0 : Int32)), .unset, .unset, .unset] []))
  refine own_go (fun t k => XS.iloadN X0.here hx rfl (hb hby d2_0) rfl  (XS.iconst X0.here hx rfl (hb hby d2_1) (XS.idiv X0.here hx rfl (hb hby d2_2) rfl (by decide) k))) ?_
  show own_Fin p e below _ (s₁.setTop (mkF m 3 #[.val (.ref a1), .val (.int (1 : Int32)), .val (.int (0 : Int32)), .unset, .unset, .unset] [(.int (0 : Int32))]))
  obtain ⟨T1, h1, k1, X1, e1, E1, A1, st1⟩ := newP (aty := .int) X0 hx hZ hw_9 e0 (g := (mkF m 3 #[.val (.ref a1), .val (.int (1 : Int32)), .val (.int (0 : Int32)), .unset, .unset, .unset] [(.int (0 : Int32))])) rfl (hb hby d2_3) rfl (by decide) (cap := 0) (by decide) (by decide) (by decide) (by decide)
  obtain ⟨b1, g1⟩ : ∃ z, z = h0.size := ⟨_, rfl⟩
  rw [← g1] at A1 st1
  have g_b1 : n0 ≤ b1 := Nat.le_trans Z0 (Nat.le_of_eq g1.symm)
  have sz_b1 : h0.size ≤ b1 := Nat.le_trans Kz.1 (Nat.le_of_eq g1.symm)
  have ne_a1_b1 : a1 ≠ b1 := Nat.ne_of_lt (Nat.lt_of_lt_of_le V_a1.lt (Nat.le_of_eq g1.symm))
  have f2 := V_a1.ext E1
  have Zh3 : n0 ≤ h1.size := Nat.le_trans Z0 E1.1
  have K4 := Kz.ext E1
  have V1 : Arv Z h1 b1 k1 .int (0 : Int32) [] (.int (0 : Int32)) := (Arv.new A1 (by decide)).pad (pad_rep [] (.int (0 : Int32)) 0)
  refine own_go st1 ?_
  show own_Fin p e below _ (T1.setTop (mkF m 5 #[.val (.ref a1), .val (.int (1 : Int32)), .val (.int (0 : Int32)), .unset, .unset, .unset] [(.ref b1)]))
  refine own_go (fun t k => XS.astoreN X1.here hx rfl (hb hby d2_5) rfl rfl (l' := #[.val (.ref a1), .val (.int (1 : Int32)), .val (.int (0 : Int32)), .val (.ref b1), .unset, .unset]) rfl (XS.iconst X1.here hx rfl (hb hby d2_6) (XS.istore X1.here hx rfl (hb hby d2_7) rfl (l' := #[.val (.ref a1), .val (.int (1 : Int32)), .val (.int (0 : Int32)), .val (.ref b1), .val (.int (0 : Int32)), .unset]) rfl (XS.iload X1.here hx rfl (hb hby d2_9) rfl  k)))) ?_
  show own_Fin p e below _ (T1.setTop (mkF m 11 #[.val (.ref a1), .val (.int (1 : Int32)), .val (.int (0 : Int32)), .val (.ref b1), .val (.int (0 : Int32)), .unset] [(.int (0 : Int32))]))
  refine own_go (fun t k => XS.aloadN X1.here hx rfl (hb hby d2_11) rfl rfl  k) ?_
  show own_Fin p e below _ (T1.setTop (mkF m 12 #[.val (.ref a1), .val (.int (1 : Int32)), .val (.int (0 : Int32)), .val (.ref b1), .val (.int (0 : Int32)), .unset] [(.ref b1), (.int (0 : Int32))]))
  obtain ⟨cl5, Ar5, q5, S5, M5, H5, G5⟩ := (id V1)
  refine own_go (fun t k => X1.arraylength hx (by rw [e1]; exact Ar5.1) (State.isArrayOf_alike hZ.alike Ar5.2.1) (g := (mkF m 12 #[.val (.ref a1), .val (.int (1 : Int32)), .val (.int (0 : Int32)), .val (.ref b1), .val (.int (0 : Int32)), .unset] [(.ref b1), (.int (0 : Int32))])) rfl rfl (hb hby d2_12) _ k) ?_
  rw [len_of S5 M5]
  show own_Fin p e below _ (T1.setTop (mkF m 13 #[.val (.ref a1), .val (.int (1 : Int32)), .val (.int (0 : Int32)), .val (.ref b1), .val (.int (0 : Int32)), .unset] [(.int (0 : Int32)), (.int (0 : Int32))]))
  refine own_go (fun t k => XS.icmpYes X1.here hx rfl (pc0 := 13) (pc' := 84) rfl (hb hby d2_13) rfl (flt (by decide : ¬ ((0 : Int32) < (0 : Int32)))).2.1 (by decide) (by decide) (XS.aloadN X1.here hx rfl (hb hby d2_84) rfl rfl  k)) ?_
  show own_Fin p e below _ (T1.setTop (mkF m 85 #[.val (.ref a1), .val (.int (1 : Int32)), .val (.int (0 : Int32)), .val (.ref b1), .val (.int (0 : Int32)), .unset] [(.ref b1)]))
  exact own_out X1 (fun h => by rw [Bd.returns] at h; cases h) Bd.notSynchronized (fun fs hr => retOut X1 hx Bd.returns rfl (Or.inr (Or.inr (Or.inr (Or.inr ⟨rfl, rfl, rfl⟩)))) (hb hby d2_85) hr) (by rw [e1]; exact ⟨_, _, rfl, N0, sz_b1, K4, V1⟩) (by decide) (by decide)
theorem ef_2o1c1 (m : MethodId) (x0 : Addr) (x1 : Int32) (x2 : Int32)  : entryFrame m #[(.ref x0), (.int x1), (.int x2)] 6 = mkF m 0 #[.val (.ref x0), .val (.int x1), .val (.int x2), .unset, .unset, .unset] [] := by first | (simp [entryFrame, mkF, argsToLocals, Value.category]; done) | rfl
def own_q2o1c1 (Z : State) (a1 : Addr) (k1 : ClassId) (u0 u1 u2 u3 u4 u5 u6 u7 u8 u9 u10 u11 u12 : Int32) (h0 : Heap) (n0 : Nat) (v : Option Value) (h : Heap) (L : List Loc) : Prop := ∃ (a : Addr) (k : ClassId), v = some (.ref a) ∧ Fr n0 L ∧ h0.size ≤ a ∧ Keep h0 h [] ∧ Arv Z h a k .int (1 : Int32) [(.int (own_w u1 u2 u3 u4))] (.int (0 : Int32))
set_option maxRecDepth 65536 in
set_option maxHeartbeats 40000000 in
theorem rm2o1c1 (l : Launch) (Z : State) (a0 : Array Value) (hw : ∀ d ∈ tables_1, d.before a0 Z = true) (ws : List Jvm.Cond) (a1 : Addr) (k1 : ClassId) (u0 u1 u2 u3 u4 u5 u6 u7 u8 u9 u10 u11 u12 : Int32) (h0 : Heap) (n0 : Nat) (Z0 : n0 ≤ h0.size) (V_a1 : Arv Z h0 a1 k1 .byte (13 : Int32) [(.int u0), (.int u1), (.int u2), (.int u3), (.int u4), (.int u5), (.int u6), (.int u7), (.int u8), (.int u9), (.int u10), (.int u11), (.int u12)] (.int (0 : Int32))) :
    MetFree l (⟨"com/example/palimpsest/palimpsest/chain/CurveScalars", "decode", "([BII)[I"⟩ : MethodName) (head1 (Jvm.Cond.code (⟨"com/example/palimpsest/palimpsest/chain/CurveScalars", "decode", "([BII)[I"⟩ : MethodName) prog_6_method_2_code 6 (some (.array .int)) :: ws) ({ frames := 0, cells := 1, slots := 1, locals := 0 } : Room)) (fun a U => a = #[(.ref a1), (.int (1 : Int32)), (.int (4 : Int32))] ∧ Z.Warmed39 U.vm ∧ U.heap = h0) (fun _ _ _ _ _ => True) (fun _ U o U' => ∃ v L, o = .returned v ∧ (own_q2o1c1 Z a1 k1 u0 u1 u2 u3 u4 u5 u6 u7 u8 u9 u10 u11 u12 h0 n0) v U'.heap L ∧ FrameEnd U o U' L ({ frames := 0, cells := 1, slots := 1, locals := 0 } : Room).cells ({ frames := 0, cells := 1, slots := 1, locals := 0 } : Room).slots) := by
  refine MetFree.of_bodySF (plainFor_of_name pn_1) hisR ?_
  intro p e s m args below meth c s₁ Bd hml0 hP hK
  obtain ⟨rfl, hZ, hh⟩ := hP
  have hx := Bd.exec
  have hby := Bd.bytes
  have hml : c.maxLocals = 6 := hml0
  have hown : s.vm.findClass "com/example/palimpsest/palimpsest/chain/CurveScalars" = some m.cls := findClass_of_methodNamed Bd.named
  have hnm := (name_of_methodNamed Bd.named Bd.method).1
  have X0 : Stand p l e ({ frames := 0, cells := 1, slots := 1, locals := 0 } : Room) s m #[(.ref a1), (.int (1 : Int32)), (.int (4 : Int32))] below meth c s₁ [] 0 0 := Stand.of_body Bd
  have e0 : s₁.heap = h0 := by rw [← hh, Bd.state]; rfl
  have N0 := Fr.nil n0
  have Kz := Keep.refl h0 []
  have hw_9 := hw _ (List.mem_of_getElem? (i := 9) rfl)
  show own_Fin p e below (own_A s ({ frames := 0, cells := 1, slots := 1, locals := 0 } : Room).cells ({ frames := 0, cells := 1, slots := 1, locals := 0 } : Room).slots (own_q2o1c1 Z a1 k1 u0 u1 u2 u3 u4 u5 u6 u7 u8 u9 u10 u11 u12 h0 n0)) _
  refine own_go (fun t k => castTop (ef_2o1c1 m (a1) ((1 : Int32)) ((4 : Int32))) k) ?_
  show own_Fin p e below _ (s₁.setTop (mkF m 0 #[.val (.ref a1), .val (.int (1 : Int32)), .val (.int (4 : Int32)), .unset, .unset, .unset] []))
  refine own_go (fun t k => XS.iloadN X0.here hx rfl (hb hby d2_0) rfl  (XS.iconst X0.here hx rfl (hb hby d2_1) (XS.idiv X0.here hx rfl (hb hby d2_2) rfl (by decide) k))) ?_
  show own_Fin p e below _ (s₁.setTop (mkF m 3 #[.val (.ref a1), .val (.int (1 : Int32)), .val (.int (4 : Int32)), .unset, .unset, .unset] [(.int (1 : Int32))]))
  obtain ⟨T1, h1, k1, X1, e1, E1, A1, st1⟩ := newP (aty := .int) X0 hx hZ hw_9 e0 (g := (mkF m 3 #[.val (.ref a1), .val (.int (1 : Int32)), .val (.int (4 : Int32)), .unset, .unset, .unset] [(.int (1 : Int32))])) rfl (hb hby d2_3) rfl (by decide) (cap := 1) (by decide) (by decide) (by decide) (by decide)
  obtain ⟨b1, g1⟩ : ∃ z, z = h0.size := ⟨_, rfl⟩
  rw [← g1] at A1 st1
  have g_b1 : n0 ≤ b1 := Nat.le_trans Z0 (Nat.le_of_eq g1.symm)
  have sz_b1 : h0.size ≤ b1 := Nat.le_trans Kz.1 (Nat.le_of_eq g1.symm)
  have ne_a1_b1 : a1 ≠ b1 := Nat.ne_of_lt (Nat.lt_of_lt_of_le V_a1.lt (Nat.le_of_eq g1.symm))
  have f2 := V_a1.ext E1
  have Zh3 : n0 ≤ h1.size := Nat.le_trans Z0 E1.1
  have K4 := Kz.ext E1
  have V1 : Arv Z h1 b1 k1 .int (1 : Int32) [(.int (0 : Int32))] (.int (0 : Int32)) := (Arv.new A1 (by decide)).pad (pad_rep [] (.int (0 : Int32)) 1)
  refine own_go st1 ?_
  show own_Fin p e below _ (T1.setTop (mkF m 5 #[.val (.ref a1), .val (.int (1 : Int32)), .val (.int (4 : Int32)), .unset, .unset, .unset] [(.ref b1)]))
  refine own_go (fun t k => XS.astoreN X1.here hx rfl (hb hby d2_5) rfl rfl (l' := #[.val (.ref a1), .val (.int (1 : Int32)), .val (.int (4 : Int32)), .val (.ref b1), .unset, .unset]) rfl (XS.iconst X1.here hx rfl (hb hby d2_6) (XS.istore X1.here hx rfl (hb hby d2_7) rfl (l' := #[.val (.ref a1), .val (.int (1 : Int32)), .val (.int (4 : Int32)), .val (.ref b1), .val (.int (0 : Int32)), .unset]) rfl (XS.iload X1.here hx rfl (hb hby d2_9) rfl  k)))) ?_
  show own_Fin p e below _ (T1.setTop (mkF m 11 #[.val (.ref a1), .val (.int (1 : Int32)), .val (.int (4 : Int32)), .val (.ref b1), .val (.int (0 : Int32)), .unset] [(.int (0 : Int32))]))
  refine own_go (fun t k => XS.aloadN X1.here hx rfl (hb hby d2_11) rfl rfl  k) ?_
  show own_Fin p e below _ (T1.setTop (mkF m 12 #[.val (.ref a1), .val (.int (1 : Int32)), .val (.int (4 : Int32)), .val (.ref b1), .val (.int (0 : Int32)), .unset] [(.ref b1), (.int (0 : Int32))]))
  obtain ⟨cl5, Ar5, q5, S5, M5, H5, G5⟩ := (id V1)
  refine own_go (fun t k => X1.arraylength hx (by rw [e1]; exact Ar5.1) (State.isArrayOf_alike hZ.alike Ar5.2.1) (g := (mkF m 12 #[.val (.ref a1), .val (.int (1 : Int32)), .val (.int (4 : Int32)), .val (.ref b1), .val (.int (0 : Int32)), .unset] [(.ref b1), (.int (0 : Int32))])) rfl rfl (hb hby d2_12) _ k) ?_
  rw [len_of S5 M5]
  show own_Fin p e below _ (T1.setTop (mkF m 13 #[.val (.ref a1), .val (.int (1 : Int32)), .val (.int (4 : Int32)), .val (.ref b1), .val (.int (0 : Int32)), .unset] [(.int (1 : Int32)), (.int (0 : Int32))]))
  refine own_go (fun t k => XS.icmpNo X1.here hx rfl (hb hby d2_13) rfl (tlt (by decide : (0 : Int32) < (1 : Int32))).2.1 (XS.iloadN X1.here hx rfl (hb hby d2_16) rfl  (XS.iconst X1.here hx rfl (hb hby d2_17) (XS.iload X1.here hx rfl (hb hby d2_18) rfl  k)))) ?_
  show own_Fin p e below _ (T1.setTop (mkF m 20 #[.val (.ref a1), .val (.int (1 : Int32)), .val (.int (4 : Int32)), .val (.ref b1), .val (.int (0 : Int32)), .unset] [(.int (0 : Int32)), (.int (4 : Int32)), (.int (1 : Int32))]))
  refine own_go (fun t k => XS.imul X1.here hx rfl (hb hby d2_20) rfl (XS.iadd X1.here hx rfl (hb hby d2_21) rfl (XS.istore X1.here hx rfl (hb hby d2_22) rfl (l' := #[.val (.ref a1), .val (.int (1 : Int32)), .val (.int (4 : Int32)), .val (.ref b1), .val (.int (0 : Int32)), .val (.int (1 : Int32))]) rfl (XS.aloadN X1.here hx rfl (hb hby d2_24) rfl rfl  k)))) ?_
  show own_Fin p e below _ (T1.setTop (mkF m 25 #[.val (.ref a1), .val (.int (1 : Int32)), .val (.int (4 : Int32)), .val (.ref b1), .val (.int (0 : Int32)), .val (.int (1 : Int32))] [(.ref b1)]))
  refine own_go (fun t k => XS.iload X1.here hx rfl (hb hby d2_25) rfl  (XS.aloadN X1.here hx rfl (hb hby d2_27) rfl rfl  (XS.iload X1.here hx rfl (hb hby d2_28) rfl  k))) ?_
  show own_Fin p e below _ (T1.setTop (mkF m 30 #[.val (.ref a1), .val (.int (1 : Int32)), .val (.int (4 : Int32)), .val (.ref b1), .val (.int (0 : Int32)), .val (.int (1 : Int32))] [(.int (1 : Int32)), (.ref a1), (.int (0 : Int32)), (.ref b1)]))
  obtain ⟨cl6, Ar6, q6, S6, M6, H6, G6⟩ := (id f2)
  have hin6 : ¬ ((1 : Int32) < 0 ∨ cl6.slots.size ≤ ((1 : Int32)).toNatClampNeg) := inb_of S6 ⟨by decide, by decide⟩
  have hat6 : cl6.slots[((1 : Int32)).toNatClampNeg]? = some (.int u1) := H6.at hin6 rfl
  refine own_go (fun t k => X1.baloadBytes hx (j := (1 : Int32)) (v := (.int u1)) (by rw [e1]; exact Ar6.1) (State.isArrayOf_alike hZ.alike Ar6.2.1) Ar6.2.2 hin6 hat6 (g := (mkF m 30 #[.val (.ref a1), .val (.int (1 : Int32)), .val (.int (4 : Int32)), .val (.ref b1), .val (.int (0 : Int32)), .val (.int (1 : Int32))] [(.int (1 : Int32)), (.ref a1), (.int (0 : Int32)), (.ref b1)])) rfl rfl (hb hby d2_30) _ (XS.sipush X1.here hx rfl (hb hby d2_31) (XS.iand X1.here hx rfl (hb hby d2_34) rfl (XS.aloadN X1.here hx rfl (hb hby d2_35) rfl rfl  k)))) ?_
  show own_Fin p e below _ (T1.setTop (mkF m 36 #[.val (.ref a1), .val (.int (1 : Int32)), .val (.int (4 : Int32)), .val (.ref b1), .val (.int (0 : Int32)), .val (.int (1 : Int32))] [(.ref a1), (.int (u1 &&& (255 : Int32))), (.int (0 : Int32)), (.ref b1)]))
  refine own_go (fun t k => XS.iload X1.here hx rfl (hb hby d2_36) rfl  (XS.iconst X1.here hx rfl (hb hby d2_38) (XS.iadd X1.here hx rfl (hb hby d2_39) rfl k))) ?_
  show own_Fin p e below _ (T1.setTop (mkF m 40 #[.val (.ref a1), .val (.int (1 : Int32)), .val (.int (4 : Int32)), .val (.ref b1), .val (.int (0 : Int32)), .val (.int (1 : Int32))] [(.int (2 : Int32)), (.ref a1), (.int (u1 &&& (255 : Int32))), (.int (0 : Int32)), (.ref b1)]))
  obtain ⟨cl7, Ar7, q7, S7, M7, H7, G7⟩ := (id f2)
  have hin7 : ¬ ((2 : Int32) < 0 ∨ cl7.slots.size ≤ ((2 : Int32)).toNatClampNeg) := inb_of S7 ⟨by decide, by decide⟩
  have hat7 : cl7.slots[((2 : Int32)).toNatClampNeg]? = some (.int u2) := H7.at hin7 rfl
  refine own_go (fun t k => X1.baloadBytes hx (j := (2 : Int32)) (v := (.int u2)) (by rw [e1]; exact Ar7.1) (State.isArrayOf_alike hZ.alike Ar7.2.1) Ar7.2.2 hin7 hat7 (g := (mkF m 40 #[.val (.ref a1), .val (.int (1 : Int32)), .val (.int (4 : Int32)), .val (.ref b1), .val (.int (0 : Int32)), .val (.int (1 : Int32))] [(.int (2 : Int32)), (.ref a1), (.int (u1 &&& (255 : Int32))), (.int (0 : Int32)), (.ref b1)])) rfl rfl (hb hby d2_40) _ (XS.sipush X1.here hx rfl (hb hby d2_41) (XS.iand X1.here hx rfl (hb hby d2_44) rfl (XS.bipush X1.here hx rfl (hb hby d2_45) k)))) ?_
  show own_Fin p e below _ (T1.setTop (mkF m 47 #[.val (.ref a1), .val (.int (1 : Int32)), .val (.int (4 : Int32)), .val (.ref b1), .val (.int (0 : Int32)), .val (.int (1 : Int32))] [(.int (8 : Int32)), (.int (u2 &&& (255 : Int32))), (.int (u1 &&& (255 : Int32))), (.int (0 : Int32)), (.ref b1)]))
  refine own_go (fun t k => XS.ishl X1.here hx rfl (hb hby d2_47) rfl (XS.ior X1.here hx rfl (hb hby d2_48) rfl (XS.aloadN X1.here hx rfl (hb hby d2_49) rfl rfl  (XS.iload X1.here hx rfl (hb hby d2_50) rfl  k)))) ?_
  show own_Fin p e below _ (T1.setTop (mkF m 52 #[.val (.ref a1), .val (.int (1 : Int32)), .val (.int (4 : Int32)), .val (.ref b1), .val (.int (0 : Int32)), .val (.int (1 : Int32))] [(.int (1 : Int32)), (.ref a1), (.int ((u1 &&& (255 : Int32)) ||| ((u2 &&& (255 : Int32)) <<< ((8 : Int32) &&& 31)))), (.int (0 : Int32)), (.ref b1)]))
  refine own_go (fun t k => XS.iconst X1.here hx rfl (hb hby d2_52) (XS.iadd X1.here hx rfl (hb hby d2_53) rfl k)) ?_
  show own_Fin p e below _ (T1.setTop (mkF m 54 #[.val (.ref a1), .val (.int (1 : Int32)), .val (.int (4 : Int32)), .val (.ref b1), .val (.int (0 : Int32)), .val (.int (1 : Int32))] [(.int (3 : Int32)), (.ref a1), (.int ((u1 &&& (255 : Int32)) ||| ((u2 &&& (255 : Int32)) <<< ((8 : Int32) &&& 31)))), (.int (0 : Int32)), (.ref b1)]))
  obtain ⟨cl8, Ar8, q8, S8, M8, H8, G8⟩ := (id f2)
  have hin8 : ¬ ((3 : Int32) < 0 ∨ cl8.slots.size ≤ ((3 : Int32)).toNatClampNeg) := inb_of S8 ⟨by decide, by decide⟩
  have hat8 : cl8.slots[((3 : Int32)).toNatClampNeg]? = some (.int u3) := H8.at hin8 rfl
  refine own_go (fun t k => X1.baloadBytes hx (j := (3 : Int32)) (v := (.int u3)) (by rw [e1]; exact Ar8.1) (State.isArrayOf_alike hZ.alike Ar8.2.1) Ar8.2.2 hin8 hat8 (g := (mkF m 54 #[.val (.ref a1), .val (.int (1 : Int32)), .val (.int (4 : Int32)), .val (.ref b1), .val (.int (0 : Int32)), .val (.int (1 : Int32))] [(.int (3 : Int32)), (.ref a1), (.int ((u1 &&& (255 : Int32)) ||| ((u2 &&& (255 : Int32)) <<< ((8 : Int32) &&& 31)))), (.int (0 : Int32)), (.ref b1)])) rfl rfl (hb hby d2_54) _ (XS.sipush X1.here hx rfl (hb hby d2_55) (XS.iand X1.here hx rfl (hb hby d2_58) rfl (XS.bipush X1.here hx rfl (hb hby d2_59) k)))) ?_
  show own_Fin p e below _ (T1.setTop (mkF m 61 #[.val (.ref a1), .val (.int (1 : Int32)), .val (.int (4 : Int32)), .val (.ref b1), .val (.int (0 : Int32)), .val (.int (1 : Int32))] [(.int (16 : Int32)), (.int (u3 &&& (255 : Int32))), (.int ((u1 &&& (255 : Int32)) ||| ((u2 &&& (255 : Int32)) <<< ((8 : Int32) &&& 31)))), (.int (0 : Int32)), (.ref b1)]))
  refine own_go (fun t k => XS.ishl X1.here hx rfl (hb hby d2_61) rfl (XS.ior X1.here hx rfl (hb hby d2_62) rfl (XS.aloadN X1.here hx rfl (hb hby d2_63) rfl rfl  (XS.iload X1.here hx rfl (hb hby d2_64) rfl  k)))) ?_
  show own_Fin p e below _ (T1.setTop (mkF m 66 #[.val (.ref a1), .val (.int (1 : Int32)), .val (.int (4 : Int32)), .val (.ref b1), .val (.int (0 : Int32)), .val (.int (1 : Int32))] [(.int (1 : Int32)), (.ref a1), (.int (((u1 &&& (255 : Int32)) ||| ((u2 &&& (255 : Int32)) <<< ((8 : Int32) &&& 31))) ||| ((u3 &&& (255 : Int32)) <<< ((16 : Int32) &&& 31)))), (.int (0 : Int32)), (.ref b1)]))
  refine own_go (fun t k => XS.iconst X1.here hx rfl (hb hby d2_66) (XS.iadd X1.here hx rfl (hb hby d2_67) rfl k)) ?_
  show own_Fin p e below _ (T1.setTop (mkF m 68 #[.val (.ref a1), .val (.int (1 : Int32)), .val (.int (4 : Int32)), .val (.ref b1), .val (.int (0 : Int32)), .val (.int (1 : Int32))] [(.int (4 : Int32)), (.ref a1), (.int (((u1 &&& (255 : Int32)) ||| ((u2 &&& (255 : Int32)) <<< ((8 : Int32) &&& 31))) ||| ((u3 &&& (255 : Int32)) <<< ((16 : Int32) &&& 31)))), (.int (0 : Int32)), (.ref b1)]))
  obtain ⟨cl9, Ar9, q9, S9, M9, H9, G9⟩ := (id f2)
  have hin9 : ¬ ((4 : Int32) < 0 ∨ cl9.slots.size ≤ ((4 : Int32)).toNatClampNeg) := inb_of S9 ⟨by decide, by decide⟩
  have hat9 : cl9.slots[((4 : Int32)).toNatClampNeg]? = some (.int u4) := H9.at hin9 rfl
  refine own_go (fun t k => X1.baloadBytes hx (j := (4 : Int32)) (v := (.int u4)) (by rw [e1]; exact Ar9.1) (State.isArrayOf_alike hZ.alike Ar9.2.1) Ar9.2.2 hin9 hat9 (g := (mkF m 68 #[.val (.ref a1), .val (.int (1 : Int32)), .val (.int (4 : Int32)), .val (.ref b1), .val (.int (0 : Int32)), .val (.int (1 : Int32))] [(.int (4 : Int32)), (.ref a1), (.int (((u1 &&& (255 : Int32)) ||| ((u2 &&& (255 : Int32)) <<< ((8 : Int32) &&& 31))) ||| ((u3 &&& (255 : Int32)) <<< ((16 : Int32) &&& 31)))), (.int (0 : Int32)), (.ref b1)])) rfl rfl (hb hby d2_68) _ (XS.sipush X1.here hx rfl (hb hby d2_69) (XS.iand X1.here hx rfl (hb hby d2_72) rfl (XS.bipush X1.here hx rfl (hb hby d2_73) k)))) ?_
  show own_Fin p e below _ (T1.setTop (mkF m 75 #[.val (.ref a1), .val (.int (1 : Int32)), .val (.int (4 : Int32)), .val (.ref b1), .val (.int (0 : Int32)), .val (.int (1 : Int32))] [(.int (24 : Int32)), (.int (u4 &&& (255 : Int32))), (.int (((u1 &&& (255 : Int32)) ||| ((u2 &&& (255 : Int32)) <<< ((8 : Int32) &&& 31))) ||| ((u3 &&& (255 : Int32)) <<< ((16 : Int32) &&& 31)))), (.int (0 : Int32)), (.ref b1)]))
  refine own_go (fun t k => XS.ishl X1.here hx rfl (hb hby d2_75) rfl (XS.ior X1.here hx rfl (hb hby d2_76) rfl k)) ?_
  show own_Fin p e below _ (T1.setTop (mkF m 77 #[.val (.ref a1), .val (.int (1 : Int32)), .val (.int (4 : Int32)), .val (.ref b1), .val (.int (0 : Int32)), .val (.int (1 : Int32))] [(.int ((((u1 &&& (255 : Int32)) ||| ((u2 &&& (255 : Int32)) <<< ((8 : Int32) &&& 31))) ||| ((u3 &&& (255 : Int32)) <<< ((16 : Int32) &&& 31))) ||| ((u4 &&& (255 : Int32)) <<< ((24 : Int32) &&& 31)))), (.int (0 : Int32)), (.ref b1)]))
  obtain ⟨cl10, Ar10, q10, S10, M10, H10, G10⟩ := (id V1)
  have hin10 : ¬ ((0 : Int32) < 0 ∨ cl10.slots.size ≤ ((0 : Int32)).toNatClampNeg) := inb_of S10 ⟨by decide, by decide⟩
  obtain ⟨T10, h10, X10, e10, W10, st10⟩ := stI X1 hx hZ e1 Ar10 (j := (0 : Int32)) hin10 (g := (mkF m 77 #[.val (.ref a1), .val (.int (1 : Int32)), .val (.int (4 : Int32)), .val (.ref b1), .val (.int (0 : Int32)), .val (.int (1 : Int32))] [(.int ((((u1 &&& (255 : Int32)) ||| ((u2 &&& (255 : Int32)) <<< ((8 : Int32) &&& 31))) ||| ((u3 &&& (255 : Int32)) <<< ((16 : Int32) &&& 31))) ||| ((u4 &&& (255 : Int32)) <<< ((24 : Int32) &&& 31)))), (.int (0 : Int32)), (.ref b1)])) rfl rfl (hb hby d2_77)
  have f11 := f2.other W10 ne_a1_b1
  have V10 := Arv.set Ar10 q10 S10 M10 H10 G10 rfl W10 0 rfl (Nat.le_of_ble_eq_true rfl)
  have f13 : Arv Z h10 b1 k1 .int (1 : Int32) [(.int ((((u1 &&& (255 : Int32)) ||| ((u2 &&& (255 : Int32)) <<< ((8 : Int32) &&& 31))) ||| ((u3 &&& (255 : Int32)) <<< ((16 : Int32) &&& 31))) ||| ((u4 &&& (255 : Int32)) <<< ((24 : Int32) &&& 31))))] (.int (0 : Int32)) := V10
  have Zh14 : n0 ≤ h10.size := Nat.le_trans Zh3 (Nat.le_of_eq W10.size.symm)
  have N10 := Fr.snoc X10 N0 g_b1
  have K15 := K4.wr W10 (Or.inr sz_b1)
  refine own_go st10 ?_
  show own_Fin p e below _ (T10.setTop (mkF m 78 #[.val (.ref a1), .val (.int (1 : Int32)), .val (.int (4 : Int32)), .val (.ref b1), .val (.int (0 : Int32)), .val (.int (1 : Int32))] []))
  refine own_go (fun t k => XS.iinc X10.here hx rfl (hb hby d2_78) rfl (l' := #[.val (.ref a1), .val (.int (1 : Int32)), .val (.int (4 : Int32)), .val (.ref b1), .val (.int (1 : Int32)), .val (.int (1 : Int32))]) rfl (XS.goto X10.here hx rfl (pc0 := 81) (pc' := 9) rfl (hb hby d2_81) (by decide) (by decide) (XS.iload X10.here hx rfl (hb hby d2_9) rfl  (XS.aloadN X10.here hx rfl (hb hby d2_11) rfl rfl  k)))) ?_
  show own_Fin p e below _ (T10.setTop (mkF m 12 #[.val (.ref a1), .val (.int (1 : Int32)), .val (.int (4 : Int32)), .val (.ref b1), .val (.int (1 : Int32)), .val (.int (1 : Int32))] [(.ref b1), (.int (1 : Int32))]))
  obtain ⟨cl16, Ar16, q16, S16, M16, H16, G16⟩ := (id f13)
  refine own_go (fun t k => X10.arraylength hx (by rw [e10]; exact Ar16.1) (State.isArrayOf_alike hZ.alike Ar16.2.1) (g := (mkF m 12 #[.val (.ref a1), .val (.int (1 : Int32)), .val (.int (4 : Int32)), .val (.ref b1), .val (.int (1 : Int32)), .val (.int (1 : Int32))] [(.ref b1), (.int (1 : Int32))])) rfl rfl (hb hby d2_12) _ k) ?_
  rw [len_of S16 M16]
  show own_Fin p e below _ (T10.setTop (mkF m 13 #[.val (.ref a1), .val (.int (1 : Int32)), .val (.int (4 : Int32)), .val (.ref b1), .val (.int (1 : Int32)), .val (.int (1 : Int32))] [(.int (1 : Int32)), (.int (1 : Int32))]))
  refine own_go (fun t k => XS.icmpYes X10.here hx rfl (pc0 := 13) (pc' := 84) rfl (hb hby d2_13) rfl (flt (by decide : ¬ ((1 : Int32) < (1 : Int32)))).2.1 (by decide) (by decide) (XS.aloadN X10.here hx rfl (hb hby d2_84) rfl rfl  k)) ?_
  show own_Fin p e below _ (T10.setTop (mkF m 85 #[.val (.ref a1), .val (.int (1 : Int32)), .val (.int (4 : Int32)), .val (.ref b1), .val (.int (1 : Int32)), .val (.int (1 : Int32))] [(.ref b1)]))
  exact own_out X10 (fun h => by rw [Bd.returns] at h; cases h) Bd.notSynchronized (fun fs hr => retOut X10 hx Bd.returns rfl (Or.inr (Or.inr (Or.inr (Or.inr ⟨rfl, rfl, rfl⟩)))) (hb hby d2_85) hr) (by rw [e10]; exact ⟨_, _, rfl, N10, sz_b1, K15, f13⟩) (by decide) (by decide)
theorem ef_2o1c2 (m : MethodId) (x0 : Addr) (x1 : Int32) (x2 : Int32)  : entryFrame m #[(.ref x0), (.int x1), (.int x2)] 6 = mkF m 0 #[.val (.ref x0), .val (.int x1), .val (.int x2), .unset, .unset, .unset] [] := by first | (simp [entryFrame, mkF, argsToLocals, Value.category]; done) | rfl
def own_q2o1c2 (Z : State) (a1 : Addr) (k1 : ClassId) (u0 u1 u2 u3 u4 u5 u6 u7 u8 u9 u10 u11 u12 : Int32) (h0 : Heap) (n0 : Nat) (v : Option Value) (h : Heap) (L : List Loc) : Prop := ∃ (a : Addr) (k : ClassId), v = some (.ref a) ∧ Fr n0 L ∧ h0.size ≤ a ∧ Keep h0 h [] ∧ Arv Z h a k .int (2 : Int32) [(.int (own_w u1 u2 u3 u4)), (.int (own_w u5 u6 u7 u8))] (.int (0 : Int32))
set_option maxRecDepth 65536 in
set_option maxHeartbeats 40000000 in
theorem rm2o1c2 (l : Launch) (Z : State) (a0 : Array Value) (hw : ∀ d ∈ tables_1, d.before a0 Z = true) (ws : List Jvm.Cond) (a1 : Addr) (k1 : ClassId) (u0 u1 u2 u3 u4 u5 u6 u7 u8 u9 u10 u11 u12 : Int32) (h0 : Heap) (n0 : Nat) (Z0 : n0 ≤ h0.size) (V_a1 : Arv Z h0 a1 k1 .byte (13 : Int32) [(.int u0), (.int u1), (.int u2), (.int u3), (.int u4), (.int u5), (.int u6), (.int u7), (.int u8), (.int u9), (.int u10), (.int u11), (.int u12)] (.int (0 : Int32))) :
    MetFree l (⟨"com/example/palimpsest/palimpsest/chain/CurveScalars", "decode", "([BII)[I"⟩ : MethodName) (head1 (Jvm.Cond.code (⟨"com/example/palimpsest/palimpsest/chain/CurveScalars", "decode", "([BII)[I"⟩ : MethodName) prog_6_method_2_code 6 (some (.array .int)) :: ws) ({ frames := 0, cells := 1, slots := 2, locals := 0 } : Room)) (fun a U => a = #[(.ref a1), (.int (1 : Int32)), (.int (8 : Int32))] ∧ Z.Warmed39 U.vm ∧ U.heap = h0) (fun _ _ _ _ _ => True) (fun _ U o U' => ∃ v L, o = .returned v ∧ (own_q2o1c2 Z a1 k1 u0 u1 u2 u3 u4 u5 u6 u7 u8 u9 u10 u11 u12 h0 n0) v U'.heap L ∧ FrameEnd U o U' L ({ frames := 0, cells := 1, slots := 2, locals := 0 } : Room).cells ({ frames := 0, cells := 1, slots := 2, locals := 0 } : Room).slots) := by
  refine MetFree.of_bodySF (plainFor_of_name pn_1) hisR ?_
  intro p e s m args below meth c s₁ Bd hml0 hP hK
  obtain ⟨rfl, hZ, hh⟩ := hP
  have hx := Bd.exec
  have hby := Bd.bytes
  have hml : c.maxLocals = 6 := hml0
  have hown : s.vm.findClass "com/example/palimpsest/palimpsest/chain/CurveScalars" = some m.cls := findClass_of_methodNamed Bd.named
  have hnm := (name_of_methodNamed Bd.named Bd.method).1
  have X0 : Stand p l e ({ frames := 0, cells := 1, slots := 2, locals := 0 } : Room) s m #[(.ref a1), (.int (1 : Int32)), (.int (8 : Int32))] below meth c s₁ [] 0 0 := Stand.of_body Bd
  have e0 : s₁.heap = h0 := by rw [← hh, Bd.state]; rfl
  have N0 := Fr.nil n0
  have Kz := Keep.refl h0 []
  have hw_9 := hw _ (List.mem_of_getElem? (i := 9) rfl)
  show own_Fin p e below (own_A s ({ frames := 0, cells := 1, slots := 2, locals := 0 } : Room).cells ({ frames := 0, cells := 1, slots := 2, locals := 0 } : Room).slots (own_q2o1c2 Z a1 k1 u0 u1 u2 u3 u4 u5 u6 u7 u8 u9 u10 u11 u12 h0 n0)) _
  refine own_go (fun t k => castTop (ef_2o1c2 m (a1) ((1 : Int32)) ((8 : Int32))) k) ?_
  show own_Fin p e below _ (s₁.setTop (mkF m 0 #[.val (.ref a1), .val (.int (1 : Int32)), .val (.int (8 : Int32)), .unset, .unset, .unset] []))
  refine own_go (fun t k => XS.iloadN X0.here hx rfl (hb hby d2_0) rfl  (XS.iconst X0.here hx rfl (hb hby d2_1) (XS.idiv X0.here hx rfl (hb hby d2_2) rfl (by decide) k))) ?_
  show own_Fin p e below _ (s₁.setTop (mkF m 3 #[.val (.ref a1), .val (.int (1 : Int32)), .val (.int (8 : Int32)), .unset, .unset, .unset] [(.int (2 : Int32))]))
  obtain ⟨T1, h1, k1, X1, e1, E1, A1, st1⟩ := newP (aty := .int) X0 hx hZ hw_9 e0 (g := (mkF m 3 #[.val (.ref a1), .val (.int (1 : Int32)), .val (.int (8 : Int32)), .unset, .unset, .unset] [(.int (2 : Int32))])) rfl (hb hby d2_3) rfl (by decide) (cap := 2) (by decide) (by decide) (by decide) (by decide)
  obtain ⟨b1, g1⟩ : ∃ z, z = h0.size := ⟨_, rfl⟩
  rw [← g1] at A1 st1
  have g_b1 : n0 ≤ b1 := Nat.le_trans Z0 (Nat.le_of_eq g1.symm)
  have sz_b1 : h0.size ≤ b1 := Nat.le_trans Kz.1 (Nat.le_of_eq g1.symm)
  have ne_a1_b1 : a1 ≠ b1 := Nat.ne_of_lt (Nat.lt_of_lt_of_le V_a1.lt (Nat.le_of_eq g1.symm))
  have f2 := V_a1.ext E1
  have Zh3 : n0 ≤ h1.size := Nat.le_trans Z0 E1.1
  have K4 := Kz.ext E1
  have V1 : Arv Z h1 b1 k1 .int (2 : Int32) [(.int (0 : Int32)), (.int (0 : Int32))] (.int (0 : Int32)) := (Arv.new A1 (by decide)).pad (pad_rep [] (.int (0 : Int32)) 2)
  refine own_go st1 ?_
  show own_Fin p e below _ (T1.setTop (mkF m 5 #[.val (.ref a1), .val (.int (1 : Int32)), .val (.int (8 : Int32)), .unset, .unset, .unset] [(.ref b1)]))
  refine own_go (fun t k => XS.astoreN X1.here hx rfl (hb hby d2_5) rfl rfl (l' := #[.val (.ref a1), .val (.int (1 : Int32)), .val (.int (8 : Int32)), .val (.ref b1), .unset, .unset]) rfl (XS.iconst X1.here hx rfl (hb hby d2_6) (XS.istore X1.here hx rfl (hb hby d2_7) rfl (l' := #[.val (.ref a1), .val (.int (1 : Int32)), .val (.int (8 : Int32)), .val (.ref b1), .val (.int (0 : Int32)), .unset]) rfl (XS.iload X1.here hx rfl (hb hby d2_9) rfl  k)))) ?_
  show own_Fin p e below _ (T1.setTop (mkF m 11 #[.val (.ref a1), .val (.int (1 : Int32)), .val (.int (8 : Int32)), .val (.ref b1), .val (.int (0 : Int32)), .unset] [(.int (0 : Int32))]))
  refine own_go (fun t k => XS.aloadN X1.here hx rfl (hb hby d2_11) rfl rfl  k) ?_
  show own_Fin p e below _ (T1.setTop (mkF m 12 #[.val (.ref a1), .val (.int (1 : Int32)), .val (.int (8 : Int32)), .val (.ref b1), .val (.int (0 : Int32)), .unset] [(.ref b1), (.int (0 : Int32))]))
  obtain ⟨cl5, Ar5, q5, S5, M5, H5, G5⟩ := (id V1)
  refine own_go (fun t k => X1.arraylength hx (by rw [e1]; exact Ar5.1) (State.isArrayOf_alike hZ.alike Ar5.2.1) (g := (mkF m 12 #[.val (.ref a1), .val (.int (1 : Int32)), .val (.int (8 : Int32)), .val (.ref b1), .val (.int (0 : Int32)), .unset] [(.ref b1), (.int (0 : Int32))])) rfl rfl (hb hby d2_12) _ k) ?_
  rw [len_of S5 M5]
  show own_Fin p e below _ (T1.setTop (mkF m 13 #[.val (.ref a1), .val (.int (1 : Int32)), .val (.int (8 : Int32)), .val (.ref b1), .val (.int (0 : Int32)), .unset] [(.int (2 : Int32)), (.int (0 : Int32))]))
  refine own_go (fun t k => XS.icmpNo X1.here hx rfl (hb hby d2_13) rfl (tlt (by decide : (0 : Int32) < (2 : Int32))).2.1 (XS.iloadN X1.here hx rfl (hb hby d2_16) rfl  (XS.iconst X1.here hx rfl (hb hby d2_17) (XS.iload X1.here hx rfl (hb hby d2_18) rfl  k)))) ?_
  show own_Fin p e below _ (T1.setTop (mkF m 20 #[.val (.ref a1), .val (.int (1 : Int32)), .val (.int (8 : Int32)), .val (.ref b1), .val (.int (0 : Int32)), .unset] [(.int (0 : Int32)), (.int (4 : Int32)), (.int (1 : Int32))]))
  refine own_go (fun t k => XS.imul X1.here hx rfl (hb hby d2_20) rfl (XS.iadd X1.here hx rfl (hb hby d2_21) rfl (XS.istore X1.here hx rfl (hb hby d2_22) rfl (l' := #[.val (.ref a1), .val (.int (1 : Int32)), .val (.int (8 : Int32)), .val (.ref b1), .val (.int (0 : Int32)), .val (.int (1 : Int32))]) rfl (XS.aloadN X1.here hx rfl (hb hby d2_24) rfl rfl  k)))) ?_
  show own_Fin p e below _ (T1.setTop (mkF m 25 #[.val (.ref a1), .val (.int (1 : Int32)), .val (.int (8 : Int32)), .val (.ref b1), .val (.int (0 : Int32)), .val (.int (1 : Int32))] [(.ref b1)]))
  refine own_go (fun t k => XS.iload X1.here hx rfl (hb hby d2_25) rfl  (XS.aloadN X1.here hx rfl (hb hby d2_27) rfl rfl  (XS.iload X1.here hx rfl (hb hby d2_28) rfl  k))) ?_
  show own_Fin p e below _ (T1.setTop (mkF m 30 #[.val (.ref a1), .val (.int (1 : Int32)), .val (.int (8 : Int32)), .val (.ref b1), .val (.int (0 : Int32)), .val (.int (1 : Int32))] [(.int (1 : Int32)), (.ref a1), (.int (0 : Int32)), (.ref b1)]))
  obtain ⟨cl6, Ar6, q6, S6, M6, H6, G6⟩ := (id f2)
  have hin6 : ¬ ((1 : Int32) < 0 ∨ cl6.slots.size ≤ ((1 : Int32)).toNatClampNeg) := inb_of S6 ⟨by decide, by decide⟩
  have hat6 : cl6.slots[((1 : Int32)).toNatClampNeg]? = some (.int u1) := H6.at hin6 rfl
  refine own_go (fun t k => X1.baloadBytes hx (j := (1 : Int32)) (v := (.int u1)) (by rw [e1]; exact Ar6.1) (State.isArrayOf_alike hZ.alike Ar6.2.1) Ar6.2.2 hin6 hat6 (g := (mkF m 30 #[.val (.ref a1), .val (.int (1 : Int32)), .val (.int (8 : Int32)), .val (.ref b1), .val (.int (0 : Int32)), .val (.int (1 : Int32))] [(.int (1 : Int32)), (.ref a1), (.int (0 : Int32)), (.ref b1)])) rfl rfl (hb hby d2_30) _ (XS.sipush X1.here hx rfl (hb hby d2_31) (XS.iand X1.here hx rfl (hb hby d2_34) rfl (XS.aloadN X1.here hx rfl (hb hby d2_35) rfl rfl  k)))) ?_
  show own_Fin p e below _ (T1.setTop (mkF m 36 #[.val (.ref a1), .val (.int (1 : Int32)), .val (.int (8 : Int32)), .val (.ref b1), .val (.int (0 : Int32)), .val (.int (1 : Int32))] [(.ref a1), (.int (u1 &&& (255 : Int32))), (.int (0 : Int32)), (.ref b1)]))
  refine own_go (fun t k => XS.iload X1.here hx rfl (hb hby d2_36) rfl  (XS.iconst X1.here hx rfl (hb hby d2_38) (XS.iadd X1.here hx rfl (hb hby d2_39) rfl k))) ?_
  show own_Fin p e below _ (T1.setTop (mkF m 40 #[.val (.ref a1), .val (.int (1 : Int32)), .val (.int (8 : Int32)), .val (.ref b1), .val (.int (0 : Int32)), .val (.int (1 : Int32))] [(.int (2 : Int32)), (.ref a1), (.int (u1 &&& (255 : Int32))), (.int (0 : Int32)), (.ref b1)]))
  obtain ⟨cl7, Ar7, q7, S7, M7, H7, G7⟩ := (id f2)
  have hin7 : ¬ ((2 : Int32) < 0 ∨ cl7.slots.size ≤ ((2 : Int32)).toNatClampNeg) := inb_of S7 ⟨by decide, by decide⟩
  have hat7 : cl7.slots[((2 : Int32)).toNatClampNeg]? = some (.int u2) := H7.at hin7 rfl
  refine own_go (fun t k => X1.baloadBytes hx (j := (2 : Int32)) (v := (.int u2)) (by rw [e1]; exact Ar7.1) (State.isArrayOf_alike hZ.alike Ar7.2.1) Ar7.2.2 hin7 hat7 (g := (mkF m 40 #[.val (.ref a1), .val (.int (1 : Int32)), .val (.int (8 : Int32)), .val (.ref b1), .val (.int (0 : Int32)), .val (.int (1 : Int32))] [(.int (2 : Int32)), (.ref a1), (.int (u1 &&& (255 : Int32))), (.int (0 : Int32)), (.ref b1)])) rfl rfl (hb hby d2_40) _ (XS.sipush X1.here hx rfl (hb hby d2_41) (XS.iand X1.here hx rfl (hb hby d2_44) rfl (XS.bipush X1.here hx rfl (hb hby d2_45) k)))) ?_
  show own_Fin p e below _ (T1.setTop (mkF m 47 #[.val (.ref a1), .val (.int (1 : Int32)), .val (.int (8 : Int32)), .val (.ref b1), .val (.int (0 : Int32)), .val (.int (1 : Int32))] [(.int (8 : Int32)), (.int (u2 &&& (255 : Int32))), (.int (u1 &&& (255 : Int32))), (.int (0 : Int32)), (.ref b1)]))
  refine own_go (fun t k => XS.ishl X1.here hx rfl (hb hby d2_47) rfl (XS.ior X1.here hx rfl (hb hby d2_48) rfl (XS.aloadN X1.here hx rfl (hb hby d2_49) rfl rfl  (XS.iload X1.here hx rfl (hb hby d2_50) rfl  k)))) ?_
  show own_Fin p e below _ (T1.setTop (mkF m 52 #[.val (.ref a1), .val (.int (1 : Int32)), .val (.int (8 : Int32)), .val (.ref b1), .val (.int (0 : Int32)), .val (.int (1 : Int32))] [(.int (1 : Int32)), (.ref a1), (.int ((u1 &&& (255 : Int32)) ||| ((u2 &&& (255 : Int32)) <<< ((8 : Int32) &&& 31)))), (.int (0 : Int32)), (.ref b1)]))
  refine own_go (fun t k => XS.iconst X1.here hx rfl (hb hby d2_52) (XS.iadd X1.here hx rfl (hb hby d2_53) rfl k)) ?_
  show own_Fin p e below _ (T1.setTop (mkF m 54 #[.val (.ref a1), .val (.int (1 : Int32)), .val (.int (8 : Int32)), .val (.ref b1), .val (.int (0 : Int32)), .val (.int (1 : Int32))] [(.int (3 : Int32)), (.ref a1), (.int ((u1 &&& (255 : Int32)) ||| ((u2 &&& (255 : Int32)) <<< ((8 : Int32) &&& 31)))), (.int (0 : Int32)), (.ref b1)]))
  obtain ⟨cl8, Ar8, q8, S8, M8, H8, G8⟩ := (id f2)
  have hin8 : ¬ ((3 : Int32) < 0 ∨ cl8.slots.size ≤ ((3 : Int32)).toNatClampNeg) := inb_of S8 ⟨by decide, by decide⟩
  have hat8 : cl8.slots[((3 : Int32)).toNatClampNeg]? = some (.int u3) := H8.at hin8 rfl
  refine own_go (fun t k => X1.baloadBytes hx (j := (3 : Int32)) (v := (.int u3)) (by rw [e1]; exact Ar8.1) (State.isArrayOf_alike hZ.alike Ar8.2.1) Ar8.2.2 hin8 hat8 (g := (mkF m 54 #[.val (.ref a1), .val (.int (1 : Int32)), .val (.int (8 : Int32)), .val (.ref b1), .val (.int (0 : Int32)), .val (.int (1 : Int32))] [(.int (3 : Int32)), (.ref a1), (.int ((u1 &&& (255 : Int32)) ||| ((u2 &&& (255 : Int32)) <<< ((8 : Int32) &&& 31)))), (.int (0 : Int32)), (.ref b1)])) rfl rfl (hb hby d2_54) _ (XS.sipush X1.here hx rfl (hb hby d2_55) (XS.iand X1.here hx rfl (hb hby d2_58) rfl (XS.bipush X1.here hx rfl (hb hby d2_59) k)))) ?_
  show own_Fin p e below _ (T1.setTop (mkF m 61 #[.val (.ref a1), .val (.int (1 : Int32)), .val (.int (8 : Int32)), .val (.ref b1), .val (.int (0 : Int32)), .val (.int (1 : Int32))] [(.int (16 : Int32)), (.int (u3 &&& (255 : Int32))), (.int ((u1 &&& (255 : Int32)) ||| ((u2 &&& (255 : Int32)) <<< ((8 : Int32) &&& 31)))), (.int (0 : Int32)), (.ref b1)]))
  refine own_go (fun t k => XS.ishl X1.here hx rfl (hb hby d2_61) rfl (XS.ior X1.here hx rfl (hb hby d2_62) rfl (XS.aloadN X1.here hx rfl (hb hby d2_63) rfl rfl  (XS.iload X1.here hx rfl (hb hby d2_64) rfl  k)))) ?_
  show own_Fin p e below _ (T1.setTop (mkF m 66 #[.val (.ref a1), .val (.int (1 : Int32)), .val (.int (8 : Int32)), .val (.ref b1), .val (.int (0 : Int32)), .val (.int (1 : Int32))] [(.int (1 : Int32)), (.ref a1), (.int (((u1 &&& (255 : Int32)) ||| ((u2 &&& (255 : Int32)) <<< ((8 : Int32) &&& 31))) ||| ((u3 &&& (255 : Int32)) <<< ((16 : Int32) &&& 31)))), (.int (0 : Int32)), (.ref b1)]))
  refine own_go (fun t k => XS.iconst X1.here hx rfl (hb hby d2_66) (XS.iadd X1.here hx rfl (hb hby d2_67) rfl k)) ?_
  show own_Fin p e below _ (T1.setTop (mkF m 68 #[.val (.ref a1), .val (.int (1 : Int32)), .val (.int (8 : Int32)), .val (.ref b1), .val (.int (0 : Int32)), .val (.int (1 : Int32))] [(.int (4 : Int32)), (.ref a1), (.int (((u1 &&& (255 : Int32)) ||| ((u2 &&& (255 : Int32)) <<< ((8 : Int32) &&& 31))) ||| ((u3 &&& (255 : Int32)) <<< ((16 : Int32) &&& 31)))), (.int (0 : Int32)), (.ref b1)]))
  obtain ⟨cl9, Ar9, q9, S9, M9, H9, G9⟩ := (id f2)
  have hin9 : ¬ ((4 : Int32) < 0 ∨ cl9.slots.size ≤ ((4 : Int32)).toNatClampNeg) := inb_of S9 ⟨by decide, by decide⟩
  have hat9 : cl9.slots[((4 : Int32)).toNatClampNeg]? = some (.int u4) := H9.at hin9 rfl
  refine own_go (fun t k => X1.baloadBytes hx (j := (4 : Int32)) (v := (.int u4)) (by rw [e1]; exact Ar9.1) (State.isArrayOf_alike hZ.alike Ar9.2.1) Ar9.2.2 hin9 hat9 (g := (mkF m 68 #[.val (.ref a1), .val (.int (1 : Int32)), .val (.int (8 : Int32)), .val (.ref b1), .val (.int (0 : Int32)), .val (.int (1 : Int32))] [(.int (4 : Int32)), (.ref a1), (.int (((u1 &&& (255 : Int32)) ||| ((u2 &&& (255 : Int32)) <<< ((8 : Int32) &&& 31))) ||| ((u3 &&& (255 : Int32)) <<< ((16 : Int32) &&& 31)))), (.int (0 : Int32)), (.ref b1)])) rfl rfl (hb hby d2_68) _ (XS.sipush X1.here hx rfl (hb hby d2_69) (XS.iand X1.here hx rfl (hb hby d2_72) rfl (XS.bipush X1.here hx rfl (hb hby d2_73) k)))) ?_
  show own_Fin p e below _ (T1.setTop (mkF m 75 #[.val (.ref a1), .val (.int (1 : Int32)), .val (.int (8 : Int32)), .val (.ref b1), .val (.int (0 : Int32)), .val (.int (1 : Int32))] [(.int (24 : Int32)), (.int (u4 &&& (255 : Int32))), (.int (((u1 &&& (255 : Int32)) ||| ((u2 &&& (255 : Int32)) <<< ((8 : Int32) &&& 31))) ||| ((u3 &&& (255 : Int32)) <<< ((16 : Int32) &&& 31)))), (.int (0 : Int32)), (.ref b1)]))
  refine own_go (fun t k => XS.ishl X1.here hx rfl (hb hby d2_75) rfl (XS.ior X1.here hx rfl (hb hby d2_76) rfl k)) ?_
  show own_Fin p e below _ (T1.setTop (mkF m 77 #[.val (.ref a1), .val (.int (1 : Int32)), .val (.int (8 : Int32)), .val (.ref b1), .val (.int (0 : Int32)), .val (.int (1 : Int32))] [(.int ((((u1 &&& (255 : Int32)) ||| ((u2 &&& (255 : Int32)) <<< ((8 : Int32) &&& 31))) ||| ((u3 &&& (255 : Int32)) <<< ((16 : Int32) &&& 31))) ||| ((u4 &&& (255 : Int32)) <<< ((24 : Int32) &&& 31)))), (.int (0 : Int32)), (.ref b1)]))
  obtain ⟨cl10, Ar10, q10, S10, M10, H10, G10⟩ := (id V1)
  have hin10 : ¬ ((0 : Int32) < 0 ∨ cl10.slots.size ≤ ((0 : Int32)).toNatClampNeg) := inb_of S10 ⟨by decide, by decide⟩
  obtain ⟨T10, h10, X10, e10, W10, st10⟩ := stI X1 hx hZ e1 Ar10 (j := (0 : Int32)) hin10 (g := (mkF m 77 #[.val (.ref a1), .val (.int (1 : Int32)), .val (.int (8 : Int32)), .val (.ref b1), .val (.int (0 : Int32)), .val (.int (1 : Int32))] [(.int ((((u1 &&& (255 : Int32)) ||| ((u2 &&& (255 : Int32)) <<< ((8 : Int32) &&& 31))) ||| ((u3 &&& (255 : Int32)) <<< ((16 : Int32) &&& 31))) ||| ((u4 &&& (255 : Int32)) <<< ((24 : Int32) &&& 31)))), (.int (0 : Int32)), (.ref b1)])) rfl rfl (hb hby d2_77)
  have f11 := f2.other W10 ne_a1_b1
  have V10 := Arv.set Ar10 q10 S10 M10 H10 G10 rfl W10 0 rfl (Nat.le_of_ble_eq_true rfl)
  have f13 : Arv Z h10 b1 k1 .int (2 : Int32) [(.int ((((u1 &&& (255 : Int32)) ||| ((u2 &&& (255 : Int32)) <<< ((8 : Int32) &&& 31))) ||| ((u3 &&& (255 : Int32)) <<< ((16 : Int32) &&& 31))) ||| ((u4 &&& (255 : Int32)) <<< ((24 : Int32) &&& 31)))), (.int (0 : Int32))] (.int (0 : Int32)) := V10
  have Zh14 : n0 ≤ h10.size := Nat.le_trans Zh3 (Nat.le_of_eq W10.size.symm)
  have N10 := Fr.snoc X10 N0 g_b1
  have K15 := K4.wr W10 (Or.inr sz_b1)
  refine own_go st10 ?_
  show own_Fin p e below _ (T10.setTop (mkF m 78 #[.val (.ref a1), .val (.int (1 : Int32)), .val (.int (8 : Int32)), .val (.ref b1), .val (.int (0 : Int32)), .val (.int (1 : Int32))] []))
  refine own_go (fun t k => XS.iinc X10.here hx rfl (hb hby d2_78) rfl (l' := #[.val (.ref a1), .val (.int (1 : Int32)), .val (.int (8 : Int32)), .val (.ref b1), .val (.int (1 : Int32)), .val (.int (1 : Int32))]) rfl (XS.goto X10.here hx rfl (pc0 := 81) (pc' := 9) rfl (hb hby d2_81) (by decide) (by decide) (XS.iload X10.here hx rfl (hb hby d2_9) rfl  (XS.aloadN X10.here hx rfl (hb hby d2_11) rfl rfl  k)))) ?_
  show own_Fin p e below _ (T10.setTop (mkF m 12 #[.val (.ref a1), .val (.int (1 : Int32)), .val (.int (8 : Int32)), .val (.ref b1), .val (.int (1 : Int32)), .val (.int (1 : Int32))] [(.ref b1), (.int (1 : Int32))]))
  obtain ⟨cl16, Ar16, q16, S16, M16, H16, G16⟩ := (id f13)
  refine own_go (fun t k => X10.arraylength hx (by rw [e10]; exact Ar16.1) (State.isArrayOf_alike hZ.alike Ar16.2.1) (g := (mkF m 12 #[.val (.ref a1), .val (.int (1 : Int32)), .val (.int (8 : Int32)), .val (.ref b1), .val (.int (1 : Int32)), .val (.int (1 : Int32))] [(.ref b1), (.int (1 : Int32))])) rfl rfl (hb hby d2_12) _ k) ?_
  rw [len_of S16 M16]
  show own_Fin p e below _ (T10.setTop (mkF m 13 #[.val (.ref a1), .val (.int (1 : Int32)), .val (.int (8 : Int32)), .val (.ref b1), .val (.int (1 : Int32)), .val (.int (1 : Int32))] [(.int (2 : Int32)), (.int (1 : Int32))]))
  refine own_go (fun t k => XS.icmpNo X10.here hx rfl (hb hby d2_13) rfl (tlt (by decide : (1 : Int32) < (2 : Int32))).2.1 (XS.iloadN X10.here hx rfl (hb hby d2_16) rfl  (XS.iconst X10.here hx rfl (hb hby d2_17) (XS.iload X10.here hx rfl (hb hby d2_18) rfl  k)))) ?_
  show own_Fin p e below _ (T10.setTop (mkF m 20 #[.val (.ref a1), .val (.int (1 : Int32)), .val (.int (8 : Int32)), .val (.ref b1), .val (.int (1 : Int32)), .val (.int (1 : Int32))] [(.int (1 : Int32)), (.int (4 : Int32)), (.int (1 : Int32))]))
  refine own_go (fun t k => XS.imul X10.here hx rfl (hb hby d2_20) rfl (XS.iadd X10.here hx rfl (hb hby d2_21) rfl (XS.istore X10.here hx rfl (hb hby d2_22) rfl (l' := #[.val (.ref a1), .val (.int (1 : Int32)), .val (.int (8 : Int32)), .val (.ref b1), .val (.int (1 : Int32)), .val (.int (5 : Int32))]) rfl (XS.aloadN X10.here hx rfl (hb hby d2_24) rfl rfl  k)))) ?_
  show own_Fin p e below _ (T10.setTop (mkF m 25 #[.val (.ref a1), .val (.int (1 : Int32)), .val (.int (8 : Int32)), .val (.ref b1), .val (.int (1 : Int32)), .val (.int (5 : Int32))] [(.ref b1)]))
  refine own_go (fun t k => XS.iload X10.here hx rfl (hb hby d2_25) rfl  (XS.aloadN X10.here hx rfl (hb hby d2_27) rfl rfl  (XS.iload X10.here hx rfl (hb hby d2_28) rfl  k))) ?_
  show own_Fin p e below _ (T10.setTop (mkF m 30 #[.val (.ref a1), .val (.int (1 : Int32)), .val (.int (8 : Int32)), .val (.ref b1), .val (.int (1 : Int32)), .val (.int (5 : Int32))] [(.int (5 : Int32)), (.ref a1), (.int (1 : Int32)), (.ref b1)]))
  obtain ⟨cl17, Ar17, q17, S17, M17, H17, G17⟩ := (id f11)
  have hin17 : ¬ ((5 : Int32) < 0 ∨ cl17.slots.size ≤ ((5 : Int32)).toNatClampNeg) := inb_of S17 ⟨by decide, by decide⟩
  have hat17 : cl17.slots[((5 : Int32)).toNatClampNeg]? = some (.int u5) := H17.at hin17 rfl
  refine own_go (fun t k => X10.baloadBytes hx (j := (5 : Int32)) (v := (.int u5)) (by rw [e10]; exact Ar17.1) (State.isArrayOf_alike hZ.alike Ar17.2.1) Ar17.2.2 hin17 hat17 (g := (mkF m 30 #[.val (.ref a1), .val (.int (1 : Int32)), .val (.int (8 : Int32)), .val (.ref b1), .val (.int (1 : Int32)), .val (.int (5 : Int32))] [(.int (5 : Int32)), (.ref a1), (.int (1 : Int32)), (.ref b1)])) rfl rfl (hb hby d2_30) _ (XS.sipush X10.here hx rfl (hb hby d2_31) (XS.iand X10.here hx rfl (hb hby d2_34) rfl (XS.aloadN X10.here hx rfl (hb hby d2_35) rfl rfl  k)))) ?_
  show own_Fin p e below _ (T10.setTop (mkF m 36 #[.val (.ref a1), .val (.int (1 : Int32)), .val (.int (8 : Int32)), .val (.ref b1), .val (.int (1 : Int32)), .val (.int (5 : Int32))] [(.ref a1), (.int (u5 &&& (255 : Int32))), (.int (1 : Int32)), (.ref b1)]))
  refine own_go (fun t k => XS.iload X10.here hx rfl (hb hby d2_36) rfl  (XS.iconst X10.here hx rfl (hb hby d2_38) (XS.iadd X10.here hx rfl (hb hby d2_39) rfl k))) ?_
  show own_Fin p e below _ (T10.setTop (mkF m 40 #[.val (.ref a1), .val (.int (1 : Int32)), .val (.int (8 : Int32)), .val (.ref b1), .val (.int (1 : Int32)), .val (.int (5 : Int32))] [(.int (6 : Int32)), (.ref a1), (.int (u5 &&& (255 : Int32))), (.int (1 : Int32)), (.ref b1)]))
  obtain ⟨cl18, Ar18, q18, S18, M18, H18, G18⟩ := (id f11)
  have hin18 : ¬ ((6 : Int32) < 0 ∨ cl18.slots.size ≤ ((6 : Int32)).toNatClampNeg) := inb_of S18 ⟨by decide, by decide⟩
  have hat18 : cl18.slots[((6 : Int32)).toNatClampNeg]? = some (.int u6) := H18.at hin18 rfl
  refine own_go (fun t k => X10.baloadBytes hx (j := (6 : Int32)) (v := (.int u6)) (by rw [e10]; exact Ar18.1) (State.isArrayOf_alike hZ.alike Ar18.2.1) Ar18.2.2 hin18 hat18 (g := (mkF m 40 #[.val (.ref a1), .val (.int (1 : Int32)), .val (.int (8 : Int32)), .val (.ref b1), .val (.int (1 : Int32)), .val (.int (5 : Int32))] [(.int (6 : Int32)), (.ref a1), (.int (u5 &&& (255 : Int32))), (.int (1 : Int32)), (.ref b1)])) rfl rfl (hb hby d2_40) _ (XS.sipush X10.here hx rfl (hb hby d2_41) (XS.iand X10.here hx rfl (hb hby d2_44) rfl (XS.bipush X10.here hx rfl (hb hby d2_45) k)))) ?_
  show own_Fin p e below _ (T10.setTop (mkF m 47 #[.val (.ref a1), .val (.int (1 : Int32)), .val (.int (8 : Int32)), .val (.ref b1), .val (.int (1 : Int32)), .val (.int (5 : Int32))] [(.int (8 : Int32)), (.int (u6 &&& (255 : Int32))), (.int (u5 &&& (255 : Int32))), (.int (1 : Int32)), (.ref b1)]))
  refine own_go (fun t k => XS.ishl X10.here hx rfl (hb hby d2_47) rfl (XS.ior X10.here hx rfl (hb hby d2_48) rfl (XS.aloadN X10.here hx rfl (hb hby d2_49) rfl rfl  (XS.iload X10.here hx rfl (hb hby d2_50) rfl  k)))) ?_
  show own_Fin p e below _ (T10.setTop (mkF m 52 #[.val (.ref a1), .val (.int (1 : Int32)), .val (.int (8 : Int32)), .val (.ref b1), .val (.int (1 : Int32)), .val (.int (5 : Int32))] [(.int (5 : Int32)), (.ref a1), (.int ((u5 &&& (255 : Int32)) ||| ((u6 &&& (255 : Int32)) <<< ((8 : Int32) &&& 31)))), (.int (1 : Int32)), (.ref b1)]))
  refine own_go (fun t k => XS.iconst X10.here hx rfl (hb hby d2_52) (XS.iadd X10.here hx rfl (hb hby d2_53) rfl k)) ?_
  show own_Fin p e below _ (T10.setTop (mkF m 54 #[.val (.ref a1), .val (.int (1 : Int32)), .val (.int (8 : Int32)), .val (.ref b1), .val (.int (1 : Int32)), .val (.int (5 : Int32))] [(.int (7 : Int32)), (.ref a1), (.int ((u5 &&& (255 : Int32)) ||| ((u6 &&& (255 : Int32)) <<< ((8 : Int32) &&& 31)))), (.int (1 : Int32)), (.ref b1)]))
  obtain ⟨cl19, Ar19, q19, S19, M19, H19, G19⟩ := (id f11)
  have hin19 : ¬ ((7 : Int32) < 0 ∨ cl19.slots.size ≤ ((7 : Int32)).toNatClampNeg) := inb_of S19 ⟨by decide, by decide⟩
  have hat19 : cl19.slots[((7 : Int32)).toNatClampNeg]? = some (.int u7) := H19.at hin19 rfl
  refine own_go (fun t k => X10.baloadBytes hx (j := (7 : Int32)) (v := (.int u7)) (by rw [e10]; exact Ar19.1) (State.isArrayOf_alike hZ.alike Ar19.2.1) Ar19.2.2 hin19 hat19 (g := (mkF m 54 #[.val (.ref a1), .val (.int (1 : Int32)), .val (.int (8 : Int32)), .val (.ref b1), .val (.int (1 : Int32)), .val (.int (5 : Int32))] [(.int (7 : Int32)), (.ref a1), (.int ((u5 &&& (255 : Int32)) ||| ((u6 &&& (255 : Int32)) <<< ((8 : Int32) &&& 31)))), (.int (1 : Int32)), (.ref b1)])) rfl rfl (hb hby d2_54) _ (XS.sipush X10.here hx rfl (hb hby d2_55) (XS.iand X10.here hx rfl (hb hby d2_58) rfl (XS.bipush X10.here hx rfl (hb hby d2_59) k)))) ?_
  show own_Fin p e below _ (T10.setTop (mkF m 61 #[.val (.ref a1), .val (.int (1 : Int32)), .val (.int (8 : Int32)), .val (.ref b1), .val (.int (1 : Int32)), .val (.int (5 : Int32))] [(.int (16 : Int32)), (.int (u7 &&& (255 : Int32))), (.int ((u5 &&& (255 : Int32)) ||| ((u6 &&& (255 : Int32)) <<< ((8 : Int32) &&& 31)))), (.int (1 : Int32)), (.ref b1)]))
  refine own_go (fun t k => XS.ishl X10.here hx rfl (hb hby d2_61) rfl (XS.ior X10.here hx rfl (hb hby d2_62) rfl (XS.aloadN X10.here hx rfl (hb hby d2_63) rfl rfl  (XS.iload X10.here hx rfl (hb hby d2_64) rfl  k)))) ?_
  show own_Fin p e below _ (T10.setTop (mkF m 66 #[.val (.ref a1), .val (.int (1 : Int32)), .val (.int (8 : Int32)), .val (.ref b1), .val (.int (1 : Int32)), .val (.int (5 : Int32))] [(.int (5 : Int32)), (.ref a1), (.int (((u5 &&& (255 : Int32)) ||| ((u6 &&& (255 : Int32)) <<< ((8 : Int32) &&& 31))) ||| ((u7 &&& (255 : Int32)) <<< ((16 : Int32) &&& 31)))), (.int (1 : Int32)), (.ref b1)]))
  refine own_go (fun t k => XS.iconst X10.here hx rfl (hb hby d2_66) (XS.iadd X10.here hx rfl (hb hby d2_67) rfl k)) ?_
  show own_Fin p e below _ (T10.setTop (mkF m 68 #[.val (.ref a1), .val (.int (1 : Int32)), .val (.int (8 : Int32)), .val (.ref b1), .val (.int (1 : Int32)), .val (.int (5 : Int32))] [(.int (8 : Int32)), (.ref a1), (.int (((u5 &&& (255 : Int32)) ||| ((u6 &&& (255 : Int32)) <<< ((8 : Int32) &&& 31))) ||| ((u7 &&& (255 : Int32)) <<< ((16 : Int32) &&& 31)))), (.int (1 : Int32)), (.ref b1)]))
  obtain ⟨cl20, Ar20, q20, S20, M20, H20, G20⟩ := (id f11)
  have hin20 : ¬ ((8 : Int32) < 0 ∨ cl20.slots.size ≤ ((8 : Int32)).toNatClampNeg) := inb_of S20 ⟨by decide, by decide⟩
  have hat20 : cl20.slots[((8 : Int32)).toNatClampNeg]? = some (.int u8) := H20.at hin20 rfl
  refine own_go (fun t k => X10.baloadBytes hx (j := (8 : Int32)) (v := (.int u8)) (by rw [e10]; exact Ar20.1) (State.isArrayOf_alike hZ.alike Ar20.2.1) Ar20.2.2 hin20 hat20 (g := (mkF m 68 #[.val (.ref a1), .val (.int (1 : Int32)), .val (.int (8 : Int32)), .val (.ref b1), .val (.int (1 : Int32)), .val (.int (5 : Int32))] [(.int (8 : Int32)), (.ref a1), (.int (((u5 &&& (255 : Int32)) ||| ((u6 &&& (255 : Int32)) <<< ((8 : Int32) &&& 31))) ||| ((u7 &&& (255 : Int32)) <<< ((16 : Int32) &&& 31)))), (.int (1 : Int32)), (.ref b1)])) rfl rfl (hb hby d2_68) _ (XS.sipush X10.here hx rfl (hb hby d2_69) (XS.iand X10.here hx rfl (hb hby d2_72) rfl (XS.bipush X10.here hx rfl (hb hby d2_73) k)))) ?_
  show own_Fin p e below _ (T10.setTop (mkF m 75 #[.val (.ref a1), .val (.int (1 : Int32)), .val (.int (8 : Int32)), .val (.ref b1), .val (.int (1 : Int32)), .val (.int (5 : Int32))] [(.int (24 : Int32)), (.int (u8 &&& (255 : Int32))), (.int (((u5 &&& (255 : Int32)) ||| ((u6 &&& (255 : Int32)) <<< ((8 : Int32) &&& 31))) ||| ((u7 &&& (255 : Int32)) <<< ((16 : Int32) &&& 31)))), (.int (1 : Int32)), (.ref b1)]))
  refine own_go (fun t k => XS.ishl X10.here hx rfl (hb hby d2_75) rfl (XS.ior X10.here hx rfl (hb hby d2_76) rfl k)) ?_
  show own_Fin p e below _ (T10.setTop (mkF m 77 #[.val (.ref a1), .val (.int (1 : Int32)), .val (.int (8 : Int32)), .val (.ref b1), .val (.int (1 : Int32)), .val (.int (5 : Int32))] [(.int ((((u5 &&& (255 : Int32)) ||| ((u6 &&& (255 : Int32)) <<< ((8 : Int32) &&& 31))) ||| ((u7 &&& (255 : Int32)) <<< ((16 : Int32) &&& 31))) ||| ((u8 &&& (255 : Int32)) <<< ((24 : Int32) &&& 31)))), (.int (1 : Int32)), (.ref b1)]))
  obtain ⟨cl21, Ar21, q21, S21, M21, H21, G21⟩ := (id f13)
  have hin21 : ¬ ((1 : Int32) < 0 ∨ cl21.slots.size ≤ ((1 : Int32)).toNatClampNeg) := inb_of S21 ⟨by decide, by decide⟩
  obtain ⟨T21, h21, X21, e21, W21, st21⟩ := stI X10 hx hZ e10 Ar21 (j := (1 : Int32)) hin21 (g := (mkF m 77 #[.val (.ref a1), .val (.int (1 : Int32)), .val (.int (8 : Int32)), .val (.ref b1), .val (.int (1 : Int32)), .val (.int (5 : Int32))] [(.int ((((u5 &&& (255 : Int32)) ||| ((u6 &&& (255 : Int32)) <<< ((8 : Int32) &&& 31))) ||| ((u7 &&& (255 : Int32)) <<< ((16 : Int32) &&& 31))) ||| ((u8 &&& (255 : Int32)) <<< ((24 : Int32) &&& 31)))), (.int (1 : Int32)), (.ref b1)])) rfl rfl (hb hby d2_77)
  have f22 := f11.other W21 ne_a1_b1
  have V21 := Arv.set Ar21 q21 S21 M21 H21 G21 rfl W21 1 rfl (Nat.le_of_ble_eq_true rfl)
  have f24 : Arv Z h21 b1 k1 .int (2 : Int32) [(.int ((((u1 &&& (255 : Int32)) ||| ((u2 &&& (255 : Int32)) <<< ((8 : Int32) &&& 31))) ||| ((u3 &&& (255 : Int32)) <<< ((16 : Int32) &&& 31))) ||| ((u4 &&& (255 : Int32)) <<< ((24 : Int32) &&& 31)))), (.int ((((u5 &&& (255 : Int32)) ||| ((u6 &&& (255 : Int32)) <<< ((8 : Int32) &&& 31))) ||| ((u7 &&& (255 : Int32)) <<< ((16 : Int32) &&& 31))) ||| ((u8 &&& (255 : Int32)) <<< ((24 : Int32) &&& 31))))] (.int (0 : Int32)) := V21
  have Zh25 : n0 ≤ h21.size := Nat.le_trans Zh14 (Nat.le_of_eq W21.size.symm)
  have N21 := Fr.snoc X21 N10 g_b1
  have K26 := K15.wr W21 (Or.inr sz_b1)
  refine own_go st21 ?_
  show own_Fin p e below _ (T21.setTop (mkF m 78 #[.val (.ref a1), .val (.int (1 : Int32)), .val (.int (8 : Int32)), .val (.ref b1), .val (.int (1 : Int32)), .val (.int (5 : Int32))] []))
  refine own_go (fun t k => XS.iinc X21.here hx rfl (hb hby d2_78) rfl (l' := #[.val (.ref a1), .val (.int (1 : Int32)), .val (.int (8 : Int32)), .val (.ref b1), .val (.int (2 : Int32)), .val (.int (5 : Int32))]) rfl (XS.goto X21.here hx rfl (pc0 := 81) (pc' := 9) rfl (hb hby d2_81) (by decide) (by decide) (XS.iload X21.here hx rfl (hb hby d2_9) rfl  (XS.aloadN X21.here hx rfl (hb hby d2_11) rfl rfl  k)))) ?_
  show own_Fin p e below _ (T21.setTop (mkF m 12 #[.val (.ref a1), .val (.int (1 : Int32)), .val (.int (8 : Int32)), .val (.ref b1), .val (.int (2 : Int32)), .val (.int (5 : Int32))] [(.ref b1), (.int (2 : Int32))]))
  obtain ⟨cl27, Ar27, q27, S27, M27, H27, G27⟩ := (id f24)
  refine own_go (fun t k => X21.arraylength hx (by rw [e21]; exact Ar27.1) (State.isArrayOf_alike hZ.alike Ar27.2.1) (g := (mkF m 12 #[.val (.ref a1), .val (.int (1 : Int32)), .val (.int (8 : Int32)), .val (.ref b1), .val (.int (2 : Int32)), .val (.int (5 : Int32))] [(.ref b1), (.int (2 : Int32))])) rfl rfl (hb hby d2_12) _ k) ?_
  rw [len_of S27 M27]
  show own_Fin p e below _ (T21.setTop (mkF m 13 #[.val (.ref a1), .val (.int (1 : Int32)), .val (.int (8 : Int32)), .val (.ref b1), .val (.int (2 : Int32)), .val (.int (5 : Int32))] [(.int (2 : Int32)), (.int (2 : Int32))]))
  refine own_go (fun t k => XS.icmpYes X21.here hx rfl (pc0 := 13) (pc' := 84) rfl (hb hby d2_13) rfl (flt (by decide : ¬ ((2 : Int32) < (2 : Int32)))).2.1 (by decide) (by decide) (XS.aloadN X21.here hx rfl (hb hby d2_84) rfl rfl  k)) ?_
  show own_Fin p e below _ (T21.setTop (mkF m 85 #[.val (.ref a1), .val (.int (1 : Int32)), .val (.int (8 : Int32)), .val (.ref b1), .val (.int (2 : Int32)), .val (.int (5 : Int32))] [(.ref b1)]))
  exact own_out X21 (fun h => by rw [Bd.returns] at h; cases h) Bd.notSynchronized (fun fs hr => retOut X21 hx Bd.returns rfl (Or.inr (Or.inr (Or.inr (Or.inr ⟨rfl, rfl, rfl⟩)))) (hb hby d2_85) hr) (by rw [e21]; exact ⟨_, _, rfl, N21, sz_b1, K26, f24⟩) (by decide) (by decide)
theorem ef_2o1c3 (m : MethodId) (x0 : Addr) (x1 : Int32) (x2 : Int32)  : entryFrame m #[(.ref x0), (.int x1), (.int x2)] 6 = mkF m 0 #[.val (.ref x0), .val (.int x1), .val (.int x2), .unset, .unset, .unset] [] := by first | (simp [entryFrame, mkF, argsToLocals, Value.category]; done) | rfl
def own_q2o1c3 (Z : State) (a1 : Addr) (k1 : ClassId) (u0 u1 u2 u3 u4 u5 u6 u7 u8 u9 u10 u11 u12 : Int32) (h0 : Heap) (n0 : Nat) (v : Option Value) (h : Heap) (L : List Loc) : Prop := ∃ (a : Addr) (k : ClassId), v = some (.ref a) ∧ Fr n0 L ∧ h0.size ≤ a ∧ Keep h0 h [] ∧ Arv Z h a k .int (3 : Int32) [(.int (own_w u1 u2 u3 u4)), (.int (own_w u5 u6 u7 u8)), (.int (own_w u9 u10 u11 u12))] (.int (0 : Int32))
set_option maxRecDepth 65536 in
set_option maxHeartbeats 40000000 in
theorem rm2o1c3 (l : Launch) (Z : State) (a0 : Array Value) (hw : ∀ d ∈ tables_1, d.before a0 Z = true) (ws : List Jvm.Cond) (a1 : Addr) (k1 : ClassId) (u0 u1 u2 u3 u4 u5 u6 u7 u8 u9 u10 u11 u12 : Int32) (h0 : Heap) (n0 : Nat) (Z0 : n0 ≤ h0.size) (V_a1 : Arv Z h0 a1 k1 .byte (13 : Int32) [(.int u0), (.int u1), (.int u2), (.int u3), (.int u4), (.int u5), (.int u6), (.int u7), (.int u8), (.int u9), (.int u10), (.int u11), (.int u12)] (.int (0 : Int32))) :
    MetFree l (⟨"com/example/palimpsest/palimpsest/chain/CurveScalars", "decode", "([BII)[I"⟩ : MethodName) (head1 (Jvm.Cond.code (⟨"com/example/palimpsest/palimpsest/chain/CurveScalars", "decode", "([BII)[I"⟩ : MethodName) prog_6_method_2_code 6 (some (.array .int)) :: ws) ({ frames := 0, cells := 1, slots := 3, locals := 0 } : Room)) (fun a U => a = #[(.ref a1), (.int (1 : Int32)), (.int (12 : Int32))] ∧ Z.Warmed39 U.vm ∧ U.heap = h0) (fun _ _ _ _ _ => True) (fun _ U o U' => ∃ v L, o = .returned v ∧ (own_q2o1c3 Z a1 k1 u0 u1 u2 u3 u4 u5 u6 u7 u8 u9 u10 u11 u12 h0 n0) v U'.heap L ∧ FrameEnd U o U' L ({ frames := 0, cells := 1, slots := 3, locals := 0 } : Room).cells ({ frames := 0, cells := 1, slots := 3, locals := 0 } : Room).slots) := by
  refine MetFree.of_bodySF (plainFor_of_name pn_1) hisR ?_
  intro p e s m args below meth c s₁ Bd hml0 hP hK
  obtain ⟨rfl, hZ, hh⟩ := hP
  have hx := Bd.exec
  have hby := Bd.bytes
  have hml : c.maxLocals = 6 := hml0
  have hown : s.vm.findClass "com/example/palimpsest/palimpsest/chain/CurveScalars" = some m.cls := findClass_of_methodNamed Bd.named
  have hnm := (name_of_methodNamed Bd.named Bd.method).1
  have X0 : Stand p l e ({ frames := 0, cells := 1, slots := 3, locals := 0 } : Room) s m #[(.ref a1), (.int (1 : Int32)), (.int (12 : Int32))] below meth c s₁ [] 0 0 := Stand.of_body Bd
  have e0 : s₁.heap = h0 := by rw [← hh, Bd.state]; rfl
  have N0 := Fr.nil n0
  have Kz := Keep.refl h0 []
  have hw_9 := hw _ (List.mem_of_getElem? (i := 9) rfl)
  show own_Fin p e below (own_A s ({ frames := 0, cells := 1, slots := 3, locals := 0 } : Room).cells ({ frames := 0, cells := 1, slots := 3, locals := 0 } : Room).slots (own_q2o1c3 Z a1 k1 u0 u1 u2 u3 u4 u5 u6 u7 u8 u9 u10 u11 u12 h0 n0)) _
  refine own_go (fun t k => castTop (ef_2o1c3 m (a1) ((1 : Int32)) ((12 : Int32))) k) ?_
  show own_Fin p e below _ (s₁.setTop (mkF m 0 #[.val (.ref a1), .val (.int (1 : Int32)), .val (.int (12 : Int32)), .unset, .unset, .unset] []))
  refine own_go (fun t k => XS.iloadN X0.here hx rfl (hb hby d2_0) rfl  (XS.iconst X0.here hx rfl (hb hby d2_1) (XS.idiv X0.here hx rfl (hb hby d2_2) rfl (by decide) k))) ?_
  show own_Fin p e below _ (s₁.setTop (mkF m 3 #[.val (.ref a1), .val (.int (1 : Int32)), .val (.int (12 : Int32)), .unset, .unset, .unset] [(.int (3 : Int32))]))
  obtain ⟨T1, h1, k1, X1, e1, E1, A1, st1⟩ := newP (aty := .int) X0 hx hZ hw_9 e0 (g := (mkF m 3 #[.val (.ref a1), .val (.int (1 : Int32)), .val (.int (12 : Int32)), .unset, .unset, .unset] [(.int (3 : Int32))])) rfl (hb hby d2_3) rfl (by decide) (cap := 3) (by decide) (by decide) (by decide) (by decide)
  obtain ⟨b1, g1⟩ : ∃ z, z = h0.size := ⟨_, rfl⟩
  rw [← g1] at A1 st1
  have g_b1 : n0 ≤ b1 := Nat.le_trans Z0 (Nat.le_of_eq g1.symm)
  have sz_b1 : h0.size ≤ b1 := Nat.le_trans Kz.1 (Nat.le_of_eq g1.symm)
  have ne_a1_b1 : a1 ≠ b1 := Nat.ne_of_lt (Nat.lt_of_lt_of_le V_a1.lt (Nat.le_of_eq g1.symm))
  have f2 := V_a1.ext E1
  have Zh3 : n0 ≤ h1.size := Nat.le_trans Z0 E1.1
  have K4 := Kz.ext E1
  have V1 : Arv Z h1 b1 k1 .int (3 : Int32) [(.int (0 : Int32)), (.int (0 : Int32)), (.int (0 : Int32))] (.int (0 : Int32)) := (Arv.new A1 (by decide)).pad (pad_rep [] (.int (0 : Int32)) 3)
  refine own_go st1 ?_
  show own_Fin p e below _ (T1.setTop (mkF m 5 #[.val (.ref a1), .val (.int (1 : Int32)), .val (.int (12 : Int32)), .unset, .unset, .unset] [(.ref b1)]))
  refine own_go (fun t k => XS.astoreN X1.here hx rfl (hb hby d2_5) rfl rfl (l' := #[.val (.ref a1), .val (.int (1 : Int32)), .val (.int (12 : Int32)), .val (.ref b1), .unset, .unset]) rfl (XS.iconst X1.here hx rfl (hb hby d2_6) (XS.istore X1.here hx rfl (hb hby d2_7) rfl (l' := #[.val (.ref a1), .val (.int (1 : Int32)), .val (.int (12 : Int32)), .val (.ref b1), .val (.int (0 : Int32)), .unset]) rfl (XS.iload X1.here hx rfl (hb hby d2_9) rfl  k)))) ?_
  show own_Fin p e below _ (T1.setTop (mkF m 11 #[.val (.ref a1), .val (.int (1 : Int32)), .val (.int (12 : Int32)), .val (.ref b1), .val (.int (0 : Int32)), .unset] [(.int (0 : Int32))]))
  refine own_go (fun t k => XS.aloadN X1.here hx rfl (hb hby d2_11) rfl rfl  k) ?_
  show own_Fin p e below _ (T1.setTop (mkF m 12 #[.val (.ref a1), .val (.int (1 : Int32)), .val (.int (12 : Int32)), .val (.ref b1), .val (.int (0 : Int32)), .unset] [(.ref b1), (.int (0 : Int32))]))
  obtain ⟨cl5, Ar5, q5, S5, M5, H5, G5⟩ := (id V1)
  refine own_go (fun t k => X1.arraylength hx (by rw [e1]; exact Ar5.1) (State.isArrayOf_alike hZ.alike Ar5.2.1) (g := (mkF m 12 #[.val (.ref a1), .val (.int (1 : Int32)), .val (.int (12 : Int32)), .val (.ref b1), .val (.int (0 : Int32)), .unset] [(.ref b1), (.int (0 : Int32))])) rfl rfl (hb hby d2_12) _ k) ?_
  rw [len_of S5 M5]
  show own_Fin p e below _ (T1.setTop (mkF m 13 #[.val (.ref a1), .val (.int (1 : Int32)), .val (.int (12 : Int32)), .val (.ref b1), .val (.int (0 : Int32)), .unset] [(.int (3 : Int32)), (.int (0 : Int32))]))
  refine own_go (fun t k => XS.icmpNo X1.here hx rfl (hb hby d2_13) rfl (tlt (by decide : (0 : Int32) < (3 : Int32))).2.1 (XS.iloadN X1.here hx rfl (hb hby d2_16) rfl  (XS.iconst X1.here hx rfl (hb hby d2_17) (XS.iload X1.here hx rfl (hb hby d2_18) rfl  k)))) ?_
  show own_Fin p e below _ (T1.setTop (mkF m 20 #[.val (.ref a1), .val (.int (1 : Int32)), .val (.int (12 : Int32)), .val (.ref b1), .val (.int (0 : Int32)), .unset] [(.int (0 : Int32)), (.int (4 : Int32)), (.int (1 : Int32))]))
  refine own_go (fun t k => XS.imul X1.here hx rfl (hb hby d2_20) rfl (XS.iadd X1.here hx rfl (hb hby d2_21) rfl (XS.istore X1.here hx rfl (hb hby d2_22) rfl (l' := #[.val (.ref a1), .val (.int (1 : Int32)), .val (.int (12 : Int32)), .val (.ref b1), .val (.int (0 : Int32)), .val (.int (1 : Int32))]) rfl (XS.aloadN X1.here hx rfl (hb hby d2_24) rfl rfl  k)))) ?_
  show own_Fin p e below _ (T1.setTop (mkF m 25 #[.val (.ref a1), .val (.int (1 : Int32)), .val (.int (12 : Int32)), .val (.ref b1), .val (.int (0 : Int32)), .val (.int (1 : Int32))] [(.ref b1)]))
  refine own_go (fun t k => XS.iload X1.here hx rfl (hb hby d2_25) rfl  (XS.aloadN X1.here hx rfl (hb hby d2_27) rfl rfl  (XS.iload X1.here hx rfl (hb hby d2_28) rfl  k))) ?_
  show own_Fin p e below _ (T1.setTop (mkF m 30 #[.val (.ref a1), .val (.int (1 : Int32)), .val (.int (12 : Int32)), .val (.ref b1), .val (.int (0 : Int32)), .val (.int (1 : Int32))] [(.int (1 : Int32)), (.ref a1), (.int (0 : Int32)), (.ref b1)]))
  obtain ⟨cl6, Ar6, q6, S6, M6, H6, G6⟩ := (id f2)
  have hin6 : ¬ ((1 : Int32) < 0 ∨ cl6.slots.size ≤ ((1 : Int32)).toNatClampNeg) := inb_of S6 ⟨by decide, by decide⟩
  have hat6 : cl6.slots[((1 : Int32)).toNatClampNeg]? = some (.int u1) := H6.at hin6 rfl
  refine own_go (fun t k => X1.baloadBytes hx (j := (1 : Int32)) (v := (.int u1)) (by rw [e1]; exact Ar6.1) (State.isArrayOf_alike hZ.alike Ar6.2.1) Ar6.2.2 hin6 hat6 (g := (mkF m 30 #[.val (.ref a1), .val (.int (1 : Int32)), .val (.int (12 : Int32)), .val (.ref b1), .val (.int (0 : Int32)), .val (.int (1 : Int32))] [(.int (1 : Int32)), (.ref a1), (.int (0 : Int32)), (.ref b1)])) rfl rfl (hb hby d2_30) _ (XS.sipush X1.here hx rfl (hb hby d2_31) (XS.iand X1.here hx rfl (hb hby d2_34) rfl (XS.aloadN X1.here hx rfl (hb hby d2_35) rfl rfl  k)))) ?_
  show own_Fin p e below _ (T1.setTop (mkF m 36 #[.val (.ref a1), .val (.int (1 : Int32)), .val (.int (12 : Int32)), .val (.ref b1), .val (.int (0 : Int32)), .val (.int (1 : Int32))] [(.ref a1), (.int (u1 &&& (255 : Int32))), (.int (0 : Int32)), (.ref b1)]))
  refine own_go (fun t k => XS.iload X1.here hx rfl (hb hby d2_36) rfl  (XS.iconst X1.here hx rfl (hb hby d2_38) (XS.iadd X1.here hx rfl (hb hby d2_39) rfl k))) ?_
  show own_Fin p e below _ (T1.setTop (mkF m 40 #[.val (.ref a1), .val (.int (1 : Int32)), .val (.int (12 : Int32)), .val (.ref b1), .val (.int (0 : Int32)), .val (.int (1 : Int32))] [(.int (2 : Int32)), (.ref a1), (.int (u1 &&& (255 : Int32))), (.int (0 : Int32)), (.ref b1)]))
  obtain ⟨cl7, Ar7, q7, S7, M7, H7, G7⟩ := (id f2)
  have hin7 : ¬ ((2 : Int32) < 0 ∨ cl7.slots.size ≤ ((2 : Int32)).toNatClampNeg) := inb_of S7 ⟨by decide, by decide⟩
  have hat7 : cl7.slots[((2 : Int32)).toNatClampNeg]? = some (.int u2) := H7.at hin7 rfl
  refine own_go (fun t k => X1.baloadBytes hx (j := (2 : Int32)) (v := (.int u2)) (by rw [e1]; exact Ar7.1) (State.isArrayOf_alike hZ.alike Ar7.2.1) Ar7.2.2 hin7 hat7 (g := (mkF m 40 #[.val (.ref a1), .val (.int (1 : Int32)), .val (.int (12 : Int32)), .val (.ref b1), .val (.int (0 : Int32)), .val (.int (1 : Int32))] [(.int (2 : Int32)), (.ref a1), (.int (u1 &&& (255 : Int32))), (.int (0 : Int32)), (.ref b1)])) rfl rfl (hb hby d2_40) _ (XS.sipush X1.here hx rfl (hb hby d2_41) (XS.iand X1.here hx rfl (hb hby d2_44) rfl (XS.bipush X1.here hx rfl (hb hby d2_45) k)))) ?_
  show own_Fin p e below _ (T1.setTop (mkF m 47 #[.val (.ref a1), .val (.int (1 : Int32)), .val (.int (12 : Int32)), .val (.ref b1), .val (.int (0 : Int32)), .val (.int (1 : Int32))] [(.int (8 : Int32)), (.int (u2 &&& (255 : Int32))), (.int (u1 &&& (255 : Int32))), (.int (0 : Int32)), (.ref b1)]))
  refine own_go (fun t k => XS.ishl X1.here hx rfl (hb hby d2_47) rfl (XS.ior X1.here hx rfl (hb hby d2_48) rfl (XS.aloadN X1.here hx rfl (hb hby d2_49) rfl rfl  (XS.iload X1.here hx rfl (hb hby d2_50) rfl  k)))) ?_
  show own_Fin p e below _ (T1.setTop (mkF m 52 #[.val (.ref a1), .val (.int (1 : Int32)), .val (.int (12 : Int32)), .val (.ref b1), .val (.int (0 : Int32)), .val (.int (1 : Int32))] [(.int (1 : Int32)), (.ref a1), (.int ((u1 &&& (255 : Int32)) ||| ((u2 &&& (255 : Int32)) <<< ((8 : Int32) &&& 31)))), (.int (0 : Int32)), (.ref b1)]))
  refine own_go (fun t k => XS.iconst X1.here hx rfl (hb hby d2_52) (XS.iadd X1.here hx rfl (hb hby d2_53) rfl k)) ?_
  show own_Fin p e below _ (T1.setTop (mkF m 54 #[.val (.ref a1), .val (.int (1 : Int32)), .val (.int (12 : Int32)), .val (.ref b1), .val (.int (0 : Int32)), .val (.int (1 : Int32))] [(.int (3 : Int32)), (.ref a1), (.int ((u1 &&& (255 : Int32)) ||| ((u2 &&& (255 : Int32)) <<< ((8 : Int32) &&& 31)))), (.int (0 : Int32)), (.ref b1)]))
  obtain ⟨cl8, Ar8, q8, S8, M8, H8, G8⟩ := (id f2)
  have hin8 : ¬ ((3 : Int32) < 0 ∨ cl8.slots.size ≤ ((3 : Int32)).toNatClampNeg) := inb_of S8 ⟨by decide, by decide⟩
  have hat8 : cl8.slots[((3 : Int32)).toNatClampNeg]? = some (.int u3) := H8.at hin8 rfl
  refine own_go (fun t k => X1.baloadBytes hx (j := (3 : Int32)) (v := (.int u3)) (by rw [e1]; exact Ar8.1) (State.isArrayOf_alike hZ.alike Ar8.2.1) Ar8.2.2 hin8 hat8 (g := (mkF m 54 #[.val (.ref a1), .val (.int (1 : Int32)), .val (.int (12 : Int32)), .val (.ref b1), .val (.int (0 : Int32)), .val (.int (1 : Int32))] [(.int (3 : Int32)), (.ref a1), (.int ((u1 &&& (255 : Int32)) ||| ((u2 &&& (255 : Int32)) <<< ((8 : Int32) &&& 31)))), (.int (0 : Int32)), (.ref b1)])) rfl rfl (hb hby d2_54) _ (XS.sipush X1.here hx rfl (hb hby d2_55) (XS.iand X1.here hx rfl (hb hby d2_58) rfl (XS.bipush X1.here hx rfl (hb hby d2_59) k)))) ?_
  show own_Fin p e below _ (T1.setTop (mkF m 61 #[.val (.ref a1), .val (.int (1 : Int32)), .val (.int (12 : Int32)), .val (.ref b1), .val (.int (0 : Int32)), .val (.int (1 : Int32))] [(.int (16 : Int32)), (.int (u3 &&& (255 : Int32))), (.int ((u1 &&& (255 : Int32)) ||| ((u2 &&& (255 : Int32)) <<< ((8 : Int32) &&& 31)))), (.int (0 : Int32)), (.ref b1)]))
  refine own_go (fun t k => XS.ishl X1.here hx rfl (hb hby d2_61) rfl (XS.ior X1.here hx rfl (hb hby d2_62) rfl (XS.aloadN X1.here hx rfl (hb hby d2_63) rfl rfl  (XS.iload X1.here hx rfl (hb hby d2_64) rfl  k)))) ?_
  show own_Fin p e below _ (T1.setTop (mkF m 66 #[.val (.ref a1), .val (.int (1 : Int32)), .val (.int (12 : Int32)), .val (.ref b1), .val (.int (0 : Int32)), .val (.int (1 : Int32))] [(.int (1 : Int32)), (.ref a1), (.int (((u1 &&& (255 : Int32)) ||| ((u2 &&& (255 : Int32)) <<< ((8 : Int32) &&& 31))) ||| ((u3 &&& (255 : Int32)) <<< ((16 : Int32) &&& 31)))), (.int (0 : Int32)), (.ref b1)]))
  refine own_go (fun t k => XS.iconst X1.here hx rfl (hb hby d2_66) (XS.iadd X1.here hx rfl (hb hby d2_67) rfl k)) ?_
  show own_Fin p e below _ (T1.setTop (mkF m 68 #[.val (.ref a1), .val (.int (1 : Int32)), .val (.int (12 : Int32)), .val (.ref b1), .val (.int (0 : Int32)), .val (.int (1 : Int32))] [(.int (4 : Int32)), (.ref a1), (.int (((u1 &&& (255 : Int32)) ||| ((u2 &&& (255 : Int32)) <<< ((8 : Int32) &&& 31))) ||| ((u3 &&& (255 : Int32)) <<< ((16 : Int32) &&& 31)))), (.int (0 : Int32)), (.ref b1)]))
  obtain ⟨cl9, Ar9, q9, S9, M9, H9, G9⟩ := (id f2)
  have hin9 : ¬ ((4 : Int32) < 0 ∨ cl9.slots.size ≤ ((4 : Int32)).toNatClampNeg) := inb_of S9 ⟨by decide, by decide⟩
  have hat9 : cl9.slots[((4 : Int32)).toNatClampNeg]? = some (.int u4) := H9.at hin9 rfl
  refine own_go (fun t k => X1.baloadBytes hx (j := (4 : Int32)) (v := (.int u4)) (by rw [e1]; exact Ar9.1) (State.isArrayOf_alike hZ.alike Ar9.2.1) Ar9.2.2 hin9 hat9 (g := (mkF m 68 #[.val (.ref a1), .val (.int (1 : Int32)), .val (.int (12 : Int32)), .val (.ref b1), .val (.int (0 : Int32)), .val (.int (1 : Int32))] [(.int (4 : Int32)), (.ref a1), (.int (((u1 &&& (255 : Int32)) ||| ((u2 &&& (255 : Int32)) <<< ((8 : Int32) &&& 31))) ||| ((u3 &&& (255 : Int32)) <<< ((16 : Int32) &&& 31)))), (.int (0 : Int32)), (.ref b1)])) rfl rfl (hb hby d2_68) _ (XS.sipush X1.here hx rfl (hb hby d2_69) (XS.iand X1.here hx rfl (hb hby d2_72) rfl (XS.bipush X1.here hx rfl (hb hby d2_73) k)))) ?_
  show own_Fin p e below _ (T1.setTop (mkF m 75 #[.val (.ref a1), .val (.int (1 : Int32)), .val (.int (12 : Int32)), .val (.ref b1), .val (.int (0 : Int32)), .val (.int (1 : Int32))] [(.int (24 : Int32)), (.int (u4 &&& (255 : Int32))), (.int (((u1 &&& (255 : Int32)) ||| ((u2 &&& (255 : Int32)) <<< ((8 : Int32) &&& 31))) ||| ((u3 &&& (255 : Int32)) <<< ((16 : Int32) &&& 31)))), (.int (0 : Int32)), (.ref b1)]))
  refine own_go (fun t k => XS.ishl X1.here hx rfl (hb hby d2_75) rfl (XS.ior X1.here hx rfl (hb hby d2_76) rfl k)) ?_
  show own_Fin p e below _ (T1.setTop (mkF m 77 #[.val (.ref a1), .val (.int (1 : Int32)), .val (.int (12 : Int32)), .val (.ref b1), .val (.int (0 : Int32)), .val (.int (1 : Int32))] [(.int ((((u1 &&& (255 : Int32)) ||| ((u2 &&& (255 : Int32)) <<< ((8 : Int32) &&& 31))) ||| ((u3 &&& (255 : Int32)) <<< ((16 : Int32) &&& 31))) ||| ((u4 &&& (255 : Int32)) <<< ((24 : Int32) &&& 31)))), (.int (0 : Int32)), (.ref b1)]))
  obtain ⟨cl10, Ar10, q10, S10, M10, H10, G10⟩ := (id V1)
  have hin10 : ¬ ((0 : Int32) < 0 ∨ cl10.slots.size ≤ ((0 : Int32)).toNatClampNeg) := inb_of S10 ⟨by decide, by decide⟩
  obtain ⟨T10, h10, X10, e10, W10, st10⟩ := stI X1 hx hZ e1 Ar10 (j := (0 : Int32)) hin10 (g := (mkF m 77 #[.val (.ref a1), .val (.int (1 : Int32)), .val (.int (12 : Int32)), .val (.ref b1), .val (.int (0 : Int32)), .val (.int (1 : Int32))] [(.int ((((u1 &&& (255 : Int32)) ||| ((u2 &&& (255 : Int32)) <<< ((8 : Int32) &&& 31))) ||| ((u3 &&& (255 : Int32)) <<< ((16 : Int32) &&& 31))) ||| ((u4 &&& (255 : Int32)) <<< ((24 : Int32) &&& 31)))), (.int (0 : Int32)), (.ref b1)])) rfl rfl (hb hby d2_77)
  have f11 := f2.other W10 ne_a1_b1
  have V10 := Arv.set Ar10 q10 S10 M10 H10 G10 rfl W10 0 rfl (Nat.le_of_ble_eq_true rfl)
  have f13 : Arv Z h10 b1 k1 .int (3 : Int32) [(.int ((((u1 &&& (255 : Int32)) ||| ((u2 &&& (255 : Int32)) <<< ((8 : Int32) &&& 31))) ||| ((u3 &&& (255 : Int32)) <<< ((16 : Int32) &&& 31))) ||| ((u4 &&& (255 : Int32)) <<< ((24 : Int32) &&& 31)))), (.int (0 : Int32)), (.int (0 : Int32))] (.int (0 : Int32)) := V10
  have Zh14 : n0 ≤ h10.size := Nat.le_trans Zh3 (Nat.le_of_eq W10.size.symm)
  have N10 := Fr.snoc X10 N0 g_b1
  have K15 := K4.wr W10 (Or.inr sz_b1)
  refine own_go st10 ?_
  show own_Fin p e below _ (T10.setTop (mkF m 78 #[.val (.ref a1), .val (.int (1 : Int32)), .val (.int (12 : Int32)), .val (.ref b1), .val (.int (0 : Int32)), .val (.int (1 : Int32))] []))
  refine own_go (fun t k => XS.iinc X10.here hx rfl (hb hby d2_78) rfl (l' := #[.val (.ref a1), .val (.int (1 : Int32)), .val (.int (12 : Int32)), .val (.ref b1), .val (.int (1 : Int32)), .val (.int (1 : Int32))]) rfl (XS.goto X10.here hx rfl (pc0 := 81) (pc' := 9) rfl (hb hby d2_81) (by decide) (by decide) (XS.iload X10.here hx rfl (hb hby d2_9) rfl  (XS.aloadN X10.here hx rfl (hb hby d2_11) rfl rfl  k)))) ?_
  show own_Fin p e below _ (T10.setTop (mkF m 12 #[.val (.ref a1), .val (.int (1 : Int32)), .val (.int (12 : Int32)), .val (.ref b1), .val (.int (1 : Int32)), .val (.int (1 : Int32))] [(.ref b1), (.int (1 : Int32))]))
  obtain ⟨cl16, Ar16, q16, S16, M16, H16, G16⟩ := (id f13)
  refine own_go (fun t k => X10.arraylength hx (by rw [e10]; exact Ar16.1) (State.isArrayOf_alike hZ.alike Ar16.2.1) (g := (mkF m 12 #[.val (.ref a1), .val (.int (1 : Int32)), .val (.int (12 : Int32)), .val (.ref b1), .val (.int (1 : Int32)), .val (.int (1 : Int32))] [(.ref b1), (.int (1 : Int32))])) rfl rfl (hb hby d2_12) _ k) ?_
  rw [len_of S16 M16]
  show own_Fin p e below _ (T10.setTop (mkF m 13 #[.val (.ref a1), .val (.int (1 : Int32)), .val (.int (12 : Int32)), .val (.ref b1), .val (.int (1 : Int32)), .val (.int (1 : Int32))] [(.int (3 : Int32)), (.int (1 : Int32))]))
  refine own_go (fun t k => XS.icmpNo X10.here hx rfl (hb hby d2_13) rfl (tlt (by decide : (1 : Int32) < (3 : Int32))).2.1 (XS.iloadN X10.here hx rfl (hb hby d2_16) rfl  (XS.iconst X10.here hx rfl (hb hby d2_17) (XS.iload X10.here hx rfl (hb hby d2_18) rfl  k)))) ?_
  show own_Fin p e below _ (T10.setTop (mkF m 20 #[.val (.ref a1), .val (.int (1 : Int32)), .val (.int (12 : Int32)), .val (.ref b1), .val (.int (1 : Int32)), .val (.int (1 : Int32))] [(.int (1 : Int32)), (.int (4 : Int32)), (.int (1 : Int32))]))
  refine own_go (fun t k => XS.imul X10.here hx rfl (hb hby d2_20) rfl (XS.iadd X10.here hx rfl (hb hby d2_21) rfl (XS.istore X10.here hx rfl (hb hby d2_22) rfl (l' := #[.val (.ref a1), .val (.int (1 : Int32)), .val (.int (12 : Int32)), .val (.ref b1), .val (.int (1 : Int32)), .val (.int (5 : Int32))]) rfl (XS.aloadN X10.here hx rfl (hb hby d2_24) rfl rfl  k)))) ?_
  show own_Fin p e below _ (T10.setTop (mkF m 25 #[.val (.ref a1), .val (.int (1 : Int32)), .val (.int (12 : Int32)), .val (.ref b1), .val (.int (1 : Int32)), .val (.int (5 : Int32))] [(.ref b1)]))
  refine own_go (fun t k => XS.iload X10.here hx rfl (hb hby d2_25) rfl  (XS.aloadN X10.here hx rfl (hb hby d2_27) rfl rfl  (XS.iload X10.here hx rfl (hb hby d2_28) rfl  k))) ?_
  show own_Fin p e below _ (T10.setTop (mkF m 30 #[.val (.ref a1), .val (.int (1 : Int32)), .val (.int (12 : Int32)), .val (.ref b1), .val (.int (1 : Int32)), .val (.int (5 : Int32))] [(.int (5 : Int32)), (.ref a1), (.int (1 : Int32)), (.ref b1)]))
  obtain ⟨cl17, Ar17, q17, S17, M17, H17, G17⟩ := (id f11)
  have hin17 : ¬ ((5 : Int32) < 0 ∨ cl17.slots.size ≤ ((5 : Int32)).toNatClampNeg) := inb_of S17 ⟨by decide, by decide⟩
  have hat17 : cl17.slots[((5 : Int32)).toNatClampNeg]? = some (.int u5) := H17.at hin17 rfl
  refine own_go (fun t k => X10.baloadBytes hx (j := (5 : Int32)) (v := (.int u5)) (by rw [e10]; exact Ar17.1) (State.isArrayOf_alike hZ.alike Ar17.2.1) Ar17.2.2 hin17 hat17 (g := (mkF m 30 #[.val (.ref a1), .val (.int (1 : Int32)), .val (.int (12 : Int32)), .val (.ref b1), .val (.int (1 : Int32)), .val (.int (5 : Int32))] [(.int (5 : Int32)), (.ref a1), (.int (1 : Int32)), (.ref b1)])) rfl rfl (hb hby d2_30) _ (XS.sipush X10.here hx rfl (hb hby d2_31) (XS.iand X10.here hx rfl (hb hby d2_34) rfl (XS.aloadN X10.here hx rfl (hb hby d2_35) rfl rfl  k)))) ?_
  show own_Fin p e below _ (T10.setTop (mkF m 36 #[.val (.ref a1), .val (.int (1 : Int32)), .val (.int (12 : Int32)), .val (.ref b1), .val (.int (1 : Int32)), .val (.int (5 : Int32))] [(.ref a1), (.int (u5 &&& (255 : Int32))), (.int (1 : Int32)), (.ref b1)]))
  refine own_go (fun t k => XS.iload X10.here hx rfl (hb hby d2_36) rfl  (XS.iconst X10.here hx rfl (hb hby d2_38) (XS.iadd X10.here hx rfl (hb hby d2_39) rfl k))) ?_
  show own_Fin p e below _ (T10.setTop (mkF m 40 #[.val (.ref a1), .val (.int (1 : Int32)), .val (.int (12 : Int32)), .val (.ref b1), .val (.int (1 : Int32)), .val (.int (5 : Int32))] [(.int (6 : Int32)), (.ref a1), (.int (u5 &&& (255 : Int32))), (.int (1 : Int32)), (.ref b1)]))
  obtain ⟨cl18, Ar18, q18, S18, M18, H18, G18⟩ := (id f11)
  have hin18 : ¬ ((6 : Int32) < 0 ∨ cl18.slots.size ≤ ((6 : Int32)).toNatClampNeg) := inb_of S18 ⟨by decide, by decide⟩
  have hat18 : cl18.slots[((6 : Int32)).toNatClampNeg]? = some (.int u6) := H18.at hin18 rfl
  refine own_go (fun t k => X10.baloadBytes hx (j := (6 : Int32)) (v := (.int u6)) (by rw [e10]; exact Ar18.1) (State.isArrayOf_alike hZ.alike Ar18.2.1) Ar18.2.2 hin18 hat18 (g := (mkF m 40 #[.val (.ref a1), .val (.int (1 : Int32)), .val (.int (12 : Int32)), .val (.ref b1), .val (.int (1 : Int32)), .val (.int (5 : Int32))] [(.int (6 : Int32)), (.ref a1), (.int (u5 &&& (255 : Int32))), (.int (1 : Int32)), (.ref b1)])) rfl rfl (hb hby d2_40) _ (XS.sipush X10.here hx rfl (hb hby d2_41) (XS.iand X10.here hx rfl (hb hby d2_44) rfl (XS.bipush X10.here hx rfl (hb hby d2_45) k)))) ?_
  show own_Fin p e below _ (T10.setTop (mkF m 47 #[.val (.ref a1), .val (.int (1 : Int32)), .val (.int (12 : Int32)), .val (.ref b1), .val (.int (1 : Int32)), .val (.int (5 : Int32))] [(.int (8 : Int32)), (.int (u6 &&& (255 : Int32))), (.int (u5 &&& (255 : Int32))), (.int (1 : Int32)), (.ref b1)]))
  refine own_go (fun t k => XS.ishl X10.here hx rfl (hb hby d2_47) rfl (XS.ior X10.here hx rfl (hb hby d2_48) rfl (XS.aloadN X10.here hx rfl (hb hby d2_49) rfl rfl  (XS.iload X10.here hx rfl (hb hby d2_50) rfl  k)))) ?_
  show own_Fin p e below _ (T10.setTop (mkF m 52 #[.val (.ref a1), .val (.int (1 : Int32)), .val (.int (12 : Int32)), .val (.ref b1), .val (.int (1 : Int32)), .val (.int (5 : Int32))] [(.int (5 : Int32)), (.ref a1), (.int ((u5 &&& (255 : Int32)) ||| ((u6 &&& (255 : Int32)) <<< ((8 : Int32) &&& 31)))), (.int (1 : Int32)), (.ref b1)]))
  refine own_go (fun t k => XS.iconst X10.here hx rfl (hb hby d2_52) (XS.iadd X10.here hx rfl (hb hby d2_53) rfl k)) ?_
  show own_Fin p e below _ (T10.setTop (mkF m 54 #[.val (.ref a1), .val (.int (1 : Int32)), .val (.int (12 : Int32)), .val (.ref b1), .val (.int (1 : Int32)), .val (.int (5 : Int32))] [(.int (7 : Int32)), (.ref a1), (.int ((u5 &&& (255 : Int32)) ||| ((u6 &&& (255 : Int32)) <<< ((8 : Int32) &&& 31)))), (.int (1 : Int32)), (.ref b1)]))
  obtain ⟨cl19, Ar19, q19, S19, M19, H19, G19⟩ := (id f11)
  have hin19 : ¬ ((7 : Int32) < 0 ∨ cl19.slots.size ≤ ((7 : Int32)).toNatClampNeg) := inb_of S19 ⟨by decide, by decide⟩
  have hat19 : cl19.slots[((7 : Int32)).toNatClampNeg]? = some (.int u7) := H19.at hin19 rfl
  refine own_go (fun t k => X10.baloadBytes hx (j := (7 : Int32)) (v := (.int u7)) (by rw [e10]; exact Ar19.1) (State.isArrayOf_alike hZ.alike Ar19.2.1) Ar19.2.2 hin19 hat19 (g := (mkF m 54 #[.val (.ref a1), .val (.int (1 : Int32)), .val (.int (12 : Int32)), .val (.ref b1), .val (.int (1 : Int32)), .val (.int (5 : Int32))] [(.int (7 : Int32)), (.ref a1), (.int ((u5 &&& (255 : Int32)) ||| ((u6 &&& (255 : Int32)) <<< ((8 : Int32) &&& 31)))), (.int (1 : Int32)), (.ref b1)])) rfl rfl (hb hby d2_54) _ (XS.sipush X10.here hx rfl (hb hby d2_55) (XS.iand X10.here hx rfl (hb hby d2_58) rfl (XS.bipush X10.here hx rfl (hb hby d2_59) k)))) ?_
  show own_Fin p e below _ (T10.setTop (mkF m 61 #[.val (.ref a1), .val (.int (1 : Int32)), .val (.int (12 : Int32)), .val (.ref b1), .val (.int (1 : Int32)), .val (.int (5 : Int32))] [(.int (16 : Int32)), (.int (u7 &&& (255 : Int32))), (.int ((u5 &&& (255 : Int32)) ||| ((u6 &&& (255 : Int32)) <<< ((8 : Int32) &&& 31)))), (.int (1 : Int32)), (.ref b1)]))
  refine own_go (fun t k => XS.ishl X10.here hx rfl (hb hby d2_61) rfl (XS.ior X10.here hx rfl (hb hby d2_62) rfl (XS.aloadN X10.here hx rfl (hb hby d2_63) rfl rfl  (XS.iload X10.here hx rfl (hb hby d2_64) rfl  k)))) ?_
  show own_Fin p e below _ (T10.setTop (mkF m 66 #[.val (.ref a1), .val (.int (1 : Int32)), .val (.int (12 : Int32)), .val (.ref b1), .val (.int (1 : Int32)), .val (.int (5 : Int32))] [(.int (5 : Int32)), (.ref a1), (.int (((u5 &&& (255 : Int32)) ||| ((u6 &&& (255 : Int32)) <<< ((8 : Int32) &&& 31))) ||| ((u7 &&& (255 : Int32)) <<< ((16 : Int32) &&& 31)))), (.int (1 : Int32)), (.ref b1)]))
  refine own_go (fun t k => XS.iconst X10.here hx rfl (hb hby d2_66) (XS.iadd X10.here hx rfl (hb hby d2_67) rfl k)) ?_
  show own_Fin p e below _ (T10.setTop (mkF m 68 #[.val (.ref a1), .val (.int (1 : Int32)), .val (.int (12 : Int32)), .val (.ref b1), .val (.int (1 : Int32)), .val (.int (5 : Int32))] [(.int (8 : Int32)), (.ref a1), (.int (((u5 &&& (255 : Int32)) ||| ((u6 &&& (255 : Int32)) <<< ((8 : Int32) &&& 31))) ||| ((u7 &&& (255 : Int32)) <<< ((16 : Int32) &&& 31)))), (.int (1 : Int32)), (.ref b1)]))
  obtain ⟨cl20, Ar20, q20, S20, M20, H20, G20⟩ := (id f11)
  have hin20 : ¬ ((8 : Int32) < 0 ∨ cl20.slots.size ≤ ((8 : Int32)).toNatClampNeg) := inb_of S20 ⟨by decide, by decide⟩
  have hat20 : cl20.slots[((8 : Int32)).toNatClampNeg]? = some (.int u8) := H20.at hin20 rfl
  refine own_go (fun t k => X10.baloadBytes hx (j := (8 : Int32)) (v := (.int u8)) (by rw [e10]; exact Ar20.1) (State.isArrayOf_alike hZ.alike Ar20.2.1) Ar20.2.2 hin20 hat20 (g := (mkF m 68 #[.val (.ref a1), .val (.int (1 : Int32)), .val (.int (12 : Int32)), .val (.ref b1), .val (.int (1 : Int32)), .val (.int (5 : Int32))] [(.int (8 : Int32)), (.ref a1), (.int (((u5 &&& (255 : Int32)) ||| ((u6 &&& (255 : Int32)) <<< ((8 : Int32) &&& 31))) ||| ((u7 &&& (255 : Int32)) <<< ((16 : Int32) &&& 31)))), (.int (1 : Int32)), (.ref b1)])) rfl rfl (hb hby d2_68) _ (XS.sipush X10.here hx rfl (hb hby d2_69) (XS.iand X10.here hx rfl (hb hby d2_72) rfl (XS.bipush X10.here hx rfl (hb hby d2_73) k)))) ?_
  show own_Fin p e below _ (T10.setTop (mkF m 75 #[.val (.ref a1), .val (.int (1 : Int32)), .val (.int (12 : Int32)), .val (.ref b1), .val (.int (1 : Int32)), .val (.int (5 : Int32))] [(.int (24 : Int32)), (.int (u8 &&& (255 : Int32))), (.int (((u5 &&& (255 : Int32)) ||| ((u6 &&& (255 : Int32)) <<< ((8 : Int32) &&& 31))) ||| ((u7 &&& (255 : Int32)) <<< ((16 : Int32) &&& 31)))), (.int (1 : Int32)), (.ref b1)]))
  refine own_go (fun t k => XS.ishl X10.here hx rfl (hb hby d2_75) rfl (XS.ior X10.here hx rfl (hb hby d2_76) rfl k)) ?_
  show own_Fin p e below _ (T10.setTop (mkF m 77 #[.val (.ref a1), .val (.int (1 : Int32)), .val (.int (12 : Int32)), .val (.ref b1), .val (.int (1 : Int32)), .val (.int (5 : Int32))] [(.int ((((u5 &&& (255 : Int32)) ||| ((u6 &&& (255 : Int32)) <<< ((8 : Int32) &&& 31))) ||| ((u7 &&& (255 : Int32)) <<< ((16 : Int32) &&& 31))) ||| ((u8 &&& (255 : Int32)) <<< ((24 : Int32) &&& 31)))), (.int (1 : Int32)), (.ref b1)]))
  obtain ⟨cl21, Ar21, q21, S21, M21, H21, G21⟩ := (id f13)
  have hin21 : ¬ ((1 : Int32) < 0 ∨ cl21.slots.size ≤ ((1 : Int32)).toNatClampNeg) := inb_of S21 ⟨by decide, by decide⟩
  obtain ⟨T21, h21, X21, e21, W21, st21⟩ := stI X10 hx hZ e10 Ar21 (j := (1 : Int32)) hin21 (g := (mkF m 77 #[.val (.ref a1), .val (.int (1 : Int32)), .val (.int (12 : Int32)), .val (.ref b1), .val (.int (1 : Int32)), .val (.int (5 : Int32))] [(.int ((((u5 &&& (255 : Int32)) ||| ((u6 &&& (255 : Int32)) <<< ((8 : Int32) &&& 31))) ||| ((u7 &&& (255 : Int32)) <<< ((16 : Int32) &&& 31))) ||| ((u8 &&& (255 : Int32)) <<< ((24 : Int32) &&& 31)))), (.int (1 : Int32)), (.ref b1)])) rfl rfl (hb hby d2_77)
  have f22 := f11.other W21 ne_a1_b1
  have V21 := Arv.set Ar21 q21 S21 M21 H21 G21 rfl W21 1 rfl (Nat.le_of_ble_eq_true rfl)
  have f24 : Arv Z h21 b1 k1 .int (3 : Int32) [(.int ((((u1 &&& (255 : Int32)) ||| ((u2 &&& (255 : Int32)) <<< ((8 : Int32) &&& 31))) ||| ((u3 &&& (255 : Int32)) <<< ((16 : Int32) &&& 31))) ||| ((u4 &&& (255 : Int32)) <<< ((24 : Int32) &&& 31)))), (.int ((((u5 &&& (255 : Int32)) ||| ((u6 &&& (255 : Int32)) <<< ((8 : Int32) &&& 31))) ||| ((u7 &&& (255 : Int32)) <<< ((16 : Int32) &&& 31))) ||| ((u8 &&& (255 : Int32)) <<< ((24 : Int32) &&& 31)))), (.int (0 : Int32))] (.int (0 : Int32)) := V21
  have Zh25 : n0 ≤ h21.size := Nat.le_trans Zh14 (Nat.le_of_eq W21.size.symm)
  have N21 := Fr.snoc X21 N10 g_b1
  have K26 := K15.wr W21 (Or.inr sz_b1)
  refine own_go st21 ?_
  show own_Fin p e below _ (T21.setTop (mkF m 78 #[.val (.ref a1), .val (.int (1 : Int32)), .val (.int (12 : Int32)), .val (.ref b1), .val (.int (1 : Int32)), .val (.int (5 : Int32))] []))
  refine own_go (fun t k => XS.iinc X21.here hx rfl (hb hby d2_78) rfl (l' := #[.val (.ref a1), .val (.int (1 : Int32)), .val (.int (12 : Int32)), .val (.ref b1), .val (.int (2 : Int32)), .val (.int (5 : Int32))]) rfl (XS.goto X21.here hx rfl (pc0 := 81) (pc' := 9) rfl (hb hby d2_81) (by decide) (by decide) (XS.iload X21.here hx rfl (hb hby d2_9) rfl  (XS.aloadN X21.here hx rfl (hb hby d2_11) rfl rfl  k)))) ?_
  show own_Fin p e below _ (T21.setTop (mkF m 12 #[.val (.ref a1), .val (.int (1 : Int32)), .val (.int (12 : Int32)), .val (.ref b1), .val (.int (2 : Int32)), .val (.int (5 : Int32))] [(.ref b1), (.int (2 : Int32))]))
  obtain ⟨cl27, Ar27, q27, S27, M27, H27, G27⟩ := (id f24)
  refine own_go (fun t k => X21.arraylength hx (by rw [e21]; exact Ar27.1) (State.isArrayOf_alike hZ.alike Ar27.2.1) (g := (mkF m 12 #[.val (.ref a1), .val (.int (1 : Int32)), .val (.int (12 : Int32)), .val (.ref b1), .val (.int (2 : Int32)), .val (.int (5 : Int32))] [(.ref b1), (.int (2 : Int32))])) rfl rfl (hb hby d2_12) _ k) ?_
  rw [len_of S27 M27]
  show own_Fin p e below _ (T21.setTop (mkF m 13 #[.val (.ref a1), .val (.int (1 : Int32)), .val (.int (12 : Int32)), .val (.ref b1), .val (.int (2 : Int32)), .val (.int (5 : Int32))] [(.int (3 : Int32)), (.int (2 : Int32))]))
  refine own_go (fun t k => XS.icmpNo X21.here hx rfl (hb hby d2_13) rfl (tlt (by decide : (2 : Int32) < (3 : Int32))).2.1 (XS.iloadN X21.here hx rfl (hb hby d2_16) rfl  (XS.iconst X21.here hx rfl (hb hby d2_17) (XS.iload X21.here hx rfl (hb hby d2_18) rfl  k)))) ?_
  show own_Fin p e below _ (T21.setTop (mkF m 20 #[.val (.ref a1), .val (.int (1 : Int32)), .val (.int (12 : Int32)), .val (.ref b1), .val (.int (2 : Int32)), .val (.int (5 : Int32))] [(.int (2 : Int32)), (.int (4 : Int32)), (.int (1 : Int32))]))
  refine own_go (fun t k => XS.imul X21.here hx rfl (hb hby d2_20) rfl (XS.iadd X21.here hx rfl (hb hby d2_21) rfl (XS.istore X21.here hx rfl (hb hby d2_22) rfl (l' := #[.val (.ref a1), .val (.int (1 : Int32)), .val (.int (12 : Int32)), .val (.ref b1), .val (.int (2 : Int32)), .val (.int (9 : Int32))]) rfl (XS.aloadN X21.here hx rfl (hb hby d2_24) rfl rfl  k)))) ?_
  show own_Fin p e below _ (T21.setTop (mkF m 25 #[.val (.ref a1), .val (.int (1 : Int32)), .val (.int (12 : Int32)), .val (.ref b1), .val (.int (2 : Int32)), .val (.int (9 : Int32))] [(.ref b1)]))
  refine own_go (fun t k => XS.iload X21.here hx rfl (hb hby d2_25) rfl  (XS.aloadN X21.here hx rfl (hb hby d2_27) rfl rfl  (XS.iload X21.here hx rfl (hb hby d2_28) rfl  k))) ?_
  show own_Fin p e below _ (T21.setTop (mkF m 30 #[.val (.ref a1), .val (.int (1 : Int32)), .val (.int (12 : Int32)), .val (.ref b1), .val (.int (2 : Int32)), .val (.int (9 : Int32))] [(.int (9 : Int32)), (.ref a1), (.int (2 : Int32)), (.ref b1)]))
  obtain ⟨cl28, Ar28, q28, S28, M28, H28, G28⟩ := (id f22)
  have hin28 : ¬ ((9 : Int32) < 0 ∨ cl28.slots.size ≤ ((9 : Int32)).toNatClampNeg) := inb_of S28 ⟨by decide, by decide⟩
  have hat28 : cl28.slots[((9 : Int32)).toNatClampNeg]? = some (.int u9) := H28.at hin28 rfl
  refine own_go (fun t k => X21.baloadBytes hx (j := (9 : Int32)) (v := (.int u9)) (by rw [e21]; exact Ar28.1) (State.isArrayOf_alike hZ.alike Ar28.2.1) Ar28.2.2 hin28 hat28 (g := (mkF m 30 #[.val (.ref a1), .val (.int (1 : Int32)), .val (.int (12 : Int32)), .val (.ref b1), .val (.int (2 : Int32)), .val (.int (9 : Int32))] [(.int (9 : Int32)), (.ref a1), (.int (2 : Int32)), (.ref b1)])) rfl rfl (hb hby d2_30) _ (XS.sipush X21.here hx rfl (hb hby d2_31) (XS.iand X21.here hx rfl (hb hby d2_34) rfl (XS.aloadN X21.here hx rfl (hb hby d2_35) rfl rfl  k)))) ?_
  show own_Fin p e below _ (T21.setTop (mkF m 36 #[.val (.ref a1), .val (.int (1 : Int32)), .val (.int (12 : Int32)), .val (.ref b1), .val (.int (2 : Int32)), .val (.int (9 : Int32))] [(.ref a1), (.int (u9 &&& (255 : Int32))), (.int (2 : Int32)), (.ref b1)]))
  refine own_go (fun t k => XS.iload X21.here hx rfl (hb hby d2_36) rfl  (XS.iconst X21.here hx rfl (hb hby d2_38) (XS.iadd X21.here hx rfl (hb hby d2_39) rfl k))) ?_
  show own_Fin p e below _ (T21.setTop (mkF m 40 #[.val (.ref a1), .val (.int (1 : Int32)), .val (.int (12 : Int32)), .val (.ref b1), .val (.int (2 : Int32)), .val (.int (9 : Int32))] [(.int (10 : Int32)), (.ref a1), (.int (u9 &&& (255 : Int32))), (.int (2 : Int32)), (.ref b1)]))
  obtain ⟨cl29, Ar29, q29, S29, M29, H29, G29⟩ := (id f22)
  have hin29 : ¬ ((10 : Int32) < 0 ∨ cl29.slots.size ≤ ((10 : Int32)).toNatClampNeg) := inb_of S29 ⟨by decide, by decide⟩
  have hat29 : cl29.slots[((10 : Int32)).toNatClampNeg]? = some (.int u10) := H29.at hin29 rfl
  refine own_go (fun t k => X21.baloadBytes hx (j := (10 : Int32)) (v := (.int u10)) (by rw [e21]; exact Ar29.1) (State.isArrayOf_alike hZ.alike Ar29.2.1) Ar29.2.2 hin29 hat29 (g := (mkF m 40 #[.val (.ref a1), .val (.int (1 : Int32)), .val (.int (12 : Int32)), .val (.ref b1), .val (.int (2 : Int32)), .val (.int (9 : Int32))] [(.int (10 : Int32)), (.ref a1), (.int (u9 &&& (255 : Int32))), (.int (2 : Int32)), (.ref b1)])) rfl rfl (hb hby d2_40) _ (XS.sipush X21.here hx rfl (hb hby d2_41) (XS.iand X21.here hx rfl (hb hby d2_44) rfl (XS.bipush X21.here hx rfl (hb hby d2_45) k)))) ?_
  show own_Fin p e below _ (T21.setTop (mkF m 47 #[.val (.ref a1), .val (.int (1 : Int32)), .val (.int (12 : Int32)), .val (.ref b1), .val (.int (2 : Int32)), .val (.int (9 : Int32))] [(.int (8 : Int32)), (.int (u10 &&& (255 : Int32))), (.int (u9 &&& (255 : Int32))), (.int (2 : Int32)), (.ref b1)]))
  refine own_go (fun t k => XS.ishl X21.here hx rfl (hb hby d2_47) rfl (XS.ior X21.here hx rfl (hb hby d2_48) rfl (XS.aloadN X21.here hx rfl (hb hby d2_49) rfl rfl  (XS.iload X21.here hx rfl (hb hby d2_50) rfl  k)))) ?_
  show own_Fin p e below _ (T21.setTop (mkF m 52 #[.val (.ref a1), .val (.int (1 : Int32)), .val (.int (12 : Int32)), .val (.ref b1), .val (.int (2 : Int32)), .val (.int (9 : Int32))] [(.int (9 : Int32)), (.ref a1), (.int ((u9 &&& (255 : Int32)) ||| ((u10 &&& (255 : Int32)) <<< ((8 : Int32) &&& 31)))), (.int (2 : Int32)), (.ref b1)]))
  refine own_go (fun t k => XS.iconst X21.here hx rfl (hb hby d2_52) (XS.iadd X21.here hx rfl (hb hby d2_53) rfl k)) ?_
  show own_Fin p e below _ (T21.setTop (mkF m 54 #[.val (.ref a1), .val (.int (1 : Int32)), .val (.int (12 : Int32)), .val (.ref b1), .val (.int (2 : Int32)), .val (.int (9 : Int32))] [(.int (11 : Int32)), (.ref a1), (.int ((u9 &&& (255 : Int32)) ||| ((u10 &&& (255 : Int32)) <<< ((8 : Int32) &&& 31)))), (.int (2 : Int32)), (.ref b1)]))
  obtain ⟨cl30, Ar30, q30, S30, M30, H30, G30⟩ := (id f22)
  have hin30 : ¬ ((11 : Int32) < 0 ∨ cl30.slots.size ≤ ((11 : Int32)).toNatClampNeg) := inb_of S30 ⟨by decide, by decide⟩
  have hat30 : cl30.slots[((11 : Int32)).toNatClampNeg]? = some (.int u11) := H30.at hin30 rfl
  refine own_go (fun t k => X21.baloadBytes hx (j := (11 : Int32)) (v := (.int u11)) (by rw [e21]; exact Ar30.1) (State.isArrayOf_alike hZ.alike Ar30.2.1) Ar30.2.2 hin30 hat30 (g := (mkF m 54 #[.val (.ref a1), .val (.int (1 : Int32)), .val (.int (12 : Int32)), .val (.ref b1), .val (.int (2 : Int32)), .val (.int (9 : Int32))] [(.int (11 : Int32)), (.ref a1), (.int ((u9 &&& (255 : Int32)) ||| ((u10 &&& (255 : Int32)) <<< ((8 : Int32) &&& 31)))), (.int (2 : Int32)), (.ref b1)])) rfl rfl (hb hby d2_54) _ (XS.sipush X21.here hx rfl (hb hby d2_55) (XS.iand X21.here hx rfl (hb hby d2_58) rfl (XS.bipush X21.here hx rfl (hb hby d2_59) k)))) ?_
  show own_Fin p e below _ (T21.setTop (mkF m 61 #[.val (.ref a1), .val (.int (1 : Int32)), .val (.int (12 : Int32)), .val (.ref b1), .val (.int (2 : Int32)), .val (.int (9 : Int32))] [(.int (16 : Int32)), (.int (u11 &&& (255 : Int32))), (.int ((u9 &&& (255 : Int32)) ||| ((u10 &&& (255 : Int32)) <<< ((8 : Int32) &&& 31)))), (.int (2 : Int32)), (.ref b1)]))
  refine own_go (fun t k => XS.ishl X21.here hx rfl (hb hby d2_61) rfl (XS.ior X21.here hx rfl (hb hby d2_62) rfl (XS.aloadN X21.here hx rfl (hb hby d2_63) rfl rfl  (XS.iload X21.here hx rfl (hb hby d2_64) rfl  k)))) ?_
  show own_Fin p e below _ (T21.setTop (mkF m 66 #[.val (.ref a1), .val (.int (1 : Int32)), .val (.int (12 : Int32)), .val (.ref b1), .val (.int (2 : Int32)), .val (.int (9 : Int32))] [(.int (9 : Int32)), (.ref a1), (.int (((u9 &&& (255 : Int32)) ||| ((u10 &&& (255 : Int32)) <<< ((8 : Int32) &&& 31))) ||| ((u11 &&& (255 : Int32)) <<< ((16 : Int32) &&& 31)))), (.int (2 : Int32)), (.ref b1)]))
  refine own_go (fun t k => XS.iconst X21.here hx rfl (hb hby d2_66) (XS.iadd X21.here hx rfl (hb hby d2_67) rfl k)) ?_
  show own_Fin p e below _ (T21.setTop (mkF m 68 #[.val (.ref a1), .val (.int (1 : Int32)), .val (.int (12 : Int32)), .val (.ref b1), .val (.int (2 : Int32)), .val (.int (9 : Int32))] [(.int (12 : Int32)), (.ref a1), (.int (((u9 &&& (255 : Int32)) ||| ((u10 &&& (255 : Int32)) <<< ((8 : Int32) &&& 31))) ||| ((u11 &&& (255 : Int32)) <<< ((16 : Int32) &&& 31)))), (.int (2 : Int32)), (.ref b1)]))
  obtain ⟨cl31, Ar31, q31, S31, M31, H31, G31⟩ := (id f22)
  have hin31 : ¬ ((12 : Int32) < 0 ∨ cl31.slots.size ≤ ((12 : Int32)).toNatClampNeg) := inb_of S31 ⟨by decide, by decide⟩
  have hat31 : cl31.slots[((12 : Int32)).toNatClampNeg]? = some (.int u12) := H31.at hin31 rfl
  refine own_go (fun t k => X21.baloadBytes hx (j := (12 : Int32)) (v := (.int u12)) (by rw [e21]; exact Ar31.1) (State.isArrayOf_alike hZ.alike Ar31.2.1) Ar31.2.2 hin31 hat31 (g := (mkF m 68 #[.val (.ref a1), .val (.int (1 : Int32)), .val (.int (12 : Int32)), .val (.ref b1), .val (.int (2 : Int32)), .val (.int (9 : Int32))] [(.int (12 : Int32)), (.ref a1), (.int (((u9 &&& (255 : Int32)) ||| ((u10 &&& (255 : Int32)) <<< ((8 : Int32) &&& 31))) ||| ((u11 &&& (255 : Int32)) <<< ((16 : Int32) &&& 31)))), (.int (2 : Int32)), (.ref b1)])) rfl rfl (hb hby d2_68) _ (XS.sipush X21.here hx rfl (hb hby d2_69) (XS.iand X21.here hx rfl (hb hby d2_72) rfl (XS.bipush X21.here hx rfl (hb hby d2_73) k)))) ?_
  show own_Fin p e below _ (T21.setTop (mkF m 75 #[.val (.ref a1), .val (.int (1 : Int32)), .val (.int (12 : Int32)), .val (.ref b1), .val (.int (2 : Int32)), .val (.int (9 : Int32))] [(.int (24 : Int32)), (.int (u12 &&& (255 : Int32))), (.int (((u9 &&& (255 : Int32)) ||| ((u10 &&& (255 : Int32)) <<< ((8 : Int32) &&& 31))) ||| ((u11 &&& (255 : Int32)) <<< ((16 : Int32) &&& 31)))), (.int (2 : Int32)), (.ref b1)]))
  refine own_go (fun t k => XS.ishl X21.here hx rfl (hb hby d2_75) rfl (XS.ior X21.here hx rfl (hb hby d2_76) rfl k)) ?_
  show own_Fin p e below _ (T21.setTop (mkF m 77 #[.val (.ref a1), .val (.int (1 : Int32)), .val (.int (12 : Int32)), .val (.ref b1), .val (.int (2 : Int32)), .val (.int (9 : Int32))] [(.int ((((u9 &&& (255 : Int32)) ||| ((u10 &&& (255 : Int32)) <<< ((8 : Int32) &&& 31))) ||| ((u11 &&& (255 : Int32)) <<< ((16 : Int32) &&& 31))) ||| ((u12 &&& (255 : Int32)) <<< ((24 : Int32) &&& 31)))), (.int (2 : Int32)), (.ref b1)]))
  obtain ⟨cl32, Ar32, q32, S32, M32, H32, G32⟩ := (id f24)
  have hin32 : ¬ ((2 : Int32) < 0 ∨ cl32.slots.size ≤ ((2 : Int32)).toNatClampNeg) := inb_of S32 ⟨by decide, by decide⟩
  obtain ⟨T32, h32, X32, e32, W32, st32⟩ := stI X21 hx hZ e21 Ar32 (j := (2 : Int32)) hin32 (g := (mkF m 77 #[.val (.ref a1), .val (.int (1 : Int32)), .val (.int (12 : Int32)), .val (.ref b1), .val (.int (2 : Int32)), .val (.int (9 : Int32))] [(.int ((((u9 &&& (255 : Int32)) ||| ((u10 &&& (255 : Int32)) <<< ((8 : Int32) &&& 31))) ||| ((u11 &&& (255 : Int32)) <<< ((16 : Int32) &&& 31))) ||| ((u12 &&& (255 : Int32)) <<< ((24 : Int32) &&& 31)))), (.int (2 : Int32)), (.ref b1)])) rfl rfl (hb hby d2_77)
  have f33 := f22.other W32 ne_a1_b1
  have V32 := Arv.set Ar32 q32 S32 M32 H32 G32 rfl W32 2 rfl (Nat.le_of_ble_eq_true rfl)
  have f35 : Arv Z h32 b1 k1 .int (3 : Int32) [(.int ((((u1 &&& (255 : Int32)) ||| ((u2 &&& (255 : Int32)) <<< ((8 : Int32) &&& 31))) ||| ((u3 &&& (255 : Int32)) <<< ((16 : Int32) &&& 31))) ||| ((u4 &&& (255 : Int32)) <<< ((24 : Int32) &&& 31)))), (.int ((((u5 &&& (255 : Int32)) ||| ((u6 &&& (255 : Int32)) <<< ((8 : Int32) &&& 31))) ||| ((u7 &&& (255 : Int32)) <<< ((16 : Int32) &&& 31))) ||| ((u8 &&& (255 : Int32)) <<< ((24 : Int32) &&& 31)))), (.int ((((u9 &&& (255 : Int32)) ||| ((u10 &&& (255 : Int32)) <<< ((8 : Int32) &&& 31))) ||| ((u11 &&& (255 : Int32)) <<< ((16 : Int32) &&& 31))) ||| ((u12 &&& (255 : Int32)) <<< ((24 : Int32) &&& 31))))] (.int (0 : Int32)) := V32
  have Zh36 : n0 ≤ h32.size := Nat.le_trans Zh25 (Nat.le_of_eq W32.size.symm)
  have N32 := Fr.snoc X32 N21 g_b1
  have K37 := K26.wr W32 (Or.inr sz_b1)
  refine own_go st32 ?_
  show own_Fin p e below _ (T32.setTop (mkF m 78 #[.val (.ref a1), .val (.int (1 : Int32)), .val (.int (12 : Int32)), .val (.ref b1), .val (.int (2 : Int32)), .val (.int (9 : Int32))] []))
  refine own_go (fun t k => XS.iinc X32.here hx rfl (hb hby d2_78) rfl (l' := #[.val (.ref a1), .val (.int (1 : Int32)), .val (.int (12 : Int32)), .val (.ref b1), .val (.int (3 : Int32)), .val (.int (9 : Int32))]) rfl (XS.goto X32.here hx rfl (pc0 := 81) (pc' := 9) rfl (hb hby d2_81) (by decide) (by decide) (XS.iload X32.here hx rfl (hb hby d2_9) rfl  (XS.aloadN X32.here hx rfl (hb hby d2_11) rfl rfl  k)))) ?_
  show own_Fin p e below _ (T32.setTop (mkF m 12 #[.val (.ref a1), .val (.int (1 : Int32)), .val (.int (12 : Int32)), .val (.ref b1), .val (.int (3 : Int32)), .val (.int (9 : Int32))] [(.ref b1), (.int (3 : Int32))]))
  obtain ⟨cl38, Ar38, q38, S38, M38, H38, G38⟩ := (id f35)
  refine own_go (fun t k => X32.arraylength hx (by rw [e32]; exact Ar38.1) (State.isArrayOf_alike hZ.alike Ar38.2.1) (g := (mkF m 12 #[.val (.ref a1), .val (.int (1 : Int32)), .val (.int (12 : Int32)), .val (.ref b1), .val (.int (3 : Int32)), .val (.int (9 : Int32))] [(.ref b1), (.int (3 : Int32))])) rfl rfl (hb hby d2_12) _ k) ?_
  rw [len_of S38 M38]
  show own_Fin p e below _ (T32.setTop (mkF m 13 #[.val (.ref a1), .val (.int (1 : Int32)), .val (.int (12 : Int32)), .val (.ref b1), .val (.int (3 : Int32)), .val (.int (9 : Int32))] [(.int (3 : Int32)), (.int (3 : Int32))]))
  refine own_go (fun t k => XS.icmpYes X32.here hx rfl (pc0 := 13) (pc' := 84) rfl (hb hby d2_13) rfl (flt (by decide : ¬ ((3 : Int32) < (3 : Int32)))).2.1 (by decide) (by decide) (XS.aloadN X32.here hx rfl (hb hby d2_84) rfl rfl  k)) ?_
  show own_Fin p e below _ (T32.setTop (mkF m 85 #[.val (.ref a1), .val (.int (1 : Int32)), .val (.int (12 : Int32)), .val (.ref b1), .val (.int (3 : Int32)), .val (.int (9 : Int32))] [(.ref b1)]))
  exact own_out X32 (fun h => by rw [Bd.returns] at h; cases h) Bd.notSynchronized (fun fs hr => retOut X32 hx Bd.returns rfl (Or.inr (Or.inr (Or.inr (Or.inr ⟨rfl, rfl, rfl⟩)))) (hb hby d2_85) hr) (by rw [e32]; exact ⟨_, _, rfl, N32, sz_b1, K37, f35⟩) (by decide) (by decide)
theorem own_bit (p : Int32) : (p &&& (1 : Int32)) = (0 : Int32) ∨ (p &&& (1 : Int32)) = (1 : Int32) := and_one p
theorem own_two (p : Int32) : (((p.toUInt32 >>> ((1 : Int32) &&& 31).toUInt32).toInt32) &&& (3 : Int32)) = (0 : Int32) ∨ (((p.toUInt32 >>> ((1 : Int32) &&& 31).toUInt32).toInt32) &&& (3 : Int32)) = (1 : Int32) ∨ (((p.toUInt32 >>> ((1 : Int32) &&& 31).toUInt32).toInt32) &&& (3 : Int32)) = (2 : Int32) ∨ (((p.toUInt32 >>> ((1 : Int32) &&& 31).toUInt32).toInt32) &&& (3 : Int32)) = (3 : Int32) := by
  generalize ((p.toUInt32 >>> ((1 : Int32) &&& 31).toUInt32).toInt32) = y
  have a := c_mask y 3 2 (by decide) (by decide)
  have e0 : (0 : Int32).toInt = 0 := rfl
  have e1 : (1 : Int32).toInt = 1 := rfl
  have e2 : (2 : Int32).toInt = 2 := rfl
  have e3 : (3 : Int32).toInt = 3 := rfl
  simp only [← Int32.toInt_inj]
  omega
theorem own_b8 (x : Int32) : ((nar .byte (x.toInt8.toInt32)) &&& (255 : Int32)).toInt = x.toInt % 256 := by
  have a := c_mask (nar .byte (x.toInt8.toInt32)) 255 8 (by decide) (by decide)
  have b := c_i2b x
  have c := c_i2b (x.toInt8.toInt32)
  have e : nar .byte (x.toInt8.toInt32) = (x.toInt8.toInt32).toInt8.toInt32 := rfl
  rw [e] at a ⊢
  rw [a]
  omega
theorem own_dec (a : Int32) : own_w (nar .byte (a.toInt8.toInt32)) (nar .byte (((a.toUInt32 >>> ((8 : Int32) &&& 31).toUInt32).toInt32).toInt8.toInt32)) (nar .byte (((a.toUInt32 >>> ((16 : Int32) &&& 31).toUInt32).toInt32).toInt8.toInt32)) (nar .byte (((a.toUInt32 >>> ((24 : Int32) &&& 31).toUInt32).toInt32).toInt8.toInt32)) = a := by
  have r := rng32 a
  have s1 := c_iushr a 8 8 (by decide) (by decide)
  have s2 := c_iushr a 16 16 (by decide) (by decide)
  have s3 := c_iushr a 24 24 (by decide) (by decide)
  have b0 := own_b8 a
  have b1 := own_b8 ((a.toUInt32 >>> ((8 : Int32) &&& 31).toUInt32).toInt32)
  have b2 := own_b8 ((a.toUInt32 >>> ((16 : Int32) &&& 31).toUInt32).toInt32)
  have b3 := own_b8 ((a.toUInt32 >>> ((24 : Int32) &&& 31).toUInt32).toInt32)
  rw [s1] at b1
  rw [s2] at b2
  rw [s3] at b3
  unfold own_w
  generalize ((nar .byte (a.toInt8.toInt32)) &&& (255 : Int32)) = y0 at *
  generalize ((nar .byte (((a.toUInt32 >>> ((8 : Int32) &&& 31).toUInt32).toInt32).toInt8.toInt32)) &&& (255 : Int32)) = y1 at *
  generalize ((nar .byte (((a.toUInt32 >>> ((16 : Int32) &&& 31).toUInt32).toInt32).toInt8.toInt32)) &&& (255 : Int32)) = y2 at *
  generalize ((nar .byte (((a.toUInt32 >>> ((24 : Int32) &&& 31).toUInt32).toInt32).toInt8.toInt32)) &&& (255 : Int32)) = y3 at *
  have l1 := c_ishl y1 8 8 (by decide)
  have l2 := c_ishl y2 16 16 (by decide)
  have l3 := c_ishl y3 24 24 (by decide)
  have g1 := rng32 (y1 <<< ((8 : Int32) &&& 31))
  have g2 := rng32 (y2 <<< ((16 : Int32) &&& 31))
  have g3 := rng32 (y3 <<< ((24 : Int32) &&& 31))
  generalize y1 <<< ((8 : Int32) &&& 31) = z1 at *
  generalize y2 <<< ((16 : Int32) &&& 31) = z2 at *
  generalize y3 <<< ((24 : Int32) &&& 31) = z3 at *
  have o1 := c_or' y0 z1 8 (by decide) 256 (by decide) (by omega) (by omega) (by omega)
  have q1 := rng32 (y0 ||| z1)
  generalize y0 ||| z1 = w1 at *
  have o2 := c_or' w1 z2 16 (by decide) 65536 (by decide) (by omega) (by omega) (by omega)
  have q2 := rng32 (w1 ||| z2)
  generalize w1 ||| z2 = w2 at *
  have o3 := c_or' w2 z3 24 (by decide) 16777216 (by decide) (by omega) (by omega) (by omega)
  have q3 := rng32 (w2 ||| z3)
  generalize w2 ||| z3 = w3 at *
  rw [← Int32.toInt_inj]
  omega

theorem pd_0 : parseMethodDescriptor "([BII)V" = some ⟨[(.array .byte), .int, .int], none⟩ := by decide +kernel
theorem pd_1 : parseMethodDescriptor "([BII)[I" = some ⟨[(.array .byte), .int, .int], some (.array .int)⟩ := by decide +kernel
theorem ef_0 (m : MethodId) (x0 : Int32) (x1 : Int32) (x2 : Int32) (x3 : Int32) (x4 : Int32)  : entryFrame m #[(.int x0), (.int x1), (.int x2), (.int x3), (.int x4)] maxLocals = mkF m 0 #[.val (.int x0), .val (.int x1), .val (.int x2), .val (.int x3), .val (.int x4), .unset, .unset, .unset, .unset] [] := by first | (simp [entryFrame, mkF, argsToLocals, Value.category, maxLocals]; done) | rfl
def own_q0 (Z : State) (p1 : Int32) (p2 : Int32) (p3 : Int32) (p4 : Int32) (p5 : Int32) (h0 : Heap) (n0 : Nat) (v : Option Value) (h : Heap) (L : List Loc) : Prop := v = some (.int (1 : Int32)) ∧ Fr n0 L
set_option maxRecDepth 65536 in
set_option maxHeartbeats 40000000 in
theorem rm0 (l : Launch) (Z : State) (a0 : Array Value) (hw : ∀ d ∈ tables_1, d.before a0 Z = true) (ws : List Jvm.Cond) (p1 : Int32) (p2 : Int32) (p3 : Int32) (p4 : Int32) (p5 : Int32) (h0 : Heap) (n0 : Nat) (Z0 : n0 ≤ h0.size) :
    MetFree l x (head1 (Jvm.Cond.code x code maxLocals ret :: ws) room_1) (fun a U => a = #[(.int p1), (.int p2), (.int p3), (.int p4), (.int p5)] ∧ Z.Warmed39 U.vm ∧ U.heap = h0) (fun _ _ _ _ _ => True) (fun _ U o U' => ∃ v L, o = .returned v ∧ (own_q0 Z p1 p2 p3 p4 p5 h0 n0) v U'.heap L ∧ FrameEnd U o U' L room_1.cells room_1.slots) := by
  refine MetFree.of_bodySF (plainFor_of_name pn_0) hisR ?_
  intro p e s m args below meth c s₁ Bd hml0 hP hK
  obtain ⟨rfl, hZ, hh⟩ := hP
  have hx := Bd.exec
  have hby := Bd.bytes
  have hml : c.maxLocals = 9 := hml0
  have hown : s.vm.findClass "com/example/palimpsest/palimpsest/chain/CurveScalarsDecodePinLaw" = some m.cls := findClass_of_methodNamed Bd.named
  have hnm := (name_of_methodNamed Bd.named Bd.method).1
  have X0 : Stand p l e room_1 s m #[(.int p1), (.int p2), (.int p3), (.int p4), (.int p5)] below meth c s₁ [] 0 0 := Stand.of_body Bd
  have e0 : s₁.heap = h0 := by rw [← hh, Bd.state]; rfl
  have N0 := Fr.nil n0
  have hw_0 := hw _ (List.mem_of_getElem? (i := 0) rfl)
  have hw_1 := hw _ (List.mem_of_getElem? (i := 1) rfl)
  have hw_2 := hw _ (List.mem_of_getElem? (i := 2) rfl)
  have hw_3 := hw _ (List.mem_of_getElem? (i := 3) rfl)
  have hw_4 := hw _ (List.mem_of_getElem? (i := 4) rfl)
  have hw_5 := hw _ (List.mem_of_getElem? (i := 5) rfl)
  have hw_6 := hw _ (List.mem_of_getElem? (i := 6) rfl)
  have hw_7 := hw _ (List.mem_of_getElem? (i := 7) rfl)
  have hw_8 := hw _ (List.mem_of_getElem? (i := 8) rfl)
  show own_Fin p e below (own_A s room_1.cells room_1.slots (own_q0 Z p1 p2 p3 p4 p5 h0 n0)) _
  refine own_go (fun t k => castTop (ef_0 m (p1) (p2) (p3) (p4) (p5)) k) ?_
  show own_Fin p e below _ (s₁.setTop (mkF m 0 #[.val (.int p1), .val (.int p2), .val (.int p3), .val (.int p4), .val (.int p5), .unset, .unset, .unset, .unset] []))
  refine own_go (fun t k => XS.iload X0.here hx rfl (hb hby at_0) rfl  (XS.iconst X0.here hx rfl (hb hby at_2) (XS.iand X0.here hx rfl (hb hby at_3) rfl k))) ?_
  show own_Fin p e below _ (s₁.setTop (mkF m 4 #[.val (.int p1), .val (.int p2), .val (.int p3), .val (.int p4), .val (.int p5), .unset, .unset, .unset, .unset] [(.int (p5 &&& (1 : Int32)))]))
  rcases own_bit p5 with h | h
  · skip
    rw [h]
    show own_Fin p e below _ (s₁.setTop (mkF m 4 #[.val (.int p1), .val (.int p2), .val (.int p3), .val (.int p4), .val (.int p5), .unset, .unset, .unset, .unset] [(.int (0 : Int32))]))
    refine own_go (fun t k => XS.istore X0.here hx rfl (hb hby at_4) rfl (l' := #[.val (.int p1), .val (.int p2), .val (.int p3), .val (.int p4), .val (.int p5), .val (.int (0 : Int32)), .unset, .unset, .unset]) rfl (XS.iload X0.here hx rfl (hb hby at_6) rfl  (XS.iconst X0.here hx rfl (hb hby at_8) (XS.iushr X0.here hx rfl (hb hby at_9) rfl k)))) ?_
    show own_Fin p e below _ (s₁.setTop (mkF m 10 #[.val (.int p1), .val (.int p2), .val (.int p3), .val (.int p4), .val (.int p5), .val (.int (0 : Int32)), .unset, .unset, .unset] [(.int ((p5.toUInt32 >>> ((1 : Int32) &&& 31).toUInt32).toInt32))]))
    refine own_go (fun t k => XS.iconst X0.here hx rfl (hb hby at_10) (XS.iand X0.here hx rfl (hb hby at_11) rfl k)) ?_
    show own_Fin p e below _ (s₁.setTop (mkF m 12 #[.val (.int p1), .val (.int p2), .val (.int p3), .val (.int p4), .val (.int p5), .val (.int (0 : Int32)), .unset, .unset, .unset] [(.int (((p5.toUInt32 >>> ((1 : Int32) &&& 31).toUInt32).toInt32) &&& (3 : Int32)))]))
    rcases own_two p5 with h | h | h | h
    · skip
      rw [h]
      show own_Fin p e below _ (s₁.setTop (mkF m 12 #[.val (.int p1), .val (.int p2), .val (.int p3), .val (.int p4), .val (.int p5), .val (.int (0 : Int32)), .unset, .unset, .unset] [(.int (0 : Int32))]))
      refine own_go (fun t k => XS.istore X0.here hx rfl (hb hby at_12) rfl (l' := #[.val (.int p1), .val (.int p2), .val (.int p3), .val (.int p4), .val (.int p5), .val (.int (0 : Int32)), .val (.int (0 : Int32)), .unset, .unset]) rfl (XS.bipush X0.here hx rfl (hb hby at_14) k)) ?_
      show own_Fin p e below _ (s₁.setTop (mkF m 16 #[.val (.int p1), .val (.int p2), .val (.int p3), .val (.int p4), .val (.int p5), .val (.int (0 : Int32)), .val (.int (0 : Int32)), .unset, .unset] [(.int (13 : Int32))]))
      obtain ⟨T1, h1, k1, X1, e1, E1, A1, st1⟩ := newP (aty := .byte) X0 hx hZ hw_0 e0 (g := (mkF m 16 #[.val (.int p1), .val (.int p2), .val (.int p3), .val (.int p4), .val (.int p5), .val (.int (0 : Int32)), .val (.int (0 : Int32)), .unset, .unset] [(.int (13 : Int32))])) rfl (hb hby at_16) rfl (by decide) (cap := 13) (by decide) (by decide) (by decide) (by decide)
      obtain ⟨b1, g1⟩ : ∃ z, z = h0.size := ⟨_, rfl⟩
      rw [← g1] at A1 st1
      have g_b1 : n0 ≤ b1 := Nat.le_trans Z0 (Nat.le_of_eq g1.symm)
      have Zh2 : n0 ≤ h1.size := Nat.le_trans Z0 E1.1
      have V1 : Arv Z h1 b1 k1 .byte (13 : Int32) [(.int (0 : Int32)), (.int (0 : Int32)), (.int (0 : Int32)), (.int (0 : Int32)), (.int (0 : Int32)), (.int (0 : Int32)), (.int (0 : Int32)), (.int (0 : Int32)), (.int (0 : Int32)), (.int (0 : Int32)), (.int (0 : Int32)), (.int (0 : Int32)), (.int (0 : Int32))] (.int (0 : Int32)) := (Arv.new A1 (by decide)).pad (pad_rep [] (.int (0 : Int32)) 13)
      refine own_go st1 ?_
      show own_Fin p e below _ (T1.setTop (mkF m 18 #[.val (.int p1), .val (.int p2), .val (.int p3), .val (.int p4), .val (.int p5), .val (.int (0 : Int32)), .val (.int (0 : Int32)), .unset, .unset] [(.ref b1)]))
      refine own_go (fun t k => XS.astore X1.here hx rfl (hb hby at_18) rfl rfl (l' := #[.val (.int p1), .val (.int p2), .val (.int p3), .val (.int p4), .val (.int p5), .val (.int (0 : Int32)), .val (.int (0 : Int32)), .val (.ref b1), .unset]) rfl (XS.aload X1.here hx rfl (hb hby at_20) rfl rfl  (XS.iload X1.here hx rfl (hb hby at_22) rfl  (XS.iloadN X1.here hx rfl (hb hby at_24) rfl  k)))) ?_
      show own_Fin p e below _ (T1.setTop (mkF m 25 #[.val (.int p1), .val (.int p2), .val (.int p3), .val (.int p4), .val (.int p5), .val (.int (0 : Int32)), .val (.int (0 : Int32)), .val (.ref b1), .unset] [(.int p1), (.int (0 : Int32)), (.ref b1)]))
      obtain ⟨_, _, ⟨T3, L3, k3, n3⟩, -, X3, ⟨Lc3, hQ3, l3, y3, z3⟩, st3⟩ := Jvm.LawKit.callS X1 hx (y := (⟨"com/example/palimpsest/palimpsest/chain/CurveScalarsDecodePinLaw", "put", "([BII)V"⟩ : MethodName)) hown (mvT hZ hw_1) (mvT hZ hw_2) (mvT hZ hw_3) (mvT hZ hw_4) (by decide) (backOf (W := 0) (rm1p0 l Z a0 hw [] (b1) (p1) k1 ((0 : Int32)) ((0 : Int32)) ((0 : Int32)) ((0 : Int32)) ((0 : Int32)) ((0 : Int32)) ((0 : Int32)) ((0 : Int32)) ((0 : Int32)) ((0 : Int32)) ((0 : Int32)) ((0 : Int32)) ((0 : Int32)) h1 n0 Zh2 V1 g_b1) hZ hw_4 hw_3 (by decide) (by decide)) (g := (mkF m 25 #[.val (.int p1), .val (.int p2), .val (.int p3), .val (.int p4), .val (.int p5), .val (.int (0 : Int32)), .val (.int (0 : Int32)), .val (.ref b1), .unset] [(.int p1), (.int (0 : Int32)), (.ref b1)])) rfl (by rw [hml]; rfl) (argsL := [(.ref b1), (.int (0 : Int32)), (.int p1)]) (rest := []) (lenOf pd_0 rfl) rfl (by show 2 * 0 + _ ≤ _; exact Nat.le_of_eq rfl) (hb hby at_25) (fun _ _ => ⟨rfl, e1, (by decide : 1 + 0 ≤ _), (by decide : 13 + 0 ≤ _)⟩)
      dsimp only [Pt.U, Pt.locs, Pt.cells, Pt.slots] at X3 l3 y3 z3 st3 hQ3
      subst l3 y3 z3
      obtain ⟨rfl, N3q, K3, V3⟩ := hQ3
      have N3 := Fr.app N0 N3q
      have Zh5 : n0 ≤ T3.heap.size := Nat.le_trans Zh2 K3.1
      refine own_go st3 ?_
      show own_Fin p e below _ (T3.setTop (mkF m 28 #[.val (.int p1), .val (.int p2), .val (.int p3), .val (.int p4), .val (.int p5), .val (.int (0 : Int32)), .val (.int (0 : Int32)), .val (.ref b1), .unset] []))
      refine own_go (fun t k => XS.aload X3.here hx rfl (hb hby at_28) rfl rfl  (XS.iload X3.here hx rfl (hb hby at_30) rfl  (XS.iconst X3.here hx rfl (hb hby at_32) (XS.iadd X3.here hx rfl (hb hby at_33) rfl k)))) ?_
      show own_Fin p e below _ (T3.setTop (mkF m 34 #[.val (.int p1), .val (.int p2), .val (.int p3), .val (.int p4), .val (.int p5), .val (.int (0 : Int32)), .val (.int (0 : Int32)), .val (.ref b1), .unset] [(.int (4 : Int32)), (.ref b1)]))
      refine own_go (fun t k => XS.iloadN X3.here hx rfl (hb hby at_34) rfl  k) ?_
      show own_Fin p e below _ (T3.setTop (mkF m 35 #[.val (.int p1), .val (.int p2), .val (.int p3), .val (.int p4), .val (.int p5), .val (.int (0 : Int32)), .val (.int (0 : Int32)), .val (.ref b1), .unset] [(.int p2), (.int (4 : Int32)), (.ref b1)]))
      obtain ⟨_, _, ⟨T6, L6, k6, n6⟩, -, X6, ⟨Lc6, hQ6, l6, y6, z6⟩, st6⟩ := Jvm.LawKit.callS X3 hx (y := (⟨"com/example/palimpsest/palimpsest/chain/CurveScalarsDecodePinLaw", "put", "([BII)V"⟩ : MethodName)) hown (mvT hZ hw_1) (mvT hZ hw_2) (mvT hZ hw_3) (mvT hZ hw_4) (by decide) (backOf (W := 0) (rm1p4 l Z a0 hw [] (b1) (p2) k1 ((nar .byte (p1.toInt8.toInt32))) ((nar .byte (((p1.toUInt32 >>> ((8 : Int32) &&& 31).toUInt32).toInt32).toInt8.toInt32))) ((nar .byte (((p1.toUInt32 >>> ((16 : Int32) &&& 31).toUInt32).toInt32).toInt8.toInt32))) ((nar .byte (((p1.toUInt32 >>> ((24 : Int32) &&& 31).toUInt32).toInt32).toInt8.toInt32))) ((0 : Int32)) ((0 : Int32)) ((0 : Int32)) ((0 : Int32)) ((0 : Int32)) ((0 : Int32)) ((0 : Int32)) ((0 : Int32)) ((0 : Int32)) T3.heap n0 Zh5 V3 g_b1) hZ hw_4 hw_3 (by decide) (by decide)) (g := (mkF m 35 #[.val (.int p1), .val (.int p2), .val (.int p3), .val (.int p4), .val (.int p5), .val (.int (0 : Int32)), .val (.int (0 : Int32)), .val (.ref b1), .unset] [(.int p2), (.int (4 : Int32)), (.ref b1)])) rfl (by rw [hml]; rfl) (argsL := [(.ref b1), (.int (4 : Int32)), (.int p2)]) (rest := []) (lenOf pd_0 rfl) rfl (by show 2 * 0 + _ ≤ _; exact Nat.le_of_eq rfl) (hb hby at_35) (fun _ _ => ⟨rfl, rfl, (by decide : 1 + 0 ≤ _), (by decide : 13 + 0 ≤ _)⟩)
      dsimp only [Pt.U, Pt.locs, Pt.cells, Pt.slots] at X6 l6 y6 z6 st6 hQ6
      subst l6 y6 z6
      obtain ⟨rfl, N6q, K6, V6⟩ := hQ6
      have N6 := Fr.app N3 N6q
      have Zh8 : n0 ≤ T6.heap.size := Nat.le_trans Zh5 K6.1
      refine own_go st6 ?_
      show own_Fin p e below _ (T6.setTop (mkF m 38 #[.val (.int p1), .val (.int p2), .val (.int p3), .val (.int p4), .val (.int p5), .val (.int (0 : Int32)), .val (.int (0 : Int32)), .val (.ref b1), .unset] []))
      refine own_go (fun t k => XS.aload X6.here hx rfl (hb hby at_38) rfl rfl  (XS.iload X6.here hx rfl (hb hby at_40) rfl  (XS.bipush X6.here hx rfl (hb hby at_42) (XS.iadd X6.here hx rfl (hb hby at_44) rfl k)))) ?_
      show own_Fin p e below _ (T6.setTop (mkF m 45 #[.val (.int p1), .val (.int p2), .val (.int p3), .val (.int p4), .val (.int p5), .val (.int (0 : Int32)), .val (.int (0 : Int32)), .val (.ref b1), .unset] [(.int (8 : Int32)), (.ref b1)]))
      refine own_go (fun t k => XS.iloadN X6.here hx rfl (hb hby at_45) rfl  k) ?_
      show own_Fin p e below _ (T6.setTop (mkF m 46 #[.val (.int p1), .val (.int p2), .val (.int p3), .val (.int p4), .val (.int p5), .val (.int (0 : Int32)), .val (.int (0 : Int32)), .val (.ref b1), .unset] [(.int p3), (.int (8 : Int32)), (.ref b1)]))
      obtain ⟨_, _, ⟨T9, L9, k9, n9⟩, -, X9, ⟨Lc9, hQ9, l9, y9, z9⟩, st9⟩ := Jvm.LawKit.callS X6 hx (y := (⟨"com/example/palimpsest/palimpsest/chain/CurveScalarsDecodePinLaw", "put", "([BII)V"⟩ : MethodName)) hown (mvT hZ hw_1) (mvT hZ hw_2) (mvT hZ hw_3) (mvT hZ hw_4) (by decide) (backOf (W := 0) (rm1p8 l Z a0 hw [] (b1) (p3) k1 ((nar .byte (p1.toInt8.toInt32))) ((nar .byte (((p1.toUInt32 >>> ((8 : Int32) &&& 31).toUInt32).toInt32).toInt8.toInt32))) ((nar .byte (((p1.toUInt32 >>> ((16 : Int32) &&& 31).toUInt32).toInt32).toInt8.toInt32))) ((nar .byte (((p1.toUInt32 >>> ((24 : Int32) &&& 31).toUInt32).toInt32).toInt8.toInt32))) ((nar .byte (p2.toInt8.toInt32))) ((nar .byte (((p2.toUInt32 >>> ((8 : Int32) &&& 31).toUInt32).toInt32).toInt8.toInt32))) ((nar .byte (((p2.toUInt32 >>> ((16 : Int32) &&& 31).toUInt32).toInt32).toInt8.toInt32))) ((nar .byte (((p2.toUInt32 >>> ((24 : Int32) &&& 31).toUInt32).toInt32).toInt8.toInt32))) ((0 : Int32)) ((0 : Int32)) ((0 : Int32)) ((0 : Int32)) ((0 : Int32)) T6.heap n0 Zh8 V6 g_b1) hZ hw_4 hw_3 (by decide) (by decide)) (g := (mkF m 46 #[.val (.int p1), .val (.int p2), .val (.int p3), .val (.int p4), .val (.int p5), .val (.int (0 : Int32)), .val (.int (0 : Int32)), .val (.ref b1), .unset] [(.int p3), (.int (8 : Int32)), (.ref b1)])) rfl (by rw [hml]; rfl) (argsL := [(.ref b1), (.int (8 : Int32)), (.int p3)]) (rest := []) (lenOf pd_0 rfl) rfl (by show 2 * 0 + _ ≤ _; exact Nat.le_of_eq rfl) (hb hby at_46) (fun _ _ => ⟨rfl, rfl, (by decide : 1 + 0 ≤ _), (by decide : 13 + 0 ≤ _)⟩)
      dsimp only [Pt.U, Pt.locs, Pt.cells, Pt.slots] at X9 l9 y9 z9 st9 hQ9
      subst l9 y9 z9
      obtain ⟨rfl, N9q, K9, V9⟩ := hQ9
      have N9 := Fr.app N6 N9q
      have Zh11 : n0 ≤ T9.heap.size := Nat.le_trans Zh8 K9.1
      refine own_go st9 ?_
      show own_Fin p e below _ (T9.setTop (mkF m 49 #[.val (.int p1), .val (.int p2), .val (.int p3), .val (.int p4), .val (.int p5), .val (.int (0 : Int32)), .val (.int (0 : Int32)), .val (.ref b1), .unset] []))
      refine own_go (fun t k => XS.iload X9.here hx rfl (hb hby at_49) rfl  (XS.iconst X9.here hx rfl (hb hby at_51) k)) ?_
      show own_Fin p e below _ (T9.setTop (mkF m 52 #[.val (.int p1), .val (.int p2), .val (.int p3), .val (.int p4), .val (.int p5), .val (.int (0 : Int32)), .val (.int (0 : Int32)), .val (.ref b1), .unset] [(.int (1 : Int32)), (.int (0 : Int32))]))
      refine own_go (fun t k => XS.icmpYes X9.here hx rfl (pc0 := 52) (pc' := 64) rfl (hb hby at_52) rfl (feq (by decide : ¬ ((0 : Int32) = (1 : Int32)))).2 (by decide) (by decide) (XS.aload X9.here hx rfl (hb hby at_64) rfl rfl  (XS.bipush X9.here hx rfl (hb hby at_66) (XS.iloadN X9.here hx rfl (hb hby at_68) rfl  k)))) ?_
      show own_Fin p e below _ (T9.setTop (mkF m 69 #[.val (.int p1), .val (.int p2), .val (.int p3), .val (.int p4), .val (.int p5), .val (.int (0 : Int32)), .val (.int (0 : Int32)), .val (.ref b1), .unset] [(.int p4), (.int (12 : Int32)), (.ref b1)]))
      refine own_go (fun t k => XS.i2b X9.here hx rfl (hb hby at_69) rfl k) ?_
      show own_Fin p e below _ (T9.setTop (mkF m 70 #[.val (.int p1), .val (.int p2), .val (.int p3), .val (.int p4), .val (.int p5), .val (.int (0 : Int32)), .val (.int (0 : Int32)), .val (.ref b1), .unset] [(.int (p4.toInt8.toInt32)), (.int (12 : Int32)), (.ref b1)]))
      obtain ⟨cl12, Ar12, q12, S12, M12, H12, G12⟩ := (id V9)
      have hin12 : ¬ ((12 : Int32) < 0 ∨ cl12.slots.size ≤ ((12 : Int32)).toNatClampNeg) := inb_of S12 ⟨by decide, by decide⟩
      obtain ⟨T12, h12, X12, e12, W12, st12⟩ := stB X9 hx hZ rfl Ar12 (j := (12 : Int32)) hin12 (g := (mkF m 70 #[.val (.int p1), .val (.int p2), .val (.int p3), .val (.int p4), .val (.int p5), .val (.int (0 : Int32)), .val (.int (0 : Int32)), .val (.ref b1), .unset] [(.int (p4.toInt8.toInt32)), (.int (12 : Int32)), (.ref b1)])) rfl rfl (hb hby at_70)
      have V12 := Arv.set Ar12 q12 S12 M12 H12 G12 (fits_nar_byte _) W12 12 rfl (Nat.le_of_ble_eq_true rfl)
      have f14 : Arv Z h12 b1 k1 .byte (13 : Int32) [(.int (nar .byte (p1.toInt8.toInt32))), (.int (nar .byte (((p1.toUInt32 >>> ((8 : Int32) &&& 31).toUInt32).toInt32).toInt8.toInt32))), (.int (nar .byte (((p1.toUInt32 >>> ((16 : Int32) &&& 31).toUInt32).toInt32).toInt8.toInt32))), (.int (nar .byte (((p1.toUInt32 >>> ((24 : Int32) &&& 31).toUInt32).toInt32).toInt8.toInt32))), (.int (nar .byte (p2.toInt8.toInt32))), (.int (nar .byte (((p2.toUInt32 >>> ((8 : Int32) &&& 31).toUInt32).toInt32).toInt8.toInt32))), (.int (nar .byte (((p2.toUInt32 >>> ((16 : Int32) &&& 31).toUInt32).toInt32).toInt8.toInt32))), (.int (nar .byte (((p2.toUInt32 >>> ((24 : Int32) &&& 31).toUInt32).toInt32).toInt8.toInt32))), (.int (nar .byte (p3.toInt8.toInt32))), (.int (nar .byte (((p3.toUInt32 >>> ((8 : Int32) &&& 31).toUInt32).toInt32).toInt8.toInt32))), (.int (nar .byte (((p3.toUInt32 >>> ((16 : Int32) &&& 31).toUInt32).toInt32).toInt8.toInt32))), (.int (nar .byte (((p3.toUInt32 >>> ((24 : Int32) &&& 31).toUInt32).toInt32).toInt8.toInt32))), (.int (nar .byte (p4.toInt8.toInt32)))] (.int (0 : Int32)) := V12
      have Zh15 : n0 ≤ h12.size := Nat.le_trans Zh11 (Nat.le_of_eq W12.size.symm)
      have N12 := Fr.snoc X12 N9 g_b1
      refine own_go st12 ?_
      show own_Fin p e below _ (T12.setTop (mkF m 71 #[.val (.int p1), .val (.int p2), .val (.int p3), .val (.int p4), .val (.int p5), .val (.int (0 : Int32)), .val (.int (0 : Int32)), .val (.ref b1), .unset] []))
      refine own_go (fun t k => XS.aload X12.here hx rfl (hb hby at_71) rfl rfl  (XS.iload X12.here hx rfl (hb hby at_73) rfl  (XS.iconst X12.here hx rfl (hb hby at_75) (XS.iload X12.here hx rfl (hb hby at_76) rfl  k)))) ?_
      show own_Fin p e below _ (T12.setTop (mkF m 78 #[.val (.int p1), .val (.int p2), .val (.int p3), .val (.int p4), .val (.int p5), .val (.int (0 : Int32)), .val (.int (0 : Int32)), .val (.ref b1), .unset] [(.int (0 : Int32)), (.int (4 : Int32)), (.int (0 : Int32)), (.ref b1)]))
      refine own_go (fun t k => XS.imul X12.here hx rfl (hb hby at_78) rfl k) ?_
      show own_Fin p e below _ (T12.setTop (mkF m 79 #[.val (.int p1), .val (.int p2), .val (.int p3), .val (.int p4), .val (.int p5), .val (.int (0 : Int32)), .val (.int (0 : Int32)), .val (.ref b1), .unset] [(.int (0 : Int32)), (.int (0 : Int32)), (.ref b1)]))
      obtain ⟨_, _, ⟨T16, L16, k16, n16⟩, -, X16, ⟨Lc16, hQ16, l16, y16, z16⟩, st16⟩ := Jvm.LawKit.callS X12 hx (y := (⟨"com/example/palimpsest/palimpsest/chain/CurveScalars", "decode", "([BII)[I"⟩ : MethodName)) hown (mvT hZ hw_5) (mvT hZ hw_6) (mvT hZ hw_7) (mvT hZ hw_8) (by decide) (backOf (W := 0) (rm2o0c0 l Z a0 hw [] (b1) k1 ((nar .byte (p1.toInt8.toInt32))) ((nar .byte (((p1.toUInt32 >>> ((8 : Int32) &&& 31).toUInt32).toInt32).toInt8.toInt32))) ((nar .byte (((p1.toUInt32 >>> ((16 : Int32) &&& 31).toUInt32).toInt32).toInt8.toInt32))) ((nar .byte (((p1.toUInt32 >>> ((24 : Int32) &&& 31).toUInt32).toInt32).toInt8.toInt32))) ((nar .byte (p2.toInt8.toInt32))) ((nar .byte (((p2.toUInt32 >>> ((8 : Int32) &&& 31).toUInt32).toInt32).toInt8.toInt32))) ((nar .byte (((p2.toUInt32 >>> ((16 : Int32) &&& 31).toUInt32).toInt32).toInt8.toInt32))) ((nar .byte (((p2.toUInt32 >>> ((24 : Int32) &&& 31).toUInt32).toInt32).toInt8.toInt32))) ((nar .byte (p3.toInt8.toInt32))) ((nar .byte (((p3.toUInt32 >>> ((8 : Int32) &&& 31).toUInt32).toInt32).toInt8.toInt32))) ((nar .byte (((p3.toUInt32 >>> ((16 : Int32) &&& 31).toUInt32).toInt32).toInt8.toInt32))) ((nar .byte (((p3.toUInt32 >>> ((24 : Int32) &&& 31).toUInt32).toInt32).toInt8.toInt32))) ((nar .byte (p4.toInt8.toInt32))) h12 n0 Zh15 f14) hZ hw_8 hw_7 (by decide) (by decide)) (g := (mkF m 79 #[.val (.int p1), .val (.int p2), .val (.int p3), .val (.int p4), .val (.int p5), .val (.int (0 : Int32)), .val (.int (0 : Int32)), .val (.ref b1), .unset] [(.int (0 : Int32)), (.int (0 : Int32)), (.ref b1)])) rfl (by rw [hml]; rfl) (argsL := [(.ref b1), (.int (0 : Int32)), (.int (0 : Int32))]) (rest := []) (lenOf pd_1 rfl) rfl (by show 2 * 0 + _ ≤ _; exact Nat.le_of_eq rfl) (hb hby at_79) (fun _ _ => ⟨rfl, e12, (by decide : 1 + 1 ≤ _), (by decide : 13 + 0 ≤ _)⟩)
      dsimp only [Pt.U, Pt.locs, Pt.cells, Pt.slots] at X16 l16 y16 z16 st16 hQ16
      subst l16 y16 z16
      obtain ⟨b16, k16, rfl, N16q, sz16, K16, V16⟩ := hQ16
      have N16 := Fr.app N12 N16q
      have g_b16 : n0 ≤ b16 := Nat.le_trans Zh15 sz16
      have ne_b1_b16 : b1 ≠ b16 := Nat.ne_of_lt (Nat.lt_of_lt_of_le f14.lt sz16)
      have E16 : Ext _ _ := ⟨K16.1, fun a c q => K16.2.1 a c q nin0⟩
      have f17 := f14.ext E16
      have Zh18 : n0 ≤ T16.heap.size := Nat.le_trans Zh15 K16.1
      refine own_go st16 ?_
      show own_Fin p e below _ (T16.setTop (mkF m 82 #[.val (.int p1), .val (.int p2), .val (.int p3), .val (.int p4), .val (.int p5), .val (.int (0 : Int32)), .val (.int (0 : Int32)), .val (.ref b1), .unset] [(.ref b16)]))
      refine own_go (fun t k => XS.astore X16.here hx rfl (hb hby at_82) rfl rfl (l' := #[.val (.int p1), .val (.int p2), .val (.int p3), .val (.int p4), .val (.int p5), .val (.int (0 : Int32)), .val (.int (0 : Int32)), .val (.ref b1), .val (.ref b16)]) rfl (XS.aload X16.here hx rfl (hb hby at_84) rfl rfl  k)) ?_
      show own_Fin p e below _ (T16.setTop (mkF m 86 #[.val (.int p1), .val (.int p2), .val (.int p3), .val (.int p4), .val (.int p5), .val (.int (0 : Int32)), .val (.int (0 : Int32)), .val (.ref b1), .val (.ref b16)] [(.ref b16)]))
      obtain ⟨cl19, Ar19, q19, S19, M19, H19, G19⟩ := (id V16)
      refine own_go (fun t k => X16.arraylength hx Ar19.1 (State.isArrayOf_alike hZ.alike Ar19.2.1) (g := (mkF m 86 #[.val (.int p1), .val (.int p2), .val (.int p3), .val (.int p4), .val (.int p5), .val (.int (0 : Int32)), .val (.int (0 : Int32)), .val (.ref b1), .val (.ref b16)] [(.ref b16)])) rfl rfl (hb hby at_86) _ k) ?_
      rw [len_of S19 M19]
      show own_Fin p e below _ (T16.setTop (mkF m 87 #[.val (.int p1), .val (.int p2), .val (.int p3), .val (.int p4), .val (.int p5), .val (.int (0 : Int32)), .val (.int (0 : Int32)), .val (.ref b1), .val (.ref b16)] [(.int (0 : Int32))]))
      refine own_go (fun t k => XS.iload X16.here hx rfl (hb hby at_87) rfl  k) ?_
      show own_Fin p e below _ (T16.setTop (mkF m 89 #[.val (.int p1), .val (.int p2), .val (.int p3), .val (.int p4), .val (.int p5), .val (.int (0 : Int32)), .val (.int (0 : Int32)), .val (.ref b1), .val (.ref b16)] [(.int (0 : Int32)), (.int (0 : Int32))]))
      refine own_go (fun t k => XS.icmpYes X16.here hx rfl (pc0 := 89) (pc' := 94) rfl (hb hby at_89) rfl (teq (by decide : (0 : Int32) = (0 : Int32))).1 (by decide) (by decide) (XS.iload X16.here hx rfl (hb hby at_94) rfl  (XS.iconst X16.here hx rfl (hb hby at_96) k))) ?_
      show own_Fin p e below _ (T16.setTop (mkF m 97 #[.val (.int p1), .val (.int p2), .val (.int p3), .val (.int p4), .val (.int p5), .val (.int (0 : Int32)), .val (.int (0 : Int32)), .val (.ref b1), .val (.ref b16)] [(.int (1 : Int32)), (.int (0 : Int32))]))
      refine own_go (fun t k => XS.icmpYes X16.here hx rfl (pc0 := 97) (pc' := 110) rfl (hb hby at_97) rfl (tlt (by decide : (0 : Int32) < (1 : Int32))).1 (by decide) (by decide) (XS.iload X16.here hx rfl (hb hby at_110) rfl  (XS.iconst X16.here hx rfl (hb hby at_112) k))) ?_
      show own_Fin p e below _ (T16.setTop (mkF m 113 #[.val (.int p1), .val (.int p2), .val (.int p3), .val (.int p4), .val (.int p5), .val (.int (0 : Int32)), .val (.int (0 : Int32)), .val (.ref b1), .val (.ref b16)] [(.int (2 : Int32)), (.int (0 : Int32))]))
      refine own_go (fun t k => XS.icmpYes X16.here hx rfl (pc0 := 113) (pc' := 126) rfl (hb hby at_113) rfl (tlt (by decide : (0 : Int32) < (2 : Int32))).1 (by decide) (by decide) (XS.iload X16.here hx rfl (hb hby at_126) rfl  (XS.iconst X16.here hx rfl (hb hby at_128) k))) ?_
      show own_Fin p e below _ (T16.setTop (mkF m 129 #[.val (.int p1), .val (.int p2), .val (.int p3), .val (.int p4), .val (.int p5), .val (.int (0 : Int32)), .val (.int (0 : Int32)), .val (.ref b1), .val (.ref b16)] [(.int (3 : Int32)), (.int (0 : Int32))]))
      refine own_go (fun t k => XS.icmpYes X16.here hx rfl (pc0 := 129) (pc' := 142) rfl (hb hby at_129) rfl (tlt (by decide : (0 : Int32) < (3 : Int32))).1 (by decide) (by decide) (XS.iconst X16.here hx rfl (hb hby at_142) k)) ?_
      show own_Fin p e below _ (T16.setTop (mkF m 143 #[.val (.int p1), .val (.int p2), .val (.int p3), .val (.int p4), .val (.int p5), .val (.int (0 : Int32)), .val (.int (0 : Int32)), .val (.ref b1), .val (.ref b16)] [(.int (1 : Int32))]))
      exact own_out X16 (fun h => by rw [Bd.returns] at h; cases h) Bd.notSynchronized (fun fs hr => retN X16 hx (t := .boolean) Bd.returns (by simp) (hb hby at_143) hr) ⟨rfl, N16⟩ (by decide) (by decide)
    · skip
      rw [h]
      show own_Fin p e below _ (s₁.setTop (mkF m 12 #[.val (.int p1), .val (.int p2), .val (.int p3), .val (.int p4), .val (.int p5), .val (.int (0 : Int32)), .unset, .unset, .unset] [(.int (1 : Int32))]))
      refine own_go (fun t k => XS.istore X0.here hx rfl (hb hby at_12) rfl (l' := #[.val (.int p1), .val (.int p2), .val (.int p3), .val (.int p4), .val (.int p5), .val (.int (0 : Int32)), .val (.int (1 : Int32)), .unset, .unset]) rfl (XS.bipush X0.here hx rfl (hb hby at_14) k)) ?_
      show own_Fin p e below _ (s₁.setTop (mkF m 16 #[.val (.int p1), .val (.int p2), .val (.int p3), .val (.int p4), .val (.int p5), .val (.int (0 : Int32)), .val (.int (1 : Int32)), .unset, .unset] [(.int (13 : Int32))]))
      obtain ⟨T20, h20, k20, X20, e20, E20, A20, st20⟩ := newP (aty := .byte) X0 hx hZ hw_0 e0 (g := (mkF m 16 #[.val (.int p1), .val (.int p2), .val (.int p3), .val (.int p4), .val (.int p5), .val (.int (0 : Int32)), .val (.int (1 : Int32)), .unset, .unset] [(.int (13 : Int32))])) rfl (hb hby at_16) rfl (by decide) (cap := 13) (by decide) (by decide) (by decide) (by decide)
      obtain ⟨b20, g20⟩ : ∃ z, z = h0.size := ⟨_, rfl⟩
      rw [← g20] at A20 st20
      have g_b20 : n0 ≤ b20 := Nat.le_trans Z0 (Nat.le_of_eq g20.symm)
      have Zh21 : n0 ≤ h20.size := Nat.le_trans Z0 E20.1
      have V20 : Arv Z h20 b20 k20 .byte (13 : Int32) [(.int (0 : Int32)), (.int (0 : Int32)), (.int (0 : Int32)), (.int (0 : Int32)), (.int (0 : Int32)), (.int (0 : Int32)), (.int (0 : Int32)), (.int (0 : Int32)), (.int (0 : Int32)), (.int (0 : Int32)), (.int (0 : Int32)), (.int (0 : Int32)), (.int (0 : Int32))] (.int (0 : Int32)) := (Arv.new A20 (by decide)).pad (pad_rep [] (.int (0 : Int32)) 13)
      refine own_go st20 ?_
      show own_Fin p e below _ (T20.setTop (mkF m 18 #[.val (.int p1), .val (.int p2), .val (.int p3), .val (.int p4), .val (.int p5), .val (.int (0 : Int32)), .val (.int (1 : Int32)), .unset, .unset] [(.ref b20)]))
      refine own_go (fun t k => XS.astore X20.here hx rfl (hb hby at_18) rfl rfl (l' := #[.val (.int p1), .val (.int p2), .val (.int p3), .val (.int p4), .val (.int p5), .val (.int (0 : Int32)), .val (.int (1 : Int32)), .val (.ref b20), .unset]) rfl (XS.aload X20.here hx rfl (hb hby at_20) rfl rfl  (XS.iload X20.here hx rfl (hb hby at_22) rfl  (XS.iloadN X20.here hx rfl (hb hby at_24) rfl  k)))) ?_
      show own_Fin p e below _ (T20.setTop (mkF m 25 #[.val (.int p1), .val (.int p2), .val (.int p3), .val (.int p4), .val (.int p5), .val (.int (0 : Int32)), .val (.int (1 : Int32)), .val (.ref b20), .unset] [(.int p1), (.int (0 : Int32)), (.ref b20)]))
      obtain ⟨_, _, ⟨T22, L22, k22, n22⟩, -, X22, ⟨Lc22, hQ22, l22, y22, z22⟩, st22⟩ := Jvm.LawKit.callS X20 hx (y := (⟨"com/example/palimpsest/palimpsest/chain/CurveScalarsDecodePinLaw", "put", "([BII)V"⟩ : MethodName)) hown (mvT hZ hw_1) (mvT hZ hw_2) (mvT hZ hw_3) (mvT hZ hw_4) (by decide) (backOf (W := 0) (rm1p0 l Z a0 hw [] (b20) (p1) k20 ((0 : Int32)) ((0 : Int32)) ((0 : Int32)) ((0 : Int32)) ((0 : Int32)) ((0 : Int32)) ((0 : Int32)) ((0 : Int32)) ((0 : Int32)) ((0 : Int32)) ((0 : Int32)) ((0 : Int32)) ((0 : Int32)) h20 n0 Zh21 V20 g_b20) hZ hw_4 hw_3 (by decide) (by decide)) (g := (mkF m 25 #[.val (.int p1), .val (.int p2), .val (.int p3), .val (.int p4), .val (.int p5), .val (.int (0 : Int32)), .val (.int (1 : Int32)), .val (.ref b20), .unset] [(.int p1), (.int (0 : Int32)), (.ref b20)])) rfl (by rw [hml]; rfl) (argsL := [(.ref b20), (.int (0 : Int32)), (.int p1)]) (rest := []) (lenOf pd_0 rfl) rfl (by show 2 * 0 + _ ≤ _; exact Nat.le_of_eq rfl) (hb hby at_25) (fun _ _ => ⟨rfl, e20, (by decide : 1 + 0 ≤ _), (by decide : 13 + 0 ≤ _)⟩)
      dsimp only [Pt.U, Pt.locs, Pt.cells, Pt.slots] at X22 l22 y22 z22 st22 hQ22
      subst l22 y22 z22
      obtain ⟨rfl, N22q, K22, V22⟩ := hQ22
      have N22 := Fr.app N0 N22q
      have Zh24 : n0 ≤ T22.heap.size := Nat.le_trans Zh21 K22.1
      refine own_go st22 ?_
      show own_Fin p e below _ (T22.setTop (mkF m 28 #[.val (.int p1), .val (.int p2), .val (.int p3), .val (.int p4), .val (.int p5), .val (.int (0 : Int32)), .val (.int (1 : Int32)), .val (.ref b20), .unset] []))
      refine own_go (fun t k => XS.aload X22.here hx rfl (hb hby at_28) rfl rfl  (XS.iload X22.here hx rfl (hb hby at_30) rfl  (XS.iconst X22.here hx rfl (hb hby at_32) (XS.iadd X22.here hx rfl (hb hby at_33) rfl k)))) ?_
      show own_Fin p e below _ (T22.setTop (mkF m 34 #[.val (.int p1), .val (.int p2), .val (.int p3), .val (.int p4), .val (.int p5), .val (.int (0 : Int32)), .val (.int (1 : Int32)), .val (.ref b20), .unset] [(.int (4 : Int32)), (.ref b20)]))
      refine own_go (fun t k => XS.iloadN X22.here hx rfl (hb hby at_34) rfl  k) ?_
      show own_Fin p e below _ (T22.setTop (mkF m 35 #[.val (.int p1), .val (.int p2), .val (.int p3), .val (.int p4), .val (.int p5), .val (.int (0 : Int32)), .val (.int (1 : Int32)), .val (.ref b20), .unset] [(.int p2), (.int (4 : Int32)), (.ref b20)]))
      obtain ⟨_, _, ⟨T25, L25, k25, n25⟩, -, X25, ⟨Lc25, hQ25, l25, y25, z25⟩, st25⟩ := Jvm.LawKit.callS X22 hx (y := (⟨"com/example/palimpsest/palimpsest/chain/CurveScalarsDecodePinLaw", "put", "([BII)V"⟩ : MethodName)) hown (mvT hZ hw_1) (mvT hZ hw_2) (mvT hZ hw_3) (mvT hZ hw_4) (by decide) (backOf (W := 0) (rm1p4 l Z a0 hw [] (b20) (p2) k20 ((nar .byte (p1.toInt8.toInt32))) ((nar .byte (((p1.toUInt32 >>> ((8 : Int32) &&& 31).toUInt32).toInt32).toInt8.toInt32))) ((nar .byte (((p1.toUInt32 >>> ((16 : Int32) &&& 31).toUInt32).toInt32).toInt8.toInt32))) ((nar .byte (((p1.toUInt32 >>> ((24 : Int32) &&& 31).toUInt32).toInt32).toInt8.toInt32))) ((0 : Int32)) ((0 : Int32)) ((0 : Int32)) ((0 : Int32)) ((0 : Int32)) ((0 : Int32)) ((0 : Int32)) ((0 : Int32)) ((0 : Int32)) T22.heap n0 Zh24 V22 g_b20) hZ hw_4 hw_3 (by decide) (by decide)) (g := (mkF m 35 #[.val (.int p1), .val (.int p2), .val (.int p3), .val (.int p4), .val (.int p5), .val (.int (0 : Int32)), .val (.int (1 : Int32)), .val (.ref b20), .unset] [(.int p2), (.int (4 : Int32)), (.ref b20)])) rfl (by rw [hml]; rfl) (argsL := [(.ref b20), (.int (4 : Int32)), (.int p2)]) (rest := []) (lenOf pd_0 rfl) rfl (by show 2 * 0 + _ ≤ _; exact Nat.le_of_eq rfl) (hb hby at_35) (fun _ _ => ⟨rfl, rfl, (by decide : 1 + 0 ≤ _), (by decide : 13 + 0 ≤ _)⟩)
      dsimp only [Pt.U, Pt.locs, Pt.cells, Pt.slots] at X25 l25 y25 z25 st25 hQ25
      subst l25 y25 z25
      obtain ⟨rfl, N25q, K25, V25⟩ := hQ25
      have N25 := Fr.app N22 N25q
      have Zh27 : n0 ≤ T25.heap.size := Nat.le_trans Zh24 K25.1
      refine own_go st25 ?_
      show own_Fin p e below _ (T25.setTop (mkF m 38 #[.val (.int p1), .val (.int p2), .val (.int p3), .val (.int p4), .val (.int p5), .val (.int (0 : Int32)), .val (.int (1 : Int32)), .val (.ref b20), .unset] []))
      refine own_go (fun t k => XS.aload X25.here hx rfl (hb hby at_38) rfl rfl  (XS.iload X25.here hx rfl (hb hby at_40) rfl  (XS.bipush X25.here hx rfl (hb hby at_42) (XS.iadd X25.here hx rfl (hb hby at_44) rfl k)))) ?_
      show own_Fin p e below _ (T25.setTop (mkF m 45 #[.val (.int p1), .val (.int p2), .val (.int p3), .val (.int p4), .val (.int p5), .val (.int (0 : Int32)), .val (.int (1 : Int32)), .val (.ref b20), .unset] [(.int (8 : Int32)), (.ref b20)]))
      refine own_go (fun t k => XS.iloadN X25.here hx rfl (hb hby at_45) rfl  k) ?_
      show own_Fin p e below _ (T25.setTop (mkF m 46 #[.val (.int p1), .val (.int p2), .val (.int p3), .val (.int p4), .val (.int p5), .val (.int (0 : Int32)), .val (.int (1 : Int32)), .val (.ref b20), .unset] [(.int p3), (.int (8 : Int32)), (.ref b20)]))
      obtain ⟨_, _, ⟨T28, L28, k28, n28⟩, -, X28, ⟨Lc28, hQ28, l28, y28, z28⟩, st28⟩ := Jvm.LawKit.callS X25 hx (y := (⟨"com/example/palimpsest/palimpsest/chain/CurveScalarsDecodePinLaw", "put", "([BII)V"⟩ : MethodName)) hown (mvT hZ hw_1) (mvT hZ hw_2) (mvT hZ hw_3) (mvT hZ hw_4) (by decide) (backOf (W := 0) (rm1p8 l Z a0 hw [] (b20) (p3) k20 ((nar .byte (p1.toInt8.toInt32))) ((nar .byte (((p1.toUInt32 >>> ((8 : Int32) &&& 31).toUInt32).toInt32).toInt8.toInt32))) ((nar .byte (((p1.toUInt32 >>> ((16 : Int32) &&& 31).toUInt32).toInt32).toInt8.toInt32))) ((nar .byte (((p1.toUInt32 >>> ((24 : Int32) &&& 31).toUInt32).toInt32).toInt8.toInt32))) ((nar .byte (p2.toInt8.toInt32))) ((nar .byte (((p2.toUInt32 >>> ((8 : Int32) &&& 31).toUInt32).toInt32).toInt8.toInt32))) ((nar .byte (((p2.toUInt32 >>> ((16 : Int32) &&& 31).toUInt32).toInt32).toInt8.toInt32))) ((nar .byte (((p2.toUInt32 >>> ((24 : Int32) &&& 31).toUInt32).toInt32).toInt8.toInt32))) ((0 : Int32)) ((0 : Int32)) ((0 : Int32)) ((0 : Int32)) ((0 : Int32)) T25.heap n0 Zh27 V25 g_b20) hZ hw_4 hw_3 (by decide) (by decide)) (g := (mkF m 46 #[.val (.int p1), .val (.int p2), .val (.int p3), .val (.int p4), .val (.int p5), .val (.int (0 : Int32)), .val (.int (1 : Int32)), .val (.ref b20), .unset] [(.int p3), (.int (8 : Int32)), (.ref b20)])) rfl (by rw [hml]; rfl) (argsL := [(.ref b20), (.int (8 : Int32)), (.int p3)]) (rest := []) (lenOf pd_0 rfl) rfl (by show 2 * 0 + _ ≤ _; exact Nat.le_of_eq rfl) (hb hby at_46) (fun _ _ => ⟨rfl, rfl, (by decide : 1 + 0 ≤ _), (by decide : 13 + 0 ≤ _)⟩)
      dsimp only [Pt.U, Pt.locs, Pt.cells, Pt.slots] at X28 l28 y28 z28 st28 hQ28
      subst l28 y28 z28
      obtain ⟨rfl, N28q, K28, V28⟩ := hQ28
      have N28 := Fr.app N25 N28q
      have Zh30 : n0 ≤ T28.heap.size := Nat.le_trans Zh27 K28.1
      refine own_go st28 ?_
      show own_Fin p e below _ (T28.setTop (mkF m 49 #[.val (.int p1), .val (.int p2), .val (.int p3), .val (.int p4), .val (.int p5), .val (.int (0 : Int32)), .val (.int (1 : Int32)), .val (.ref b20), .unset] []))
      refine own_go (fun t k => XS.iload X28.here hx rfl (hb hby at_49) rfl  (XS.iconst X28.here hx rfl (hb hby at_51) k)) ?_
      show own_Fin p e below _ (T28.setTop (mkF m 52 #[.val (.int p1), .val (.int p2), .val (.int p3), .val (.int p4), .val (.int p5), .val (.int (0 : Int32)), .val (.int (1 : Int32)), .val (.ref b20), .unset] [(.int (1 : Int32)), (.int (0 : Int32))]))
      refine own_go (fun t k => XS.icmpYes X28.here hx rfl (pc0 := 52) (pc' := 64) rfl (hb hby at_52) rfl (feq (by decide : ¬ ((0 : Int32) = (1 : Int32)))).2 (by decide) (by decide) (XS.aload X28.here hx rfl (hb hby at_64) rfl rfl  (XS.bipush X28.here hx rfl (hb hby at_66) (XS.iloadN X28.here hx rfl (hb hby at_68) rfl  k)))) ?_
      show own_Fin p e below _ (T28.setTop (mkF m 69 #[.val (.int p1), .val (.int p2), .val (.int p3), .val (.int p4), .val (.int p5), .val (.int (0 : Int32)), .val (.int (1 : Int32)), .val (.ref b20), .unset] [(.int p4), (.int (12 : Int32)), (.ref b20)]))
      refine own_go (fun t k => XS.i2b X28.here hx rfl (hb hby at_69) rfl k) ?_
      show own_Fin p e below _ (T28.setTop (mkF m 70 #[.val (.int p1), .val (.int p2), .val (.int p3), .val (.int p4), .val (.int p5), .val (.int (0 : Int32)), .val (.int (1 : Int32)), .val (.ref b20), .unset] [(.int (p4.toInt8.toInt32)), (.int (12 : Int32)), (.ref b20)]))
      obtain ⟨cl31, Ar31, q31, S31, M31, H31, G31⟩ := (id V28)
      have hin31 : ¬ ((12 : Int32) < 0 ∨ cl31.slots.size ≤ ((12 : Int32)).toNatClampNeg) := inb_of S31 ⟨by decide, by decide⟩
      obtain ⟨T31, h31, X31, e31, W31, st31⟩ := stB X28 hx hZ rfl Ar31 (j := (12 : Int32)) hin31 (g := (mkF m 70 #[.val (.int p1), .val (.int p2), .val (.int p3), .val (.int p4), .val (.int p5), .val (.int (0 : Int32)), .val (.int (1 : Int32)), .val (.ref b20), .unset] [(.int (p4.toInt8.toInt32)), (.int (12 : Int32)), (.ref b20)])) rfl rfl (hb hby at_70)
      have V31 := Arv.set Ar31 q31 S31 M31 H31 G31 (fits_nar_byte _) W31 12 rfl (Nat.le_of_ble_eq_true rfl)
      have f33 : Arv Z h31 b20 k20 .byte (13 : Int32) [(.int (nar .byte (p1.toInt8.toInt32))), (.int (nar .byte (((p1.toUInt32 >>> ((8 : Int32) &&& 31).toUInt32).toInt32).toInt8.toInt32))), (.int (nar .byte (((p1.toUInt32 >>> ((16 : Int32) &&& 31).toUInt32).toInt32).toInt8.toInt32))), (.int (nar .byte (((p1.toUInt32 >>> ((24 : Int32) &&& 31).toUInt32).toInt32).toInt8.toInt32))), (.int (nar .byte (p2.toInt8.toInt32))), (.int (nar .byte (((p2.toUInt32 >>> ((8 : Int32) &&& 31).toUInt32).toInt32).toInt8.toInt32))), (.int (nar .byte (((p2.toUInt32 >>> ((16 : Int32) &&& 31).toUInt32).toInt32).toInt8.toInt32))), (.int (nar .byte (((p2.toUInt32 >>> ((24 : Int32) &&& 31).toUInt32).toInt32).toInt8.toInt32))), (.int (nar .byte (p3.toInt8.toInt32))), (.int (nar .byte (((p3.toUInt32 >>> ((8 : Int32) &&& 31).toUInt32).toInt32).toInt8.toInt32))), (.int (nar .byte (((p3.toUInt32 >>> ((16 : Int32) &&& 31).toUInt32).toInt32).toInt8.toInt32))), (.int (nar .byte (((p3.toUInt32 >>> ((24 : Int32) &&& 31).toUInt32).toInt32).toInt8.toInt32))), (.int (nar .byte (p4.toInt8.toInt32)))] (.int (0 : Int32)) := V31
      have Zh34 : n0 ≤ h31.size := Nat.le_trans Zh30 (Nat.le_of_eq W31.size.symm)
      have N31 := Fr.snoc X31 N28 g_b20
      refine own_go st31 ?_
      show own_Fin p e below _ (T31.setTop (mkF m 71 #[.val (.int p1), .val (.int p2), .val (.int p3), .val (.int p4), .val (.int p5), .val (.int (0 : Int32)), .val (.int (1 : Int32)), .val (.ref b20), .unset] []))
      refine own_go (fun t k => XS.aload X31.here hx rfl (hb hby at_71) rfl rfl  (XS.iload X31.here hx rfl (hb hby at_73) rfl  (XS.iconst X31.here hx rfl (hb hby at_75) (XS.iload X31.here hx rfl (hb hby at_76) rfl  k)))) ?_
      show own_Fin p e below _ (T31.setTop (mkF m 78 #[.val (.int p1), .val (.int p2), .val (.int p3), .val (.int p4), .val (.int p5), .val (.int (0 : Int32)), .val (.int (1 : Int32)), .val (.ref b20), .unset] [(.int (1 : Int32)), (.int (4 : Int32)), (.int (0 : Int32)), (.ref b20)]))
      refine own_go (fun t k => XS.imul X31.here hx rfl (hb hby at_78) rfl k) ?_
      show own_Fin p e below _ (T31.setTop (mkF m 79 #[.val (.int p1), .val (.int p2), .val (.int p3), .val (.int p4), .val (.int p5), .val (.int (0 : Int32)), .val (.int (1 : Int32)), .val (.ref b20), .unset] [(.int (4 : Int32)), (.int (0 : Int32)), (.ref b20)]))
      obtain ⟨_, _, ⟨T35, L35, k35, n35⟩, -, X35, ⟨Lc35, hQ35, l35, y35, z35⟩, st35⟩ := Jvm.LawKit.callS X31 hx (y := (⟨"com/example/palimpsest/palimpsest/chain/CurveScalars", "decode", "([BII)[I"⟩ : MethodName)) hown (mvT hZ hw_5) (mvT hZ hw_6) (mvT hZ hw_7) (mvT hZ hw_8) (by decide) (backOf (W := 0) (rm2o0c1 l Z a0 hw [] (b20) k20 ((nar .byte (p1.toInt8.toInt32))) ((nar .byte (((p1.toUInt32 >>> ((8 : Int32) &&& 31).toUInt32).toInt32).toInt8.toInt32))) ((nar .byte (((p1.toUInt32 >>> ((16 : Int32) &&& 31).toUInt32).toInt32).toInt8.toInt32))) ((nar .byte (((p1.toUInt32 >>> ((24 : Int32) &&& 31).toUInt32).toInt32).toInt8.toInt32))) ((nar .byte (p2.toInt8.toInt32))) ((nar .byte (((p2.toUInt32 >>> ((8 : Int32) &&& 31).toUInt32).toInt32).toInt8.toInt32))) ((nar .byte (((p2.toUInt32 >>> ((16 : Int32) &&& 31).toUInt32).toInt32).toInt8.toInt32))) ((nar .byte (((p2.toUInt32 >>> ((24 : Int32) &&& 31).toUInt32).toInt32).toInt8.toInt32))) ((nar .byte (p3.toInt8.toInt32))) ((nar .byte (((p3.toUInt32 >>> ((8 : Int32) &&& 31).toUInt32).toInt32).toInt8.toInt32))) ((nar .byte (((p3.toUInt32 >>> ((16 : Int32) &&& 31).toUInt32).toInt32).toInt8.toInt32))) ((nar .byte (((p3.toUInt32 >>> ((24 : Int32) &&& 31).toUInt32).toInt32).toInt8.toInt32))) ((nar .byte (p4.toInt8.toInt32))) h31 n0 Zh34 f33) hZ hw_8 hw_7 (by decide) (by decide)) (g := (mkF m 79 #[.val (.int p1), .val (.int p2), .val (.int p3), .val (.int p4), .val (.int p5), .val (.int (0 : Int32)), .val (.int (1 : Int32)), .val (.ref b20), .unset] [(.int (4 : Int32)), (.int (0 : Int32)), (.ref b20)])) rfl (by rw [hml]; rfl) (argsL := [(.ref b20), (.int (0 : Int32)), (.int (4 : Int32))]) (rest := []) (lenOf pd_1 rfl) rfl (by show 2 * 0 + _ ≤ _; exact Nat.le_of_eq rfl) (hb hby at_79) (fun _ _ => ⟨rfl, e31, (by decide : 1 + 1 ≤ _), (by decide : 13 + 1 ≤ _)⟩)
      dsimp only [Pt.U, Pt.locs, Pt.cells, Pt.slots] at X35 l35 y35 z35 st35 hQ35
      subst l35 y35 z35
      obtain ⟨b35, k35, rfl, N35q, sz35, K35, V35⟩ := hQ35
      have N35 := Fr.app N31 N35q
      have g_b35 : n0 ≤ b35 := Nat.le_trans Zh34 sz35
      have ne_b20_b35 : b20 ≠ b35 := Nat.ne_of_lt (Nat.lt_of_lt_of_le f33.lt sz35)
      have E35 : Ext _ _ := ⟨K35.1, fun a c q => K35.2.1 a c q nin0⟩
      have f36 := f33.ext E35
      have Zh37 : n0 ≤ T35.heap.size := Nat.le_trans Zh34 K35.1
      refine own_go st35 ?_
      show own_Fin p e below _ (T35.setTop (mkF m 82 #[.val (.int p1), .val (.int p2), .val (.int p3), .val (.int p4), .val (.int p5), .val (.int (0 : Int32)), .val (.int (1 : Int32)), .val (.ref b20), .unset] [(.ref b35)]))
      refine own_go (fun t k => XS.astore X35.here hx rfl (hb hby at_82) rfl rfl (l' := #[.val (.int p1), .val (.int p2), .val (.int p3), .val (.int p4), .val (.int p5), .val (.int (0 : Int32)), .val (.int (1 : Int32)), .val (.ref b20), .val (.ref b35)]) rfl (XS.aload X35.here hx rfl (hb hby at_84) rfl rfl  k)) ?_
      show own_Fin p e below _ (T35.setTop (mkF m 86 #[.val (.int p1), .val (.int p2), .val (.int p3), .val (.int p4), .val (.int p5), .val (.int (0 : Int32)), .val (.int (1 : Int32)), .val (.ref b20), .val (.ref b35)] [(.ref b35)]))
      obtain ⟨cl38, Ar38, q38, S38, M38, H38, G38⟩ := (id V35)
      refine own_go (fun t k => X35.arraylength hx Ar38.1 (State.isArrayOf_alike hZ.alike Ar38.2.1) (g := (mkF m 86 #[.val (.int p1), .val (.int p2), .val (.int p3), .val (.int p4), .val (.int p5), .val (.int (0 : Int32)), .val (.int (1 : Int32)), .val (.ref b20), .val (.ref b35)] [(.ref b35)])) rfl rfl (hb hby at_86) _ k) ?_
      rw [len_of S38 M38]
      show own_Fin p e below _ (T35.setTop (mkF m 87 #[.val (.int p1), .val (.int p2), .val (.int p3), .val (.int p4), .val (.int p5), .val (.int (0 : Int32)), .val (.int (1 : Int32)), .val (.ref b20), .val (.ref b35)] [(.int (1 : Int32))]))
      refine own_go (fun t k => XS.iload X35.here hx rfl (hb hby at_87) rfl  k) ?_
      show own_Fin p e below _ (T35.setTop (mkF m 89 #[.val (.int p1), .val (.int p2), .val (.int p3), .val (.int p4), .val (.int p5), .val (.int (0 : Int32)), .val (.int (1 : Int32)), .val (.ref b20), .val (.ref b35)] [(.int (1 : Int32)), (.int (1 : Int32))]))
      refine own_go (fun t k => XS.icmpYes X35.here hx rfl (pc0 := 89) (pc' := 94) rfl (hb hby at_89) rfl (teq (by decide : (1 : Int32) = (1 : Int32))).1 (by decide) (by decide) (XS.iload X35.here hx rfl (hb hby at_94) rfl  (XS.iconst X35.here hx rfl (hb hby at_96) k))) ?_
      show own_Fin p e below _ (T35.setTop (mkF m 97 #[.val (.int p1), .val (.int p2), .val (.int p3), .val (.int p4), .val (.int p5), .val (.int (0 : Int32)), .val (.int (1 : Int32)), .val (.ref b20), .val (.ref b35)] [(.int (1 : Int32)), (.int (1 : Int32))]))
      refine own_go (fun t k => XS.icmpNo X35.here hx rfl (hb hby at_97) rfl (flt (by decide : ¬ ((1 : Int32) < (1 : Int32)))).1 (XS.aload X35.here hx rfl (hb hby at_100) rfl rfl  (XS.iconst X35.here hx rfl (hb hby at_102) k))) ?_
      show own_Fin p e below _ (T35.setTop (mkF m 103 #[.val (.int p1), .val (.int p2), .val (.int p3), .val (.int p4), .val (.int p5), .val (.int (0 : Int32)), .val (.int (1 : Int32)), .val (.ref b20), .val (.ref b35)] [(.int (0 : Int32)), (.ref b35)]))
      obtain ⟨cl39, Ar39, q39, S39, M39, H39, G39⟩ := (id V35)
      have hin39 : ¬ ((0 : Int32) < 0 ∨ cl39.slots.size ≤ ((0 : Int32)).toNatClampNeg) := inb_of S39 ⟨by decide, by decide⟩
      have hat39 : cl39.slots[((0 : Int32)).toNatClampNeg]? = some (.int (own_w ((nar .byte (p1.toInt8.toInt32))) ((nar .byte (((p1.toUInt32 >>> ((8 : Int32) &&& 31).toUInt32).toInt32).toInt8.toInt32))) ((nar .byte (((p1.toUInt32 >>> ((16 : Int32) &&& 31).toUInt32).toInt32).toInt8.toInt32))) ((nar .byte (((p1.toUInt32 >>> ((24 : Int32) &&& 31).toUInt32).toInt32).toInt8.toInt32))))) := H39.at hin39 rfl
      refine own_go (fun t k => X35.iaload hx (j := (0 : Int32)) (v := (.int (own_w ((nar .byte (p1.toInt8.toInt32))) ((nar .byte (((p1.toUInt32 >>> ((8 : Int32) &&& 31).toUInt32).toInt32).toInt8.toInt32))) ((nar .byte (((p1.toUInt32 >>> ((16 : Int32) &&& 31).toUInt32).toInt32).toInt8.toInt32))) ((nar .byte (((p1.toUInt32 >>> ((24 : Int32) &&& 31).toUInt32).toInt32).toInt8.toInt32)))))) Ar39.1 (State.isArrayOf_alike hZ.alike Ar39.2.1) Ar39.2.2 hin39 hat39 (g := (mkF m 103 #[.val (.int p1), .val (.int p2), .val (.int p3), .val (.int p4), .val (.int p5), .val (.int (0 : Int32)), .val (.int (1 : Int32)), .val (.ref b20), .val (.ref b35)] [(.int (0 : Int32)), (.ref b35)])) rfl rfl (hb hby at_103) _ (XS.iloadN X35.here hx rfl (hb hby at_104) rfl  k)) ?_
      show own_Fin p e below _ (T35.setTop (mkF m 105 #[.val (.int p1), .val (.int p2), .val (.int p3), .val (.int p4), .val (.int p5), .val (.int (0 : Int32)), .val (.int (1 : Int32)), .val (.ref b20), .val (.ref b35)] [(.int p1), (.int (own_w ((nar .byte (p1.toInt8.toInt32))) ((nar .byte (((p1.toUInt32 >>> ((8 : Int32) &&& 31).toUInt32).toInt32).toInt8.toInt32))) ((nar .byte (((p1.toUInt32 >>> ((16 : Int32) &&& 31).toUInt32).toInt32).toInt8.toInt32))) ((nar .byte (((p1.toUInt32 >>> ((24 : Int32) &&& 31).toUInt32).toInt32).toInt8.toInt32)))))]))
      refine own_go (fun t k => XS.icmpYes X35.here hx rfl (pc0 := 105) (pc' := 110) rfl (hb hby at_105) rfl (teq (own_dec _)).1 (by decide) (by decide) (XS.iload X35.here hx rfl (hb hby at_110) rfl  (XS.iconst X35.here hx rfl (hb hby at_112) k))) ?_
      show own_Fin p e below _ (T35.setTop (mkF m 113 #[.val (.int p1), .val (.int p2), .val (.int p3), .val (.int p4), .val (.int p5), .val (.int (0 : Int32)), .val (.int (1 : Int32)), .val (.ref b20), .val (.ref b35)] [(.int (2 : Int32)), (.int (1 : Int32))]))
      refine own_go (fun t k => XS.icmpYes X35.here hx rfl (pc0 := 113) (pc' := 126) rfl (hb hby at_113) rfl (tlt (by decide : (1 : Int32) < (2 : Int32))).1 (by decide) (by decide) (XS.iload X35.here hx rfl (hb hby at_126) rfl  (XS.iconst X35.here hx rfl (hb hby at_128) k))) ?_
      show own_Fin p e below _ (T35.setTop (mkF m 129 #[.val (.int p1), .val (.int p2), .val (.int p3), .val (.int p4), .val (.int p5), .val (.int (0 : Int32)), .val (.int (1 : Int32)), .val (.ref b20), .val (.ref b35)] [(.int (3 : Int32)), (.int (1 : Int32))]))
      refine own_go (fun t k => XS.icmpYes X35.here hx rfl (pc0 := 129) (pc' := 142) rfl (hb hby at_129) rfl (tlt (by decide : (1 : Int32) < (3 : Int32))).1 (by decide) (by decide) (XS.iconst X35.here hx rfl (hb hby at_142) k)) ?_
      show own_Fin p e below _ (T35.setTop (mkF m 143 #[.val (.int p1), .val (.int p2), .val (.int p3), .val (.int p4), .val (.int p5), .val (.int (0 : Int32)), .val (.int (1 : Int32)), .val (.ref b20), .val (.ref b35)] [(.int (1 : Int32))]))
      exact own_out X35 (fun h => by rw [Bd.returns] at h; cases h) Bd.notSynchronized (fun fs hr => retN X35 hx (t := .boolean) Bd.returns (by simp) (hb hby at_143) hr) ⟨rfl, N35⟩ (by decide) (by decide)
    · skip
      rw [h]
      show own_Fin p e below _ (s₁.setTop (mkF m 12 #[.val (.int p1), .val (.int p2), .val (.int p3), .val (.int p4), .val (.int p5), .val (.int (0 : Int32)), .unset, .unset, .unset] [(.int (2 : Int32))]))
      refine own_go (fun t k => XS.istore X0.here hx rfl (hb hby at_12) rfl (l' := #[.val (.int p1), .val (.int p2), .val (.int p3), .val (.int p4), .val (.int p5), .val (.int (0 : Int32)), .val (.int (2 : Int32)), .unset, .unset]) rfl (XS.bipush X0.here hx rfl (hb hby at_14) k)) ?_
      show own_Fin p e below _ (s₁.setTop (mkF m 16 #[.val (.int p1), .val (.int p2), .val (.int p3), .val (.int p4), .val (.int p5), .val (.int (0 : Int32)), .val (.int (2 : Int32)), .unset, .unset] [(.int (13 : Int32))]))
      obtain ⟨T40, h40, k40, X40, e40, E40, A40, st40⟩ := newP (aty := .byte) X0 hx hZ hw_0 e0 (g := (mkF m 16 #[.val (.int p1), .val (.int p2), .val (.int p3), .val (.int p4), .val (.int p5), .val (.int (0 : Int32)), .val (.int (2 : Int32)), .unset, .unset] [(.int (13 : Int32))])) rfl (hb hby at_16) rfl (by decide) (cap := 13) (by decide) (by decide) (by decide) (by decide)
      obtain ⟨b40, g40⟩ : ∃ z, z = h0.size := ⟨_, rfl⟩
      rw [← g40] at A40 st40
      have g_b40 : n0 ≤ b40 := Nat.le_trans Z0 (Nat.le_of_eq g40.symm)
      have Zh41 : n0 ≤ h40.size := Nat.le_trans Z0 E40.1
      have V40 : Arv Z h40 b40 k40 .byte (13 : Int32) [(.int (0 : Int32)), (.int (0 : Int32)), (.int (0 : Int32)), (.int (0 : Int32)), (.int (0 : Int32)), (.int (0 : Int32)), (.int (0 : Int32)), (.int (0 : Int32)), (.int (0 : Int32)), (.int (0 : Int32)), (.int (0 : Int32)), (.int (0 : Int32)), (.int (0 : Int32))] (.int (0 : Int32)) := (Arv.new A40 (by decide)).pad (pad_rep [] (.int (0 : Int32)) 13)
      refine own_go st40 ?_
      show own_Fin p e below _ (T40.setTop (mkF m 18 #[.val (.int p1), .val (.int p2), .val (.int p3), .val (.int p4), .val (.int p5), .val (.int (0 : Int32)), .val (.int (2 : Int32)), .unset, .unset] [(.ref b40)]))
      refine own_go (fun t k => XS.astore X40.here hx rfl (hb hby at_18) rfl rfl (l' := #[.val (.int p1), .val (.int p2), .val (.int p3), .val (.int p4), .val (.int p5), .val (.int (0 : Int32)), .val (.int (2 : Int32)), .val (.ref b40), .unset]) rfl (XS.aload X40.here hx rfl (hb hby at_20) rfl rfl  (XS.iload X40.here hx rfl (hb hby at_22) rfl  (XS.iloadN X40.here hx rfl (hb hby at_24) rfl  k)))) ?_
      show own_Fin p e below _ (T40.setTop (mkF m 25 #[.val (.int p1), .val (.int p2), .val (.int p3), .val (.int p4), .val (.int p5), .val (.int (0 : Int32)), .val (.int (2 : Int32)), .val (.ref b40), .unset] [(.int p1), (.int (0 : Int32)), (.ref b40)]))
      obtain ⟨_, _, ⟨T42, L42, k42, n42⟩, -, X42, ⟨Lc42, hQ42, l42, y42, z42⟩, st42⟩ := Jvm.LawKit.callS X40 hx (y := (⟨"com/example/palimpsest/palimpsest/chain/CurveScalarsDecodePinLaw", "put", "([BII)V"⟩ : MethodName)) hown (mvT hZ hw_1) (mvT hZ hw_2) (mvT hZ hw_3) (mvT hZ hw_4) (by decide) (backOf (W := 0) (rm1p0 l Z a0 hw [] (b40) (p1) k40 ((0 : Int32)) ((0 : Int32)) ((0 : Int32)) ((0 : Int32)) ((0 : Int32)) ((0 : Int32)) ((0 : Int32)) ((0 : Int32)) ((0 : Int32)) ((0 : Int32)) ((0 : Int32)) ((0 : Int32)) ((0 : Int32)) h40 n0 Zh41 V40 g_b40) hZ hw_4 hw_3 (by decide) (by decide)) (g := (mkF m 25 #[.val (.int p1), .val (.int p2), .val (.int p3), .val (.int p4), .val (.int p5), .val (.int (0 : Int32)), .val (.int (2 : Int32)), .val (.ref b40), .unset] [(.int p1), (.int (0 : Int32)), (.ref b40)])) rfl (by rw [hml]; rfl) (argsL := [(.ref b40), (.int (0 : Int32)), (.int p1)]) (rest := []) (lenOf pd_0 rfl) rfl (by show 2 * 0 + _ ≤ _; exact Nat.le_of_eq rfl) (hb hby at_25) (fun _ _ => ⟨rfl, e40, (by decide : 1 + 0 ≤ _), (by decide : 13 + 0 ≤ _)⟩)
      dsimp only [Pt.U, Pt.locs, Pt.cells, Pt.slots] at X42 l42 y42 z42 st42 hQ42
      subst l42 y42 z42
      obtain ⟨rfl, N42q, K42, V42⟩ := hQ42
      have N42 := Fr.app N0 N42q
      have Zh44 : n0 ≤ T42.heap.size := Nat.le_trans Zh41 K42.1
      refine own_go st42 ?_
      show own_Fin p e below _ (T42.setTop (mkF m 28 #[.val (.int p1), .val (.int p2), .val (.int p3), .val (.int p4), .val (.int p5), .val (.int (0 : Int32)), .val (.int (2 : Int32)), .val (.ref b40), .unset] []))
      refine own_go (fun t k => XS.aload X42.here hx rfl (hb hby at_28) rfl rfl  (XS.iload X42.here hx rfl (hb hby at_30) rfl  (XS.iconst X42.here hx rfl (hb hby at_32) (XS.iadd X42.here hx rfl (hb hby at_33) rfl k)))) ?_
      show own_Fin p e below _ (T42.setTop (mkF m 34 #[.val (.int p1), .val (.int p2), .val (.int p3), .val (.int p4), .val (.int p5), .val (.int (0 : Int32)), .val (.int (2 : Int32)), .val (.ref b40), .unset] [(.int (4 : Int32)), (.ref b40)]))
      refine own_go (fun t k => XS.iloadN X42.here hx rfl (hb hby at_34) rfl  k) ?_
      show own_Fin p e below _ (T42.setTop (mkF m 35 #[.val (.int p1), .val (.int p2), .val (.int p3), .val (.int p4), .val (.int p5), .val (.int (0 : Int32)), .val (.int (2 : Int32)), .val (.ref b40), .unset] [(.int p2), (.int (4 : Int32)), (.ref b40)]))
      obtain ⟨_, _, ⟨T45, L45, k45, n45⟩, -, X45, ⟨Lc45, hQ45, l45, y45, z45⟩, st45⟩ := Jvm.LawKit.callS X42 hx (y := (⟨"com/example/palimpsest/palimpsest/chain/CurveScalarsDecodePinLaw", "put", "([BII)V"⟩ : MethodName)) hown (mvT hZ hw_1) (mvT hZ hw_2) (mvT hZ hw_3) (mvT hZ hw_4) (by decide) (backOf (W := 0) (rm1p4 l Z a0 hw [] (b40) (p2) k40 ((nar .byte (p1.toInt8.toInt32))) ((nar .byte (((p1.toUInt32 >>> ((8 : Int32) &&& 31).toUInt32).toInt32).toInt8.toInt32))) ((nar .byte (((p1.toUInt32 >>> ((16 : Int32) &&& 31).toUInt32).toInt32).toInt8.toInt32))) ((nar .byte (((p1.toUInt32 >>> ((24 : Int32) &&& 31).toUInt32).toInt32).toInt8.toInt32))) ((0 : Int32)) ((0 : Int32)) ((0 : Int32)) ((0 : Int32)) ((0 : Int32)) ((0 : Int32)) ((0 : Int32)) ((0 : Int32)) ((0 : Int32)) T42.heap n0 Zh44 V42 g_b40) hZ hw_4 hw_3 (by decide) (by decide)) (g := (mkF m 35 #[.val (.int p1), .val (.int p2), .val (.int p3), .val (.int p4), .val (.int p5), .val (.int (0 : Int32)), .val (.int (2 : Int32)), .val (.ref b40), .unset] [(.int p2), (.int (4 : Int32)), (.ref b40)])) rfl (by rw [hml]; rfl) (argsL := [(.ref b40), (.int (4 : Int32)), (.int p2)]) (rest := []) (lenOf pd_0 rfl) rfl (by show 2 * 0 + _ ≤ _; exact Nat.le_of_eq rfl) (hb hby at_35) (fun _ _ => ⟨rfl, rfl, (by decide : 1 + 0 ≤ _), (by decide : 13 + 0 ≤ _)⟩)
      dsimp only [Pt.U, Pt.locs, Pt.cells, Pt.slots] at X45 l45 y45 z45 st45 hQ45
      subst l45 y45 z45
      obtain ⟨rfl, N45q, K45, V45⟩ := hQ45
      have N45 := Fr.app N42 N45q
      have Zh47 : n0 ≤ T45.heap.size := Nat.le_trans Zh44 K45.1
      refine own_go st45 ?_
      show own_Fin p e below _ (T45.setTop (mkF m 38 #[.val (.int p1), .val (.int p2), .val (.int p3), .val (.int p4), .val (.int p5), .val (.int (0 : Int32)), .val (.int (2 : Int32)), .val (.ref b40), .unset] []))
      refine own_go (fun t k => XS.aload X45.here hx rfl (hb hby at_38) rfl rfl  (XS.iload X45.here hx rfl (hb hby at_40) rfl  (XS.bipush X45.here hx rfl (hb hby at_42) (XS.iadd X45.here hx rfl (hb hby at_44) rfl k)))) ?_
      show own_Fin p e below _ (T45.setTop (mkF m 45 #[.val (.int p1), .val (.int p2), .val (.int p3), .val (.int p4), .val (.int p5), .val (.int (0 : Int32)), .val (.int (2 : Int32)), .val (.ref b40), .unset] [(.int (8 : Int32)), (.ref b40)]))
      refine own_go (fun t k => XS.iloadN X45.here hx rfl (hb hby at_45) rfl  k) ?_
      show own_Fin p e below _ (T45.setTop (mkF m 46 #[.val (.int p1), .val (.int p2), .val (.int p3), .val (.int p4), .val (.int p5), .val (.int (0 : Int32)), .val (.int (2 : Int32)), .val (.ref b40), .unset] [(.int p3), (.int (8 : Int32)), (.ref b40)]))
      obtain ⟨_, _, ⟨T48, L48, k48, n48⟩, -, X48, ⟨Lc48, hQ48, l48, y48, z48⟩, st48⟩ := Jvm.LawKit.callS X45 hx (y := (⟨"com/example/palimpsest/palimpsest/chain/CurveScalarsDecodePinLaw", "put", "([BII)V"⟩ : MethodName)) hown (mvT hZ hw_1) (mvT hZ hw_2) (mvT hZ hw_3) (mvT hZ hw_4) (by decide) (backOf (W := 0) (rm1p8 l Z a0 hw [] (b40) (p3) k40 ((nar .byte (p1.toInt8.toInt32))) ((nar .byte (((p1.toUInt32 >>> ((8 : Int32) &&& 31).toUInt32).toInt32).toInt8.toInt32))) ((nar .byte (((p1.toUInt32 >>> ((16 : Int32) &&& 31).toUInt32).toInt32).toInt8.toInt32))) ((nar .byte (((p1.toUInt32 >>> ((24 : Int32) &&& 31).toUInt32).toInt32).toInt8.toInt32))) ((nar .byte (p2.toInt8.toInt32))) ((nar .byte (((p2.toUInt32 >>> ((8 : Int32) &&& 31).toUInt32).toInt32).toInt8.toInt32))) ((nar .byte (((p2.toUInt32 >>> ((16 : Int32) &&& 31).toUInt32).toInt32).toInt8.toInt32))) ((nar .byte (((p2.toUInt32 >>> ((24 : Int32) &&& 31).toUInt32).toInt32).toInt8.toInt32))) ((0 : Int32)) ((0 : Int32)) ((0 : Int32)) ((0 : Int32)) ((0 : Int32)) T45.heap n0 Zh47 V45 g_b40) hZ hw_4 hw_3 (by decide) (by decide)) (g := (mkF m 46 #[.val (.int p1), .val (.int p2), .val (.int p3), .val (.int p4), .val (.int p5), .val (.int (0 : Int32)), .val (.int (2 : Int32)), .val (.ref b40), .unset] [(.int p3), (.int (8 : Int32)), (.ref b40)])) rfl (by rw [hml]; rfl) (argsL := [(.ref b40), (.int (8 : Int32)), (.int p3)]) (rest := []) (lenOf pd_0 rfl) rfl (by show 2 * 0 + _ ≤ _; exact Nat.le_of_eq rfl) (hb hby at_46) (fun _ _ => ⟨rfl, rfl, (by decide : 1 + 0 ≤ _), (by decide : 13 + 0 ≤ _)⟩)
      dsimp only [Pt.U, Pt.locs, Pt.cells, Pt.slots] at X48 l48 y48 z48 st48 hQ48
      subst l48 y48 z48
      obtain ⟨rfl, N48q, K48, V48⟩ := hQ48
      have N48 := Fr.app N45 N48q
      have Zh50 : n0 ≤ T48.heap.size := Nat.le_trans Zh47 K48.1
      refine own_go st48 ?_
      show own_Fin p e below _ (T48.setTop (mkF m 49 #[.val (.int p1), .val (.int p2), .val (.int p3), .val (.int p4), .val (.int p5), .val (.int (0 : Int32)), .val (.int (2 : Int32)), .val (.ref b40), .unset] []))
      refine own_go (fun t k => XS.iload X48.here hx rfl (hb hby at_49) rfl  (XS.iconst X48.here hx rfl (hb hby at_51) k)) ?_
      show own_Fin p e below _ (T48.setTop (mkF m 52 #[.val (.int p1), .val (.int p2), .val (.int p3), .val (.int p4), .val (.int p5), .val (.int (0 : Int32)), .val (.int (2 : Int32)), .val (.ref b40), .unset] [(.int (1 : Int32)), (.int (0 : Int32))]))
      refine own_go (fun t k => XS.icmpYes X48.here hx rfl (pc0 := 52) (pc' := 64) rfl (hb hby at_52) rfl (feq (by decide : ¬ ((0 : Int32) = (1 : Int32)))).2 (by decide) (by decide) (XS.aload X48.here hx rfl (hb hby at_64) rfl rfl  (XS.bipush X48.here hx rfl (hb hby at_66) (XS.iloadN X48.here hx rfl (hb hby at_68) rfl  k)))) ?_
      show own_Fin p e below _ (T48.setTop (mkF m 69 #[.val (.int p1), .val (.int p2), .val (.int p3), .val (.int p4), .val (.int p5), .val (.int (0 : Int32)), .val (.int (2 : Int32)), .val (.ref b40), .unset] [(.int p4), (.int (12 : Int32)), (.ref b40)]))
      refine own_go (fun t k => XS.i2b X48.here hx rfl (hb hby at_69) rfl k) ?_
      show own_Fin p e below _ (T48.setTop (mkF m 70 #[.val (.int p1), .val (.int p2), .val (.int p3), .val (.int p4), .val (.int p5), .val (.int (0 : Int32)), .val (.int (2 : Int32)), .val (.ref b40), .unset] [(.int (p4.toInt8.toInt32)), (.int (12 : Int32)), (.ref b40)]))
      obtain ⟨cl51, Ar51, q51, S51, M51, H51, G51⟩ := (id V48)
      have hin51 : ¬ ((12 : Int32) < 0 ∨ cl51.slots.size ≤ ((12 : Int32)).toNatClampNeg) := inb_of S51 ⟨by decide, by decide⟩
      obtain ⟨T51, h51, X51, e51, W51, st51⟩ := stB X48 hx hZ rfl Ar51 (j := (12 : Int32)) hin51 (g := (mkF m 70 #[.val (.int p1), .val (.int p2), .val (.int p3), .val (.int p4), .val (.int p5), .val (.int (0 : Int32)), .val (.int (2 : Int32)), .val (.ref b40), .unset] [(.int (p4.toInt8.toInt32)), (.int (12 : Int32)), (.ref b40)])) rfl rfl (hb hby at_70)
      have V51 := Arv.set Ar51 q51 S51 M51 H51 G51 (fits_nar_byte _) W51 12 rfl (Nat.le_of_ble_eq_true rfl)
      have f53 : Arv Z h51 b40 k40 .byte (13 : Int32) [(.int (nar .byte (p1.toInt8.toInt32))), (.int (nar .byte (((p1.toUInt32 >>> ((8 : Int32) &&& 31).toUInt32).toInt32).toInt8.toInt32))), (.int (nar .byte (((p1.toUInt32 >>> ((16 : Int32) &&& 31).toUInt32).toInt32).toInt8.toInt32))), (.int (nar .byte (((p1.toUInt32 >>> ((24 : Int32) &&& 31).toUInt32).toInt32).toInt8.toInt32))), (.int (nar .byte (p2.toInt8.toInt32))), (.int (nar .byte (((p2.toUInt32 >>> ((8 : Int32) &&& 31).toUInt32).toInt32).toInt8.toInt32))), (.int (nar .byte (((p2.toUInt32 >>> ((16 : Int32) &&& 31).toUInt32).toInt32).toInt8.toInt32))), (.int (nar .byte (((p2.toUInt32 >>> ((24 : Int32) &&& 31).toUInt32).toInt32).toInt8.toInt32))), (.int (nar .byte (p3.toInt8.toInt32))), (.int (nar .byte (((p3.toUInt32 >>> ((8 : Int32) &&& 31).toUInt32).toInt32).toInt8.toInt32))), (.int (nar .byte (((p3.toUInt32 >>> ((16 : Int32) &&& 31).toUInt32).toInt32).toInt8.toInt32))), (.int (nar .byte (((p3.toUInt32 >>> ((24 : Int32) &&& 31).toUInt32).toInt32).toInt8.toInt32))), (.int (nar .byte (p4.toInt8.toInt32)))] (.int (0 : Int32)) := V51
      have Zh54 : n0 ≤ h51.size := Nat.le_trans Zh50 (Nat.le_of_eq W51.size.symm)
      have N51 := Fr.snoc X51 N48 g_b40
      refine own_go st51 ?_
      show own_Fin p e below _ (T51.setTop (mkF m 71 #[.val (.int p1), .val (.int p2), .val (.int p3), .val (.int p4), .val (.int p5), .val (.int (0 : Int32)), .val (.int (2 : Int32)), .val (.ref b40), .unset] []))
      refine own_go (fun t k => XS.aload X51.here hx rfl (hb hby at_71) rfl rfl  (XS.iload X51.here hx rfl (hb hby at_73) rfl  (XS.iconst X51.here hx rfl (hb hby at_75) (XS.iload X51.here hx rfl (hb hby at_76) rfl  k)))) ?_
      show own_Fin p e below _ (T51.setTop (mkF m 78 #[.val (.int p1), .val (.int p2), .val (.int p3), .val (.int p4), .val (.int p5), .val (.int (0 : Int32)), .val (.int (2 : Int32)), .val (.ref b40), .unset] [(.int (2 : Int32)), (.int (4 : Int32)), (.int (0 : Int32)), (.ref b40)]))
      refine own_go (fun t k => XS.imul X51.here hx rfl (hb hby at_78) rfl k) ?_
      show own_Fin p e below _ (T51.setTop (mkF m 79 #[.val (.int p1), .val (.int p2), .val (.int p3), .val (.int p4), .val (.int p5), .val (.int (0 : Int32)), .val (.int (2 : Int32)), .val (.ref b40), .unset] [(.int (8 : Int32)), (.int (0 : Int32)), (.ref b40)]))
      obtain ⟨_, _, ⟨T55, L55, k55, n55⟩, -, X55, ⟨Lc55, hQ55, l55, y55, z55⟩, st55⟩ := Jvm.LawKit.callS X51 hx (y := (⟨"com/example/palimpsest/palimpsest/chain/CurveScalars", "decode", "([BII)[I"⟩ : MethodName)) hown (mvT hZ hw_5) (mvT hZ hw_6) (mvT hZ hw_7) (mvT hZ hw_8) (by decide) (backOf (W := 0) (rm2o0c2 l Z a0 hw [] (b40) k40 ((nar .byte (p1.toInt8.toInt32))) ((nar .byte (((p1.toUInt32 >>> ((8 : Int32) &&& 31).toUInt32).toInt32).toInt8.toInt32))) ((nar .byte (((p1.toUInt32 >>> ((16 : Int32) &&& 31).toUInt32).toInt32).toInt8.toInt32))) ((nar .byte (((p1.toUInt32 >>> ((24 : Int32) &&& 31).toUInt32).toInt32).toInt8.toInt32))) ((nar .byte (p2.toInt8.toInt32))) ((nar .byte (((p2.toUInt32 >>> ((8 : Int32) &&& 31).toUInt32).toInt32).toInt8.toInt32))) ((nar .byte (((p2.toUInt32 >>> ((16 : Int32) &&& 31).toUInt32).toInt32).toInt8.toInt32))) ((nar .byte (((p2.toUInt32 >>> ((24 : Int32) &&& 31).toUInt32).toInt32).toInt8.toInt32))) ((nar .byte (p3.toInt8.toInt32))) ((nar .byte (((p3.toUInt32 >>> ((8 : Int32) &&& 31).toUInt32).toInt32).toInt8.toInt32))) ((nar .byte (((p3.toUInt32 >>> ((16 : Int32) &&& 31).toUInt32).toInt32).toInt8.toInt32))) ((nar .byte (((p3.toUInt32 >>> ((24 : Int32) &&& 31).toUInt32).toInt32).toInt8.toInt32))) ((nar .byte (p4.toInt8.toInt32))) h51 n0 Zh54 f53) hZ hw_8 hw_7 (by decide) (by decide)) (g := (mkF m 79 #[.val (.int p1), .val (.int p2), .val (.int p3), .val (.int p4), .val (.int p5), .val (.int (0 : Int32)), .val (.int (2 : Int32)), .val (.ref b40), .unset] [(.int (8 : Int32)), (.int (0 : Int32)), (.ref b40)])) rfl (by rw [hml]; rfl) (argsL := [(.ref b40), (.int (0 : Int32)), (.int (8 : Int32))]) (rest := []) (lenOf pd_1 rfl) rfl (by show 2 * 0 + _ ≤ _; exact Nat.le_of_eq rfl) (hb hby at_79) (fun _ _ => ⟨rfl, e51, (by decide : 1 + 1 ≤ _), (by decide : 13 + 2 ≤ _)⟩)
      dsimp only [Pt.U, Pt.locs, Pt.cells, Pt.slots] at X55 l55 y55 z55 st55 hQ55
      subst l55 y55 z55
      obtain ⟨b55, k55, rfl, N55q, sz55, K55, V55⟩ := hQ55
      have N55 := Fr.app N51 N55q
      have g_b55 : n0 ≤ b55 := Nat.le_trans Zh54 sz55
      have ne_b40_b55 : b40 ≠ b55 := Nat.ne_of_lt (Nat.lt_of_lt_of_le f53.lt sz55)
      have E55 : Ext _ _ := ⟨K55.1, fun a c q => K55.2.1 a c q nin0⟩
      have f56 := f53.ext E55
      have Zh57 : n0 ≤ T55.heap.size := Nat.le_trans Zh54 K55.1
      refine own_go st55 ?_
      show own_Fin p e below _ (T55.setTop (mkF m 82 #[.val (.int p1), .val (.int p2), .val (.int p3), .val (.int p4), .val (.int p5), .val (.int (0 : Int32)), .val (.int (2 : Int32)), .val (.ref b40), .unset] [(.ref b55)]))
      refine own_go (fun t k => XS.astore X55.here hx rfl (hb hby at_82) rfl rfl (l' := #[.val (.int p1), .val (.int p2), .val (.int p3), .val (.int p4), .val (.int p5), .val (.int (0 : Int32)), .val (.int (2 : Int32)), .val (.ref b40), .val (.ref b55)]) rfl (XS.aload X55.here hx rfl (hb hby at_84) rfl rfl  k)) ?_
      show own_Fin p e below _ (T55.setTop (mkF m 86 #[.val (.int p1), .val (.int p2), .val (.int p3), .val (.int p4), .val (.int p5), .val (.int (0 : Int32)), .val (.int (2 : Int32)), .val (.ref b40), .val (.ref b55)] [(.ref b55)]))
      obtain ⟨cl58, Ar58, q58, S58, M58, H58, G58⟩ := (id V55)
      refine own_go (fun t k => X55.arraylength hx Ar58.1 (State.isArrayOf_alike hZ.alike Ar58.2.1) (g := (mkF m 86 #[.val (.int p1), .val (.int p2), .val (.int p3), .val (.int p4), .val (.int p5), .val (.int (0 : Int32)), .val (.int (2 : Int32)), .val (.ref b40), .val (.ref b55)] [(.ref b55)])) rfl rfl (hb hby at_86) _ k) ?_
      rw [len_of S58 M58]
      show own_Fin p e below _ (T55.setTop (mkF m 87 #[.val (.int p1), .val (.int p2), .val (.int p3), .val (.int p4), .val (.int p5), .val (.int (0 : Int32)), .val (.int (2 : Int32)), .val (.ref b40), .val (.ref b55)] [(.int (2 : Int32))]))
      refine own_go (fun t k => XS.iload X55.here hx rfl (hb hby at_87) rfl  k) ?_
      show own_Fin p e below _ (T55.setTop (mkF m 89 #[.val (.int p1), .val (.int p2), .val (.int p3), .val (.int p4), .val (.int p5), .val (.int (0 : Int32)), .val (.int (2 : Int32)), .val (.ref b40), .val (.ref b55)] [(.int (2 : Int32)), (.int (2 : Int32))]))
      refine own_go (fun t k => XS.icmpYes X55.here hx rfl (pc0 := 89) (pc' := 94) rfl (hb hby at_89) rfl (teq (by decide : (2 : Int32) = (2 : Int32))).1 (by decide) (by decide) (XS.iload X55.here hx rfl (hb hby at_94) rfl  (XS.iconst X55.here hx rfl (hb hby at_96) k))) ?_
      show own_Fin p e below _ (T55.setTop (mkF m 97 #[.val (.int p1), .val (.int p2), .val (.int p3), .val (.int p4), .val (.int p5), .val (.int (0 : Int32)), .val (.int (2 : Int32)), .val (.ref b40), .val (.ref b55)] [(.int (1 : Int32)), (.int (2 : Int32))]))
      refine own_go (fun t k => XS.icmpNo X55.here hx rfl (hb hby at_97) rfl (flt (by decide : ¬ ((2 : Int32) < (1 : Int32)))).1 (XS.aload X55.here hx rfl (hb hby at_100) rfl rfl  (XS.iconst X55.here hx rfl (hb hby at_102) k))) ?_
      show own_Fin p e below _ (T55.setTop (mkF m 103 #[.val (.int p1), .val (.int p2), .val (.int p3), .val (.int p4), .val (.int p5), .val (.int (0 : Int32)), .val (.int (2 : Int32)), .val (.ref b40), .val (.ref b55)] [(.int (0 : Int32)), (.ref b55)]))
      obtain ⟨cl59, Ar59, q59, S59, M59, H59, G59⟩ := (id V55)
      have hin59 : ¬ ((0 : Int32) < 0 ∨ cl59.slots.size ≤ ((0 : Int32)).toNatClampNeg) := inb_of S59 ⟨by decide, by decide⟩
      have hat59 : cl59.slots[((0 : Int32)).toNatClampNeg]? = some (.int (own_w ((nar .byte (p1.toInt8.toInt32))) ((nar .byte (((p1.toUInt32 >>> ((8 : Int32) &&& 31).toUInt32).toInt32).toInt8.toInt32))) ((nar .byte (((p1.toUInt32 >>> ((16 : Int32) &&& 31).toUInt32).toInt32).toInt8.toInt32))) ((nar .byte (((p1.toUInt32 >>> ((24 : Int32) &&& 31).toUInt32).toInt32).toInt8.toInt32))))) := H59.at hin59 rfl
      refine own_go (fun t k => X55.iaload hx (j := (0 : Int32)) (v := (.int (own_w ((nar .byte (p1.toInt8.toInt32))) ((nar .byte (((p1.toUInt32 >>> ((8 : Int32) &&& 31).toUInt32).toInt32).toInt8.toInt32))) ((nar .byte (((p1.toUInt32 >>> ((16 : Int32) &&& 31).toUInt32).toInt32).toInt8.toInt32))) ((nar .byte (((p1.toUInt32 >>> ((24 : Int32) &&& 31).toUInt32).toInt32).toInt8.toInt32)))))) Ar59.1 (State.isArrayOf_alike hZ.alike Ar59.2.1) Ar59.2.2 hin59 hat59 (g := (mkF m 103 #[.val (.int p1), .val (.int p2), .val (.int p3), .val (.int p4), .val (.int p5), .val (.int (0 : Int32)), .val (.int (2 : Int32)), .val (.ref b40), .val (.ref b55)] [(.int (0 : Int32)), (.ref b55)])) rfl rfl (hb hby at_103) _ (XS.iloadN X55.here hx rfl (hb hby at_104) rfl  k)) ?_
      show own_Fin p e below _ (T55.setTop (mkF m 105 #[.val (.int p1), .val (.int p2), .val (.int p3), .val (.int p4), .val (.int p5), .val (.int (0 : Int32)), .val (.int (2 : Int32)), .val (.ref b40), .val (.ref b55)] [(.int p1), (.int (own_w ((nar .byte (p1.toInt8.toInt32))) ((nar .byte (((p1.toUInt32 >>> ((8 : Int32) &&& 31).toUInt32).toInt32).toInt8.toInt32))) ((nar .byte (((p1.toUInt32 >>> ((16 : Int32) &&& 31).toUInt32).toInt32).toInt8.toInt32))) ((nar .byte (((p1.toUInt32 >>> ((24 : Int32) &&& 31).toUInt32).toInt32).toInt8.toInt32)))))]))
      refine own_go (fun t k => XS.icmpYes X55.here hx rfl (pc0 := 105) (pc' := 110) rfl (hb hby at_105) rfl (teq (own_dec _)).1 (by decide) (by decide) (XS.iload X55.here hx rfl (hb hby at_110) rfl  (XS.iconst X55.here hx rfl (hb hby at_112) k))) ?_
      show own_Fin p e below _ (T55.setTop (mkF m 113 #[.val (.int p1), .val (.int p2), .val (.int p3), .val (.int p4), .val (.int p5), .val (.int (0 : Int32)), .val (.int (2 : Int32)), .val (.ref b40), .val (.ref b55)] [(.int (2 : Int32)), (.int (2 : Int32))]))
      refine own_go (fun t k => XS.icmpNo X55.here hx rfl (hb hby at_113) rfl (flt (by decide : ¬ ((2 : Int32) < (2 : Int32)))).1 (XS.aload X55.here hx rfl (hb hby at_116) rfl rfl  (XS.iconst X55.here hx rfl (hb hby at_118) k))) ?_
      show own_Fin p e below _ (T55.setTop (mkF m 119 #[.val (.int p1), .val (.int p2), .val (.int p3), .val (.int p4), .val (.int p5), .val (.int (0 : Int32)), .val (.int (2 : Int32)), .val (.ref b40), .val (.ref b55)] [(.int (1 : Int32)), (.ref b55)]))
      obtain ⟨cl60, Ar60, q60, S60, M60, H60, G60⟩ := (id V55)
      have hin60 : ¬ ((1 : Int32) < 0 ∨ cl60.slots.size ≤ ((1 : Int32)).toNatClampNeg) := inb_of S60 ⟨by decide, by decide⟩
      have hat60 : cl60.slots[((1 : Int32)).toNatClampNeg]? = some (.int (own_w ((nar .byte (p2.toInt8.toInt32))) ((nar .byte (((p2.toUInt32 >>> ((8 : Int32) &&& 31).toUInt32).toInt32).toInt8.toInt32))) ((nar .byte (((p2.toUInt32 >>> ((16 : Int32) &&& 31).toUInt32).toInt32).toInt8.toInt32))) ((nar .byte (((p2.toUInt32 >>> ((24 : Int32) &&& 31).toUInt32).toInt32).toInt8.toInt32))))) := H60.at hin60 rfl
      refine own_go (fun t k => X55.iaload hx (j := (1 : Int32)) (v := (.int (own_w ((nar .byte (p2.toInt8.toInt32))) ((nar .byte (((p2.toUInt32 >>> ((8 : Int32) &&& 31).toUInt32).toInt32).toInt8.toInt32))) ((nar .byte (((p2.toUInt32 >>> ((16 : Int32) &&& 31).toUInt32).toInt32).toInt8.toInt32))) ((nar .byte (((p2.toUInt32 >>> ((24 : Int32) &&& 31).toUInt32).toInt32).toInt8.toInt32)))))) Ar60.1 (State.isArrayOf_alike hZ.alike Ar60.2.1) Ar60.2.2 hin60 hat60 (g := (mkF m 119 #[.val (.int p1), .val (.int p2), .val (.int p3), .val (.int p4), .val (.int p5), .val (.int (0 : Int32)), .val (.int (2 : Int32)), .val (.ref b40), .val (.ref b55)] [(.int (1 : Int32)), (.ref b55)])) rfl rfl (hb hby at_119) _ (XS.iloadN X55.here hx rfl (hb hby at_120) rfl  k)) ?_
      show own_Fin p e below _ (T55.setTop (mkF m 121 #[.val (.int p1), .val (.int p2), .val (.int p3), .val (.int p4), .val (.int p5), .val (.int (0 : Int32)), .val (.int (2 : Int32)), .val (.ref b40), .val (.ref b55)] [(.int p2), (.int (own_w ((nar .byte (p2.toInt8.toInt32))) ((nar .byte (((p2.toUInt32 >>> ((8 : Int32) &&& 31).toUInt32).toInt32).toInt8.toInt32))) ((nar .byte (((p2.toUInt32 >>> ((16 : Int32) &&& 31).toUInt32).toInt32).toInt8.toInt32))) ((nar .byte (((p2.toUInt32 >>> ((24 : Int32) &&& 31).toUInt32).toInt32).toInt8.toInt32)))))]))
      refine own_go (fun t k => XS.icmpYes X55.here hx rfl (pc0 := 121) (pc' := 126) rfl (hb hby at_121) rfl (teq (own_dec _)).1 (by decide) (by decide) (XS.iload X55.here hx rfl (hb hby at_126) rfl  (XS.iconst X55.here hx rfl (hb hby at_128) k))) ?_
      show own_Fin p e below _ (T55.setTop (mkF m 129 #[.val (.int p1), .val (.int p2), .val (.int p3), .val (.int p4), .val (.int p5), .val (.int (0 : Int32)), .val (.int (2 : Int32)), .val (.ref b40), .val (.ref b55)] [(.int (3 : Int32)), (.int (2 : Int32))]))
      refine own_go (fun t k => XS.icmpYes X55.here hx rfl (pc0 := 129) (pc' := 142) rfl (hb hby at_129) rfl (tlt (by decide : (2 : Int32) < (3 : Int32))).1 (by decide) (by decide) (XS.iconst X55.here hx rfl (hb hby at_142) k)) ?_
      show own_Fin p e below _ (T55.setTop (mkF m 143 #[.val (.int p1), .val (.int p2), .val (.int p3), .val (.int p4), .val (.int p5), .val (.int (0 : Int32)), .val (.int (2 : Int32)), .val (.ref b40), .val (.ref b55)] [(.int (1 : Int32))]))
      exact own_out X55 (fun h => by rw [Bd.returns] at h; cases h) Bd.notSynchronized (fun fs hr => retN X55 hx (t := .boolean) Bd.returns (by simp) (hb hby at_143) hr) ⟨rfl, N55⟩ (by decide) (by decide)
    · skip
      rw [h]
      show own_Fin p e below _ (s₁.setTop (mkF m 12 #[.val (.int p1), .val (.int p2), .val (.int p3), .val (.int p4), .val (.int p5), .val (.int (0 : Int32)), .unset, .unset, .unset] [(.int (3 : Int32))]))
      refine own_go (fun t k => XS.istore X0.here hx rfl (hb hby at_12) rfl (l' := #[.val (.int p1), .val (.int p2), .val (.int p3), .val (.int p4), .val (.int p5), .val (.int (0 : Int32)), .val (.int (3 : Int32)), .unset, .unset]) rfl (XS.bipush X0.here hx rfl (hb hby at_14) k)) ?_
      show own_Fin p e below _ (s₁.setTop (mkF m 16 #[.val (.int p1), .val (.int p2), .val (.int p3), .val (.int p4), .val (.int p5), .val (.int (0 : Int32)), .val (.int (3 : Int32)), .unset, .unset] [(.int (13 : Int32))]))
      obtain ⟨T61, h61, k61, X61, e61, E61, A61, st61⟩ := newP (aty := .byte) X0 hx hZ hw_0 e0 (g := (mkF m 16 #[.val (.int p1), .val (.int p2), .val (.int p3), .val (.int p4), .val (.int p5), .val (.int (0 : Int32)), .val (.int (3 : Int32)), .unset, .unset] [(.int (13 : Int32))])) rfl (hb hby at_16) rfl (by decide) (cap := 13) (by decide) (by decide) (by decide) (by decide)
      obtain ⟨b61, g61⟩ : ∃ z, z = h0.size := ⟨_, rfl⟩
      rw [← g61] at A61 st61
      have g_b61 : n0 ≤ b61 := Nat.le_trans Z0 (Nat.le_of_eq g61.symm)
      have Zh62 : n0 ≤ h61.size := Nat.le_trans Z0 E61.1
      have V61 : Arv Z h61 b61 k61 .byte (13 : Int32) [(.int (0 : Int32)), (.int (0 : Int32)), (.int (0 : Int32)), (.int (0 : Int32)), (.int (0 : Int32)), (.int (0 : Int32)), (.int (0 : Int32)), (.int (0 : Int32)), (.int (0 : Int32)), (.int (0 : Int32)), (.int (0 : Int32)), (.int (0 : Int32)), (.int (0 : Int32))] (.int (0 : Int32)) := (Arv.new A61 (by decide)).pad (pad_rep [] (.int (0 : Int32)) 13)
      refine own_go st61 ?_
      show own_Fin p e below _ (T61.setTop (mkF m 18 #[.val (.int p1), .val (.int p2), .val (.int p3), .val (.int p4), .val (.int p5), .val (.int (0 : Int32)), .val (.int (3 : Int32)), .unset, .unset] [(.ref b61)]))
      refine own_go (fun t k => XS.astore X61.here hx rfl (hb hby at_18) rfl rfl (l' := #[.val (.int p1), .val (.int p2), .val (.int p3), .val (.int p4), .val (.int p5), .val (.int (0 : Int32)), .val (.int (3 : Int32)), .val (.ref b61), .unset]) rfl (XS.aload X61.here hx rfl (hb hby at_20) rfl rfl  (XS.iload X61.here hx rfl (hb hby at_22) rfl  (XS.iloadN X61.here hx rfl (hb hby at_24) rfl  k)))) ?_
      show own_Fin p e below _ (T61.setTop (mkF m 25 #[.val (.int p1), .val (.int p2), .val (.int p3), .val (.int p4), .val (.int p5), .val (.int (0 : Int32)), .val (.int (3 : Int32)), .val (.ref b61), .unset] [(.int p1), (.int (0 : Int32)), (.ref b61)]))
      obtain ⟨_, _, ⟨T63, L63, k63, n63⟩, -, X63, ⟨Lc63, hQ63, l63, y63, z63⟩, st63⟩ := Jvm.LawKit.callS X61 hx (y := (⟨"com/example/palimpsest/palimpsest/chain/CurveScalarsDecodePinLaw", "put", "([BII)V"⟩ : MethodName)) hown (mvT hZ hw_1) (mvT hZ hw_2) (mvT hZ hw_3) (mvT hZ hw_4) (by decide) (backOf (W := 0) (rm1p0 l Z a0 hw [] (b61) (p1) k61 ((0 : Int32)) ((0 : Int32)) ((0 : Int32)) ((0 : Int32)) ((0 : Int32)) ((0 : Int32)) ((0 : Int32)) ((0 : Int32)) ((0 : Int32)) ((0 : Int32)) ((0 : Int32)) ((0 : Int32)) ((0 : Int32)) h61 n0 Zh62 V61 g_b61) hZ hw_4 hw_3 (by decide) (by decide)) (g := (mkF m 25 #[.val (.int p1), .val (.int p2), .val (.int p3), .val (.int p4), .val (.int p5), .val (.int (0 : Int32)), .val (.int (3 : Int32)), .val (.ref b61), .unset] [(.int p1), (.int (0 : Int32)), (.ref b61)])) rfl (by rw [hml]; rfl) (argsL := [(.ref b61), (.int (0 : Int32)), (.int p1)]) (rest := []) (lenOf pd_0 rfl) rfl (by show 2 * 0 + _ ≤ _; exact Nat.le_of_eq rfl) (hb hby at_25) (fun _ _ => ⟨rfl, e61, (by decide : 1 + 0 ≤ _), (by decide : 13 + 0 ≤ _)⟩)
      dsimp only [Pt.U, Pt.locs, Pt.cells, Pt.slots] at X63 l63 y63 z63 st63 hQ63
      subst l63 y63 z63
      obtain ⟨rfl, N63q, K63, V63⟩ := hQ63
      have N63 := Fr.app N0 N63q
      have Zh65 : n0 ≤ T63.heap.size := Nat.le_trans Zh62 K63.1
      refine own_go st63 ?_
      show own_Fin p e below _ (T63.setTop (mkF m 28 #[.val (.int p1), .val (.int p2), .val (.int p3), .val (.int p4), .val (.int p5), .val (.int (0 : Int32)), .val (.int (3 : Int32)), .val (.ref b61), .unset] []))
      refine own_go (fun t k => XS.aload X63.here hx rfl (hb hby at_28) rfl rfl  (XS.iload X63.here hx rfl (hb hby at_30) rfl  (XS.iconst X63.here hx rfl (hb hby at_32) (XS.iadd X63.here hx rfl (hb hby at_33) rfl k)))) ?_
      show own_Fin p e below _ (T63.setTop (mkF m 34 #[.val (.int p1), .val (.int p2), .val (.int p3), .val (.int p4), .val (.int p5), .val (.int (0 : Int32)), .val (.int (3 : Int32)), .val (.ref b61), .unset] [(.int (4 : Int32)), (.ref b61)]))
      refine own_go (fun t k => XS.iloadN X63.here hx rfl (hb hby at_34) rfl  k) ?_
      show own_Fin p e below _ (T63.setTop (mkF m 35 #[.val (.int p1), .val (.int p2), .val (.int p3), .val (.int p4), .val (.int p5), .val (.int (0 : Int32)), .val (.int (3 : Int32)), .val (.ref b61), .unset] [(.int p2), (.int (4 : Int32)), (.ref b61)]))
      obtain ⟨_, _, ⟨T66, L66, k66, n66⟩, -, X66, ⟨Lc66, hQ66, l66, y66, z66⟩, st66⟩ := Jvm.LawKit.callS X63 hx (y := (⟨"com/example/palimpsest/palimpsest/chain/CurveScalarsDecodePinLaw", "put", "([BII)V"⟩ : MethodName)) hown (mvT hZ hw_1) (mvT hZ hw_2) (mvT hZ hw_3) (mvT hZ hw_4) (by decide) (backOf (W := 0) (rm1p4 l Z a0 hw [] (b61) (p2) k61 ((nar .byte (p1.toInt8.toInt32))) ((nar .byte (((p1.toUInt32 >>> ((8 : Int32) &&& 31).toUInt32).toInt32).toInt8.toInt32))) ((nar .byte (((p1.toUInt32 >>> ((16 : Int32) &&& 31).toUInt32).toInt32).toInt8.toInt32))) ((nar .byte (((p1.toUInt32 >>> ((24 : Int32) &&& 31).toUInt32).toInt32).toInt8.toInt32))) ((0 : Int32)) ((0 : Int32)) ((0 : Int32)) ((0 : Int32)) ((0 : Int32)) ((0 : Int32)) ((0 : Int32)) ((0 : Int32)) ((0 : Int32)) T63.heap n0 Zh65 V63 g_b61) hZ hw_4 hw_3 (by decide) (by decide)) (g := (mkF m 35 #[.val (.int p1), .val (.int p2), .val (.int p3), .val (.int p4), .val (.int p5), .val (.int (0 : Int32)), .val (.int (3 : Int32)), .val (.ref b61), .unset] [(.int p2), (.int (4 : Int32)), (.ref b61)])) rfl (by rw [hml]; rfl) (argsL := [(.ref b61), (.int (4 : Int32)), (.int p2)]) (rest := []) (lenOf pd_0 rfl) rfl (by show 2 * 0 + _ ≤ _; exact Nat.le_of_eq rfl) (hb hby at_35) (fun _ _ => ⟨rfl, rfl, (by decide : 1 + 0 ≤ _), (by decide : 13 + 0 ≤ _)⟩)
      dsimp only [Pt.U, Pt.locs, Pt.cells, Pt.slots] at X66 l66 y66 z66 st66 hQ66
      subst l66 y66 z66
      obtain ⟨rfl, N66q, K66, V66⟩ := hQ66
      have N66 := Fr.app N63 N66q
      have Zh68 : n0 ≤ T66.heap.size := Nat.le_trans Zh65 K66.1
      refine own_go st66 ?_
      show own_Fin p e below _ (T66.setTop (mkF m 38 #[.val (.int p1), .val (.int p2), .val (.int p3), .val (.int p4), .val (.int p5), .val (.int (0 : Int32)), .val (.int (3 : Int32)), .val (.ref b61), .unset] []))
      refine own_go (fun t k => XS.aload X66.here hx rfl (hb hby at_38) rfl rfl  (XS.iload X66.here hx rfl (hb hby at_40) rfl  (XS.bipush X66.here hx rfl (hb hby at_42) (XS.iadd X66.here hx rfl (hb hby at_44) rfl k)))) ?_
      show own_Fin p e below _ (T66.setTop (mkF m 45 #[.val (.int p1), .val (.int p2), .val (.int p3), .val (.int p4), .val (.int p5), .val (.int (0 : Int32)), .val (.int (3 : Int32)), .val (.ref b61), .unset] [(.int (8 : Int32)), (.ref b61)]))
      refine own_go (fun t k => XS.iloadN X66.here hx rfl (hb hby at_45) rfl  k) ?_
      show own_Fin p e below _ (T66.setTop (mkF m 46 #[.val (.int p1), .val (.int p2), .val (.int p3), .val (.int p4), .val (.int p5), .val (.int (0 : Int32)), .val (.int (3 : Int32)), .val (.ref b61), .unset] [(.int p3), (.int (8 : Int32)), (.ref b61)]))
      obtain ⟨_, _, ⟨T69, L69, k69, n69⟩, -, X69, ⟨Lc69, hQ69, l69, y69, z69⟩, st69⟩ := Jvm.LawKit.callS X66 hx (y := (⟨"com/example/palimpsest/palimpsest/chain/CurveScalarsDecodePinLaw", "put", "([BII)V"⟩ : MethodName)) hown (mvT hZ hw_1) (mvT hZ hw_2) (mvT hZ hw_3) (mvT hZ hw_4) (by decide) (backOf (W := 0) (rm1p8 l Z a0 hw [] (b61) (p3) k61 ((nar .byte (p1.toInt8.toInt32))) ((nar .byte (((p1.toUInt32 >>> ((8 : Int32) &&& 31).toUInt32).toInt32).toInt8.toInt32))) ((nar .byte (((p1.toUInt32 >>> ((16 : Int32) &&& 31).toUInt32).toInt32).toInt8.toInt32))) ((nar .byte (((p1.toUInt32 >>> ((24 : Int32) &&& 31).toUInt32).toInt32).toInt8.toInt32))) ((nar .byte (p2.toInt8.toInt32))) ((nar .byte (((p2.toUInt32 >>> ((8 : Int32) &&& 31).toUInt32).toInt32).toInt8.toInt32))) ((nar .byte (((p2.toUInt32 >>> ((16 : Int32) &&& 31).toUInt32).toInt32).toInt8.toInt32))) ((nar .byte (((p2.toUInt32 >>> ((24 : Int32) &&& 31).toUInt32).toInt32).toInt8.toInt32))) ((0 : Int32)) ((0 : Int32)) ((0 : Int32)) ((0 : Int32)) ((0 : Int32)) T66.heap n0 Zh68 V66 g_b61) hZ hw_4 hw_3 (by decide) (by decide)) (g := (mkF m 46 #[.val (.int p1), .val (.int p2), .val (.int p3), .val (.int p4), .val (.int p5), .val (.int (0 : Int32)), .val (.int (3 : Int32)), .val (.ref b61), .unset] [(.int p3), (.int (8 : Int32)), (.ref b61)])) rfl (by rw [hml]; rfl) (argsL := [(.ref b61), (.int (8 : Int32)), (.int p3)]) (rest := []) (lenOf pd_0 rfl) rfl (by show 2 * 0 + _ ≤ _; exact Nat.le_of_eq rfl) (hb hby at_46) (fun _ _ => ⟨rfl, rfl, (by decide : 1 + 0 ≤ _), (by decide : 13 + 0 ≤ _)⟩)
      dsimp only [Pt.U, Pt.locs, Pt.cells, Pt.slots] at X69 l69 y69 z69 st69 hQ69
      subst l69 y69 z69
      obtain ⟨rfl, N69q, K69, V69⟩ := hQ69
      have N69 := Fr.app N66 N69q
      have Zh71 : n0 ≤ T69.heap.size := Nat.le_trans Zh68 K69.1
      refine own_go st69 ?_
      show own_Fin p e below _ (T69.setTop (mkF m 49 #[.val (.int p1), .val (.int p2), .val (.int p3), .val (.int p4), .val (.int p5), .val (.int (0 : Int32)), .val (.int (3 : Int32)), .val (.ref b61), .unset] []))
      refine own_go (fun t k => XS.iload X69.here hx rfl (hb hby at_49) rfl  (XS.iconst X69.here hx rfl (hb hby at_51) k)) ?_
      show own_Fin p e below _ (T69.setTop (mkF m 52 #[.val (.int p1), .val (.int p2), .val (.int p3), .val (.int p4), .val (.int p5), .val (.int (0 : Int32)), .val (.int (3 : Int32)), .val (.ref b61), .unset] [(.int (1 : Int32)), (.int (0 : Int32))]))
      refine own_go (fun t k => XS.icmpYes X69.here hx rfl (pc0 := 52) (pc' := 64) rfl (hb hby at_52) rfl (feq (by decide : ¬ ((0 : Int32) = (1 : Int32)))).2 (by decide) (by decide) (XS.aload X69.here hx rfl (hb hby at_64) rfl rfl  (XS.bipush X69.here hx rfl (hb hby at_66) (XS.iloadN X69.here hx rfl (hb hby at_68) rfl  k)))) ?_
      show own_Fin p e below _ (T69.setTop (mkF m 69 #[.val (.int p1), .val (.int p2), .val (.int p3), .val (.int p4), .val (.int p5), .val (.int (0 : Int32)), .val (.int (3 : Int32)), .val (.ref b61), .unset] [(.int p4), (.int (12 : Int32)), (.ref b61)]))
      refine own_go (fun t k => XS.i2b X69.here hx rfl (hb hby at_69) rfl k) ?_
      show own_Fin p e below _ (T69.setTop (mkF m 70 #[.val (.int p1), .val (.int p2), .val (.int p3), .val (.int p4), .val (.int p5), .val (.int (0 : Int32)), .val (.int (3 : Int32)), .val (.ref b61), .unset] [(.int (p4.toInt8.toInt32)), (.int (12 : Int32)), (.ref b61)]))
      obtain ⟨cl72, Ar72, q72, S72, M72, H72, G72⟩ := (id V69)
      have hin72 : ¬ ((12 : Int32) < 0 ∨ cl72.slots.size ≤ ((12 : Int32)).toNatClampNeg) := inb_of S72 ⟨by decide, by decide⟩
      obtain ⟨T72, h72, X72, e72, W72, st72⟩ := stB X69 hx hZ rfl Ar72 (j := (12 : Int32)) hin72 (g := (mkF m 70 #[.val (.int p1), .val (.int p2), .val (.int p3), .val (.int p4), .val (.int p5), .val (.int (0 : Int32)), .val (.int (3 : Int32)), .val (.ref b61), .unset] [(.int (p4.toInt8.toInt32)), (.int (12 : Int32)), (.ref b61)])) rfl rfl (hb hby at_70)
      have V72 := Arv.set Ar72 q72 S72 M72 H72 G72 (fits_nar_byte _) W72 12 rfl (Nat.le_of_ble_eq_true rfl)
      have f74 : Arv Z h72 b61 k61 .byte (13 : Int32) [(.int (nar .byte (p1.toInt8.toInt32))), (.int (nar .byte (((p1.toUInt32 >>> ((8 : Int32) &&& 31).toUInt32).toInt32).toInt8.toInt32))), (.int (nar .byte (((p1.toUInt32 >>> ((16 : Int32) &&& 31).toUInt32).toInt32).toInt8.toInt32))), (.int (nar .byte (((p1.toUInt32 >>> ((24 : Int32) &&& 31).toUInt32).toInt32).toInt8.toInt32))), (.int (nar .byte (p2.toInt8.toInt32))), (.int (nar .byte (((p2.toUInt32 >>> ((8 : Int32) &&& 31).toUInt32).toInt32).toInt8.toInt32))), (.int (nar .byte (((p2.toUInt32 >>> ((16 : Int32) &&& 31).toUInt32).toInt32).toInt8.toInt32))), (.int (nar .byte (((p2.toUInt32 >>> ((24 : Int32) &&& 31).toUInt32).toInt32).toInt8.toInt32))), (.int (nar .byte (p3.toInt8.toInt32))), (.int (nar .byte (((p3.toUInt32 >>> ((8 : Int32) &&& 31).toUInt32).toInt32).toInt8.toInt32))), (.int (nar .byte (((p3.toUInt32 >>> ((16 : Int32) &&& 31).toUInt32).toInt32).toInt8.toInt32))), (.int (nar .byte (((p3.toUInt32 >>> ((24 : Int32) &&& 31).toUInt32).toInt32).toInt8.toInt32))), (.int (nar .byte (p4.toInt8.toInt32)))] (.int (0 : Int32)) := V72
      have Zh75 : n0 ≤ h72.size := Nat.le_trans Zh71 (Nat.le_of_eq W72.size.symm)
      have N72 := Fr.snoc X72 N69 g_b61
      refine own_go st72 ?_
      show own_Fin p e below _ (T72.setTop (mkF m 71 #[.val (.int p1), .val (.int p2), .val (.int p3), .val (.int p4), .val (.int p5), .val (.int (0 : Int32)), .val (.int (3 : Int32)), .val (.ref b61), .unset] []))
      refine own_go (fun t k => XS.aload X72.here hx rfl (hb hby at_71) rfl rfl  (XS.iload X72.here hx rfl (hb hby at_73) rfl  (XS.iconst X72.here hx rfl (hb hby at_75) (XS.iload X72.here hx rfl (hb hby at_76) rfl  k)))) ?_
      show own_Fin p e below _ (T72.setTop (mkF m 78 #[.val (.int p1), .val (.int p2), .val (.int p3), .val (.int p4), .val (.int p5), .val (.int (0 : Int32)), .val (.int (3 : Int32)), .val (.ref b61), .unset] [(.int (3 : Int32)), (.int (4 : Int32)), (.int (0 : Int32)), (.ref b61)]))
      refine own_go (fun t k => XS.imul X72.here hx rfl (hb hby at_78) rfl k) ?_
      show own_Fin p e below _ (T72.setTop (mkF m 79 #[.val (.int p1), .val (.int p2), .val (.int p3), .val (.int p4), .val (.int p5), .val (.int (0 : Int32)), .val (.int (3 : Int32)), .val (.ref b61), .unset] [(.int (12 : Int32)), (.int (0 : Int32)), (.ref b61)]))
      obtain ⟨_, _, ⟨T76, L76, k76, n76⟩, -, X76, ⟨Lc76, hQ76, l76, y76, z76⟩, st76⟩ := Jvm.LawKit.callS X72 hx (y := (⟨"com/example/palimpsest/palimpsest/chain/CurveScalars", "decode", "([BII)[I"⟩ : MethodName)) hown (mvT hZ hw_5) (mvT hZ hw_6) (mvT hZ hw_7) (mvT hZ hw_8) (by decide) (backOf (W := 0) (rm2o0c3 l Z a0 hw [] (b61) k61 ((nar .byte (p1.toInt8.toInt32))) ((nar .byte (((p1.toUInt32 >>> ((8 : Int32) &&& 31).toUInt32).toInt32).toInt8.toInt32))) ((nar .byte (((p1.toUInt32 >>> ((16 : Int32) &&& 31).toUInt32).toInt32).toInt8.toInt32))) ((nar .byte (((p1.toUInt32 >>> ((24 : Int32) &&& 31).toUInt32).toInt32).toInt8.toInt32))) ((nar .byte (p2.toInt8.toInt32))) ((nar .byte (((p2.toUInt32 >>> ((8 : Int32) &&& 31).toUInt32).toInt32).toInt8.toInt32))) ((nar .byte (((p2.toUInt32 >>> ((16 : Int32) &&& 31).toUInt32).toInt32).toInt8.toInt32))) ((nar .byte (((p2.toUInt32 >>> ((24 : Int32) &&& 31).toUInt32).toInt32).toInt8.toInt32))) ((nar .byte (p3.toInt8.toInt32))) ((nar .byte (((p3.toUInt32 >>> ((8 : Int32) &&& 31).toUInt32).toInt32).toInt8.toInt32))) ((nar .byte (((p3.toUInt32 >>> ((16 : Int32) &&& 31).toUInt32).toInt32).toInt8.toInt32))) ((nar .byte (((p3.toUInt32 >>> ((24 : Int32) &&& 31).toUInt32).toInt32).toInt8.toInt32))) ((nar .byte (p4.toInt8.toInt32))) h72 n0 Zh75 f74) hZ hw_8 hw_7 (by decide) (by decide)) (g := (mkF m 79 #[.val (.int p1), .val (.int p2), .val (.int p3), .val (.int p4), .val (.int p5), .val (.int (0 : Int32)), .val (.int (3 : Int32)), .val (.ref b61), .unset] [(.int (12 : Int32)), (.int (0 : Int32)), (.ref b61)])) rfl (by rw [hml]; rfl) (argsL := [(.ref b61), (.int (0 : Int32)), (.int (12 : Int32))]) (rest := []) (lenOf pd_1 rfl) rfl (by show 2 * 0 + _ ≤ _; exact Nat.le_of_eq rfl) (hb hby at_79) (fun _ _ => ⟨rfl, e72, (by decide : 1 + 1 ≤ _), (by decide : 13 + 3 ≤ _)⟩)
      dsimp only [Pt.U, Pt.locs, Pt.cells, Pt.slots] at X76 l76 y76 z76 st76 hQ76
      subst l76 y76 z76
      obtain ⟨b76, k76, rfl, N76q, sz76, K76, V76⟩ := hQ76
      have N76 := Fr.app N72 N76q
      have g_b76 : n0 ≤ b76 := Nat.le_trans Zh75 sz76
      have ne_b61_b76 : b61 ≠ b76 := Nat.ne_of_lt (Nat.lt_of_lt_of_le f74.lt sz76)
      have E76 : Ext _ _ := ⟨K76.1, fun a c q => K76.2.1 a c q nin0⟩
      have f77 := f74.ext E76
      have Zh78 : n0 ≤ T76.heap.size := Nat.le_trans Zh75 K76.1
      refine own_go st76 ?_
      show own_Fin p e below _ (T76.setTop (mkF m 82 #[.val (.int p1), .val (.int p2), .val (.int p3), .val (.int p4), .val (.int p5), .val (.int (0 : Int32)), .val (.int (3 : Int32)), .val (.ref b61), .unset] [(.ref b76)]))
      refine own_go (fun t k => XS.astore X76.here hx rfl (hb hby at_82) rfl rfl (l' := #[.val (.int p1), .val (.int p2), .val (.int p3), .val (.int p4), .val (.int p5), .val (.int (0 : Int32)), .val (.int (3 : Int32)), .val (.ref b61), .val (.ref b76)]) rfl (XS.aload X76.here hx rfl (hb hby at_84) rfl rfl  k)) ?_
      show own_Fin p e below _ (T76.setTop (mkF m 86 #[.val (.int p1), .val (.int p2), .val (.int p3), .val (.int p4), .val (.int p5), .val (.int (0 : Int32)), .val (.int (3 : Int32)), .val (.ref b61), .val (.ref b76)] [(.ref b76)]))
      obtain ⟨cl79, Ar79, q79, S79, M79, H79, G79⟩ := (id V76)
      refine own_go (fun t k => X76.arraylength hx Ar79.1 (State.isArrayOf_alike hZ.alike Ar79.2.1) (g := (mkF m 86 #[.val (.int p1), .val (.int p2), .val (.int p3), .val (.int p4), .val (.int p5), .val (.int (0 : Int32)), .val (.int (3 : Int32)), .val (.ref b61), .val (.ref b76)] [(.ref b76)])) rfl rfl (hb hby at_86) _ k) ?_
      rw [len_of S79 M79]
      show own_Fin p e below _ (T76.setTop (mkF m 87 #[.val (.int p1), .val (.int p2), .val (.int p3), .val (.int p4), .val (.int p5), .val (.int (0 : Int32)), .val (.int (3 : Int32)), .val (.ref b61), .val (.ref b76)] [(.int (3 : Int32))]))
      refine own_go (fun t k => XS.iload X76.here hx rfl (hb hby at_87) rfl  k) ?_
      show own_Fin p e below _ (T76.setTop (mkF m 89 #[.val (.int p1), .val (.int p2), .val (.int p3), .val (.int p4), .val (.int p5), .val (.int (0 : Int32)), .val (.int (3 : Int32)), .val (.ref b61), .val (.ref b76)] [(.int (3 : Int32)), (.int (3 : Int32))]))
      refine own_go (fun t k => XS.icmpYes X76.here hx rfl (pc0 := 89) (pc' := 94) rfl (hb hby at_89) rfl (teq (by decide : (3 : Int32) = (3 : Int32))).1 (by decide) (by decide) (XS.iload X76.here hx rfl (hb hby at_94) rfl  (XS.iconst X76.here hx rfl (hb hby at_96) k))) ?_
      show own_Fin p e below _ (T76.setTop (mkF m 97 #[.val (.int p1), .val (.int p2), .val (.int p3), .val (.int p4), .val (.int p5), .val (.int (0 : Int32)), .val (.int (3 : Int32)), .val (.ref b61), .val (.ref b76)] [(.int (1 : Int32)), (.int (3 : Int32))]))
      refine own_go (fun t k => XS.icmpNo X76.here hx rfl (hb hby at_97) rfl (flt (by decide : ¬ ((3 : Int32) < (1 : Int32)))).1 (XS.aload X76.here hx rfl (hb hby at_100) rfl rfl  (XS.iconst X76.here hx rfl (hb hby at_102) k))) ?_
      show own_Fin p e below _ (T76.setTop (mkF m 103 #[.val (.int p1), .val (.int p2), .val (.int p3), .val (.int p4), .val (.int p5), .val (.int (0 : Int32)), .val (.int (3 : Int32)), .val (.ref b61), .val (.ref b76)] [(.int (0 : Int32)), (.ref b76)]))
      obtain ⟨cl80, Ar80, q80, S80, M80, H80, G80⟩ := (id V76)
      have hin80 : ¬ ((0 : Int32) < 0 ∨ cl80.slots.size ≤ ((0 : Int32)).toNatClampNeg) := inb_of S80 ⟨by decide, by decide⟩
      have hat80 : cl80.slots[((0 : Int32)).toNatClampNeg]? = some (.int (own_w ((nar .byte (p1.toInt8.toInt32))) ((nar .byte (((p1.toUInt32 >>> ((8 : Int32) &&& 31).toUInt32).toInt32).toInt8.toInt32))) ((nar .byte (((p1.toUInt32 >>> ((16 : Int32) &&& 31).toUInt32).toInt32).toInt8.toInt32))) ((nar .byte (((p1.toUInt32 >>> ((24 : Int32) &&& 31).toUInt32).toInt32).toInt8.toInt32))))) := H80.at hin80 rfl
      refine own_go (fun t k => X76.iaload hx (j := (0 : Int32)) (v := (.int (own_w ((nar .byte (p1.toInt8.toInt32))) ((nar .byte (((p1.toUInt32 >>> ((8 : Int32) &&& 31).toUInt32).toInt32).toInt8.toInt32))) ((nar .byte (((p1.toUInt32 >>> ((16 : Int32) &&& 31).toUInt32).toInt32).toInt8.toInt32))) ((nar .byte (((p1.toUInt32 >>> ((24 : Int32) &&& 31).toUInt32).toInt32).toInt8.toInt32)))))) Ar80.1 (State.isArrayOf_alike hZ.alike Ar80.2.1) Ar80.2.2 hin80 hat80 (g := (mkF m 103 #[.val (.int p1), .val (.int p2), .val (.int p3), .val (.int p4), .val (.int p5), .val (.int (0 : Int32)), .val (.int (3 : Int32)), .val (.ref b61), .val (.ref b76)] [(.int (0 : Int32)), (.ref b76)])) rfl rfl (hb hby at_103) _ (XS.iloadN X76.here hx rfl (hb hby at_104) rfl  k)) ?_
      show own_Fin p e below _ (T76.setTop (mkF m 105 #[.val (.int p1), .val (.int p2), .val (.int p3), .val (.int p4), .val (.int p5), .val (.int (0 : Int32)), .val (.int (3 : Int32)), .val (.ref b61), .val (.ref b76)] [(.int p1), (.int (own_w ((nar .byte (p1.toInt8.toInt32))) ((nar .byte (((p1.toUInt32 >>> ((8 : Int32) &&& 31).toUInt32).toInt32).toInt8.toInt32))) ((nar .byte (((p1.toUInt32 >>> ((16 : Int32) &&& 31).toUInt32).toInt32).toInt8.toInt32))) ((nar .byte (((p1.toUInt32 >>> ((24 : Int32) &&& 31).toUInt32).toInt32).toInt8.toInt32)))))]))
      refine own_go (fun t k => XS.icmpYes X76.here hx rfl (pc0 := 105) (pc' := 110) rfl (hb hby at_105) rfl (teq (own_dec _)).1 (by decide) (by decide) (XS.iload X76.here hx rfl (hb hby at_110) rfl  (XS.iconst X76.here hx rfl (hb hby at_112) k))) ?_
      show own_Fin p e below _ (T76.setTop (mkF m 113 #[.val (.int p1), .val (.int p2), .val (.int p3), .val (.int p4), .val (.int p5), .val (.int (0 : Int32)), .val (.int (3 : Int32)), .val (.ref b61), .val (.ref b76)] [(.int (2 : Int32)), (.int (3 : Int32))]))
      refine own_go (fun t k => XS.icmpNo X76.here hx rfl (hb hby at_113) rfl (flt (by decide : ¬ ((3 : Int32) < (2 : Int32)))).1 (XS.aload X76.here hx rfl (hb hby at_116) rfl rfl  (XS.iconst X76.here hx rfl (hb hby at_118) k))) ?_
      show own_Fin p e below _ (T76.setTop (mkF m 119 #[.val (.int p1), .val (.int p2), .val (.int p3), .val (.int p4), .val (.int p5), .val (.int (0 : Int32)), .val (.int (3 : Int32)), .val (.ref b61), .val (.ref b76)] [(.int (1 : Int32)), (.ref b76)]))
      obtain ⟨cl81, Ar81, q81, S81, M81, H81, G81⟩ := (id V76)
      have hin81 : ¬ ((1 : Int32) < 0 ∨ cl81.slots.size ≤ ((1 : Int32)).toNatClampNeg) := inb_of S81 ⟨by decide, by decide⟩
      have hat81 : cl81.slots[((1 : Int32)).toNatClampNeg]? = some (.int (own_w ((nar .byte (p2.toInt8.toInt32))) ((nar .byte (((p2.toUInt32 >>> ((8 : Int32) &&& 31).toUInt32).toInt32).toInt8.toInt32))) ((nar .byte (((p2.toUInt32 >>> ((16 : Int32) &&& 31).toUInt32).toInt32).toInt8.toInt32))) ((nar .byte (((p2.toUInt32 >>> ((24 : Int32) &&& 31).toUInt32).toInt32).toInt8.toInt32))))) := H81.at hin81 rfl
      refine own_go (fun t k => X76.iaload hx (j := (1 : Int32)) (v := (.int (own_w ((nar .byte (p2.toInt8.toInt32))) ((nar .byte (((p2.toUInt32 >>> ((8 : Int32) &&& 31).toUInt32).toInt32).toInt8.toInt32))) ((nar .byte (((p2.toUInt32 >>> ((16 : Int32) &&& 31).toUInt32).toInt32).toInt8.toInt32))) ((nar .byte (((p2.toUInt32 >>> ((24 : Int32) &&& 31).toUInt32).toInt32).toInt8.toInt32)))))) Ar81.1 (State.isArrayOf_alike hZ.alike Ar81.2.1) Ar81.2.2 hin81 hat81 (g := (mkF m 119 #[.val (.int p1), .val (.int p2), .val (.int p3), .val (.int p4), .val (.int p5), .val (.int (0 : Int32)), .val (.int (3 : Int32)), .val (.ref b61), .val (.ref b76)] [(.int (1 : Int32)), (.ref b76)])) rfl rfl (hb hby at_119) _ (XS.iloadN X76.here hx rfl (hb hby at_120) rfl  k)) ?_
      show own_Fin p e below _ (T76.setTop (mkF m 121 #[.val (.int p1), .val (.int p2), .val (.int p3), .val (.int p4), .val (.int p5), .val (.int (0 : Int32)), .val (.int (3 : Int32)), .val (.ref b61), .val (.ref b76)] [(.int p2), (.int (own_w ((nar .byte (p2.toInt8.toInt32))) ((nar .byte (((p2.toUInt32 >>> ((8 : Int32) &&& 31).toUInt32).toInt32).toInt8.toInt32))) ((nar .byte (((p2.toUInt32 >>> ((16 : Int32) &&& 31).toUInt32).toInt32).toInt8.toInt32))) ((nar .byte (((p2.toUInt32 >>> ((24 : Int32) &&& 31).toUInt32).toInt32).toInt8.toInt32)))))]))
      refine own_go (fun t k => XS.icmpYes X76.here hx rfl (pc0 := 121) (pc' := 126) rfl (hb hby at_121) rfl (teq (own_dec _)).1 (by decide) (by decide) (XS.iload X76.here hx rfl (hb hby at_126) rfl  (XS.iconst X76.here hx rfl (hb hby at_128) k))) ?_
      show own_Fin p e below _ (T76.setTop (mkF m 129 #[.val (.int p1), .val (.int p2), .val (.int p3), .val (.int p4), .val (.int p5), .val (.int (0 : Int32)), .val (.int (3 : Int32)), .val (.ref b61), .val (.ref b76)] [(.int (3 : Int32)), (.int (3 : Int32))]))
      refine own_go (fun t k => XS.icmpNo X76.here hx rfl (hb hby at_129) rfl (flt (by decide : ¬ ((3 : Int32) < (3 : Int32)))).1 (XS.aload X76.here hx rfl (hb hby at_132) rfl rfl  (XS.iconst X76.here hx rfl (hb hby at_134) k))) ?_
      show own_Fin p e below _ (T76.setTop (mkF m 135 #[.val (.int p1), .val (.int p2), .val (.int p3), .val (.int p4), .val (.int p5), .val (.int (0 : Int32)), .val (.int (3 : Int32)), .val (.ref b61), .val (.ref b76)] [(.int (2 : Int32)), (.ref b76)]))
      obtain ⟨cl82, Ar82, q82, S82, M82, H82, G82⟩ := (id V76)
      have hin82 : ¬ ((2 : Int32) < 0 ∨ cl82.slots.size ≤ ((2 : Int32)).toNatClampNeg) := inb_of S82 ⟨by decide, by decide⟩
      have hat82 : cl82.slots[((2 : Int32)).toNatClampNeg]? = some (.int (own_w ((nar .byte (p3.toInt8.toInt32))) ((nar .byte (((p3.toUInt32 >>> ((8 : Int32) &&& 31).toUInt32).toInt32).toInt8.toInt32))) ((nar .byte (((p3.toUInt32 >>> ((16 : Int32) &&& 31).toUInt32).toInt32).toInt8.toInt32))) ((nar .byte (((p3.toUInt32 >>> ((24 : Int32) &&& 31).toUInt32).toInt32).toInt8.toInt32))))) := H82.at hin82 rfl
      refine own_go (fun t k => X76.iaload hx (j := (2 : Int32)) (v := (.int (own_w ((nar .byte (p3.toInt8.toInt32))) ((nar .byte (((p3.toUInt32 >>> ((8 : Int32) &&& 31).toUInt32).toInt32).toInt8.toInt32))) ((nar .byte (((p3.toUInt32 >>> ((16 : Int32) &&& 31).toUInt32).toInt32).toInt8.toInt32))) ((nar .byte (((p3.toUInt32 >>> ((24 : Int32) &&& 31).toUInt32).toInt32).toInt8.toInt32)))))) Ar82.1 (State.isArrayOf_alike hZ.alike Ar82.2.1) Ar82.2.2 hin82 hat82 (g := (mkF m 135 #[.val (.int p1), .val (.int p2), .val (.int p3), .val (.int p4), .val (.int p5), .val (.int (0 : Int32)), .val (.int (3 : Int32)), .val (.ref b61), .val (.ref b76)] [(.int (2 : Int32)), (.ref b76)])) rfl rfl (hb hby at_135) _ (XS.iloadN X76.here hx rfl (hb hby at_136) rfl  k)) ?_
      show own_Fin p e below _ (T76.setTop (mkF m 137 #[.val (.int p1), .val (.int p2), .val (.int p3), .val (.int p4), .val (.int p5), .val (.int (0 : Int32)), .val (.int (3 : Int32)), .val (.ref b61), .val (.ref b76)] [(.int p3), (.int (own_w ((nar .byte (p3.toInt8.toInt32))) ((nar .byte (((p3.toUInt32 >>> ((8 : Int32) &&& 31).toUInt32).toInt32).toInt8.toInt32))) ((nar .byte (((p3.toUInt32 >>> ((16 : Int32) &&& 31).toUInt32).toInt32).toInt8.toInt32))) ((nar .byte (((p3.toUInt32 >>> ((24 : Int32) &&& 31).toUInt32).toInt32).toInt8.toInt32)))))]))
      refine own_go (fun t k => XS.icmpYes X76.here hx rfl (pc0 := 137) (pc' := 142) rfl (hb hby at_137) rfl (teq (own_dec _)).1 (by decide) (by decide) (XS.iconst X76.here hx rfl (hb hby at_142) k)) ?_
      show own_Fin p e below _ (T76.setTop (mkF m 143 #[.val (.int p1), .val (.int p2), .val (.int p3), .val (.int p4), .val (.int p5), .val (.int (0 : Int32)), .val (.int (3 : Int32)), .val (.ref b61), .val (.ref b76)] [(.int (1 : Int32))]))
      exact own_out X76 (fun h => by rw [Bd.returns] at h; cases h) Bd.notSynchronized (fun fs hr => retN X76 hx (t := .boolean) Bd.returns (by simp) (hb hby at_143) hr) ⟨rfl, N76⟩ (by decide) (by decide)
  · skip
    rw [h]
    show own_Fin p e below _ (s₁.setTop (mkF m 4 #[.val (.int p1), .val (.int p2), .val (.int p3), .val (.int p4), .val (.int p5), .unset, .unset, .unset, .unset] [(.int (1 : Int32))]))
    refine own_go (fun t k => XS.istore X0.here hx rfl (hb hby at_4) rfl (l' := #[.val (.int p1), .val (.int p2), .val (.int p3), .val (.int p4), .val (.int p5), .val (.int (1 : Int32)), .unset, .unset, .unset]) rfl (XS.iload X0.here hx rfl (hb hby at_6) rfl  (XS.iconst X0.here hx rfl (hb hby at_8) (XS.iushr X0.here hx rfl (hb hby at_9) rfl k)))) ?_
    show own_Fin p e below _ (s₁.setTop (mkF m 10 #[.val (.int p1), .val (.int p2), .val (.int p3), .val (.int p4), .val (.int p5), .val (.int (1 : Int32)), .unset, .unset, .unset] [(.int ((p5.toUInt32 >>> ((1 : Int32) &&& 31).toUInt32).toInt32))]))
    refine own_go (fun t k => XS.iconst X0.here hx rfl (hb hby at_10) (XS.iand X0.here hx rfl (hb hby at_11) rfl k)) ?_
    show own_Fin p e below _ (s₁.setTop (mkF m 12 #[.val (.int p1), .val (.int p2), .val (.int p3), .val (.int p4), .val (.int p5), .val (.int (1 : Int32)), .unset, .unset, .unset] [(.int (((p5.toUInt32 >>> ((1 : Int32) &&& 31).toUInt32).toInt32) &&& (3 : Int32)))]))
    rcases own_two p5 with h | h | h | h
    · skip
      rw [h]
      show own_Fin p e below _ (s₁.setTop (mkF m 12 #[.val (.int p1), .val (.int p2), .val (.int p3), .val (.int p4), .val (.int p5), .val (.int (1 : Int32)), .unset, .unset, .unset] [(.int (0 : Int32))]))
      refine own_go (fun t k => XS.istore X0.here hx rfl (hb hby at_12) rfl (l' := #[.val (.int p1), .val (.int p2), .val (.int p3), .val (.int p4), .val (.int p5), .val (.int (1 : Int32)), .val (.int (0 : Int32)), .unset, .unset]) rfl (XS.bipush X0.here hx rfl (hb hby at_14) k)) ?_
      show own_Fin p e below _ (s₁.setTop (mkF m 16 #[.val (.int p1), .val (.int p2), .val (.int p3), .val (.int p4), .val (.int p5), .val (.int (1 : Int32)), .val (.int (0 : Int32)), .unset, .unset] [(.int (13 : Int32))]))
      obtain ⟨T83, h83, k83, X83, e83, E83, A83, st83⟩ := newP (aty := .byte) X0 hx hZ hw_0 e0 (g := (mkF m 16 #[.val (.int p1), .val (.int p2), .val (.int p3), .val (.int p4), .val (.int p5), .val (.int (1 : Int32)), .val (.int (0 : Int32)), .unset, .unset] [(.int (13 : Int32))])) rfl (hb hby at_16) rfl (by decide) (cap := 13) (by decide) (by decide) (by decide) (by decide)
      obtain ⟨b83, g83⟩ : ∃ z, z = h0.size := ⟨_, rfl⟩
      rw [← g83] at A83 st83
      have g_b83 : n0 ≤ b83 := Nat.le_trans Z0 (Nat.le_of_eq g83.symm)
      have Zh84 : n0 ≤ h83.size := Nat.le_trans Z0 E83.1
      have V83 : Arv Z h83 b83 k83 .byte (13 : Int32) [(.int (0 : Int32)), (.int (0 : Int32)), (.int (0 : Int32)), (.int (0 : Int32)), (.int (0 : Int32)), (.int (0 : Int32)), (.int (0 : Int32)), (.int (0 : Int32)), (.int (0 : Int32)), (.int (0 : Int32)), (.int (0 : Int32)), (.int (0 : Int32)), (.int (0 : Int32))] (.int (0 : Int32)) := (Arv.new A83 (by decide)).pad (pad_rep [] (.int (0 : Int32)) 13)
      refine own_go st83 ?_
      show own_Fin p e below _ (T83.setTop (mkF m 18 #[.val (.int p1), .val (.int p2), .val (.int p3), .val (.int p4), .val (.int p5), .val (.int (1 : Int32)), .val (.int (0 : Int32)), .unset, .unset] [(.ref b83)]))
      refine own_go (fun t k => XS.astore X83.here hx rfl (hb hby at_18) rfl rfl (l' := #[.val (.int p1), .val (.int p2), .val (.int p3), .val (.int p4), .val (.int p5), .val (.int (1 : Int32)), .val (.int (0 : Int32)), .val (.ref b83), .unset]) rfl (XS.aload X83.here hx rfl (hb hby at_20) rfl rfl  (XS.iload X83.here hx rfl (hb hby at_22) rfl  (XS.iloadN X83.here hx rfl (hb hby at_24) rfl  k)))) ?_
      show own_Fin p e below _ (T83.setTop (mkF m 25 #[.val (.int p1), .val (.int p2), .val (.int p3), .val (.int p4), .val (.int p5), .val (.int (1 : Int32)), .val (.int (0 : Int32)), .val (.ref b83), .unset] [(.int p1), (.int (1 : Int32)), (.ref b83)]))
      obtain ⟨_, _, ⟨T85, L85, k85, n85⟩, -, X85, ⟨Lc85, hQ85, l85, y85, z85⟩, st85⟩ := Jvm.LawKit.callS X83 hx (y := (⟨"com/example/palimpsest/palimpsest/chain/CurveScalarsDecodePinLaw", "put", "([BII)V"⟩ : MethodName)) hown (mvT hZ hw_1) (mvT hZ hw_2) (mvT hZ hw_3) (mvT hZ hw_4) (by decide) (backOf (W := 0) (rm1p1 l Z a0 hw [] (b83) (p1) k83 ((0 : Int32)) ((0 : Int32)) ((0 : Int32)) ((0 : Int32)) ((0 : Int32)) ((0 : Int32)) ((0 : Int32)) ((0 : Int32)) ((0 : Int32)) ((0 : Int32)) ((0 : Int32)) ((0 : Int32)) ((0 : Int32)) h83 n0 Zh84 V83 g_b83) hZ hw_4 hw_3 (by decide) (by decide)) (g := (mkF m 25 #[.val (.int p1), .val (.int p2), .val (.int p3), .val (.int p4), .val (.int p5), .val (.int (1 : Int32)), .val (.int (0 : Int32)), .val (.ref b83), .unset] [(.int p1), (.int (1 : Int32)), (.ref b83)])) rfl (by rw [hml]; rfl) (argsL := [(.ref b83), (.int (1 : Int32)), (.int p1)]) (rest := []) (lenOf pd_0 rfl) rfl (by show 2 * 0 + _ ≤ _; exact Nat.le_of_eq rfl) (hb hby at_25) (fun _ _ => ⟨rfl, e83, (by decide : 1 + 0 ≤ _), (by decide : 13 + 0 ≤ _)⟩)
      dsimp only [Pt.U, Pt.locs, Pt.cells, Pt.slots] at X85 l85 y85 z85 st85 hQ85
      subst l85 y85 z85
      obtain ⟨rfl, N85q, K85, V85⟩ := hQ85
      have N85 := Fr.app N0 N85q
      have Zh87 : n0 ≤ T85.heap.size := Nat.le_trans Zh84 K85.1
      refine own_go st85 ?_
      show own_Fin p e below _ (T85.setTop (mkF m 28 #[.val (.int p1), .val (.int p2), .val (.int p3), .val (.int p4), .val (.int p5), .val (.int (1 : Int32)), .val (.int (0 : Int32)), .val (.ref b83), .unset] []))
      refine own_go (fun t k => XS.aload X85.here hx rfl (hb hby at_28) rfl rfl  (XS.iload X85.here hx rfl (hb hby at_30) rfl  (XS.iconst X85.here hx rfl (hb hby at_32) (XS.iadd X85.here hx rfl (hb hby at_33) rfl k)))) ?_
      show own_Fin p e below _ (T85.setTop (mkF m 34 #[.val (.int p1), .val (.int p2), .val (.int p3), .val (.int p4), .val (.int p5), .val (.int (1 : Int32)), .val (.int (0 : Int32)), .val (.ref b83), .unset] [(.int (5 : Int32)), (.ref b83)]))
      refine own_go (fun t k => XS.iloadN X85.here hx rfl (hb hby at_34) rfl  k) ?_
      show own_Fin p e below _ (T85.setTop (mkF m 35 #[.val (.int p1), .val (.int p2), .val (.int p3), .val (.int p4), .val (.int p5), .val (.int (1 : Int32)), .val (.int (0 : Int32)), .val (.ref b83), .unset] [(.int p2), (.int (5 : Int32)), (.ref b83)]))
      obtain ⟨_, _, ⟨T88, L88, k88, n88⟩, -, X88, ⟨Lc88, hQ88, l88, y88, z88⟩, st88⟩ := Jvm.LawKit.callS X85 hx (y := (⟨"com/example/palimpsest/palimpsest/chain/CurveScalarsDecodePinLaw", "put", "([BII)V"⟩ : MethodName)) hown (mvT hZ hw_1) (mvT hZ hw_2) (mvT hZ hw_3) (mvT hZ hw_4) (by decide) (backOf (W := 0) (rm1p5 l Z a0 hw [] (b83) (p2) k83 ((0 : Int32)) ((nar .byte (p1.toInt8.toInt32))) ((nar .byte (((p1.toUInt32 >>> ((8 : Int32) &&& 31).toUInt32).toInt32).toInt8.toInt32))) ((nar .byte (((p1.toUInt32 >>> ((16 : Int32) &&& 31).toUInt32).toInt32).toInt8.toInt32))) ((nar .byte (((p1.toUInt32 >>> ((24 : Int32) &&& 31).toUInt32).toInt32).toInt8.toInt32))) ((0 : Int32)) ((0 : Int32)) ((0 : Int32)) ((0 : Int32)) ((0 : Int32)) ((0 : Int32)) ((0 : Int32)) ((0 : Int32)) T85.heap n0 Zh87 V85 g_b83) hZ hw_4 hw_3 (by decide) (by decide)) (g := (mkF m 35 #[.val (.int p1), .val (.int p2), .val (.int p3), .val (.int p4), .val (.int p5), .val (.int (1 : Int32)), .val (.int (0 : Int32)), .val (.ref b83), .unset] [(.int p2), (.int (5 : Int32)), (.ref b83)])) rfl (by rw [hml]; rfl) (argsL := [(.ref b83), (.int (5 : Int32)), (.int p2)]) (rest := []) (lenOf pd_0 rfl) rfl (by show 2 * 0 + _ ≤ _; exact Nat.le_of_eq rfl) (hb hby at_35) (fun _ _ => ⟨rfl, rfl, (by decide : 1 + 0 ≤ _), (by decide : 13 + 0 ≤ _)⟩)
      dsimp only [Pt.U, Pt.locs, Pt.cells, Pt.slots] at X88 l88 y88 z88 st88 hQ88
      subst l88 y88 z88
      obtain ⟨rfl, N88q, K88, V88⟩ := hQ88
      have N88 := Fr.app N85 N88q
      have Zh90 : n0 ≤ T88.heap.size := Nat.le_trans Zh87 K88.1
      refine own_go st88 ?_
      show own_Fin p e below _ (T88.setTop (mkF m 38 #[.val (.int p1), .val (.int p2), .val (.int p3), .val (.int p4), .val (.int p5), .val (.int (1 : Int32)), .val (.int (0 : Int32)), .val (.ref b83), .unset] []))
      refine own_go (fun t k => XS.aload X88.here hx rfl (hb hby at_38) rfl rfl  (XS.iload X88.here hx rfl (hb hby at_40) rfl  (XS.bipush X88.here hx rfl (hb hby at_42) (XS.iadd X88.here hx rfl (hb hby at_44) rfl k)))) ?_
      show own_Fin p e below _ (T88.setTop (mkF m 45 #[.val (.int p1), .val (.int p2), .val (.int p3), .val (.int p4), .val (.int p5), .val (.int (1 : Int32)), .val (.int (0 : Int32)), .val (.ref b83), .unset] [(.int (9 : Int32)), (.ref b83)]))
      refine own_go (fun t k => XS.iloadN X88.here hx rfl (hb hby at_45) rfl  k) ?_
      show own_Fin p e below _ (T88.setTop (mkF m 46 #[.val (.int p1), .val (.int p2), .val (.int p3), .val (.int p4), .val (.int p5), .val (.int (1 : Int32)), .val (.int (0 : Int32)), .val (.ref b83), .unset] [(.int p3), (.int (9 : Int32)), (.ref b83)]))
      obtain ⟨_, _, ⟨T91, L91, k91, n91⟩, -, X91, ⟨Lc91, hQ91, l91, y91, z91⟩, st91⟩ := Jvm.LawKit.callS X88 hx (y := (⟨"com/example/palimpsest/palimpsest/chain/CurveScalarsDecodePinLaw", "put", "([BII)V"⟩ : MethodName)) hown (mvT hZ hw_1) (mvT hZ hw_2) (mvT hZ hw_3) (mvT hZ hw_4) (by decide) (backOf (W := 0) (rm1p9 l Z a0 hw [] (b83) (p3) k83 ((0 : Int32)) ((nar .byte (p1.toInt8.toInt32))) ((nar .byte (((p1.toUInt32 >>> ((8 : Int32) &&& 31).toUInt32).toInt32).toInt8.toInt32))) ((nar .byte (((p1.toUInt32 >>> ((16 : Int32) &&& 31).toUInt32).toInt32).toInt8.toInt32))) ((nar .byte (((p1.toUInt32 >>> ((24 : Int32) &&& 31).toUInt32).toInt32).toInt8.toInt32))) ((nar .byte (p2.toInt8.toInt32))) ((nar .byte (((p2.toUInt32 >>> ((8 : Int32) &&& 31).toUInt32).toInt32).toInt8.toInt32))) ((nar .byte (((p2.toUInt32 >>> ((16 : Int32) &&& 31).toUInt32).toInt32).toInt8.toInt32))) ((nar .byte (((p2.toUInt32 >>> ((24 : Int32) &&& 31).toUInt32).toInt32).toInt8.toInt32))) ((0 : Int32)) ((0 : Int32)) ((0 : Int32)) ((0 : Int32)) T88.heap n0 Zh90 V88 g_b83) hZ hw_4 hw_3 (by decide) (by decide)) (g := (mkF m 46 #[.val (.int p1), .val (.int p2), .val (.int p3), .val (.int p4), .val (.int p5), .val (.int (1 : Int32)), .val (.int (0 : Int32)), .val (.ref b83), .unset] [(.int p3), (.int (9 : Int32)), (.ref b83)])) rfl (by rw [hml]; rfl) (argsL := [(.ref b83), (.int (9 : Int32)), (.int p3)]) (rest := []) (lenOf pd_0 rfl) rfl (by show 2 * 0 + _ ≤ _; exact Nat.le_of_eq rfl) (hb hby at_46) (fun _ _ => ⟨rfl, rfl, (by decide : 1 + 0 ≤ _), (by decide : 13 + 0 ≤ _)⟩)
      dsimp only [Pt.U, Pt.locs, Pt.cells, Pt.slots] at X91 l91 y91 z91 st91 hQ91
      subst l91 y91 z91
      obtain ⟨rfl, N91q, K91, V91⟩ := hQ91
      have N91 := Fr.app N88 N91q
      have Zh93 : n0 ≤ T91.heap.size := Nat.le_trans Zh90 K91.1
      refine own_go st91 ?_
      show own_Fin p e below _ (T91.setTop (mkF m 49 #[.val (.int p1), .val (.int p2), .val (.int p3), .val (.int p4), .val (.int p5), .val (.int (1 : Int32)), .val (.int (0 : Int32)), .val (.ref b83), .unset] []))
      refine own_go (fun t k => XS.iload X91.here hx rfl (hb hby at_49) rfl  (XS.iconst X91.here hx rfl (hb hby at_51) k)) ?_
      show own_Fin p e below _ (T91.setTop (mkF m 52 #[.val (.int p1), .val (.int p2), .val (.int p3), .val (.int p4), .val (.int p5), .val (.int (1 : Int32)), .val (.int (0 : Int32)), .val (.ref b83), .unset] [(.int (1 : Int32)), (.int (1 : Int32))]))
      refine own_go (fun t k => XS.icmpNo X91.here hx rfl (hb hby at_52) rfl (teq (by decide : (1 : Int32) = (1 : Int32))).2 (XS.aload X91.here hx rfl (hb hby at_55) rfl rfl  (XS.iconst X91.here hx rfl (hb hby at_57) (XS.iloadN X91.here hx rfl (hb hby at_58) rfl  k)))) ?_
      show own_Fin p e below _ (T91.setTop (mkF m 59 #[.val (.int p1), .val (.int p2), .val (.int p3), .val (.int p4), .val (.int p5), .val (.int (1 : Int32)), .val (.int (0 : Int32)), .val (.ref b83), .unset] [(.int p4), (.int (0 : Int32)), (.ref b83)]))
      refine own_go (fun t k => XS.i2b X91.here hx rfl (hb hby at_59) rfl k) ?_
      show own_Fin p e below _ (T91.setTop (mkF m 60 #[.val (.int p1), .val (.int p2), .val (.int p3), .val (.int p4), .val (.int p5), .val (.int (1 : Int32)), .val (.int (0 : Int32)), .val (.ref b83), .unset] [(.int (p4.toInt8.toInt32)), (.int (0 : Int32)), (.ref b83)]))
      obtain ⟨cl94, Ar94, q94, S94, M94, H94, G94⟩ := (id V91)
      have hin94 : ¬ ((0 : Int32) < 0 ∨ cl94.slots.size ≤ ((0 : Int32)).toNatClampNeg) := inb_of S94 ⟨by decide, by decide⟩
      obtain ⟨T94, h94, X94, e94, W94, st94⟩ := stB X91 hx hZ rfl Ar94 (j := (0 : Int32)) hin94 (g := (mkF m 60 #[.val (.int p1), .val (.int p2), .val (.int p3), .val (.int p4), .val (.int p5), .val (.int (1 : Int32)), .val (.int (0 : Int32)), .val (.ref b83), .unset] [(.int (p4.toInt8.toInt32)), (.int (0 : Int32)), (.ref b83)])) rfl rfl (hb hby at_60)
      have V94 := Arv.set Ar94 q94 S94 M94 H94 G94 (fits_nar_byte _) W94 0 rfl (Nat.le_of_ble_eq_true rfl)
      have f96 : Arv Z h94 b83 k83 .byte (13 : Int32) [(.int (nar .byte (p4.toInt8.toInt32))), (.int (nar .byte (p1.toInt8.toInt32))), (.int (nar .byte (((p1.toUInt32 >>> ((8 : Int32) &&& 31).toUInt32).toInt32).toInt8.toInt32))), (.int (nar .byte (((p1.toUInt32 >>> ((16 : Int32) &&& 31).toUInt32).toInt32).toInt8.toInt32))), (.int (nar .byte (((p1.toUInt32 >>> ((24 : Int32) &&& 31).toUInt32).toInt32).toInt8.toInt32))), (.int (nar .byte (p2.toInt8.toInt32))), (.int (nar .byte (((p2.toUInt32 >>> ((8 : Int32) &&& 31).toUInt32).toInt32).toInt8.toInt32))), (.int (nar .byte (((p2.toUInt32 >>> ((16 : Int32) &&& 31).toUInt32).toInt32).toInt8.toInt32))), (.int (nar .byte (((p2.toUInt32 >>> ((24 : Int32) &&& 31).toUInt32).toInt32).toInt8.toInt32))), (.int (nar .byte (p3.toInt8.toInt32))), (.int (nar .byte (((p3.toUInt32 >>> ((8 : Int32) &&& 31).toUInt32).toInt32).toInt8.toInt32))), (.int (nar .byte (((p3.toUInt32 >>> ((16 : Int32) &&& 31).toUInt32).toInt32).toInt8.toInt32))), (.int (nar .byte (((p3.toUInt32 >>> ((24 : Int32) &&& 31).toUInt32).toInt32).toInt8.toInt32)))] (.int (0 : Int32)) := V94
      have Zh97 : n0 ≤ h94.size := Nat.le_trans Zh93 (Nat.le_of_eq W94.size.symm)
      have N94 := Fr.snoc X94 N91 g_b83
      refine own_go st94 ?_
      show own_Fin p e below _ (T94.setTop (mkF m 61 #[.val (.int p1), .val (.int p2), .val (.int p3), .val (.int p4), .val (.int p5), .val (.int (1 : Int32)), .val (.int (0 : Int32)), .val (.ref b83), .unset] []))
      refine own_go (fun t k => XS.goto X94.here hx rfl (pc0 := 61) (pc' := 71) rfl (hb hby at_61) (by decide) (by decide) (XS.aload X94.here hx rfl (hb hby at_71) rfl rfl  (XS.iload X94.here hx rfl (hb hby at_73) rfl  (XS.iconst X94.here hx rfl (hb hby at_75) k)))) ?_
      show own_Fin p e below _ (T94.setTop (mkF m 76 #[.val (.int p1), .val (.int p2), .val (.int p3), .val (.int p4), .val (.int p5), .val (.int (1 : Int32)), .val (.int (0 : Int32)), .val (.ref b83), .unset] [(.int (4 : Int32)), (.int (1 : Int32)), (.ref b83)]))
      refine own_go (fun t k => XS.iload X94.here hx rfl (hb hby at_76) rfl  (XS.imul X94.here hx rfl (hb hby at_78) rfl k)) ?_
      show own_Fin p e below _ (T94.setTop (mkF m 79 #[.val (.int p1), .val (.int p2), .val (.int p3), .val (.int p4), .val (.int p5), .val (.int (1 : Int32)), .val (.int (0 : Int32)), .val (.ref b83), .unset] [(.int (0 : Int32)), (.int (1 : Int32)), (.ref b83)]))
      obtain ⟨_, _, ⟨T98, L98, k98, n98⟩, -, X98, ⟨Lc98, hQ98, l98, y98, z98⟩, st98⟩ := Jvm.LawKit.callS X94 hx (y := (⟨"com/example/palimpsest/palimpsest/chain/CurveScalars", "decode", "([BII)[I"⟩ : MethodName)) hown (mvT hZ hw_5) (mvT hZ hw_6) (mvT hZ hw_7) (mvT hZ hw_8) (by decide) (backOf (W := 0) (rm2o1c0 l Z a0 hw [] (b83) k83 ((nar .byte (p4.toInt8.toInt32))) ((nar .byte (p1.toInt8.toInt32))) ((nar .byte (((p1.toUInt32 >>> ((8 : Int32) &&& 31).toUInt32).toInt32).toInt8.toInt32))) ((nar .byte (((p1.toUInt32 >>> ((16 : Int32) &&& 31).toUInt32).toInt32).toInt8.toInt32))) ((nar .byte (((p1.toUInt32 >>> ((24 : Int32) &&& 31).toUInt32).toInt32).toInt8.toInt32))) ((nar .byte (p2.toInt8.toInt32))) ((nar .byte (((p2.toUInt32 >>> ((8 : Int32) &&& 31).toUInt32).toInt32).toInt8.toInt32))) ((nar .byte (((p2.toUInt32 >>> ((16 : Int32) &&& 31).toUInt32).toInt32).toInt8.toInt32))) ((nar .byte (((p2.toUInt32 >>> ((24 : Int32) &&& 31).toUInt32).toInt32).toInt8.toInt32))) ((nar .byte (p3.toInt8.toInt32))) ((nar .byte (((p3.toUInt32 >>> ((8 : Int32) &&& 31).toUInt32).toInt32).toInt8.toInt32))) ((nar .byte (((p3.toUInt32 >>> ((16 : Int32) &&& 31).toUInt32).toInt32).toInt8.toInt32))) ((nar .byte (((p3.toUInt32 >>> ((24 : Int32) &&& 31).toUInt32).toInt32).toInt8.toInt32))) h94 n0 Zh97 f96) hZ hw_8 hw_7 (by decide) (by decide)) (g := (mkF m 79 #[.val (.int p1), .val (.int p2), .val (.int p3), .val (.int p4), .val (.int p5), .val (.int (1 : Int32)), .val (.int (0 : Int32)), .val (.ref b83), .unset] [(.int (0 : Int32)), (.int (1 : Int32)), (.ref b83)])) rfl (by rw [hml]; rfl) (argsL := [(.ref b83), (.int (1 : Int32)), (.int (0 : Int32))]) (rest := []) (lenOf pd_1 rfl) rfl (by show 2 * 0 + _ ≤ _; exact Nat.le_of_eq rfl) (hb hby at_79) (fun _ _ => ⟨rfl, e94, (by decide : 1 + 1 ≤ _), (by decide : 13 + 0 ≤ _)⟩)
      dsimp only [Pt.U, Pt.locs, Pt.cells, Pt.slots] at X98 l98 y98 z98 st98 hQ98
      subst l98 y98 z98
      obtain ⟨b98, k98, rfl, N98q, sz98, K98, V98⟩ := hQ98
      have N98 := Fr.app N94 N98q
      have g_b98 : n0 ≤ b98 := Nat.le_trans Zh97 sz98
      have ne_b83_b98 : b83 ≠ b98 := Nat.ne_of_lt (Nat.lt_of_lt_of_le f96.lt sz98)
      have E98 : Ext _ _ := ⟨K98.1, fun a c q => K98.2.1 a c q nin0⟩
      have f99 := f96.ext E98
      have Zh100 : n0 ≤ T98.heap.size := Nat.le_trans Zh97 K98.1
      refine own_go st98 ?_
      show own_Fin p e below _ (T98.setTop (mkF m 82 #[.val (.int p1), .val (.int p2), .val (.int p3), .val (.int p4), .val (.int p5), .val (.int (1 : Int32)), .val (.int (0 : Int32)), .val (.ref b83), .unset] [(.ref b98)]))
      refine own_go (fun t k => XS.astore X98.here hx rfl (hb hby at_82) rfl rfl (l' := #[.val (.int p1), .val (.int p2), .val (.int p3), .val (.int p4), .val (.int p5), .val (.int (1 : Int32)), .val (.int (0 : Int32)), .val (.ref b83), .val (.ref b98)]) rfl (XS.aload X98.here hx rfl (hb hby at_84) rfl rfl  k)) ?_
      show own_Fin p e below _ (T98.setTop (mkF m 86 #[.val (.int p1), .val (.int p2), .val (.int p3), .val (.int p4), .val (.int p5), .val (.int (1 : Int32)), .val (.int (0 : Int32)), .val (.ref b83), .val (.ref b98)] [(.ref b98)]))
      obtain ⟨cl101, Ar101, q101, S101, M101, H101, G101⟩ := (id V98)
      refine own_go (fun t k => X98.arraylength hx Ar101.1 (State.isArrayOf_alike hZ.alike Ar101.2.1) (g := (mkF m 86 #[.val (.int p1), .val (.int p2), .val (.int p3), .val (.int p4), .val (.int p5), .val (.int (1 : Int32)), .val (.int (0 : Int32)), .val (.ref b83), .val (.ref b98)] [(.ref b98)])) rfl rfl (hb hby at_86) _ k) ?_
      rw [len_of S101 M101]
      show own_Fin p e below _ (T98.setTop (mkF m 87 #[.val (.int p1), .val (.int p2), .val (.int p3), .val (.int p4), .val (.int p5), .val (.int (1 : Int32)), .val (.int (0 : Int32)), .val (.ref b83), .val (.ref b98)] [(.int (0 : Int32))]))
      refine own_go (fun t k => XS.iload X98.here hx rfl (hb hby at_87) rfl  k) ?_
      show own_Fin p e below _ (T98.setTop (mkF m 89 #[.val (.int p1), .val (.int p2), .val (.int p3), .val (.int p4), .val (.int p5), .val (.int (1 : Int32)), .val (.int (0 : Int32)), .val (.ref b83), .val (.ref b98)] [(.int (0 : Int32)), (.int (0 : Int32))]))
      refine own_go (fun t k => XS.icmpYes X98.here hx rfl (pc0 := 89) (pc' := 94) rfl (hb hby at_89) rfl (teq (by decide : (0 : Int32) = (0 : Int32))).1 (by decide) (by decide) (XS.iload X98.here hx rfl (hb hby at_94) rfl  (XS.iconst X98.here hx rfl (hb hby at_96) k))) ?_
      show own_Fin p e below _ (T98.setTop (mkF m 97 #[.val (.int p1), .val (.int p2), .val (.int p3), .val (.int p4), .val (.int p5), .val (.int (1 : Int32)), .val (.int (0 : Int32)), .val (.ref b83), .val (.ref b98)] [(.int (1 : Int32)), (.int (0 : Int32))]))
      refine own_go (fun t k => XS.icmpYes X98.here hx rfl (pc0 := 97) (pc' := 110) rfl (hb hby at_97) rfl (tlt (by decide : (0 : Int32) < (1 : Int32))).1 (by decide) (by decide) (XS.iload X98.here hx rfl (hb hby at_110) rfl  (XS.iconst X98.here hx rfl (hb hby at_112) k))) ?_
      show own_Fin p e below _ (T98.setTop (mkF m 113 #[.val (.int p1), .val (.int p2), .val (.int p3), .val (.int p4), .val (.int p5), .val (.int (1 : Int32)), .val (.int (0 : Int32)), .val (.ref b83), .val (.ref b98)] [(.int (2 : Int32)), (.int (0 : Int32))]))
      refine own_go (fun t k => XS.icmpYes X98.here hx rfl (pc0 := 113) (pc' := 126) rfl (hb hby at_113) rfl (tlt (by decide : (0 : Int32) < (2 : Int32))).1 (by decide) (by decide) (XS.iload X98.here hx rfl (hb hby at_126) rfl  (XS.iconst X98.here hx rfl (hb hby at_128) k))) ?_
      show own_Fin p e below _ (T98.setTop (mkF m 129 #[.val (.int p1), .val (.int p2), .val (.int p3), .val (.int p4), .val (.int p5), .val (.int (1 : Int32)), .val (.int (0 : Int32)), .val (.ref b83), .val (.ref b98)] [(.int (3 : Int32)), (.int (0 : Int32))]))
      refine own_go (fun t k => XS.icmpYes X98.here hx rfl (pc0 := 129) (pc' := 142) rfl (hb hby at_129) rfl (tlt (by decide : (0 : Int32) < (3 : Int32))).1 (by decide) (by decide) (XS.iconst X98.here hx rfl (hb hby at_142) k)) ?_
      show own_Fin p e below _ (T98.setTop (mkF m 143 #[.val (.int p1), .val (.int p2), .val (.int p3), .val (.int p4), .val (.int p5), .val (.int (1 : Int32)), .val (.int (0 : Int32)), .val (.ref b83), .val (.ref b98)] [(.int (1 : Int32))]))
      exact own_out X98 (fun h => by rw [Bd.returns] at h; cases h) Bd.notSynchronized (fun fs hr => retN X98 hx (t := .boolean) Bd.returns (by simp) (hb hby at_143) hr) ⟨rfl, N98⟩ (by decide) (by decide)
    · skip
      rw [h]
      show own_Fin p e below _ (s₁.setTop (mkF m 12 #[.val (.int p1), .val (.int p2), .val (.int p3), .val (.int p4), .val (.int p5), .val (.int (1 : Int32)), .unset, .unset, .unset] [(.int (1 : Int32))]))
      refine own_go (fun t k => XS.istore X0.here hx rfl (hb hby at_12) rfl (l' := #[.val (.int p1), .val (.int p2), .val (.int p3), .val (.int p4), .val (.int p5), .val (.int (1 : Int32)), .val (.int (1 : Int32)), .unset, .unset]) rfl (XS.bipush X0.here hx rfl (hb hby at_14) k)) ?_
      show own_Fin p e below _ (s₁.setTop (mkF m 16 #[.val (.int p1), .val (.int p2), .val (.int p3), .val (.int p4), .val (.int p5), .val (.int (1 : Int32)), .val (.int (1 : Int32)), .unset, .unset] [(.int (13 : Int32))]))
      obtain ⟨T102, h102, k102, X102, e102, E102, A102, st102⟩ := newP (aty := .byte) X0 hx hZ hw_0 e0 (g := (mkF m 16 #[.val (.int p1), .val (.int p2), .val (.int p3), .val (.int p4), .val (.int p5), .val (.int (1 : Int32)), .val (.int (1 : Int32)), .unset, .unset] [(.int (13 : Int32))])) rfl (hb hby at_16) rfl (by decide) (cap := 13) (by decide) (by decide) (by decide) (by decide)
      obtain ⟨b102, g102⟩ : ∃ z, z = h0.size := ⟨_, rfl⟩
      rw [← g102] at A102 st102
      have g_b102 : n0 ≤ b102 := Nat.le_trans Z0 (Nat.le_of_eq g102.symm)
      have Zh103 : n0 ≤ h102.size := Nat.le_trans Z0 E102.1
      have V102 : Arv Z h102 b102 k102 .byte (13 : Int32) [(.int (0 : Int32)), (.int (0 : Int32)), (.int (0 : Int32)), (.int (0 : Int32)), (.int (0 : Int32)), (.int (0 : Int32)), (.int (0 : Int32)), (.int (0 : Int32)), (.int (0 : Int32)), (.int (0 : Int32)), (.int (0 : Int32)), (.int (0 : Int32)), (.int (0 : Int32))] (.int (0 : Int32)) := (Arv.new A102 (by decide)).pad (pad_rep [] (.int (0 : Int32)) 13)
      refine own_go st102 ?_
      show own_Fin p e below _ (T102.setTop (mkF m 18 #[.val (.int p1), .val (.int p2), .val (.int p3), .val (.int p4), .val (.int p5), .val (.int (1 : Int32)), .val (.int (1 : Int32)), .unset, .unset] [(.ref b102)]))
      refine own_go (fun t k => XS.astore X102.here hx rfl (hb hby at_18) rfl rfl (l' := #[.val (.int p1), .val (.int p2), .val (.int p3), .val (.int p4), .val (.int p5), .val (.int (1 : Int32)), .val (.int (1 : Int32)), .val (.ref b102), .unset]) rfl (XS.aload X102.here hx rfl (hb hby at_20) rfl rfl  (XS.iload X102.here hx rfl (hb hby at_22) rfl  (XS.iloadN X102.here hx rfl (hb hby at_24) rfl  k)))) ?_
      show own_Fin p e below _ (T102.setTop (mkF m 25 #[.val (.int p1), .val (.int p2), .val (.int p3), .val (.int p4), .val (.int p5), .val (.int (1 : Int32)), .val (.int (1 : Int32)), .val (.ref b102), .unset] [(.int p1), (.int (1 : Int32)), (.ref b102)]))
      obtain ⟨_, _, ⟨T104, L104, k104, n104⟩, -, X104, ⟨Lc104, hQ104, l104, y104, z104⟩, st104⟩ := Jvm.LawKit.callS X102 hx (y := (⟨"com/example/palimpsest/palimpsest/chain/CurveScalarsDecodePinLaw", "put", "([BII)V"⟩ : MethodName)) hown (mvT hZ hw_1) (mvT hZ hw_2) (mvT hZ hw_3) (mvT hZ hw_4) (by decide) (backOf (W := 0) (rm1p1 l Z a0 hw [] (b102) (p1) k102 ((0 : Int32)) ((0 : Int32)) ((0 : Int32)) ((0 : Int32)) ((0 : Int32)) ((0 : Int32)) ((0 : Int32)) ((0 : Int32)) ((0 : Int32)) ((0 : Int32)) ((0 : Int32)) ((0 : Int32)) ((0 : Int32)) h102 n0 Zh103 V102 g_b102) hZ hw_4 hw_3 (by decide) (by decide)) (g := (mkF m 25 #[.val (.int p1), .val (.int p2), .val (.int p3), .val (.int p4), .val (.int p5), .val (.int (1 : Int32)), .val (.int (1 : Int32)), .val (.ref b102), .unset] [(.int p1), (.int (1 : Int32)), (.ref b102)])) rfl (by rw [hml]; rfl) (argsL := [(.ref b102), (.int (1 : Int32)), (.int p1)]) (rest := []) (lenOf pd_0 rfl) rfl (by show 2 * 0 + _ ≤ _; exact Nat.le_of_eq rfl) (hb hby at_25) (fun _ _ => ⟨rfl, e102, (by decide : 1 + 0 ≤ _), (by decide : 13 + 0 ≤ _)⟩)
      dsimp only [Pt.U, Pt.locs, Pt.cells, Pt.slots] at X104 l104 y104 z104 st104 hQ104
      subst l104 y104 z104
      obtain ⟨rfl, N104q, K104, V104⟩ := hQ104
      have N104 := Fr.app N0 N104q
      have Zh106 : n0 ≤ T104.heap.size := Nat.le_trans Zh103 K104.1
      refine own_go st104 ?_
      show own_Fin p e below _ (T104.setTop (mkF m 28 #[.val (.int p1), .val (.int p2), .val (.int p3), .val (.int p4), .val (.int p5), .val (.int (1 : Int32)), .val (.int (1 : Int32)), .val (.ref b102), .unset] []))
      refine own_go (fun t k => XS.aload X104.here hx rfl (hb hby at_28) rfl rfl  (XS.iload X104.here hx rfl (hb hby at_30) rfl  (XS.iconst X104.here hx rfl (hb hby at_32) (XS.iadd X104.here hx rfl (hb hby at_33) rfl k)))) ?_
      show own_Fin p e below _ (T104.setTop (mkF m 34 #[.val (.int p1), .val (.int p2), .val (.int p3), .val (.int p4), .val (.int p5), .val (.int (1 : Int32)), .val (.int (1 : Int32)), .val (.ref b102), .unset] [(.int (5 : Int32)), (.ref b102)]))
      refine own_go (fun t k => XS.iloadN X104.here hx rfl (hb hby at_34) rfl  k) ?_
      show own_Fin p e below _ (T104.setTop (mkF m 35 #[.val (.int p1), .val (.int p2), .val (.int p3), .val (.int p4), .val (.int p5), .val (.int (1 : Int32)), .val (.int (1 : Int32)), .val (.ref b102), .unset] [(.int p2), (.int (5 : Int32)), (.ref b102)]))
      obtain ⟨_, _, ⟨T107, L107, k107, n107⟩, -, X107, ⟨Lc107, hQ107, l107, y107, z107⟩, st107⟩ := Jvm.LawKit.callS X104 hx (y := (⟨"com/example/palimpsest/palimpsest/chain/CurveScalarsDecodePinLaw", "put", "([BII)V"⟩ : MethodName)) hown (mvT hZ hw_1) (mvT hZ hw_2) (mvT hZ hw_3) (mvT hZ hw_4) (by decide) (backOf (W := 0) (rm1p5 l Z a0 hw [] (b102) (p2) k102 ((0 : Int32)) ((nar .byte (p1.toInt8.toInt32))) ((nar .byte (((p1.toUInt32 >>> ((8 : Int32) &&& 31).toUInt32).toInt32).toInt8.toInt32))) ((nar .byte (((p1.toUInt32 >>> ((16 : Int32) &&& 31).toUInt32).toInt32).toInt8.toInt32))) ((nar .byte (((p1.toUInt32 >>> ((24 : Int32) &&& 31).toUInt32).toInt32).toInt8.toInt32))) ((0 : Int32)) ((0 : Int32)) ((0 : Int32)) ((0 : Int32)) ((0 : Int32)) ((0 : Int32)) ((0 : Int32)) ((0 : Int32)) T104.heap n0 Zh106 V104 g_b102) hZ hw_4 hw_3 (by decide) (by decide)) (g := (mkF m 35 #[.val (.int p1), .val (.int p2), .val (.int p3), .val (.int p4), .val (.int p5), .val (.int (1 : Int32)), .val (.int (1 : Int32)), .val (.ref b102), .unset] [(.int p2), (.int (5 : Int32)), (.ref b102)])) rfl (by rw [hml]; rfl) (argsL := [(.ref b102), (.int (5 : Int32)), (.int p2)]) (rest := []) (lenOf pd_0 rfl) rfl (by show 2 * 0 + _ ≤ _; exact Nat.le_of_eq rfl) (hb hby at_35) (fun _ _ => ⟨rfl, rfl, (by decide : 1 + 0 ≤ _), (by decide : 13 + 0 ≤ _)⟩)
      dsimp only [Pt.U, Pt.locs, Pt.cells, Pt.slots] at X107 l107 y107 z107 st107 hQ107
      subst l107 y107 z107
      obtain ⟨rfl, N107q, K107, V107⟩ := hQ107
      have N107 := Fr.app N104 N107q
      have Zh109 : n0 ≤ T107.heap.size := Nat.le_trans Zh106 K107.1
      refine own_go st107 ?_
      show own_Fin p e below _ (T107.setTop (mkF m 38 #[.val (.int p1), .val (.int p2), .val (.int p3), .val (.int p4), .val (.int p5), .val (.int (1 : Int32)), .val (.int (1 : Int32)), .val (.ref b102), .unset] []))
      refine own_go (fun t k => XS.aload X107.here hx rfl (hb hby at_38) rfl rfl  (XS.iload X107.here hx rfl (hb hby at_40) rfl  (XS.bipush X107.here hx rfl (hb hby at_42) (XS.iadd X107.here hx rfl (hb hby at_44) rfl k)))) ?_
      show own_Fin p e below _ (T107.setTop (mkF m 45 #[.val (.int p1), .val (.int p2), .val (.int p3), .val (.int p4), .val (.int p5), .val (.int (1 : Int32)), .val (.int (1 : Int32)), .val (.ref b102), .unset] [(.int (9 : Int32)), (.ref b102)]))
      refine own_go (fun t k => XS.iloadN X107.here hx rfl (hb hby at_45) rfl  k) ?_
      show own_Fin p e below _ (T107.setTop (mkF m 46 #[.val (.int p1), .val (.int p2), .val (.int p3), .val (.int p4), .val (.int p5), .val (.int (1 : Int32)), .val (.int (1 : Int32)), .val (.ref b102), .unset] [(.int p3), (.int (9 : Int32)), (.ref b102)]))
      obtain ⟨_, _, ⟨T110, L110, k110, n110⟩, -, X110, ⟨Lc110, hQ110, l110, y110, z110⟩, st110⟩ := Jvm.LawKit.callS X107 hx (y := (⟨"com/example/palimpsest/palimpsest/chain/CurveScalarsDecodePinLaw", "put", "([BII)V"⟩ : MethodName)) hown (mvT hZ hw_1) (mvT hZ hw_2) (mvT hZ hw_3) (mvT hZ hw_4) (by decide) (backOf (W := 0) (rm1p9 l Z a0 hw [] (b102) (p3) k102 ((0 : Int32)) ((nar .byte (p1.toInt8.toInt32))) ((nar .byte (((p1.toUInt32 >>> ((8 : Int32) &&& 31).toUInt32).toInt32).toInt8.toInt32))) ((nar .byte (((p1.toUInt32 >>> ((16 : Int32) &&& 31).toUInt32).toInt32).toInt8.toInt32))) ((nar .byte (((p1.toUInt32 >>> ((24 : Int32) &&& 31).toUInt32).toInt32).toInt8.toInt32))) ((nar .byte (p2.toInt8.toInt32))) ((nar .byte (((p2.toUInt32 >>> ((8 : Int32) &&& 31).toUInt32).toInt32).toInt8.toInt32))) ((nar .byte (((p2.toUInt32 >>> ((16 : Int32) &&& 31).toUInt32).toInt32).toInt8.toInt32))) ((nar .byte (((p2.toUInt32 >>> ((24 : Int32) &&& 31).toUInt32).toInt32).toInt8.toInt32))) ((0 : Int32)) ((0 : Int32)) ((0 : Int32)) ((0 : Int32)) T107.heap n0 Zh109 V107 g_b102) hZ hw_4 hw_3 (by decide) (by decide)) (g := (mkF m 46 #[.val (.int p1), .val (.int p2), .val (.int p3), .val (.int p4), .val (.int p5), .val (.int (1 : Int32)), .val (.int (1 : Int32)), .val (.ref b102), .unset] [(.int p3), (.int (9 : Int32)), (.ref b102)])) rfl (by rw [hml]; rfl) (argsL := [(.ref b102), (.int (9 : Int32)), (.int p3)]) (rest := []) (lenOf pd_0 rfl) rfl (by show 2 * 0 + _ ≤ _; exact Nat.le_of_eq rfl) (hb hby at_46) (fun _ _ => ⟨rfl, rfl, (by decide : 1 + 0 ≤ _), (by decide : 13 + 0 ≤ _)⟩)
      dsimp only [Pt.U, Pt.locs, Pt.cells, Pt.slots] at X110 l110 y110 z110 st110 hQ110
      subst l110 y110 z110
      obtain ⟨rfl, N110q, K110, V110⟩ := hQ110
      have N110 := Fr.app N107 N110q
      have Zh112 : n0 ≤ T110.heap.size := Nat.le_trans Zh109 K110.1
      refine own_go st110 ?_
      show own_Fin p e below _ (T110.setTop (mkF m 49 #[.val (.int p1), .val (.int p2), .val (.int p3), .val (.int p4), .val (.int p5), .val (.int (1 : Int32)), .val (.int (1 : Int32)), .val (.ref b102), .unset] []))
      refine own_go (fun t k => XS.iload X110.here hx rfl (hb hby at_49) rfl  (XS.iconst X110.here hx rfl (hb hby at_51) k)) ?_
      show own_Fin p e below _ (T110.setTop (mkF m 52 #[.val (.int p1), .val (.int p2), .val (.int p3), .val (.int p4), .val (.int p5), .val (.int (1 : Int32)), .val (.int (1 : Int32)), .val (.ref b102), .unset] [(.int (1 : Int32)), (.int (1 : Int32))]))
      refine own_go (fun t k => XS.icmpNo X110.here hx rfl (hb hby at_52) rfl (teq (by decide : (1 : Int32) = (1 : Int32))).2 (XS.aload X110.here hx rfl (hb hby at_55) rfl rfl  (XS.iconst X110.here hx rfl (hb hby at_57) (XS.iloadN X110.here hx rfl (hb hby at_58) rfl  k)))) ?_
      show own_Fin p e below _ (T110.setTop (mkF m 59 #[.val (.int p1), .val (.int p2), .val (.int p3), .val (.int p4), .val (.int p5), .val (.int (1 : Int32)), .val (.int (1 : Int32)), .val (.ref b102), .unset] [(.int p4), (.int (0 : Int32)), (.ref b102)]))
      refine own_go (fun t k => XS.i2b X110.here hx rfl (hb hby at_59) rfl k) ?_
      show own_Fin p e below _ (T110.setTop (mkF m 60 #[.val (.int p1), .val (.int p2), .val (.int p3), .val (.int p4), .val (.int p5), .val (.int (1 : Int32)), .val (.int (1 : Int32)), .val (.ref b102), .unset] [(.int (p4.toInt8.toInt32)), (.int (0 : Int32)), (.ref b102)]))
      obtain ⟨cl113, Ar113, q113, S113, M113, H113, G113⟩ := (id V110)
      have hin113 : ¬ ((0 : Int32) < 0 ∨ cl113.slots.size ≤ ((0 : Int32)).toNatClampNeg) := inb_of S113 ⟨by decide, by decide⟩
      obtain ⟨T113, h113, X113, e113, W113, st113⟩ := stB X110 hx hZ rfl Ar113 (j := (0 : Int32)) hin113 (g := (mkF m 60 #[.val (.int p1), .val (.int p2), .val (.int p3), .val (.int p4), .val (.int p5), .val (.int (1 : Int32)), .val (.int (1 : Int32)), .val (.ref b102), .unset] [(.int (p4.toInt8.toInt32)), (.int (0 : Int32)), (.ref b102)])) rfl rfl (hb hby at_60)
      have V113 := Arv.set Ar113 q113 S113 M113 H113 G113 (fits_nar_byte _) W113 0 rfl (Nat.le_of_ble_eq_true rfl)
      have f115 : Arv Z h113 b102 k102 .byte (13 : Int32) [(.int (nar .byte (p4.toInt8.toInt32))), (.int (nar .byte (p1.toInt8.toInt32))), (.int (nar .byte (((p1.toUInt32 >>> ((8 : Int32) &&& 31).toUInt32).toInt32).toInt8.toInt32))), (.int (nar .byte (((p1.toUInt32 >>> ((16 : Int32) &&& 31).toUInt32).toInt32).toInt8.toInt32))), (.int (nar .byte (((p1.toUInt32 >>> ((24 : Int32) &&& 31).toUInt32).toInt32).toInt8.toInt32))), (.int (nar .byte (p2.toInt8.toInt32))), (.int (nar .byte (((p2.toUInt32 >>> ((8 : Int32) &&& 31).toUInt32).toInt32).toInt8.toInt32))), (.int (nar .byte (((p2.toUInt32 >>> ((16 : Int32) &&& 31).toUInt32).toInt32).toInt8.toInt32))), (.int (nar .byte (((p2.toUInt32 >>> ((24 : Int32) &&& 31).toUInt32).toInt32).toInt8.toInt32))), (.int (nar .byte (p3.toInt8.toInt32))), (.int (nar .byte (((p3.toUInt32 >>> ((8 : Int32) &&& 31).toUInt32).toInt32).toInt8.toInt32))), (.int (nar .byte (((p3.toUInt32 >>> ((16 : Int32) &&& 31).toUInt32).toInt32).toInt8.toInt32))), (.int (nar .byte (((p3.toUInt32 >>> ((24 : Int32) &&& 31).toUInt32).toInt32).toInt8.toInt32)))] (.int (0 : Int32)) := V113
      have Zh116 : n0 ≤ h113.size := Nat.le_trans Zh112 (Nat.le_of_eq W113.size.symm)
      have N113 := Fr.snoc X113 N110 g_b102
      refine own_go st113 ?_
      show own_Fin p e below _ (T113.setTop (mkF m 61 #[.val (.int p1), .val (.int p2), .val (.int p3), .val (.int p4), .val (.int p5), .val (.int (1 : Int32)), .val (.int (1 : Int32)), .val (.ref b102), .unset] []))
      refine own_go (fun t k => XS.goto X113.here hx rfl (pc0 := 61) (pc' := 71) rfl (hb hby at_61) (by decide) (by decide) (XS.aload X113.here hx rfl (hb hby at_71) rfl rfl  (XS.iload X113.here hx rfl (hb hby at_73) rfl  (XS.iconst X113.here hx rfl (hb hby at_75) k)))) ?_
      show own_Fin p e below _ (T113.setTop (mkF m 76 #[.val (.int p1), .val (.int p2), .val (.int p3), .val (.int p4), .val (.int p5), .val (.int (1 : Int32)), .val (.int (1 : Int32)), .val (.ref b102), .unset] [(.int (4 : Int32)), (.int (1 : Int32)), (.ref b102)]))
      refine own_go (fun t k => XS.iload X113.here hx rfl (hb hby at_76) rfl  (XS.imul X113.here hx rfl (hb hby at_78) rfl k)) ?_
      show own_Fin p e below _ (T113.setTop (mkF m 79 #[.val (.int p1), .val (.int p2), .val (.int p3), .val (.int p4), .val (.int p5), .val (.int (1 : Int32)), .val (.int (1 : Int32)), .val (.ref b102), .unset] [(.int (4 : Int32)), (.int (1 : Int32)), (.ref b102)]))
      obtain ⟨_, _, ⟨T117, L117, k117, n117⟩, -, X117, ⟨Lc117, hQ117, l117, y117, z117⟩, st117⟩ := Jvm.LawKit.callS X113 hx (y := (⟨"com/example/palimpsest/palimpsest/chain/CurveScalars", "decode", "([BII)[I"⟩ : MethodName)) hown (mvT hZ hw_5) (mvT hZ hw_6) (mvT hZ hw_7) (mvT hZ hw_8) (by decide) (backOf (W := 0) (rm2o1c1 l Z a0 hw [] (b102) k102 ((nar .byte (p4.toInt8.toInt32))) ((nar .byte (p1.toInt8.toInt32))) ((nar .byte (((p1.toUInt32 >>> ((8 : Int32) &&& 31).toUInt32).toInt32).toInt8.toInt32))) ((nar .byte (((p1.toUInt32 >>> ((16 : Int32) &&& 31).toUInt32).toInt32).toInt8.toInt32))) ((nar .byte (((p1.toUInt32 >>> ((24 : Int32) &&& 31).toUInt32).toInt32).toInt8.toInt32))) ((nar .byte (p2.toInt8.toInt32))) ((nar .byte (((p2.toUInt32 >>> ((8 : Int32) &&& 31).toUInt32).toInt32).toInt8.toInt32))) ((nar .byte (((p2.toUInt32 >>> ((16 : Int32) &&& 31).toUInt32).toInt32).toInt8.toInt32))) ((nar .byte (((p2.toUInt32 >>> ((24 : Int32) &&& 31).toUInt32).toInt32).toInt8.toInt32))) ((nar .byte (p3.toInt8.toInt32))) ((nar .byte (((p3.toUInt32 >>> ((8 : Int32) &&& 31).toUInt32).toInt32).toInt8.toInt32))) ((nar .byte (((p3.toUInt32 >>> ((16 : Int32) &&& 31).toUInt32).toInt32).toInt8.toInt32))) ((nar .byte (((p3.toUInt32 >>> ((24 : Int32) &&& 31).toUInt32).toInt32).toInt8.toInt32))) h113 n0 Zh116 f115) hZ hw_8 hw_7 (by decide) (by decide)) (g := (mkF m 79 #[.val (.int p1), .val (.int p2), .val (.int p3), .val (.int p4), .val (.int p5), .val (.int (1 : Int32)), .val (.int (1 : Int32)), .val (.ref b102), .unset] [(.int (4 : Int32)), (.int (1 : Int32)), (.ref b102)])) rfl (by rw [hml]; rfl) (argsL := [(.ref b102), (.int (1 : Int32)), (.int (4 : Int32))]) (rest := []) (lenOf pd_1 rfl) rfl (by show 2 * 0 + _ ≤ _; exact Nat.le_of_eq rfl) (hb hby at_79) (fun _ _ => ⟨rfl, e113, (by decide : 1 + 1 ≤ _), (by decide : 13 + 1 ≤ _)⟩)
      dsimp only [Pt.U, Pt.locs, Pt.cells, Pt.slots] at X117 l117 y117 z117 st117 hQ117
      subst l117 y117 z117
      obtain ⟨b117, k117, rfl, N117q, sz117, K117, V117⟩ := hQ117
      have N117 := Fr.app N113 N117q
      have g_b117 : n0 ≤ b117 := Nat.le_trans Zh116 sz117
      have ne_b102_b117 : b102 ≠ b117 := Nat.ne_of_lt (Nat.lt_of_lt_of_le f115.lt sz117)
      have E117 : Ext _ _ := ⟨K117.1, fun a c q => K117.2.1 a c q nin0⟩
      have f118 := f115.ext E117
      have Zh119 : n0 ≤ T117.heap.size := Nat.le_trans Zh116 K117.1
      refine own_go st117 ?_
      show own_Fin p e below _ (T117.setTop (mkF m 82 #[.val (.int p1), .val (.int p2), .val (.int p3), .val (.int p4), .val (.int p5), .val (.int (1 : Int32)), .val (.int (1 : Int32)), .val (.ref b102), .unset] [(.ref b117)]))
      refine own_go (fun t k => XS.astore X117.here hx rfl (hb hby at_82) rfl rfl (l' := #[.val (.int p1), .val (.int p2), .val (.int p3), .val (.int p4), .val (.int p5), .val (.int (1 : Int32)), .val (.int (1 : Int32)), .val (.ref b102), .val (.ref b117)]) rfl (XS.aload X117.here hx rfl (hb hby at_84) rfl rfl  k)) ?_
      show own_Fin p e below _ (T117.setTop (mkF m 86 #[.val (.int p1), .val (.int p2), .val (.int p3), .val (.int p4), .val (.int p5), .val (.int (1 : Int32)), .val (.int (1 : Int32)), .val (.ref b102), .val (.ref b117)] [(.ref b117)]))
      obtain ⟨cl120, Ar120, q120, S120, M120, H120, G120⟩ := (id V117)
      refine own_go (fun t k => X117.arraylength hx Ar120.1 (State.isArrayOf_alike hZ.alike Ar120.2.1) (g := (mkF m 86 #[.val (.int p1), .val (.int p2), .val (.int p3), .val (.int p4), .val (.int p5), .val (.int (1 : Int32)), .val (.int (1 : Int32)), .val (.ref b102), .val (.ref b117)] [(.ref b117)])) rfl rfl (hb hby at_86) _ k) ?_
      rw [len_of S120 M120]
      show own_Fin p e below _ (T117.setTop (mkF m 87 #[.val (.int p1), .val (.int p2), .val (.int p3), .val (.int p4), .val (.int p5), .val (.int (1 : Int32)), .val (.int (1 : Int32)), .val (.ref b102), .val (.ref b117)] [(.int (1 : Int32))]))
      refine own_go (fun t k => XS.iload X117.here hx rfl (hb hby at_87) rfl  k) ?_
      show own_Fin p e below _ (T117.setTop (mkF m 89 #[.val (.int p1), .val (.int p2), .val (.int p3), .val (.int p4), .val (.int p5), .val (.int (1 : Int32)), .val (.int (1 : Int32)), .val (.ref b102), .val (.ref b117)] [(.int (1 : Int32)), (.int (1 : Int32))]))
      refine own_go (fun t k => XS.icmpYes X117.here hx rfl (pc0 := 89) (pc' := 94) rfl (hb hby at_89) rfl (teq (by decide : (1 : Int32) = (1 : Int32))).1 (by decide) (by decide) (XS.iload X117.here hx rfl (hb hby at_94) rfl  (XS.iconst X117.here hx rfl (hb hby at_96) k))) ?_
      show own_Fin p e below _ (T117.setTop (mkF m 97 #[.val (.int p1), .val (.int p2), .val (.int p3), .val (.int p4), .val (.int p5), .val (.int (1 : Int32)), .val (.int (1 : Int32)), .val (.ref b102), .val (.ref b117)] [(.int (1 : Int32)), (.int (1 : Int32))]))
      refine own_go (fun t k => XS.icmpNo X117.here hx rfl (hb hby at_97) rfl (flt (by decide : ¬ ((1 : Int32) < (1 : Int32)))).1 (XS.aload X117.here hx rfl (hb hby at_100) rfl rfl  (XS.iconst X117.here hx rfl (hb hby at_102) k))) ?_
      show own_Fin p e below _ (T117.setTop (mkF m 103 #[.val (.int p1), .val (.int p2), .val (.int p3), .val (.int p4), .val (.int p5), .val (.int (1 : Int32)), .val (.int (1 : Int32)), .val (.ref b102), .val (.ref b117)] [(.int (0 : Int32)), (.ref b117)]))
      obtain ⟨cl121, Ar121, q121, S121, M121, H121, G121⟩ := (id V117)
      have hin121 : ¬ ((0 : Int32) < 0 ∨ cl121.slots.size ≤ ((0 : Int32)).toNatClampNeg) := inb_of S121 ⟨by decide, by decide⟩
      have hat121 : cl121.slots[((0 : Int32)).toNatClampNeg]? = some (.int (own_w ((nar .byte (p1.toInt8.toInt32))) ((nar .byte (((p1.toUInt32 >>> ((8 : Int32) &&& 31).toUInt32).toInt32).toInt8.toInt32))) ((nar .byte (((p1.toUInt32 >>> ((16 : Int32) &&& 31).toUInt32).toInt32).toInt8.toInt32))) ((nar .byte (((p1.toUInt32 >>> ((24 : Int32) &&& 31).toUInt32).toInt32).toInt8.toInt32))))) := H121.at hin121 rfl
      refine own_go (fun t k => X117.iaload hx (j := (0 : Int32)) (v := (.int (own_w ((nar .byte (p1.toInt8.toInt32))) ((nar .byte (((p1.toUInt32 >>> ((8 : Int32) &&& 31).toUInt32).toInt32).toInt8.toInt32))) ((nar .byte (((p1.toUInt32 >>> ((16 : Int32) &&& 31).toUInt32).toInt32).toInt8.toInt32))) ((nar .byte (((p1.toUInt32 >>> ((24 : Int32) &&& 31).toUInt32).toInt32).toInt8.toInt32)))))) Ar121.1 (State.isArrayOf_alike hZ.alike Ar121.2.1) Ar121.2.2 hin121 hat121 (g := (mkF m 103 #[.val (.int p1), .val (.int p2), .val (.int p3), .val (.int p4), .val (.int p5), .val (.int (1 : Int32)), .val (.int (1 : Int32)), .val (.ref b102), .val (.ref b117)] [(.int (0 : Int32)), (.ref b117)])) rfl rfl (hb hby at_103) _ (XS.iloadN X117.here hx rfl (hb hby at_104) rfl  k)) ?_
      show own_Fin p e below _ (T117.setTop (mkF m 105 #[.val (.int p1), .val (.int p2), .val (.int p3), .val (.int p4), .val (.int p5), .val (.int (1 : Int32)), .val (.int (1 : Int32)), .val (.ref b102), .val (.ref b117)] [(.int p1), (.int (own_w ((nar .byte (p1.toInt8.toInt32))) ((nar .byte (((p1.toUInt32 >>> ((8 : Int32) &&& 31).toUInt32).toInt32).toInt8.toInt32))) ((nar .byte (((p1.toUInt32 >>> ((16 : Int32) &&& 31).toUInt32).toInt32).toInt8.toInt32))) ((nar .byte (((p1.toUInt32 >>> ((24 : Int32) &&& 31).toUInt32).toInt32).toInt8.toInt32)))))]))
      refine own_go (fun t k => XS.icmpYes X117.here hx rfl (pc0 := 105) (pc' := 110) rfl (hb hby at_105) rfl (teq (own_dec _)).1 (by decide) (by decide) (XS.iload X117.here hx rfl (hb hby at_110) rfl  (XS.iconst X117.here hx rfl (hb hby at_112) k))) ?_
      show own_Fin p e below _ (T117.setTop (mkF m 113 #[.val (.int p1), .val (.int p2), .val (.int p3), .val (.int p4), .val (.int p5), .val (.int (1 : Int32)), .val (.int (1 : Int32)), .val (.ref b102), .val (.ref b117)] [(.int (2 : Int32)), (.int (1 : Int32))]))
      refine own_go (fun t k => XS.icmpYes X117.here hx rfl (pc0 := 113) (pc' := 126) rfl (hb hby at_113) rfl (tlt (by decide : (1 : Int32) < (2 : Int32))).1 (by decide) (by decide) (XS.iload X117.here hx rfl (hb hby at_126) rfl  (XS.iconst X117.here hx rfl (hb hby at_128) k))) ?_
      show own_Fin p e below _ (T117.setTop (mkF m 129 #[.val (.int p1), .val (.int p2), .val (.int p3), .val (.int p4), .val (.int p5), .val (.int (1 : Int32)), .val (.int (1 : Int32)), .val (.ref b102), .val (.ref b117)] [(.int (3 : Int32)), (.int (1 : Int32))]))
      refine own_go (fun t k => XS.icmpYes X117.here hx rfl (pc0 := 129) (pc' := 142) rfl (hb hby at_129) rfl (tlt (by decide : (1 : Int32) < (3 : Int32))).1 (by decide) (by decide) (XS.iconst X117.here hx rfl (hb hby at_142) k)) ?_
      show own_Fin p e below _ (T117.setTop (mkF m 143 #[.val (.int p1), .val (.int p2), .val (.int p3), .val (.int p4), .val (.int p5), .val (.int (1 : Int32)), .val (.int (1 : Int32)), .val (.ref b102), .val (.ref b117)] [(.int (1 : Int32))]))
      exact own_out X117 (fun h => by rw [Bd.returns] at h; cases h) Bd.notSynchronized (fun fs hr => retN X117 hx (t := .boolean) Bd.returns (by simp) (hb hby at_143) hr) ⟨rfl, N117⟩ (by decide) (by decide)
    · skip
      rw [h]
      show own_Fin p e below _ (s₁.setTop (mkF m 12 #[.val (.int p1), .val (.int p2), .val (.int p3), .val (.int p4), .val (.int p5), .val (.int (1 : Int32)), .unset, .unset, .unset] [(.int (2 : Int32))]))
      refine own_go (fun t k => XS.istore X0.here hx rfl (hb hby at_12) rfl (l' := #[.val (.int p1), .val (.int p2), .val (.int p3), .val (.int p4), .val (.int p5), .val (.int (1 : Int32)), .val (.int (2 : Int32)), .unset, .unset]) rfl (XS.bipush X0.here hx rfl (hb hby at_14) k)) ?_
      show own_Fin p e below _ (s₁.setTop (mkF m 16 #[.val (.int p1), .val (.int p2), .val (.int p3), .val (.int p4), .val (.int p5), .val (.int (1 : Int32)), .val (.int (2 : Int32)), .unset, .unset] [(.int (13 : Int32))]))
      obtain ⟨T122, h122, k122, X122, e122, E122, A122, st122⟩ := newP (aty := .byte) X0 hx hZ hw_0 e0 (g := (mkF m 16 #[.val (.int p1), .val (.int p2), .val (.int p3), .val (.int p4), .val (.int p5), .val (.int (1 : Int32)), .val (.int (2 : Int32)), .unset, .unset] [(.int (13 : Int32))])) rfl (hb hby at_16) rfl (by decide) (cap := 13) (by decide) (by decide) (by decide) (by decide)
      obtain ⟨b122, g122⟩ : ∃ z, z = h0.size := ⟨_, rfl⟩
      rw [← g122] at A122 st122
      have g_b122 : n0 ≤ b122 := Nat.le_trans Z0 (Nat.le_of_eq g122.symm)
      have Zh123 : n0 ≤ h122.size := Nat.le_trans Z0 E122.1
      have V122 : Arv Z h122 b122 k122 .byte (13 : Int32) [(.int (0 : Int32)), (.int (0 : Int32)), (.int (0 : Int32)), (.int (0 : Int32)), (.int (0 : Int32)), (.int (0 : Int32)), (.int (0 : Int32)), (.int (0 : Int32)), (.int (0 : Int32)), (.int (0 : Int32)), (.int (0 : Int32)), (.int (0 : Int32)), (.int (0 : Int32))] (.int (0 : Int32)) := (Arv.new A122 (by decide)).pad (pad_rep [] (.int (0 : Int32)) 13)
      refine own_go st122 ?_
      show own_Fin p e below _ (T122.setTop (mkF m 18 #[.val (.int p1), .val (.int p2), .val (.int p3), .val (.int p4), .val (.int p5), .val (.int (1 : Int32)), .val (.int (2 : Int32)), .unset, .unset] [(.ref b122)]))
      refine own_go (fun t k => XS.astore X122.here hx rfl (hb hby at_18) rfl rfl (l' := #[.val (.int p1), .val (.int p2), .val (.int p3), .val (.int p4), .val (.int p5), .val (.int (1 : Int32)), .val (.int (2 : Int32)), .val (.ref b122), .unset]) rfl (XS.aload X122.here hx rfl (hb hby at_20) rfl rfl  (XS.iload X122.here hx rfl (hb hby at_22) rfl  (XS.iloadN X122.here hx rfl (hb hby at_24) rfl  k)))) ?_
      show own_Fin p e below _ (T122.setTop (mkF m 25 #[.val (.int p1), .val (.int p2), .val (.int p3), .val (.int p4), .val (.int p5), .val (.int (1 : Int32)), .val (.int (2 : Int32)), .val (.ref b122), .unset] [(.int p1), (.int (1 : Int32)), (.ref b122)]))
      obtain ⟨_, _, ⟨T124, L124, k124, n124⟩, -, X124, ⟨Lc124, hQ124, l124, y124, z124⟩, st124⟩ := Jvm.LawKit.callS X122 hx (y := (⟨"com/example/palimpsest/palimpsest/chain/CurveScalarsDecodePinLaw", "put", "([BII)V"⟩ : MethodName)) hown (mvT hZ hw_1) (mvT hZ hw_2) (mvT hZ hw_3) (mvT hZ hw_4) (by decide) (backOf (W := 0) (rm1p1 l Z a0 hw [] (b122) (p1) k122 ((0 : Int32)) ((0 : Int32)) ((0 : Int32)) ((0 : Int32)) ((0 : Int32)) ((0 : Int32)) ((0 : Int32)) ((0 : Int32)) ((0 : Int32)) ((0 : Int32)) ((0 : Int32)) ((0 : Int32)) ((0 : Int32)) h122 n0 Zh123 V122 g_b122) hZ hw_4 hw_3 (by decide) (by decide)) (g := (mkF m 25 #[.val (.int p1), .val (.int p2), .val (.int p3), .val (.int p4), .val (.int p5), .val (.int (1 : Int32)), .val (.int (2 : Int32)), .val (.ref b122), .unset] [(.int p1), (.int (1 : Int32)), (.ref b122)])) rfl (by rw [hml]; rfl) (argsL := [(.ref b122), (.int (1 : Int32)), (.int p1)]) (rest := []) (lenOf pd_0 rfl) rfl (by show 2 * 0 + _ ≤ _; exact Nat.le_of_eq rfl) (hb hby at_25) (fun _ _ => ⟨rfl, e122, (by decide : 1 + 0 ≤ _), (by decide : 13 + 0 ≤ _)⟩)
      dsimp only [Pt.U, Pt.locs, Pt.cells, Pt.slots] at X124 l124 y124 z124 st124 hQ124
      subst l124 y124 z124
      obtain ⟨rfl, N124q, K124, V124⟩ := hQ124
      have N124 := Fr.app N0 N124q
      have Zh126 : n0 ≤ T124.heap.size := Nat.le_trans Zh123 K124.1
      refine own_go st124 ?_
      show own_Fin p e below _ (T124.setTop (mkF m 28 #[.val (.int p1), .val (.int p2), .val (.int p3), .val (.int p4), .val (.int p5), .val (.int (1 : Int32)), .val (.int (2 : Int32)), .val (.ref b122), .unset] []))
      refine own_go (fun t k => XS.aload X124.here hx rfl (hb hby at_28) rfl rfl  (XS.iload X124.here hx rfl (hb hby at_30) rfl  (XS.iconst X124.here hx rfl (hb hby at_32) (XS.iadd X124.here hx rfl (hb hby at_33) rfl k)))) ?_
      show own_Fin p e below _ (T124.setTop (mkF m 34 #[.val (.int p1), .val (.int p2), .val (.int p3), .val (.int p4), .val (.int p5), .val (.int (1 : Int32)), .val (.int (2 : Int32)), .val (.ref b122), .unset] [(.int (5 : Int32)), (.ref b122)]))
      refine own_go (fun t k => XS.iloadN X124.here hx rfl (hb hby at_34) rfl  k) ?_
      show own_Fin p e below _ (T124.setTop (mkF m 35 #[.val (.int p1), .val (.int p2), .val (.int p3), .val (.int p4), .val (.int p5), .val (.int (1 : Int32)), .val (.int (2 : Int32)), .val (.ref b122), .unset] [(.int p2), (.int (5 : Int32)), (.ref b122)]))
      obtain ⟨_, _, ⟨T127, L127, k127, n127⟩, -, X127, ⟨Lc127, hQ127, l127, y127, z127⟩, st127⟩ := Jvm.LawKit.callS X124 hx (y := (⟨"com/example/palimpsest/palimpsest/chain/CurveScalarsDecodePinLaw", "put", "([BII)V"⟩ : MethodName)) hown (mvT hZ hw_1) (mvT hZ hw_2) (mvT hZ hw_3) (mvT hZ hw_4) (by decide) (backOf (W := 0) (rm1p5 l Z a0 hw [] (b122) (p2) k122 ((0 : Int32)) ((nar .byte (p1.toInt8.toInt32))) ((nar .byte (((p1.toUInt32 >>> ((8 : Int32) &&& 31).toUInt32).toInt32).toInt8.toInt32))) ((nar .byte (((p1.toUInt32 >>> ((16 : Int32) &&& 31).toUInt32).toInt32).toInt8.toInt32))) ((nar .byte (((p1.toUInt32 >>> ((24 : Int32) &&& 31).toUInt32).toInt32).toInt8.toInt32))) ((0 : Int32)) ((0 : Int32)) ((0 : Int32)) ((0 : Int32)) ((0 : Int32)) ((0 : Int32)) ((0 : Int32)) ((0 : Int32)) T124.heap n0 Zh126 V124 g_b122) hZ hw_4 hw_3 (by decide) (by decide)) (g := (mkF m 35 #[.val (.int p1), .val (.int p2), .val (.int p3), .val (.int p4), .val (.int p5), .val (.int (1 : Int32)), .val (.int (2 : Int32)), .val (.ref b122), .unset] [(.int p2), (.int (5 : Int32)), (.ref b122)])) rfl (by rw [hml]; rfl) (argsL := [(.ref b122), (.int (5 : Int32)), (.int p2)]) (rest := []) (lenOf pd_0 rfl) rfl (by show 2 * 0 + _ ≤ _; exact Nat.le_of_eq rfl) (hb hby at_35) (fun _ _ => ⟨rfl, rfl, (by decide : 1 + 0 ≤ _), (by decide : 13 + 0 ≤ _)⟩)
      dsimp only [Pt.U, Pt.locs, Pt.cells, Pt.slots] at X127 l127 y127 z127 st127 hQ127
      subst l127 y127 z127
      obtain ⟨rfl, N127q, K127, V127⟩ := hQ127
      have N127 := Fr.app N124 N127q
      have Zh129 : n0 ≤ T127.heap.size := Nat.le_trans Zh126 K127.1
      refine own_go st127 ?_
      show own_Fin p e below _ (T127.setTop (mkF m 38 #[.val (.int p1), .val (.int p2), .val (.int p3), .val (.int p4), .val (.int p5), .val (.int (1 : Int32)), .val (.int (2 : Int32)), .val (.ref b122), .unset] []))
      refine own_go (fun t k => XS.aload X127.here hx rfl (hb hby at_38) rfl rfl  (XS.iload X127.here hx rfl (hb hby at_40) rfl  (XS.bipush X127.here hx rfl (hb hby at_42) (XS.iadd X127.here hx rfl (hb hby at_44) rfl k)))) ?_
      show own_Fin p e below _ (T127.setTop (mkF m 45 #[.val (.int p1), .val (.int p2), .val (.int p3), .val (.int p4), .val (.int p5), .val (.int (1 : Int32)), .val (.int (2 : Int32)), .val (.ref b122), .unset] [(.int (9 : Int32)), (.ref b122)]))
      refine own_go (fun t k => XS.iloadN X127.here hx rfl (hb hby at_45) rfl  k) ?_
      show own_Fin p e below _ (T127.setTop (mkF m 46 #[.val (.int p1), .val (.int p2), .val (.int p3), .val (.int p4), .val (.int p5), .val (.int (1 : Int32)), .val (.int (2 : Int32)), .val (.ref b122), .unset] [(.int p3), (.int (9 : Int32)), (.ref b122)]))
      obtain ⟨_, _, ⟨T130, L130, k130, n130⟩, -, X130, ⟨Lc130, hQ130, l130, y130, z130⟩, st130⟩ := Jvm.LawKit.callS X127 hx (y := (⟨"com/example/palimpsest/palimpsest/chain/CurveScalarsDecodePinLaw", "put", "([BII)V"⟩ : MethodName)) hown (mvT hZ hw_1) (mvT hZ hw_2) (mvT hZ hw_3) (mvT hZ hw_4) (by decide) (backOf (W := 0) (rm1p9 l Z a0 hw [] (b122) (p3) k122 ((0 : Int32)) ((nar .byte (p1.toInt8.toInt32))) ((nar .byte (((p1.toUInt32 >>> ((8 : Int32) &&& 31).toUInt32).toInt32).toInt8.toInt32))) ((nar .byte (((p1.toUInt32 >>> ((16 : Int32) &&& 31).toUInt32).toInt32).toInt8.toInt32))) ((nar .byte (((p1.toUInt32 >>> ((24 : Int32) &&& 31).toUInt32).toInt32).toInt8.toInt32))) ((nar .byte (p2.toInt8.toInt32))) ((nar .byte (((p2.toUInt32 >>> ((8 : Int32) &&& 31).toUInt32).toInt32).toInt8.toInt32))) ((nar .byte (((p2.toUInt32 >>> ((16 : Int32) &&& 31).toUInt32).toInt32).toInt8.toInt32))) ((nar .byte (((p2.toUInt32 >>> ((24 : Int32) &&& 31).toUInt32).toInt32).toInt8.toInt32))) ((0 : Int32)) ((0 : Int32)) ((0 : Int32)) ((0 : Int32)) T127.heap n0 Zh129 V127 g_b122) hZ hw_4 hw_3 (by decide) (by decide)) (g := (mkF m 46 #[.val (.int p1), .val (.int p2), .val (.int p3), .val (.int p4), .val (.int p5), .val (.int (1 : Int32)), .val (.int (2 : Int32)), .val (.ref b122), .unset] [(.int p3), (.int (9 : Int32)), (.ref b122)])) rfl (by rw [hml]; rfl) (argsL := [(.ref b122), (.int (9 : Int32)), (.int p3)]) (rest := []) (lenOf pd_0 rfl) rfl (by show 2 * 0 + _ ≤ _; exact Nat.le_of_eq rfl) (hb hby at_46) (fun _ _ => ⟨rfl, rfl, (by decide : 1 + 0 ≤ _), (by decide : 13 + 0 ≤ _)⟩)
      dsimp only [Pt.U, Pt.locs, Pt.cells, Pt.slots] at X130 l130 y130 z130 st130 hQ130
      subst l130 y130 z130
      obtain ⟨rfl, N130q, K130, V130⟩ := hQ130
      have N130 := Fr.app N127 N130q
      have Zh132 : n0 ≤ T130.heap.size := Nat.le_trans Zh129 K130.1
      refine own_go st130 ?_
      show own_Fin p e below _ (T130.setTop (mkF m 49 #[.val (.int p1), .val (.int p2), .val (.int p3), .val (.int p4), .val (.int p5), .val (.int (1 : Int32)), .val (.int (2 : Int32)), .val (.ref b122), .unset] []))
      refine own_go (fun t k => XS.iload X130.here hx rfl (hb hby at_49) rfl  (XS.iconst X130.here hx rfl (hb hby at_51) k)) ?_
      show own_Fin p e below _ (T130.setTop (mkF m 52 #[.val (.int p1), .val (.int p2), .val (.int p3), .val (.int p4), .val (.int p5), .val (.int (1 : Int32)), .val (.int (2 : Int32)), .val (.ref b122), .unset] [(.int (1 : Int32)), (.int (1 : Int32))]))
      refine own_go (fun t k => XS.icmpNo X130.here hx rfl (hb hby at_52) rfl (teq (by decide : (1 : Int32) = (1 : Int32))).2 (XS.aload X130.here hx rfl (hb hby at_55) rfl rfl  (XS.iconst X130.here hx rfl (hb hby at_57) (XS.iloadN X130.here hx rfl (hb hby at_58) rfl  k)))) ?_
      show own_Fin p e below _ (T130.setTop (mkF m 59 #[.val (.int p1), .val (.int p2), .val (.int p3), .val (.int p4), .val (.int p5), .val (.int (1 : Int32)), .val (.int (2 : Int32)), .val (.ref b122), .unset] [(.int p4), (.int (0 : Int32)), (.ref b122)]))
      refine own_go (fun t k => XS.i2b X130.here hx rfl (hb hby at_59) rfl k) ?_
      show own_Fin p e below _ (T130.setTop (mkF m 60 #[.val (.int p1), .val (.int p2), .val (.int p3), .val (.int p4), .val (.int p5), .val (.int (1 : Int32)), .val (.int (2 : Int32)), .val (.ref b122), .unset] [(.int (p4.toInt8.toInt32)), (.int (0 : Int32)), (.ref b122)]))
      obtain ⟨cl133, Ar133, q133, S133, M133, H133, G133⟩ := (id V130)
      have hin133 : ¬ ((0 : Int32) < 0 ∨ cl133.slots.size ≤ ((0 : Int32)).toNatClampNeg) := inb_of S133 ⟨by decide, by decide⟩
      obtain ⟨T133, h133, X133, e133, W133, st133⟩ := stB X130 hx hZ rfl Ar133 (j := (0 : Int32)) hin133 (g := (mkF m 60 #[.val (.int p1), .val (.int p2), .val (.int p3), .val (.int p4), .val (.int p5), .val (.int (1 : Int32)), .val (.int (2 : Int32)), .val (.ref b122), .unset] [(.int (p4.toInt8.toInt32)), (.int (0 : Int32)), (.ref b122)])) rfl rfl (hb hby at_60)
      have V133 := Arv.set Ar133 q133 S133 M133 H133 G133 (fits_nar_byte _) W133 0 rfl (Nat.le_of_ble_eq_true rfl)
      have f135 : Arv Z h133 b122 k122 .byte (13 : Int32) [(.int (nar .byte (p4.toInt8.toInt32))), (.int (nar .byte (p1.toInt8.toInt32))), (.int (nar .byte (((p1.toUInt32 >>> ((8 : Int32) &&& 31).toUInt32).toInt32).toInt8.toInt32))), (.int (nar .byte (((p1.toUInt32 >>> ((16 : Int32) &&& 31).toUInt32).toInt32).toInt8.toInt32))), (.int (nar .byte (((p1.toUInt32 >>> ((24 : Int32) &&& 31).toUInt32).toInt32).toInt8.toInt32))), (.int (nar .byte (p2.toInt8.toInt32))), (.int (nar .byte (((p2.toUInt32 >>> ((8 : Int32) &&& 31).toUInt32).toInt32).toInt8.toInt32))), (.int (nar .byte (((p2.toUInt32 >>> ((16 : Int32) &&& 31).toUInt32).toInt32).toInt8.toInt32))), (.int (nar .byte (((p2.toUInt32 >>> ((24 : Int32) &&& 31).toUInt32).toInt32).toInt8.toInt32))), (.int (nar .byte (p3.toInt8.toInt32))), (.int (nar .byte (((p3.toUInt32 >>> ((8 : Int32) &&& 31).toUInt32).toInt32).toInt8.toInt32))), (.int (nar .byte (((p3.toUInt32 >>> ((16 : Int32) &&& 31).toUInt32).toInt32).toInt8.toInt32))), (.int (nar .byte (((p3.toUInt32 >>> ((24 : Int32) &&& 31).toUInt32).toInt32).toInt8.toInt32)))] (.int (0 : Int32)) := V133
      have Zh136 : n0 ≤ h133.size := Nat.le_trans Zh132 (Nat.le_of_eq W133.size.symm)
      have N133 := Fr.snoc X133 N130 g_b122
      refine own_go st133 ?_
      show own_Fin p e below _ (T133.setTop (mkF m 61 #[.val (.int p1), .val (.int p2), .val (.int p3), .val (.int p4), .val (.int p5), .val (.int (1 : Int32)), .val (.int (2 : Int32)), .val (.ref b122), .unset] []))
      refine own_go (fun t k => XS.goto X133.here hx rfl (pc0 := 61) (pc' := 71) rfl (hb hby at_61) (by decide) (by decide) (XS.aload X133.here hx rfl (hb hby at_71) rfl rfl  (XS.iload X133.here hx rfl (hb hby at_73) rfl  (XS.iconst X133.here hx rfl (hb hby at_75) k)))) ?_
      show own_Fin p e below _ (T133.setTop (mkF m 76 #[.val (.int p1), .val (.int p2), .val (.int p3), .val (.int p4), .val (.int p5), .val (.int (1 : Int32)), .val (.int (2 : Int32)), .val (.ref b122), .unset] [(.int (4 : Int32)), (.int (1 : Int32)), (.ref b122)]))
      refine own_go (fun t k => XS.iload X133.here hx rfl (hb hby at_76) rfl  (XS.imul X133.here hx rfl (hb hby at_78) rfl k)) ?_
      show own_Fin p e below _ (T133.setTop (mkF m 79 #[.val (.int p1), .val (.int p2), .val (.int p3), .val (.int p4), .val (.int p5), .val (.int (1 : Int32)), .val (.int (2 : Int32)), .val (.ref b122), .unset] [(.int (8 : Int32)), (.int (1 : Int32)), (.ref b122)]))
      obtain ⟨_, _, ⟨T137, L137, k137, n137⟩, -, X137, ⟨Lc137, hQ137, l137, y137, z137⟩, st137⟩ := Jvm.LawKit.callS X133 hx (y := (⟨"com/example/palimpsest/palimpsest/chain/CurveScalars", "decode", "([BII)[I"⟩ : MethodName)) hown (mvT hZ hw_5) (mvT hZ hw_6) (mvT hZ hw_7) (mvT hZ hw_8) (by decide) (backOf (W := 0) (rm2o1c2 l Z a0 hw [] (b122) k122 ((nar .byte (p4.toInt8.toInt32))) ((nar .byte (p1.toInt8.toInt32))) ((nar .byte (((p1.toUInt32 >>> ((8 : Int32) &&& 31).toUInt32).toInt32).toInt8.toInt32))) ((nar .byte (((p1.toUInt32 >>> ((16 : Int32) &&& 31).toUInt32).toInt32).toInt8.toInt32))) ((nar .byte (((p1.toUInt32 >>> ((24 : Int32) &&& 31).toUInt32).toInt32).toInt8.toInt32))) ((nar .byte (p2.toInt8.toInt32))) ((nar .byte (((p2.toUInt32 >>> ((8 : Int32) &&& 31).toUInt32).toInt32).toInt8.toInt32))) ((nar .byte (((p2.toUInt32 >>> ((16 : Int32) &&& 31).toUInt32).toInt32).toInt8.toInt32))) ((nar .byte (((p2.toUInt32 >>> ((24 : Int32) &&& 31).toUInt32).toInt32).toInt8.toInt32))) ((nar .byte (p3.toInt8.toInt32))) ((nar .byte (((p3.toUInt32 >>> ((8 : Int32) &&& 31).toUInt32).toInt32).toInt8.toInt32))) ((nar .byte (((p3.toUInt32 >>> ((16 : Int32) &&& 31).toUInt32).toInt32).toInt8.toInt32))) ((nar .byte (((p3.toUInt32 >>> ((24 : Int32) &&& 31).toUInt32).toInt32).toInt8.toInt32))) h133 n0 Zh136 f135) hZ hw_8 hw_7 (by decide) (by decide)) (g := (mkF m 79 #[.val (.int p1), .val (.int p2), .val (.int p3), .val (.int p4), .val (.int p5), .val (.int (1 : Int32)), .val (.int (2 : Int32)), .val (.ref b122), .unset] [(.int (8 : Int32)), (.int (1 : Int32)), (.ref b122)])) rfl (by rw [hml]; rfl) (argsL := [(.ref b122), (.int (1 : Int32)), (.int (8 : Int32))]) (rest := []) (lenOf pd_1 rfl) rfl (by show 2 * 0 + _ ≤ _; exact Nat.le_of_eq rfl) (hb hby at_79) (fun _ _ => ⟨rfl, e133, (by decide : 1 + 1 ≤ _), (by decide : 13 + 2 ≤ _)⟩)
      dsimp only [Pt.U, Pt.locs, Pt.cells, Pt.slots] at X137 l137 y137 z137 st137 hQ137
      subst l137 y137 z137
      obtain ⟨b137, k137, rfl, N137q, sz137, K137, V137⟩ := hQ137
      have N137 := Fr.app N133 N137q
      have g_b137 : n0 ≤ b137 := Nat.le_trans Zh136 sz137
      have ne_b122_b137 : b122 ≠ b137 := Nat.ne_of_lt (Nat.lt_of_lt_of_le f135.lt sz137)
      have E137 : Ext _ _ := ⟨K137.1, fun a c q => K137.2.1 a c q nin0⟩
      have f138 := f135.ext E137
      have Zh139 : n0 ≤ T137.heap.size := Nat.le_trans Zh136 K137.1
      refine own_go st137 ?_
      show own_Fin p e below _ (T137.setTop (mkF m 82 #[.val (.int p1), .val (.int p2), .val (.int p3), .val (.int p4), .val (.int p5), .val (.int (1 : Int32)), .val (.int (2 : Int32)), .val (.ref b122), .unset] [(.ref b137)]))
      refine own_go (fun t k => XS.astore X137.here hx rfl (hb hby at_82) rfl rfl (l' := #[.val (.int p1), .val (.int p2), .val (.int p3), .val (.int p4), .val (.int p5), .val (.int (1 : Int32)), .val (.int (2 : Int32)), .val (.ref b122), .val (.ref b137)]) rfl (XS.aload X137.here hx rfl (hb hby at_84) rfl rfl  k)) ?_
      show own_Fin p e below _ (T137.setTop (mkF m 86 #[.val (.int p1), .val (.int p2), .val (.int p3), .val (.int p4), .val (.int p5), .val (.int (1 : Int32)), .val (.int (2 : Int32)), .val (.ref b122), .val (.ref b137)] [(.ref b137)]))
      obtain ⟨cl140, Ar140, q140, S140, M140, H140, G140⟩ := (id V137)
      refine own_go (fun t k => X137.arraylength hx Ar140.1 (State.isArrayOf_alike hZ.alike Ar140.2.1) (g := (mkF m 86 #[.val (.int p1), .val (.int p2), .val (.int p3), .val (.int p4), .val (.int p5), .val (.int (1 : Int32)), .val (.int (2 : Int32)), .val (.ref b122), .val (.ref b137)] [(.ref b137)])) rfl rfl (hb hby at_86) _ k) ?_
      rw [len_of S140 M140]
      show own_Fin p e below _ (T137.setTop (mkF m 87 #[.val (.int p1), .val (.int p2), .val (.int p3), .val (.int p4), .val (.int p5), .val (.int (1 : Int32)), .val (.int (2 : Int32)), .val (.ref b122), .val (.ref b137)] [(.int (2 : Int32))]))
      refine own_go (fun t k => XS.iload X137.here hx rfl (hb hby at_87) rfl  k) ?_
      show own_Fin p e below _ (T137.setTop (mkF m 89 #[.val (.int p1), .val (.int p2), .val (.int p3), .val (.int p4), .val (.int p5), .val (.int (1 : Int32)), .val (.int (2 : Int32)), .val (.ref b122), .val (.ref b137)] [(.int (2 : Int32)), (.int (2 : Int32))]))
      refine own_go (fun t k => XS.icmpYes X137.here hx rfl (pc0 := 89) (pc' := 94) rfl (hb hby at_89) rfl (teq (by decide : (2 : Int32) = (2 : Int32))).1 (by decide) (by decide) (XS.iload X137.here hx rfl (hb hby at_94) rfl  (XS.iconst X137.here hx rfl (hb hby at_96) k))) ?_
      show own_Fin p e below _ (T137.setTop (mkF m 97 #[.val (.int p1), .val (.int p2), .val (.int p3), .val (.int p4), .val (.int p5), .val (.int (1 : Int32)), .val (.int (2 : Int32)), .val (.ref b122), .val (.ref b137)] [(.int (1 : Int32)), (.int (2 : Int32))]))
      refine own_go (fun t k => XS.icmpNo X137.here hx rfl (hb hby at_97) rfl (flt (by decide : ¬ ((2 : Int32) < (1 : Int32)))).1 (XS.aload X137.here hx rfl (hb hby at_100) rfl rfl  (XS.iconst X137.here hx rfl (hb hby at_102) k))) ?_
      show own_Fin p e below _ (T137.setTop (mkF m 103 #[.val (.int p1), .val (.int p2), .val (.int p3), .val (.int p4), .val (.int p5), .val (.int (1 : Int32)), .val (.int (2 : Int32)), .val (.ref b122), .val (.ref b137)] [(.int (0 : Int32)), (.ref b137)]))
      obtain ⟨cl141, Ar141, q141, S141, M141, H141, G141⟩ := (id V137)
      have hin141 : ¬ ((0 : Int32) < 0 ∨ cl141.slots.size ≤ ((0 : Int32)).toNatClampNeg) := inb_of S141 ⟨by decide, by decide⟩
      have hat141 : cl141.slots[((0 : Int32)).toNatClampNeg]? = some (.int (own_w ((nar .byte (p1.toInt8.toInt32))) ((nar .byte (((p1.toUInt32 >>> ((8 : Int32) &&& 31).toUInt32).toInt32).toInt8.toInt32))) ((nar .byte (((p1.toUInt32 >>> ((16 : Int32) &&& 31).toUInt32).toInt32).toInt8.toInt32))) ((nar .byte (((p1.toUInt32 >>> ((24 : Int32) &&& 31).toUInt32).toInt32).toInt8.toInt32))))) := H141.at hin141 rfl
      refine own_go (fun t k => X137.iaload hx (j := (0 : Int32)) (v := (.int (own_w ((nar .byte (p1.toInt8.toInt32))) ((nar .byte (((p1.toUInt32 >>> ((8 : Int32) &&& 31).toUInt32).toInt32).toInt8.toInt32))) ((nar .byte (((p1.toUInt32 >>> ((16 : Int32) &&& 31).toUInt32).toInt32).toInt8.toInt32))) ((nar .byte (((p1.toUInt32 >>> ((24 : Int32) &&& 31).toUInt32).toInt32).toInt8.toInt32)))))) Ar141.1 (State.isArrayOf_alike hZ.alike Ar141.2.1) Ar141.2.2 hin141 hat141 (g := (mkF m 103 #[.val (.int p1), .val (.int p2), .val (.int p3), .val (.int p4), .val (.int p5), .val (.int (1 : Int32)), .val (.int (2 : Int32)), .val (.ref b122), .val (.ref b137)] [(.int (0 : Int32)), (.ref b137)])) rfl rfl (hb hby at_103) _ (XS.iloadN X137.here hx rfl (hb hby at_104) rfl  k)) ?_
      show own_Fin p e below _ (T137.setTop (mkF m 105 #[.val (.int p1), .val (.int p2), .val (.int p3), .val (.int p4), .val (.int p5), .val (.int (1 : Int32)), .val (.int (2 : Int32)), .val (.ref b122), .val (.ref b137)] [(.int p1), (.int (own_w ((nar .byte (p1.toInt8.toInt32))) ((nar .byte (((p1.toUInt32 >>> ((8 : Int32) &&& 31).toUInt32).toInt32).toInt8.toInt32))) ((nar .byte (((p1.toUInt32 >>> ((16 : Int32) &&& 31).toUInt32).toInt32).toInt8.toInt32))) ((nar .byte (((p1.toUInt32 >>> ((24 : Int32) &&& 31).toUInt32).toInt32).toInt8.toInt32)))))]))
      refine own_go (fun t k => XS.icmpYes X137.here hx rfl (pc0 := 105) (pc' := 110) rfl (hb hby at_105) rfl (teq (own_dec _)).1 (by decide) (by decide) (XS.iload X137.here hx rfl (hb hby at_110) rfl  (XS.iconst X137.here hx rfl (hb hby at_112) k))) ?_
      show own_Fin p e below _ (T137.setTop (mkF m 113 #[.val (.int p1), .val (.int p2), .val (.int p3), .val (.int p4), .val (.int p5), .val (.int (1 : Int32)), .val (.int (2 : Int32)), .val (.ref b122), .val (.ref b137)] [(.int (2 : Int32)), (.int (2 : Int32))]))
      refine own_go (fun t k => XS.icmpNo X137.here hx rfl (hb hby at_113) rfl (flt (by decide : ¬ ((2 : Int32) < (2 : Int32)))).1 (XS.aload X137.here hx rfl (hb hby at_116) rfl rfl  (XS.iconst X137.here hx rfl (hb hby at_118) k))) ?_
      show own_Fin p e below _ (T137.setTop (mkF m 119 #[.val (.int p1), .val (.int p2), .val (.int p3), .val (.int p4), .val (.int p5), .val (.int (1 : Int32)), .val (.int (2 : Int32)), .val (.ref b122), .val (.ref b137)] [(.int (1 : Int32)), (.ref b137)]))
      obtain ⟨cl142, Ar142, q142, S142, M142, H142, G142⟩ := (id V137)
      have hin142 : ¬ ((1 : Int32) < 0 ∨ cl142.slots.size ≤ ((1 : Int32)).toNatClampNeg) := inb_of S142 ⟨by decide, by decide⟩
      have hat142 : cl142.slots[((1 : Int32)).toNatClampNeg]? = some (.int (own_w ((nar .byte (p2.toInt8.toInt32))) ((nar .byte (((p2.toUInt32 >>> ((8 : Int32) &&& 31).toUInt32).toInt32).toInt8.toInt32))) ((nar .byte (((p2.toUInt32 >>> ((16 : Int32) &&& 31).toUInt32).toInt32).toInt8.toInt32))) ((nar .byte (((p2.toUInt32 >>> ((24 : Int32) &&& 31).toUInt32).toInt32).toInt8.toInt32))))) := H142.at hin142 rfl
      refine own_go (fun t k => X137.iaload hx (j := (1 : Int32)) (v := (.int (own_w ((nar .byte (p2.toInt8.toInt32))) ((nar .byte (((p2.toUInt32 >>> ((8 : Int32) &&& 31).toUInt32).toInt32).toInt8.toInt32))) ((nar .byte (((p2.toUInt32 >>> ((16 : Int32) &&& 31).toUInt32).toInt32).toInt8.toInt32))) ((nar .byte (((p2.toUInt32 >>> ((24 : Int32) &&& 31).toUInt32).toInt32).toInt8.toInt32)))))) Ar142.1 (State.isArrayOf_alike hZ.alike Ar142.2.1) Ar142.2.2 hin142 hat142 (g := (mkF m 119 #[.val (.int p1), .val (.int p2), .val (.int p3), .val (.int p4), .val (.int p5), .val (.int (1 : Int32)), .val (.int (2 : Int32)), .val (.ref b122), .val (.ref b137)] [(.int (1 : Int32)), (.ref b137)])) rfl rfl (hb hby at_119) _ (XS.iloadN X137.here hx rfl (hb hby at_120) rfl  k)) ?_
      show own_Fin p e below _ (T137.setTop (mkF m 121 #[.val (.int p1), .val (.int p2), .val (.int p3), .val (.int p4), .val (.int p5), .val (.int (1 : Int32)), .val (.int (2 : Int32)), .val (.ref b122), .val (.ref b137)] [(.int p2), (.int (own_w ((nar .byte (p2.toInt8.toInt32))) ((nar .byte (((p2.toUInt32 >>> ((8 : Int32) &&& 31).toUInt32).toInt32).toInt8.toInt32))) ((nar .byte (((p2.toUInt32 >>> ((16 : Int32) &&& 31).toUInt32).toInt32).toInt8.toInt32))) ((nar .byte (((p2.toUInt32 >>> ((24 : Int32) &&& 31).toUInt32).toInt32).toInt8.toInt32)))))]))
      refine own_go (fun t k => XS.icmpYes X137.here hx rfl (pc0 := 121) (pc' := 126) rfl (hb hby at_121) rfl (teq (own_dec _)).1 (by decide) (by decide) (XS.iload X137.here hx rfl (hb hby at_126) rfl  (XS.iconst X137.here hx rfl (hb hby at_128) k))) ?_
      show own_Fin p e below _ (T137.setTop (mkF m 129 #[.val (.int p1), .val (.int p2), .val (.int p3), .val (.int p4), .val (.int p5), .val (.int (1 : Int32)), .val (.int (2 : Int32)), .val (.ref b122), .val (.ref b137)] [(.int (3 : Int32)), (.int (2 : Int32))]))
      refine own_go (fun t k => XS.icmpYes X137.here hx rfl (pc0 := 129) (pc' := 142) rfl (hb hby at_129) rfl (tlt (by decide : (2 : Int32) < (3 : Int32))).1 (by decide) (by decide) (XS.iconst X137.here hx rfl (hb hby at_142) k)) ?_
      show own_Fin p e below _ (T137.setTop (mkF m 143 #[.val (.int p1), .val (.int p2), .val (.int p3), .val (.int p4), .val (.int p5), .val (.int (1 : Int32)), .val (.int (2 : Int32)), .val (.ref b122), .val (.ref b137)] [(.int (1 : Int32))]))
      exact own_out X137 (fun h => by rw [Bd.returns] at h; cases h) Bd.notSynchronized (fun fs hr => retN X137 hx (t := .boolean) Bd.returns (by simp) (hb hby at_143) hr) ⟨rfl, N137⟩ (by decide) (by decide)
    · skip
      rw [h]
      show own_Fin p e below _ (s₁.setTop (mkF m 12 #[.val (.int p1), .val (.int p2), .val (.int p3), .val (.int p4), .val (.int p5), .val (.int (1 : Int32)), .unset, .unset, .unset] [(.int (3 : Int32))]))
      refine own_go (fun t k => XS.istore X0.here hx rfl (hb hby at_12) rfl (l' := #[.val (.int p1), .val (.int p2), .val (.int p3), .val (.int p4), .val (.int p5), .val (.int (1 : Int32)), .val (.int (3 : Int32)), .unset, .unset]) rfl (XS.bipush X0.here hx rfl (hb hby at_14) k)) ?_
      show own_Fin p e below _ (s₁.setTop (mkF m 16 #[.val (.int p1), .val (.int p2), .val (.int p3), .val (.int p4), .val (.int p5), .val (.int (1 : Int32)), .val (.int (3 : Int32)), .unset, .unset] [(.int (13 : Int32))]))
      obtain ⟨T143, h143, k143, X143, e143, E143, A143, st143⟩ := newP (aty := .byte) X0 hx hZ hw_0 e0 (g := (mkF m 16 #[.val (.int p1), .val (.int p2), .val (.int p3), .val (.int p4), .val (.int p5), .val (.int (1 : Int32)), .val (.int (3 : Int32)), .unset, .unset] [(.int (13 : Int32))])) rfl (hb hby at_16) rfl (by decide) (cap := 13) (by decide) (by decide) (by decide) (by decide)
      obtain ⟨b143, g143⟩ : ∃ z, z = h0.size := ⟨_, rfl⟩
      rw [← g143] at A143 st143
      have g_b143 : n0 ≤ b143 := Nat.le_trans Z0 (Nat.le_of_eq g143.symm)
      have Zh144 : n0 ≤ h143.size := Nat.le_trans Z0 E143.1
      have V143 : Arv Z h143 b143 k143 .byte (13 : Int32) [(.int (0 : Int32)), (.int (0 : Int32)), (.int (0 : Int32)), (.int (0 : Int32)), (.int (0 : Int32)), (.int (0 : Int32)), (.int (0 : Int32)), (.int (0 : Int32)), (.int (0 : Int32)), (.int (0 : Int32)), (.int (0 : Int32)), (.int (0 : Int32)), (.int (0 : Int32))] (.int (0 : Int32)) := (Arv.new A143 (by decide)).pad (pad_rep [] (.int (0 : Int32)) 13)
      refine own_go st143 ?_
      show own_Fin p e below _ (T143.setTop (mkF m 18 #[.val (.int p1), .val (.int p2), .val (.int p3), .val (.int p4), .val (.int p5), .val (.int (1 : Int32)), .val (.int (3 : Int32)), .unset, .unset] [(.ref b143)]))
      refine own_go (fun t k => XS.astore X143.here hx rfl (hb hby at_18) rfl rfl (l' := #[.val (.int p1), .val (.int p2), .val (.int p3), .val (.int p4), .val (.int p5), .val (.int (1 : Int32)), .val (.int (3 : Int32)), .val (.ref b143), .unset]) rfl (XS.aload X143.here hx rfl (hb hby at_20) rfl rfl  (XS.iload X143.here hx rfl (hb hby at_22) rfl  (XS.iloadN X143.here hx rfl (hb hby at_24) rfl  k)))) ?_
      show own_Fin p e below _ (T143.setTop (mkF m 25 #[.val (.int p1), .val (.int p2), .val (.int p3), .val (.int p4), .val (.int p5), .val (.int (1 : Int32)), .val (.int (3 : Int32)), .val (.ref b143), .unset] [(.int p1), (.int (1 : Int32)), (.ref b143)]))
      obtain ⟨_, _, ⟨T145, L145, k145, n145⟩, -, X145, ⟨Lc145, hQ145, l145, y145, z145⟩, st145⟩ := Jvm.LawKit.callS X143 hx (y := (⟨"com/example/palimpsest/palimpsest/chain/CurveScalarsDecodePinLaw", "put", "([BII)V"⟩ : MethodName)) hown (mvT hZ hw_1) (mvT hZ hw_2) (mvT hZ hw_3) (mvT hZ hw_4) (by decide) (backOf (W := 0) (rm1p1 l Z a0 hw [] (b143) (p1) k143 ((0 : Int32)) ((0 : Int32)) ((0 : Int32)) ((0 : Int32)) ((0 : Int32)) ((0 : Int32)) ((0 : Int32)) ((0 : Int32)) ((0 : Int32)) ((0 : Int32)) ((0 : Int32)) ((0 : Int32)) ((0 : Int32)) h143 n0 Zh144 V143 g_b143) hZ hw_4 hw_3 (by decide) (by decide)) (g := (mkF m 25 #[.val (.int p1), .val (.int p2), .val (.int p3), .val (.int p4), .val (.int p5), .val (.int (1 : Int32)), .val (.int (3 : Int32)), .val (.ref b143), .unset] [(.int p1), (.int (1 : Int32)), (.ref b143)])) rfl (by rw [hml]; rfl) (argsL := [(.ref b143), (.int (1 : Int32)), (.int p1)]) (rest := []) (lenOf pd_0 rfl) rfl (by show 2 * 0 + _ ≤ _; exact Nat.le_of_eq rfl) (hb hby at_25) (fun _ _ => ⟨rfl, e143, (by decide : 1 + 0 ≤ _), (by decide : 13 + 0 ≤ _)⟩)
      dsimp only [Pt.U, Pt.locs, Pt.cells, Pt.slots] at X145 l145 y145 z145 st145 hQ145
      subst l145 y145 z145
      obtain ⟨rfl, N145q, K145, V145⟩ := hQ145
      have N145 := Fr.app N0 N145q
      have Zh147 : n0 ≤ T145.heap.size := Nat.le_trans Zh144 K145.1
      refine own_go st145 ?_
      show own_Fin p e below _ (T145.setTop (mkF m 28 #[.val (.int p1), .val (.int p2), .val (.int p3), .val (.int p4), .val (.int p5), .val (.int (1 : Int32)), .val (.int (3 : Int32)), .val (.ref b143), .unset] []))
      refine own_go (fun t k => XS.aload X145.here hx rfl (hb hby at_28) rfl rfl  (XS.iload X145.here hx rfl (hb hby at_30) rfl  (XS.iconst X145.here hx rfl (hb hby at_32) (XS.iadd X145.here hx rfl (hb hby at_33) rfl k)))) ?_
      show own_Fin p e below _ (T145.setTop (mkF m 34 #[.val (.int p1), .val (.int p2), .val (.int p3), .val (.int p4), .val (.int p5), .val (.int (1 : Int32)), .val (.int (3 : Int32)), .val (.ref b143), .unset] [(.int (5 : Int32)), (.ref b143)]))
      refine own_go (fun t k => XS.iloadN X145.here hx rfl (hb hby at_34) rfl  k) ?_
      show own_Fin p e below _ (T145.setTop (mkF m 35 #[.val (.int p1), .val (.int p2), .val (.int p3), .val (.int p4), .val (.int p5), .val (.int (1 : Int32)), .val (.int (3 : Int32)), .val (.ref b143), .unset] [(.int p2), (.int (5 : Int32)), (.ref b143)]))
      obtain ⟨_, _, ⟨T148, L148, k148, n148⟩, -, X148, ⟨Lc148, hQ148, l148, y148, z148⟩, st148⟩ := Jvm.LawKit.callS X145 hx (y := (⟨"com/example/palimpsest/palimpsest/chain/CurveScalarsDecodePinLaw", "put", "([BII)V"⟩ : MethodName)) hown (mvT hZ hw_1) (mvT hZ hw_2) (mvT hZ hw_3) (mvT hZ hw_4) (by decide) (backOf (W := 0) (rm1p5 l Z a0 hw [] (b143) (p2) k143 ((0 : Int32)) ((nar .byte (p1.toInt8.toInt32))) ((nar .byte (((p1.toUInt32 >>> ((8 : Int32) &&& 31).toUInt32).toInt32).toInt8.toInt32))) ((nar .byte (((p1.toUInt32 >>> ((16 : Int32) &&& 31).toUInt32).toInt32).toInt8.toInt32))) ((nar .byte (((p1.toUInt32 >>> ((24 : Int32) &&& 31).toUInt32).toInt32).toInt8.toInt32))) ((0 : Int32)) ((0 : Int32)) ((0 : Int32)) ((0 : Int32)) ((0 : Int32)) ((0 : Int32)) ((0 : Int32)) ((0 : Int32)) T145.heap n0 Zh147 V145 g_b143) hZ hw_4 hw_3 (by decide) (by decide)) (g := (mkF m 35 #[.val (.int p1), .val (.int p2), .val (.int p3), .val (.int p4), .val (.int p5), .val (.int (1 : Int32)), .val (.int (3 : Int32)), .val (.ref b143), .unset] [(.int p2), (.int (5 : Int32)), (.ref b143)])) rfl (by rw [hml]; rfl) (argsL := [(.ref b143), (.int (5 : Int32)), (.int p2)]) (rest := []) (lenOf pd_0 rfl) rfl (by show 2 * 0 + _ ≤ _; exact Nat.le_of_eq rfl) (hb hby at_35) (fun _ _ => ⟨rfl, rfl, (by decide : 1 + 0 ≤ _), (by decide : 13 + 0 ≤ _)⟩)
      dsimp only [Pt.U, Pt.locs, Pt.cells, Pt.slots] at X148 l148 y148 z148 st148 hQ148
      subst l148 y148 z148
      obtain ⟨rfl, N148q, K148, V148⟩ := hQ148
      have N148 := Fr.app N145 N148q
      have Zh150 : n0 ≤ T148.heap.size := Nat.le_trans Zh147 K148.1
      refine own_go st148 ?_
      show own_Fin p e below _ (T148.setTop (mkF m 38 #[.val (.int p1), .val (.int p2), .val (.int p3), .val (.int p4), .val (.int p5), .val (.int (1 : Int32)), .val (.int (3 : Int32)), .val (.ref b143), .unset] []))
      refine own_go (fun t k => XS.aload X148.here hx rfl (hb hby at_38) rfl rfl  (XS.iload X148.here hx rfl (hb hby at_40) rfl  (XS.bipush X148.here hx rfl (hb hby at_42) (XS.iadd X148.here hx rfl (hb hby at_44) rfl k)))) ?_
      show own_Fin p e below _ (T148.setTop (mkF m 45 #[.val (.int p1), .val (.int p2), .val (.int p3), .val (.int p4), .val (.int p5), .val (.int (1 : Int32)), .val (.int (3 : Int32)), .val (.ref b143), .unset] [(.int (9 : Int32)), (.ref b143)]))
      refine own_go (fun t k => XS.iloadN X148.here hx rfl (hb hby at_45) rfl  k) ?_
      show own_Fin p e below _ (T148.setTop (mkF m 46 #[.val (.int p1), .val (.int p2), .val (.int p3), .val (.int p4), .val (.int p5), .val (.int (1 : Int32)), .val (.int (3 : Int32)), .val (.ref b143), .unset] [(.int p3), (.int (9 : Int32)), (.ref b143)]))
      obtain ⟨_, _, ⟨T151, L151, k151, n151⟩, -, X151, ⟨Lc151, hQ151, l151, y151, z151⟩, st151⟩ := Jvm.LawKit.callS X148 hx (y := (⟨"com/example/palimpsest/palimpsest/chain/CurveScalarsDecodePinLaw", "put", "([BII)V"⟩ : MethodName)) hown (mvT hZ hw_1) (mvT hZ hw_2) (mvT hZ hw_3) (mvT hZ hw_4) (by decide) (backOf (W := 0) (rm1p9 l Z a0 hw [] (b143) (p3) k143 ((0 : Int32)) ((nar .byte (p1.toInt8.toInt32))) ((nar .byte (((p1.toUInt32 >>> ((8 : Int32) &&& 31).toUInt32).toInt32).toInt8.toInt32))) ((nar .byte (((p1.toUInt32 >>> ((16 : Int32) &&& 31).toUInt32).toInt32).toInt8.toInt32))) ((nar .byte (((p1.toUInt32 >>> ((24 : Int32) &&& 31).toUInt32).toInt32).toInt8.toInt32))) ((nar .byte (p2.toInt8.toInt32))) ((nar .byte (((p2.toUInt32 >>> ((8 : Int32) &&& 31).toUInt32).toInt32).toInt8.toInt32))) ((nar .byte (((p2.toUInt32 >>> ((16 : Int32) &&& 31).toUInt32).toInt32).toInt8.toInt32))) ((nar .byte (((p2.toUInt32 >>> ((24 : Int32) &&& 31).toUInt32).toInt32).toInt8.toInt32))) ((0 : Int32)) ((0 : Int32)) ((0 : Int32)) ((0 : Int32)) T148.heap n0 Zh150 V148 g_b143) hZ hw_4 hw_3 (by decide) (by decide)) (g := (mkF m 46 #[.val (.int p1), .val (.int p2), .val (.int p3), .val (.int p4), .val (.int p5), .val (.int (1 : Int32)), .val (.int (3 : Int32)), .val (.ref b143), .unset] [(.int p3), (.int (9 : Int32)), (.ref b143)])) rfl (by rw [hml]; rfl) (argsL := [(.ref b143), (.int (9 : Int32)), (.int p3)]) (rest := []) (lenOf pd_0 rfl) rfl (by show 2 * 0 + _ ≤ _; exact Nat.le_of_eq rfl) (hb hby at_46) (fun _ _ => ⟨rfl, rfl, (by decide : 1 + 0 ≤ _), (by decide : 13 + 0 ≤ _)⟩)
      dsimp only [Pt.U, Pt.locs, Pt.cells, Pt.slots] at X151 l151 y151 z151 st151 hQ151
      subst l151 y151 z151
      obtain ⟨rfl, N151q, K151, V151⟩ := hQ151
      have N151 := Fr.app N148 N151q
      have Zh153 : n0 ≤ T151.heap.size := Nat.le_trans Zh150 K151.1
      refine own_go st151 ?_
      show own_Fin p e below _ (T151.setTop (mkF m 49 #[.val (.int p1), .val (.int p2), .val (.int p3), .val (.int p4), .val (.int p5), .val (.int (1 : Int32)), .val (.int (3 : Int32)), .val (.ref b143), .unset] []))
      refine own_go (fun t k => XS.iload X151.here hx rfl (hb hby at_49) rfl  (XS.iconst X151.here hx rfl (hb hby at_51) k)) ?_
      show own_Fin p e below _ (T151.setTop (mkF m 52 #[.val (.int p1), .val (.int p2), .val (.int p3), .val (.int p4), .val (.int p5), .val (.int (1 : Int32)), .val (.int (3 : Int32)), .val (.ref b143), .unset] [(.int (1 : Int32)), (.int (1 : Int32))]))
      refine own_go (fun t k => XS.icmpNo X151.here hx rfl (hb hby at_52) rfl (teq (by decide : (1 : Int32) = (1 : Int32))).2 (XS.aload X151.here hx rfl (hb hby at_55) rfl rfl  (XS.iconst X151.here hx rfl (hb hby at_57) (XS.iloadN X151.here hx rfl (hb hby at_58) rfl  k)))) ?_
      show own_Fin p e below _ (T151.setTop (mkF m 59 #[.val (.int p1), .val (.int p2), .val (.int p3), .val (.int p4), .val (.int p5), .val (.int (1 : Int32)), .val (.int (3 : Int32)), .val (.ref b143), .unset] [(.int p4), (.int (0 : Int32)), (.ref b143)]))
      refine own_go (fun t k => XS.i2b X151.here hx rfl (hb hby at_59) rfl k) ?_
      show own_Fin p e below _ (T151.setTop (mkF m 60 #[.val (.int p1), .val (.int p2), .val (.int p3), .val (.int p4), .val (.int p5), .val (.int (1 : Int32)), .val (.int (3 : Int32)), .val (.ref b143), .unset] [(.int (p4.toInt8.toInt32)), (.int (0 : Int32)), (.ref b143)]))
      obtain ⟨cl154, Ar154, q154, S154, M154, H154, G154⟩ := (id V151)
      have hin154 : ¬ ((0 : Int32) < 0 ∨ cl154.slots.size ≤ ((0 : Int32)).toNatClampNeg) := inb_of S154 ⟨by decide, by decide⟩
      obtain ⟨T154, h154, X154, e154, W154, st154⟩ := stB X151 hx hZ rfl Ar154 (j := (0 : Int32)) hin154 (g := (mkF m 60 #[.val (.int p1), .val (.int p2), .val (.int p3), .val (.int p4), .val (.int p5), .val (.int (1 : Int32)), .val (.int (3 : Int32)), .val (.ref b143), .unset] [(.int (p4.toInt8.toInt32)), (.int (0 : Int32)), (.ref b143)])) rfl rfl (hb hby at_60)
      have V154 := Arv.set Ar154 q154 S154 M154 H154 G154 (fits_nar_byte _) W154 0 rfl (Nat.le_of_ble_eq_true rfl)
      have f156 : Arv Z h154 b143 k143 .byte (13 : Int32) [(.int (nar .byte (p4.toInt8.toInt32))), (.int (nar .byte (p1.toInt8.toInt32))), (.int (nar .byte (((p1.toUInt32 >>> ((8 : Int32) &&& 31).toUInt32).toInt32).toInt8.toInt32))), (.int (nar .byte (((p1.toUInt32 >>> ((16 : Int32) &&& 31).toUInt32).toInt32).toInt8.toInt32))), (.int (nar .byte (((p1.toUInt32 >>> ((24 : Int32) &&& 31).toUInt32).toInt32).toInt8.toInt32))), (.int (nar .byte (p2.toInt8.toInt32))), (.int (nar .byte (((p2.toUInt32 >>> ((8 : Int32) &&& 31).toUInt32).toInt32).toInt8.toInt32))), (.int (nar .byte (((p2.toUInt32 >>> ((16 : Int32) &&& 31).toUInt32).toInt32).toInt8.toInt32))), (.int (nar .byte (((p2.toUInt32 >>> ((24 : Int32) &&& 31).toUInt32).toInt32).toInt8.toInt32))), (.int (nar .byte (p3.toInt8.toInt32))), (.int (nar .byte (((p3.toUInt32 >>> ((8 : Int32) &&& 31).toUInt32).toInt32).toInt8.toInt32))), (.int (nar .byte (((p3.toUInt32 >>> ((16 : Int32) &&& 31).toUInt32).toInt32).toInt8.toInt32))), (.int (nar .byte (((p3.toUInt32 >>> ((24 : Int32) &&& 31).toUInt32).toInt32).toInt8.toInt32)))] (.int (0 : Int32)) := V154
      have Zh157 : n0 ≤ h154.size := Nat.le_trans Zh153 (Nat.le_of_eq W154.size.symm)
      have N154 := Fr.snoc X154 N151 g_b143
      refine own_go st154 ?_
      show own_Fin p e below _ (T154.setTop (mkF m 61 #[.val (.int p1), .val (.int p2), .val (.int p3), .val (.int p4), .val (.int p5), .val (.int (1 : Int32)), .val (.int (3 : Int32)), .val (.ref b143), .unset] []))
      refine own_go (fun t k => XS.goto X154.here hx rfl (pc0 := 61) (pc' := 71) rfl (hb hby at_61) (by decide) (by decide) (XS.aload X154.here hx rfl (hb hby at_71) rfl rfl  (XS.iload X154.here hx rfl (hb hby at_73) rfl  (XS.iconst X154.here hx rfl (hb hby at_75) k)))) ?_
      show own_Fin p e below _ (T154.setTop (mkF m 76 #[.val (.int p1), .val (.int p2), .val (.int p3), .val (.int p4), .val (.int p5), .val (.int (1 : Int32)), .val (.int (3 : Int32)), .val (.ref b143), .unset] [(.int (4 : Int32)), (.int (1 : Int32)), (.ref b143)]))
      refine own_go (fun t k => XS.iload X154.here hx rfl (hb hby at_76) rfl  (XS.imul X154.here hx rfl (hb hby at_78) rfl k)) ?_
      show own_Fin p e below _ (T154.setTop (mkF m 79 #[.val (.int p1), .val (.int p2), .val (.int p3), .val (.int p4), .val (.int p5), .val (.int (1 : Int32)), .val (.int (3 : Int32)), .val (.ref b143), .unset] [(.int (12 : Int32)), (.int (1 : Int32)), (.ref b143)]))
      obtain ⟨_, _, ⟨T158, L158, k158, n158⟩, -, X158, ⟨Lc158, hQ158, l158, y158, z158⟩, st158⟩ := Jvm.LawKit.callS X154 hx (y := (⟨"com/example/palimpsest/palimpsest/chain/CurveScalars", "decode", "([BII)[I"⟩ : MethodName)) hown (mvT hZ hw_5) (mvT hZ hw_6) (mvT hZ hw_7) (mvT hZ hw_8) (by decide) (backOf (W := 0) (rm2o1c3 l Z a0 hw [] (b143) k143 ((nar .byte (p4.toInt8.toInt32))) ((nar .byte (p1.toInt8.toInt32))) ((nar .byte (((p1.toUInt32 >>> ((8 : Int32) &&& 31).toUInt32).toInt32).toInt8.toInt32))) ((nar .byte (((p1.toUInt32 >>> ((16 : Int32) &&& 31).toUInt32).toInt32).toInt8.toInt32))) ((nar .byte (((p1.toUInt32 >>> ((24 : Int32) &&& 31).toUInt32).toInt32).toInt8.toInt32))) ((nar .byte (p2.toInt8.toInt32))) ((nar .byte (((p2.toUInt32 >>> ((8 : Int32) &&& 31).toUInt32).toInt32).toInt8.toInt32))) ((nar .byte (((p2.toUInt32 >>> ((16 : Int32) &&& 31).toUInt32).toInt32).toInt8.toInt32))) ((nar .byte (((p2.toUInt32 >>> ((24 : Int32) &&& 31).toUInt32).toInt32).toInt8.toInt32))) ((nar .byte (p3.toInt8.toInt32))) ((nar .byte (((p3.toUInt32 >>> ((8 : Int32) &&& 31).toUInt32).toInt32).toInt8.toInt32))) ((nar .byte (((p3.toUInt32 >>> ((16 : Int32) &&& 31).toUInt32).toInt32).toInt8.toInt32))) ((nar .byte (((p3.toUInt32 >>> ((24 : Int32) &&& 31).toUInt32).toInt32).toInt8.toInt32))) h154 n0 Zh157 f156) hZ hw_8 hw_7 (by decide) (by decide)) (g := (mkF m 79 #[.val (.int p1), .val (.int p2), .val (.int p3), .val (.int p4), .val (.int p5), .val (.int (1 : Int32)), .val (.int (3 : Int32)), .val (.ref b143), .unset] [(.int (12 : Int32)), (.int (1 : Int32)), (.ref b143)])) rfl (by rw [hml]; rfl) (argsL := [(.ref b143), (.int (1 : Int32)), (.int (12 : Int32))]) (rest := []) (lenOf pd_1 rfl) rfl (by show 2 * 0 + _ ≤ _; exact Nat.le_of_eq rfl) (hb hby at_79) (fun _ _ => ⟨rfl, e154, (by decide : 1 + 1 ≤ _), (by decide : 13 + 3 ≤ _)⟩)
      dsimp only [Pt.U, Pt.locs, Pt.cells, Pt.slots] at X158 l158 y158 z158 st158 hQ158
      subst l158 y158 z158
      obtain ⟨b158, k158, rfl, N158q, sz158, K158, V158⟩ := hQ158
      have N158 := Fr.app N154 N158q
      have g_b158 : n0 ≤ b158 := Nat.le_trans Zh157 sz158
      have ne_b143_b158 : b143 ≠ b158 := Nat.ne_of_lt (Nat.lt_of_lt_of_le f156.lt sz158)
      have E158 : Ext _ _ := ⟨K158.1, fun a c q => K158.2.1 a c q nin0⟩
      have f159 := f156.ext E158
      have Zh160 : n0 ≤ T158.heap.size := Nat.le_trans Zh157 K158.1
      refine own_go st158 ?_
      show own_Fin p e below _ (T158.setTop (mkF m 82 #[.val (.int p1), .val (.int p2), .val (.int p3), .val (.int p4), .val (.int p5), .val (.int (1 : Int32)), .val (.int (3 : Int32)), .val (.ref b143), .unset] [(.ref b158)]))
      refine own_go (fun t k => XS.astore X158.here hx rfl (hb hby at_82) rfl rfl (l' := #[.val (.int p1), .val (.int p2), .val (.int p3), .val (.int p4), .val (.int p5), .val (.int (1 : Int32)), .val (.int (3 : Int32)), .val (.ref b143), .val (.ref b158)]) rfl (XS.aload X158.here hx rfl (hb hby at_84) rfl rfl  k)) ?_
      show own_Fin p e below _ (T158.setTop (mkF m 86 #[.val (.int p1), .val (.int p2), .val (.int p3), .val (.int p4), .val (.int p5), .val (.int (1 : Int32)), .val (.int (3 : Int32)), .val (.ref b143), .val (.ref b158)] [(.ref b158)]))
      obtain ⟨cl161, Ar161, q161, S161, M161, H161, G161⟩ := (id V158)
      refine own_go (fun t k => X158.arraylength hx Ar161.1 (State.isArrayOf_alike hZ.alike Ar161.2.1) (g := (mkF m 86 #[.val (.int p1), .val (.int p2), .val (.int p3), .val (.int p4), .val (.int p5), .val (.int (1 : Int32)), .val (.int (3 : Int32)), .val (.ref b143), .val (.ref b158)] [(.ref b158)])) rfl rfl (hb hby at_86) _ k) ?_
      rw [len_of S161 M161]
      show own_Fin p e below _ (T158.setTop (mkF m 87 #[.val (.int p1), .val (.int p2), .val (.int p3), .val (.int p4), .val (.int p5), .val (.int (1 : Int32)), .val (.int (3 : Int32)), .val (.ref b143), .val (.ref b158)] [(.int (3 : Int32))]))
      refine own_go (fun t k => XS.iload X158.here hx rfl (hb hby at_87) rfl  k) ?_
      show own_Fin p e below _ (T158.setTop (mkF m 89 #[.val (.int p1), .val (.int p2), .val (.int p3), .val (.int p4), .val (.int p5), .val (.int (1 : Int32)), .val (.int (3 : Int32)), .val (.ref b143), .val (.ref b158)] [(.int (3 : Int32)), (.int (3 : Int32))]))
      refine own_go (fun t k => XS.icmpYes X158.here hx rfl (pc0 := 89) (pc' := 94) rfl (hb hby at_89) rfl (teq (by decide : (3 : Int32) = (3 : Int32))).1 (by decide) (by decide) (XS.iload X158.here hx rfl (hb hby at_94) rfl  (XS.iconst X158.here hx rfl (hb hby at_96) k))) ?_
      show own_Fin p e below _ (T158.setTop (mkF m 97 #[.val (.int p1), .val (.int p2), .val (.int p3), .val (.int p4), .val (.int p5), .val (.int (1 : Int32)), .val (.int (3 : Int32)), .val (.ref b143), .val (.ref b158)] [(.int (1 : Int32)), (.int (3 : Int32))]))
      refine own_go (fun t k => XS.icmpNo X158.here hx rfl (hb hby at_97) rfl (flt (by decide : ¬ ((3 : Int32) < (1 : Int32)))).1 (XS.aload X158.here hx rfl (hb hby at_100) rfl rfl  (XS.iconst X158.here hx rfl (hb hby at_102) k))) ?_
      show own_Fin p e below _ (T158.setTop (mkF m 103 #[.val (.int p1), .val (.int p2), .val (.int p3), .val (.int p4), .val (.int p5), .val (.int (1 : Int32)), .val (.int (3 : Int32)), .val (.ref b143), .val (.ref b158)] [(.int (0 : Int32)), (.ref b158)]))
      obtain ⟨cl162, Ar162, q162, S162, M162, H162, G162⟩ := (id V158)
      have hin162 : ¬ ((0 : Int32) < 0 ∨ cl162.slots.size ≤ ((0 : Int32)).toNatClampNeg) := inb_of S162 ⟨by decide, by decide⟩
      have hat162 : cl162.slots[((0 : Int32)).toNatClampNeg]? = some (.int (own_w ((nar .byte (p1.toInt8.toInt32))) ((nar .byte (((p1.toUInt32 >>> ((8 : Int32) &&& 31).toUInt32).toInt32).toInt8.toInt32))) ((nar .byte (((p1.toUInt32 >>> ((16 : Int32) &&& 31).toUInt32).toInt32).toInt8.toInt32))) ((nar .byte (((p1.toUInt32 >>> ((24 : Int32) &&& 31).toUInt32).toInt32).toInt8.toInt32))))) := H162.at hin162 rfl
      refine own_go (fun t k => X158.iaload hx (j := (0 : Int32)) (v := (.int (own_w ((nar .byte (p1.toInt8.toInt32))) ((nar .byte (((p1.toUInt32 >>> ((8 : Int32) &&& 31).toUInt32).toInt32).toInt8.toInt32))) ((nar .byte (((p1.toUInt32 >>> ((16 : Int32) &&& 31).toUInt32).toInt32).toInt8.toInt32))) ((nar .byte (((p1.toUInt32 >>> ((24 : Int32) &&& 31).toUInt32).toInt32).toInt8.toInt32)))))) Ar162.1 (State.isArrayOf_alike hZ.alike Ar162.2.1) Ar162.2.2 hin162 hat162 (g := (mkF m 103 #[.val (.int p1), .val (.int p2), .val (.int p3), .val (.int p4), .val (.int p5), .val (.int (1 : Int32)), .val (.int (3 : Int32)), .val (.ref b143), .val (.ref b158)] [(.int (0 : Int32)), (.ref b158)])) rfl rfl (hb hby at_103) _ (XS.iloadN X158.here hx rfl (hb hby at_104) rfl  k)) ?_
      show own_Fin p e below _ (T158.setTop (mkF m 105 #[.val (.int p1), .val (.int p2), .val (.int p3), .val (.int p4), .val (.int p5), .val (.int (1 : Int32)), .val (.int (3 : Int32)), .val (.ref b143), .val (.ref b158)] [(.int p1), (.int (own_w ((nar .byte (p1.toInt8.toInt32))) ((nar .byte (((p1.toUInt32 >>> ((8 : Int32) &&& 31).toUInt32).toInt32).toInt8.toInt32))) ((nar .byte (((p1.toUInt32 >>> ((16 : Int32) &&& 31).toUInt32).toInt32).toInt8.toInt32))) ((nar .byte (((p1.toUInt32 >>> ((24 : Int32) &&& 31).toUInt32).toInt32).toInt8.toInt32)))))]))
      refine own_go (fun t k => XS.icmpYes X158.here hx rfl (pc0 := 105) (pc' := 110) rfl (hb hby at_105) rfl (teq (own_dec _)).1 (by decide) (by decide) (XS.iload X158.here hx rfl (hb hby at_110) rfl  (XS.iconst X158.here hx rfl (hb hby at_112) k))) ?_
      show own_Fin p e below _ (T158.setTop (mkF m 113 #[.val (.int p1), .val (.int p2), .val (.int p3), .val (.int p4), .val (.int p5), .val (.int (1 : Int32)), .val (.int (3 : Int32)), .val (.ref b143), .val (.ref b158)] [(.int (2 : Int32)), (.int (3 : Int32))]))
      refine own_go (fun t k => XS.icmpNo X158.here hx rfl (hb hby at_113) rfl (flt (by decide : ¬ ((3 : Int32) < (2 : Int32)))).1 (XS.aload X158.here hx rfl (hb hby at_116) rfl rfl  (XS.iconst X158.here hx rfl (hb hby at_118) k))) ?_
      show own_Fin p e below _ (T158.setTop (mkF m 119 #[.val (.int p1), .val (.int p2), .val (.int p3), .val (.int p4), .val (.int p5), .val (.int (1 : Int32)), .val (.int (3 : Int32)), .val (.ref b143), .val (.ref b158)] [(.int (1 : Int32)), (.ref b158)]))
      obtain ⟨cl163, Ar163, q163, S163, M163, H163, G163⟩ := (id V158)
      have hin163 : ¬ ((1 : Int32) < 0 ∨ cl163.slots.size ≤ ((1 : Int32)).toNatClampNeg) := inb_of S163 ⟨by decide, by decide⟩
      have hat163 : cl163.slots[((1 : Int32)).toNatClampNeg]? = some (.int (own_w ((nar .byte (p2.toInt8.toInt32))) ((nar .byte (((p2.toUInt32 >>> ((8 : Int32) &&& 31).toUInt32).toInt32).toInt8.toInt32))) ((nar .byte (((p2.toUInt32 >>> ((16 : Int32) &&& 31).toUInt32).toInt32).toInt8.toInt32))) ((nar .byte (((p2.toUInt32 >>> ((24 : Int32) &&& 31).toUInt32).toInt32).toInt8.toInt32))))) := H163.at hin163 rfl
      refine own_go (fun t k => X158.iaload hx (j := (1 : Int32)) (v := (.int (own_w ((nar .byte (p2.toInt8.toInt32))) ((nar .byte (((p2.toUInt32 >>> ((8 : Int32) &&& 31).toUInt32).toInt32).toInt8.toInt32))) ((nar .byte (((p2.toUInt32 >>> ((16 : Int32) &&& 31).toUInt32).toInt32).toInt8.toInt32))) ((nar .byte (((p2.toUInt32 >>> ((24 : Int32) &&& 31).toUInt32).toInt32).toInt8.toInt32)))))) Ar163.1 (State.isArrayOf_alike hZ.alike Ar163.2.1) Ar163.2.2 hin163 hat163 (g := (mkF m 119 #[.val (.int p1), .val (.int p2), .val (.int p3), .val (.int p4), .val (.int p5), .val (.int (1 : Int32)), .val (.int (3 : Int32)), .val (.ref b143), .val (.ref b158)] [(.int (1 : Int32)), (.ref b158)])) rfl rfl (hb hby at_119) _ (XS.iloadN X158.here hx rfl (hb hby at_120) rfl  k)) ?_
      show own_Fin p e below _ (T158.setTop (mkF m 121 #[.val (.int p1), .val (.int p2), .val (.int p3), .val (.int p4), .val (.int p5), .val (.int (1 : Int32)), .val (.int (3 : Int32)), .val (.ref b143), .val (.ref b158)] [(.int p2), (.int (own_w ((nar .byte (p2.toInt8.toInt32))) ((nar .byte (((p2.toUInt32 >>> ((8 : Int32) &&& 31).toUInt32).toInt32).toInt8.toInt32))) ((nar .byte (((p2.toUInt32 >>> ((16 : Int32) &&& 31).toUInt32).toInt32).toInt8.toInt32))) ((nar .byte (((p2.toUInt32 >>> ((24 : Int32) &&& 31).toUInt32).toInt32).toInt8.toInt32)))))]))
      refine own_go (fun t k => XS.icmpYes X158.here hx rfl (pc0 := 121) (pc' := 126) rfl (hb hby at_121) rfl (teq (own_dec _)).1 (by decide) (by decide) (XS.iload X158.here hx rfl (hb hby at_126) rfl  (XS.iconst X158.here hx rfl (hb hby at_128) k))) ?_
      show own_Fin p e below _ (T158.setTop (mkF m 129 #[.val (.int p1), .val (.int p2), .val (.int p3), .val (.int p4), .val (.int p5), .val (.int (1 : Int32)), .val (.int (3 : Int32)), .val (.ref b143), .val (.ref b158)] [(.int (3 : Int32)), (.int (3 : Int32))]))
      refine own_go (fun t k => XS.icmpNo X158.here hx rfl (hb hby at_129) rfl (flt (by decide : ¬ ((3 : Int32) < (3 : Int32)))).1 (XS.aload X158.here hx rfl (hb hby at_132) rfl rfl  (XS.iconst X158.here hx rfl (hb hby at_134) k))) ?_
      show own_Fin p e below _ (T158.setTop (mkF m 135 #[.val (.int p1), .val (.int p2), .val (.int p3), .val (.int p4), .val (.int p5), .val (.int (1 : Int32)), .val (.int (3 : Int32)), .val (.ref b143), .val (.ref b158)] [(.int (2 : Int32)), (.ref b158)]))
      obtain ⟨cl164, Ar164, q164, S164, M164, H164, G164⟩ := (id V158)
      have hin164 : ¬ ((2 : Int32) < 0 ∨ cl164.slots.size ≤ ((2 : Int32)).toNatClampNeg) := inb_of S164 ⟨by decide, by decide⟩
      have hat164 : cl164.slots[((2 : Int32)).toNatClampNeg]? = some (.int (own_w ((nar .byte (p3.toInt8.toInt32))) ((nar .byte (((p3.toUInt32 >>> ((8 : Int32) &&& 31).toUInt32).toInt32).toInt8.toInt32))) ((nar .byte (((p3.toUInt32 >>> ((16 : Int32) &&& 31).toUInt32).toInt32).toInt8.toInt32))) ((nar .byte (((p3.toUInt32 >>> ((24 : Int32) &&& 31).toUInt32).toInt32).toInt8.toInt32))))) := H164.at hin164 rfl
      refine own_go (fun t k => X158.iaload hx (j := (2 : Int32)) (v := (.int (own_w ((nar .byte (p3.toInt8.toInt32))) ((nar .byte (((p3.toUInt32 >>> ((8 : Int32) &&& 31).toUInt32).toInt32).toInt8.toInt32))) ((nar .byte (((p3.toUInt32 >>> ((16 : Int32) &&& 31).toUInt32).toInt32).toInt8.toInt32))) ((nar .byte (((p3.toUInt32 >>> ((24 : Int32) &&& 31).toUInt32).toInt32).toInt8.toInt32)))))) Ar164.1 (State.isArrayOf_alike hZ.alike Ar164.2.1) Ar164.2.2 hin164 hat164 (g := (mkF m 135 #[.val (.int p1), .val (.int p2), .val (.int p3), .val (.int p4), .val (.int p5), .val (.int (1 : Int32)), .val (.int (3 : Int32)), .val (.ref b143), .val (.ref b158)] [(.int (2 : Int32)), (.ref b158)])) rfl rfl (hb hby at_135) _ (XS.iloadN X158.here hx rfl (hb hby at_136) rfl  k)) ?_
      show own_Fin p e below _ (T158.setTop (mkF m 137 #[.val (.int p1), .val (.int p2), .val (.int p3), .val (.int p4), .val (.int p5), .val (.int (1 : Int32)), .val (.int (3 : Int32)), .val (.ref b143), .val (.ref b158)] [(.int p3), (.int (own_w ((nar .byte (p3.toInt8.toInt32))) ((nar .byte (((p3.toUInt32 >>> ((8 : Int32) &&& 31).toUInt32).toInt32).toInt8.toInt32))) ((nar .byte (((p3.toUInt32 >>> ((16 : Int32) &&& 31).toUInt32).toInt32).toInt8.toInt32))) ((nar .byte (((p3.toUInt32 >>> ((24 : Int32) &&& 31).toUInt32).toInt32).toInt8.toInt32)))))]))
      refine own_go (fun t k => XS.icmpYes X158.here hx rfl (pc0 := 137) (pc' := 142) rfl (hb hby at_137) rfl (teq (own_dec _)).1 (by decide) (by decide) (XS.iconst X158.here hx rfl (hb hby at_142) k)) ?_
      show own_Fin p e below _ (T158.setTop (mkF m 143 #[.val (.int p1), .val (.int p2), .val (.int p3), .val (.int p4), .val (.int p5), .val (.int (1 : Int32)), .val (.int (3 : Int32)), .val (.ref b143), .val (.ref b158)] [(.int (1 : Int32))]))
      exact own_out X158 (fun h => by rw [Bd.returns] at h; cases h) Bd.notSynchronized (fun fs hr => retN X158 hx (t := .boolean) Bd.returns (by simp) (hb hby at_143) hr) ⟨rfl, N158⟩ (by decide) (by decide)
set_option maxRecDepth 65536 in
set_option maxHeartbeats 40000000 in
theorem comes_1 {Post : Tables → Env → Array Value → State → Outcome → State → Prop} (hpost : ∀ tb e args s v u, (limb_1_1.after args s (.returned v) u = true ∧ limb_1_2.after args s (.returned v) u = true ∧ True) → FrameEnd s (.returned v) u (Jvm.fieldLocs frame_1_writes args s ++ Jvm.arrayLocs frame_1_arrays args s ++ Jvm.staticLocs frame_1_statics s) 16 128 → Post tb e args s (.returned v) u) :
    ArmFor flags0 classFile x code maxLocals ret World_1 tables_1 room_1 Calls_1 rest_1 Pre_1 Post := by
  intro l hfl _ _ p e ha hc hk s m args below hf hA hF happ hP
  obtain ⟨hcalls, hrest, hpre⟩ := hP
  obtain ⟨-, -, -, hnamed, -, -, -, hat⟩ := (Spec.applies_iff hf).mp happ
  obtain ⟨hg, hn⟩ := and_e (Cond.before_iff.mp (show (Jvm.Cond.and given_1 narrow_1).before args s = true from hpre))
  obtain ⟨g0, r0⟩ := and_e hg
  obtain ⟨g1, r1⟩ := and_e r0
  obtain ⟨g2, r2⟩ := and_e r1
  obtain ⟨g3, r3⟩ := and_e r2
  obtain ⟨g4, r4⟩ := and_e r3
  obtain ⟨w0, w1, w2, w3, w4, rfl⟩ : ∃ w0 w1 w2 w3 w4 : Value, args = #[w0, w1, w2, w3, w4] := by
    have hs : args.size = 5 := by simpa [Cond.value, given_1] using g0
    obtain ⟨L⟩ := args
    match L, hs with
    | [w0, w1, w2, w3, w4], _ => exact ⟨w0, w1, w2, w3, w4, rfl⟩
  have hw := fun d (hd : d ∈ tables_1) => atoms_spec (ws := Jvm.Cond.code x code maxLocals ret :: tables_1) hat d (List.mem_cons_of_mem _ hd)
  have hfit : Fit s := fun {y c} hc i hi => by
    obtain ⟨ha, rfl⟩ := Array.getElem?_eq_some_iff.mp hc
    have q := List.all_eq_true.mp ((Array.all_eq_true_iff_forall_mem.mp hF) _ (Array.getElem_mem ha)) i (List.mem_range.mpr hi)
    simpa [Array.getElem?_eq_getElem hi] using q
  obtain ⟨i0, ei0⟩ := is_v g1
  obtain rfl : w0 = (.int i0) := Option.some.inj ei0
  obtain ⟨i1, ei1⟩ := is_v g2
  obtain rfl : w1 = (.int i1) := Option.some.inj ei1
  obtain ⟨i2, ei2⟩ := is_v g3
  obtain rfl : w2 = (.int i2) := Option.some.inj ei2
  obtain ⟨i3, ei3⟩ := is_v g4
  obtain rfl : w3 = (.int i3) := Option.some.inj ei3
  obtain ⟨i4, ei4⟩ := is_v r4
  obtain rfl : w4 = (.int i4) := Option.some.inj ei4
  obtain ⟨n, o, h1, h2, h3, _, L, rfl, ⟨rfl, N⟩, hq⟩ := rm0 l s _ hw tables_1 i0 i1 i2 i3 i4  s.heap s.heap.size (Nat.le_refl _)  p e ha hc hk s m _ below hf ((Spec.applies_iff_loose hf).mp happ).1 ⟨rfl, State.Warmed39.refl s, rfl⟩ trivial
  refine ⟨n, _, h1, h2, h3, hpost _ _ _ _ _ _ ⟨Cond.after_iff.mpr rfl, Cond.after_iff.mpr (eq_i res_at (Term.int_eval (1)) rfl), trivial⟩ ⟨hq.1, hq.2.1, (hq.2.2.sift fun y hy => Or.inr (N y hy)).mono (by decide) (by decide)⟩⟩
theorem main_1_1 : Claimed_1_1 := comes_1 fun _ _ _ _ _ _ h hF => ⟨h.1, hF⟩
theorem main_1_2 : Claimed_1_2 := comes_1 fun _ _ _ _ _ _ h hF => ⟨h.2.1, hF⟩
end Jvm.Pilot.@@N@@
namespace Jvm.Pilot.@@N@@
open Jvm Jvm.ClassFile Sem Op Lib Jvm.Free Jvm.Stand Jvm.Pilot.@@N@@.Jvm.D
/-! MADE BY PROGRAM (witnessworld.py) out of the Statement's table words and the real class files: 9 classes; the members and pool entries that the words name. The judged class is class 1, her method 2. -/
namespace start1
open Jvm.ClassFile
def u (s : String) : CpInfo := .utf8 (stringToUtf16 s)
/-- a pool by its gaps: so many unusable entries, then the entry; so many at the end -/
def gap : Nat → List CpInfo → List CpInfo
  | 0, r => r
  | n + 1, r => .unusable :: gap n r
def poolList (es : List (Nat × CpInfo)) (last : Nat) : List CpInfo := es.foldr (fun e r => gap e.1 (e.2 :: r)) (gap last [])
def pool (es : List (Nat × CpInfo)) (last : Nat) : Array CpInfo := ⟨poolList es last⟩
def fileOf (pool : Array CpInfo) (this : Nat) (attrs : Array Attribute := #[]) (ms : Array MethodInfo := #[]) (fl : Nat := 33) (sup : Nat := 0) (ifs : Array Nat := #[]) (fds : Array FieldInfo := #[]) : ClassFile where
  minorVersion := 0
  majorVersion := 65
  constantPool := pool
  accessFlags := fl
  thisClass := this
  superClass := sup
  interfaces := ifs
  fields := fds
  methods := ms
  attributes := attrs
def plain (name : String) (sup : Option ClassId) : Class where
  name := name
  kind := .ordinary
  loader := none
  accessFlags := 33
  super := sup
  interfaces := #[]
  cf := none
  fields := #[]
  methods := #[]
  instanceTypes := #[]
  staticTypes := #[]
  resolved := #[]
  callSites := []
  init := .initialized
  statics := none
  mirror := none

def pool0 : Array CpInfo := pool [(5, u "<init>"), (0, u "()V"), (1, .class_ 10), (1, u "java/lang/Object")] 113

def k0m0 : Method := { name := "<init>", desc := "()V", sig := { parameters := [], returnType := none }, accessFlags := 1, code := none }
/-- java/lang/Object -/
def k0 : Class := { plain "java/lang/Object" none with
  accessFlags := 33
  interfaces := #[]
  cf := some (fileOf pool0 8 #[] #[{ accessFlags := 1, nameIndex := 5, descriptorIndex := 6, attributes := #[] }] 33 0 #[] #[])
  fields := #[]
  methods := #[k0m0]
  instanceTypes := #[]
  staticTypes := #[]
  resolved := Array.replicate 124 none
  statics := none }

def pool1 : Array CpInfo := pool [(2, .class_ 4), (1, u "java/lang/Object"), (0, u "<init>"), (0, u "()V"), (0, .methodref 8 9), (0, .class_ 10), (0, .nameAndType 11 12), (0, u "com/example/palimpsest/palimpsest/chain/CurveScalarsDecodePinLaw"), (0, u "put"), (0, u "([BII)V"), (0, .methodref 14 15), (0, .class_ 16), (0, .nameAndType 17 18), (0, u "com/example/palimpsest/palimpsest/chain/CurveScalars"), (0, u "decode"), (0, u "([BII)[I"), (2, u "law"), (0, u "(IIIII)Z")] 7

def k1m0 : Method := { name := "<init>", desc := "()V", sig := { parameters := [], returnType := none }, accessFlags := 2, code := none }
def k1c1 : Code := { maxStack := 4, maxLocals := 3, code := method_2_code, exceptionTable := #[], attributes := #[] }
def k1m1 : Method := { name := "put", desc := "([BII)V", sig := { parameters := [(.array .byte), .int, .int], returnType := none }, accessFlags := 10, code := some k1c1 }
def k1c2 : Code := { maxStack := 4, maxLocals := 9, code := code, exceptionTable := #[], attributes := #[] }
def k1m2 : Method := { name := "law", desc := "(IIIII)Z", sig := { parameters := [.int, .int, .int, .int, .int], returnType := some .boolean }, accessFlags := 9, code := some k1c2 }
/-- com/example/palimpsest/palimpsest/chain/CurveScalarsDecodePinLaw -/
def k1 : Class := { plain "com/example/palimpsest/palimpsest/chain/CurveScalarsDecodePinLaw" (some 0) with
  accessFlags := 49
  interfaces := #[]
  cf := some (fileOf pool1 8 #[] #[{ accessFlags := 2, nameIndex := 5, descriptorIndex := 6, attributes := #[] }, { accessFlags := 10, nameIndex := 11, descriptorIndex := 12, attributes := #[] }, { accessFlags := 9, nameIndex := 21, descriptorIndex := 22, attributes := #[] }] 49 2 #[] #[])
  fields := #[]
  methods := #[k1m0, k1m1, k1m2]
  instanceTypes := #[]
  staticTypes := #[]
  resolved := Array.replicate 30 none
  statics := none }

def pool2 : Array CpInfo := pool [(2, .class_ 4), (1, u "java/lang/Object"), (0, u "<init>"), (0, u "()V"), (0, .class_ 8), (0, u "com/example/palimpsest/palimpsest/chain/CurveScalars"), (2, u "decode"), (0, u "([BII)[I"), (2, u "L"), (0, u "[I"), (12, u "RECIPROCAL"), (16, u "EIGHT_L"), (13, .class_ 61), (0, u "com/example/palimpsest/palimpsest/chain/CurveScalars$Multiple"), (66, u "Ljava/math/BigInteger;"), (14, u "ORDER"), (6, u "WORDS"), (0, u "I"), (2, u "DIGITS"), (1, u "MASK"), (0, u "J")] 19

def k2m0 : Method := { name := "<init>", desc := "()V", sig := { parameters := [], returnType := none }, accessFlags := 2, code := none }
def k2c1 : Code := { maxStack := 6, maxLocals := 6, code := prog_6_method_2_code, exceptionTable := #[], attributes := #[] }
def k2m1 : Method := { name := "decode", desc := "([BII)[I", sig := { parameters := [(.array .byte), .int, .int], returnType := some (.array .int) }, accessFlags := 8, code := some k2c1 }
/-- com/example/palimpsest/palimpsest/chain/CurveScalars -/
def k2 : Class := { plain "com/example/palimpsest/palimpsest/chain/CurveScalars" (some 0) with
  accessFlags := 48
  interfaces := #[]
  cf := some (fileOf pool2 7 #[.nestMembers #[60]] #[{ accessFlags := 2, nameIndex := 5, descriptorIndex := 6, attributes := #[] }, { accessFlags := 8, nameIndex := 11, descriptorIndex := 12, attributes := #[] }] 48 2 #[] #[{ accessFlags := 24, nameIndex := 150, descriptorIndex := 151, attributes := #[] }, { accessFlags := 24, nameIndex := 154, descriptorIndex := 151, attributes := #[] }, { accessFlags := 26, nameIndex := 156, descriptorIndex := 157, attributes := #[] }, { accessFlags := 26, nameIndex := 143, descriptorIndex := 128, attributes := #[] }, { accessFlags := 26, nameIndex := 15, descriptorIndex := 16, attributes := #[] }, { accessFlags := 26, nameIndex := 46, descriptorIndex := 16, attributes := #[] }, { accessFlags := 26, nameIndex := 29, descriptorIndex := 16, attributes := #[] }])
  fields := #[{ name := "WORDS", type := .int, accessFlags := 24, slot := 0, constantValue := 0 }, { name := "DIGITS", type := .int, accessFlags := 24, slot := 1, constantValue := 0 }, { name := "MASK", type := .long, accessFlags := 26, slot := 2, constantValue := 0 }, { name := "ORDER", type := (.object "java/math/BigInteger"), accessFlags := 26, slot := 3, constantValue := 0 }, { name := "L", type := (.array .int), accessFlags := 26, slot := 4, constantValue := 0 }, { name := "EIGHT_L", type := (.array .int), accessFlags := 26, slot := 5, constantValue := 0 }, { name := "RECIPROCAL", type := (.array .int), accessFlags := 26, slot := 6, constantValue := 0 }]
  methods := #[k2m0, k2m1]
  instanceTypes := #[]
  staticTypes := #[.int, .int, .long, (.object "java/math/BigInteger"), (.array .int), (.array .int), (.array .int)]
  resolved := Array.replicate 177 none
  statics := none }

def pool3 : Array CpInfo := pool [(1, u "java/lang/Cloneable"), (0, .class_ 1), (0, u "java/lang/Object"), (0, .class_ 3)] 3

/-- java/lang/Cloneable -/
def k3 : Class := { plain "java/lang/Cloneable" (some 0) with
  accessFlags := 1537
  interfaces := #[]
  cf := some (fileOf pool3 2 #[] #[] 1537 4 #[] #[])
  fields := #[]
  methods := #[]
  instanceTypes := #[]
  staticTypes := #[]
  resolved := Array.replicate 8 none
  statics := none }

def pool4 : Array CpInfo := pool [(1, u "java/io/Serializable"), (0, .class_ 1), (0, u "java/lang/Object"), (0, .class_ 3)] 3

/-- java/io/Serializable -/
def k4 : Class := { plain "java/io/Serializable" (some 0) with
  accessFlags := 1537
  interfaces := #[]
  cf := some (fileOf pool4 2 #[] #[] 1537 4 #[] #[])
  fields := #[]
  methods := #[]
  instanceTypes := #[]
  staticTypes := #[]
  resolved := Array.replicate 8 none
  statics := none }

/-- the primitive byte -/
def k5 : Class := { plain "byte" none with kind := .primitive 'B', accessFlags := 0x411 }
/-- [B -/
def k6 : Class := { plain "[B" (some 0) with kind := .array 5 .byte, interfaces := #[3, 4], accessFlags := 1041 }

/-- the primitive int -/
def k7 : Class := { plain "int" none with kind := .primitive 'I', accessFlags := 0x411 }
/-- [I -/
def k8 : Class := { plain "[I" (some 0) with kind := .array 7 .int, interfaces := #[3, 4], accessFlags := 1041 }

def heap : Heap := #[]
def classes : Array Class := #[k0, k1, k2, k3, k4, k5, k6, k7, k8]
def interned : List (Array UInt16 × Addr) := []
def slotsUsed : Nat := 0
def theMethod : MethodId := ⟨1, 2⟩
def args0 : Array Value := #[.int 5, .int 6, .int 7, .int 8, .int 9]
def aboutOver (below : List Frame) : State where
  vm := { classes := classes, interned := interned.toArray }
  heap := heap
  slotsUsed := slotsUsed
  threads := #[{ frames := .invoking theMethod args0 :: below }]
def below0 : List Frame := [.native { method := ⟨0, 0⟩, args := #[] }]
def about1 : State := aboutOver below0
def p0 : Program := .bare "" "" ""
def e0 : Env := launch0.env 0 0 0
theorem w_frames : about1.frames = Frame.invoking theMethod args0 :: below0 := rfl
set_option maxRecDepth 65536 in
theorem w_args : argsFit about1.vm theMethod args0 = true := by decide +kernel
set_option maxRecDepth 65536 in
theorem w_heap : heapFits about1 = true := by decide +kernel
set_option maxRecDepth 65536 in
theorem w_runnable : about1.curStatus? = some .runnable := by decide +kernel
set_option maxRecDepth 65536 in
theorem w_alone : about1.alone = true := by decide +kernel
set_option maxRecDepth 65536 in
theorem w_named : about1.methodNamed? x = some theMethod := by decide +kernel
set_option maxRecDepth 65536 in
theorem w_hears : about1.hears theMethod below0 = true := by decide +kernel
set_option maxRecDepth 65536 in
theorem w_ripe : about1.ripe theMethod args0 below0 = true := by decide +kernel
theorem w_running : about1.status = .running := rfl
set_option maxRecDepth 65536 in
theorem w_room : about1.hasRoom e0.platform room_1 = true :=
  launch0.hasRoom_least _ room_1 (by decide +kernel) (by decide +kernel) (by decide +kernel) (by decide +kernel) (by decide +kernel) (by decide +kernel)
theorem allAtoms_all (ts : List Jvm.Cond) (a : Array Jvm.Value) (st : Jvm.State) : (allAtoms ts).before a st = ts.all (fun c => c.before a st) := by
  induction ts with
  | nil => rfl
  | cons c t ih =>
    show (Jvm.Cond.and c (allAtoms t)).before a st = _
    rw [Jvm.Cond.before_and, ih, List.all_cons]
def words1 : List Jvm.Cond := Jvm.Cond.code x code maxLocals ret :: tables_1
/-- a 'code' word, met by the world's own term for the bytes: nothing is compared byte by byte -/
theorem code_word {y : MethodName} {bytes : ByteArray} {mx : Nat} {rt : Option FieldType} {a : Array Value} {s : State} {m : MethodId} {meth : Method} {c : Code} (h1 : s.methodNamed? y = some m) (h2 : s.vm.method? m = some meth) (h3 : meth.code = some c) (h4 : c.code = bytes)
    (h5 : (c.maxLocals == mx && c.exceptionTable.isEmpty && decide (c.maxStack ≤ mostOperands) && decide (meth.sig.returnType = rt) && !meth.locks && decide (parseMethodDescriptor y.desc = some meth.sig)) = true) : (Jvm.Cond.code y bytes mx rt).before a s = true := by
  simp only [Bool.and_eq_true, beq_iff_eq, Bool.not_eq_true', decide_eq_true_eq] at h5
  obtain ⟨⟨⟨⟨⟨g1, g2⟩, g3⟩, g4⟩, g5⟩, g6⟩ := h5
  simp [Cond.before, Cond.holds, Cond.value, h1, h2, h3, h4, g1, g2, g3, g4, g5, g6]
def isCode : Jvm.Cond → Bool
  | .code _ _ _ _ => true
  | _ => false
theorem all_split {L : List Jvm.Cond} {P : Jvm.Cond → Bool} (h1 : L.all (fun c => isCode c || P c) = true) (h2 : ∀ c ∈ L.filter isCode, P c = true) : L.all P = true := by
  refine List.all_eq_true.mpr fun c hc => ?_
  have h := List.all_eq_true.mp h1 c hc
  rcases Bool.eq_false_or_eq_true (isCode c) with hi | hi
  · exact h2 c (List.mem_filter.mpr ⟨hc, hi⟩)
  · simpa [hi] using h
set_option maxRecDepth 65536 in
theorem w_c0 : (Jvm.Cond.code x code maxLocals ret).before args0 about1 = true := code_word (m := ⟨1, 2⟩) (meth := k1m2) (c := k1c2) (by decide +kernel) rfl rfl rfl (by decide +kernel)
set_option maxRecDepth 65536 in
theorem w_c1 : (Jvm.Cond.code ({ cls := "com/example/palimpsest/palimpsest/chain/CurveScalarsDecodePinLaw", name := "put", desc := "([BII)V" } : Jvm.MethodName) method_2_code (3 : Nat) (Option.none : Option Jvm.ClassFile.FieldType)).before args0 about1 = true := code_word (m := ⟨1, 1⟩) (meth := k1m1) (c := k1c1) (by decide +kernel) rfl rfl rfl (by decide +kernel)
set_option maxRecDepth 65536 in
theorem w_c2 : (Jvm.Cond.code ({ cls := "com/example/palimpsest/palimpsest/chain/CurveScalars", name := "decode", desc := "([BII)[I" } : Jvm.MethodName) prog_6_method_2_code (6 : Nat) (Option.some (Jvm.ClassFile.FieldType.array Jvm.ClassFile.FieldType.int))).before args0 about1 = true := code_word (m := ⟨2, 1⟩) (meth := k2m1) (c := k2c1) (by decide +kernel) rfl rfl rfl (by decide +kernel)
def codes1 : List Jvm.Cond := [Jvm.Cond.code x code maxLocals ret, Jvm.Cond.code ({ cls := "com/example/palimpsest/palimpsest/chain/CurveScalarsDecodePinLaw", name := "put", desc := "([BII)V" } : Jvm.MethodName) method_2_code (3 : Nat) (Option.none : Option Jvm.ClassFile.FieldType), Jvm.Cond.code ({ cls := "com/example/palimpsest/palimpsest/chain/CurveScalars", name := "decode", desc := "([BII)[I" } : Jvm.MethodName) prog_6_method_2_code (6 : Nat) (Option.some (Jvm.ClassFile.FieldType.array Jvm.ClassFile.FieldType.int))]
set_option maxRecDepth 65536 in
theorem codes_eq : words1.filter isCode = codes1 := rfl
theorem w_codes : ∀ c ∈ words1.filter isCode, c.before args0 about1 = true := by
  rw [codes_eq]
  intro c hc
  simp only [codes1, List.mem_cons, List.not_mem_nil, or_false] at hc
  rcases hc with rfl | rfl | rfl
  · exact w_c0
  · exact w_c1
  · exact w_c2
set_option maxRecDepth 65536 in
theorem w_t1 : words1.all (fun c => isCode c || c.before args0 about1) = true := by decide +kernel
theorem w_tables : (allAtoms (Jvm.Cond.code x code maxLocals ret :: tables_1)).before args0 about1 = true := by
  rw [allAtoms_all]
  show words1.all (fun c => c.before args0 about1) = true
  refine all_split ?_ w_codes
  rw [w_t1]
set_option maxRecDepth 65536 in
theorem w_case : (Jvm.Cond.and given_1 narrow_1).before args0 about1 = true := by decide +kernel
theorem w_applies : (headSpec (Jvm.Cond.code x code maxLocals ret :: tables_1) room_1).applies x e0.platform about1 = true :=
  (Spec.applies_iff w_frames).mpr ⟨w_running, w_runnable, w_alone, w_named, w_hears, w_ripe, w_room, w_tables⟩
theorem atStart : AtStart classFile x code maxLocals ret World_1 tables_1 room_1 Calls_1 rest_1 Pre_1 launch0 p0 e0 about1 theMethod args0 below0 :=
  ⟨lists_1, trivial, launch0.admits_env _ _ _, launch0.least_env, fairChoices_fair.cas, fairChoices_fair.clock, w_frames, w_args, w_heap, w_applies, trivial, trivial, w_case⟩
end start1
theorem witness_1 : WitnessClaimed_1 := ⟨start1.p0, start1.e0, start1.about1, start1.theMethod, start1.args0, start1.below0, start1.atStart⟩
end Jvm.Pilot.@@N@@
