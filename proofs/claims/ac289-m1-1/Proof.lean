import JvmDerived
import JvmDerived.Pilot.@@N@@Statement
import JvmDerived.Pilot.@@N@@Code
set_option linter.unusedVariables false
set_option linter.unusedSimpArgs false
namespace Jvm.RoadKit
open Sem ClassFile Op Lib Jvm.Stand Jvm.Free Jvm.LawKit
section New
variable {p : Program} {l : Launch} {e : Env} {R : Room} {s : State} {m : MethodId} {args : Array Value} {below : List Frame} {meth : Method} {c : Code} {T : State} {locs : List Loc} {cells slots : Nat}
theorem retI (X : Stand p l e R s m args below meth c T locs cells slots) (hx : p.tables.exec = Jvm.exec) {pc : Nat} {Ls : Array Slot} {z : Int32} {rest : List Value} (hret : meth.sig.returnType = some .int) (hd : decode c.code pc = .ok (.ireturn, 1)) {fs : List Frame}
    (hl : ∀ (f : JFrame) (acts : List Action), f.method = m → f.locked = none → f.entered = [] → (doReturn e (T.setTop f) acts (some (.int z))).1 = T.setFrames fs) : Steps p.tables e below (T.setTop (mkF m pc Ls (.int z :: rest))) (T.setFrames fs) := by
  have hm' : T.vm.method? m = some meth := X.method'
  have hn : narrow .int (.int z) = .int z := rfl
  show Steps p.tables e below (T.setTop { method := m, pc := pc, locals := Ls, stack := _ :: rest, locked := none }) _
  jvm_step X.here [X.here.top, hx, hd, hm', hret, hn]
  first | (intro acts; rw [hl _ acts rfl rfl rfl]) | rw [hl _ _ rfl rfl rfl]
  exact Steps.refl _
/-- from the state S the run comes to an end at which A holds -/
def own_Fin (p : Program) (e : Env) (below : List Frame) (A : State → Outcome → Prop) (S : State) : Prop := ∃ s₂ o, Steps p.tables e below S s₂ ∧ s₂.status = .running ∧ Ended s₂ below o ∧ A s₂ o
theorem own_go {A : State → Outcome → Prop} {S S' : State} (k : ∀ t, Steps p.tables e below S' t → Steps p.tables e below S t) (h : own_Fin p e below A S') : own_Fin p e below A S := by
  obtain ⟨t, o, h1, h2⟩ := h; exact ⟨t, o, k t h1, h2⟩
/-- what a walk leaves: Q of the value, the heap and the written places -/
def own_A (s : State) (C S : Nat) (Q : Option Value → Heap → List Loc → Prop) : State → Outcome → Prop := fun U' o => ∃ v L, o = .returned v ∧ Q v U'.heap L ∧ FrameEnd s o U' L C S
/-- a body that writes nothing: its value, the heap as it was -/
def own_P (h0 : Heap) (n0 : Nat) (w : Value) (v : Option Value) (h : Heap) (L : List Loc) : Prop := v = some w ∧ Fr n0 L ∧ h = h0
theorem own_out (X : Stand p l e R s m args below meth c T locs cells slots) {v : Option Value} {Q : Option Value → Heap → List Loc → Prop} {C S : Nat} {g : JFrame}
    (hv : meth.sig.returnType = none → v = none) (hlocks : meth.locks = false)
    (st : ∀ fs, (∀ (f : JFrame) (acts : List Action), f.method = m → f.locked = none → f.entered = [] → (doReturn e (T.setTop f) acts v).1 = T.setFrames fs) → Steps p.tables e below (T.setTop g) (T.setFrames fs))
    (hQ : Q v T.heap locs) (hc : cells ≤ C) (hs : slots ≤ S) : own_Fin p e below (own_A s C S Q) (T.setTop g) := by
  obtain ⟨fs, hr, hrun, hended, hW, hsame⟩ := X.leave (v := v) hv hlocks
  exact ⟨_, _, st fs hr, hrun, hended, _, _, rfl, hQ, ⟨_, rfl⟩, hW, hsame.mono hc hs⟩
end New
end Jvm.RoadKit
namespace Jvm.Pilot.@@N@@
open Jvm Jvm.ClassFile Sem Op Lib Jvm.Free Jvm.Stand Jvm.LawKit Jvm.RoadKit Bundle Jvm.Pilot.@@N@@.Jvm.D
theorem d1_0 : decode prog_210_method_2_code 0 = .ok (.iload_n 0, 1) := by decide +kernel
theorem d1_1 : decode prog_210_method_2_code 1 = .ok (.bipush 97, 2) := by decide +kernel
theorem d1_3 : decode prog_210_method_2_code 3 = .ok (.if_icmp .lt 9, 3) := by decide +kernel
theorem d1_6 : decode prog_210_method_2_code 6 = .ok (.iload_n 0, 1) := by decide +kernel
theorem d1_7 : decode prog_210_method_2_code 7 = .ok (.bipush 122, 2) := by decide +kernel
theorem d1_9 : decode prog_210_method_2_code 9 = .ok (.if_icmp .le 182, 3) := by decide +kernel
theorem d1_12 : decode prog_210_method_2_code 12 = .ok (.iload_n 0, 1) := by decide +kernel
theorem d1_13 : decode prog_210_method_2_code 13 = .ok (.bipush 65, 2) := by decide +kernel
theorem d1_15 : decode prog_210_method_2_code 15 = .ok (.if_icmp .lt 9, 3) := by decide +kernel
theorem d1_18 : decode prog_210_method_2_code 18 = .ok (.iload_n 0, 1) := by decide +kernel
theorem d1_19 : decode prog_210_method_2_code 19 = .ok (.bipush 90, 2) := by decide +kernel
theorem d1_21 : decode prog_210_method_2_code 21 = .ok (.if_icmp .le 170, 3) := by decide +kernel
theorem d1_24 : decode prog_210_method_2_code 24 = .ok (.iload_n 0, 1) := by decide +kernel
theorem d1_25 : decode prog_210_method_2_code 25 = .ok (.bipush 95, 2) := by decide +kernel
theorem d1_27 : decode prog_210_method_2_code 27 = .ok (.if_icmp .eq 164, 3) := by decide +kernel
theorem d1_30 : decode prog_210_method_2_code 30 = .ok (.iload_n 0, 1) := by decide +kernel
theorem d1_31 : decode prog_210_method_2_code 31 = .ok (.sipush 192, 3) := by decide +kernel
theorem d1_34 : decode prog_210_method_2_code 34 = .ok (.if_icmp .lt 10, 3) := by decide +kernel
theorem d1_37 : decode prog_210_method_2_code 37 = .ok (.iload_n 0, 1) := by decide +kernel
theorem d1_38 : decode prog_210_method_2_code 38 = .ok (.sipush 214, 3) := by decide +kernel
theorem d1_41 : decode prog_210_method_2_code 41 = .ok (.if_icmp .le 150, 3) := by decide +kernel
theorem d1_44 : decode prog_210_method_2_code 44 = .ok (.iload_n 0, 1) := by decide +kernel
theorem d1_45 : decode prog_210_method_2_code 45 = .ok (.sipush 216, 3) := by decide +kernel
theorem d1_48 : decode prog_210_method_2_code 48 = .ok (.if_icmp .lt 10, 3) := by decide +kernel
theorem d1_51 : decode prog_210_method_2_code 51 = .ok (.iload_n 0, 1) := by decide +kernel
theorem d1_52 : decode prog_210_method_2_code 52 = .ok (.sipush 246, 3) := by decide +kernel
theorem d1_55 : decode prog_210_method_2_code 55 = .ok (.if_icmp .le 136, 3) := by decide +kernel
theorem d1_58 : decode prog_210_method_2_code 58 = .ok (.iload_n 0, 1) := by decide +kernel
theorem d1_59 : decode prog_210_method_2_code 59 = .ok (.sipush 248, 3) := by decide +kernel
theorem d1_62 : decode prog_210_method_2_code 62 = .ok (.if_icmp .lt 10, 3) := by decide +kernel
theorem d1_65 : decode prog_210_method_2_code 65 = .ok (.iload_n 0, 1) := by decide +kernel
theorem d1_66 : decode prog_210_method_2_code 66 = .ok (.sipush 767, 3) := by decide +kernel
theorem d1_69 : decode prog_210_method_2_code 69 = .ok (.if_icmp .le 122, 3) := by decide +kernel
theorem d1_72 : decode prog_210_method_2_code 72 = .ok (.iload_n 0, 1) := by decide +kernel
theorem d1_73 : decode prog_210_method_2_code 73 = .ok (.sipush 880, 3) := by decide +kernel
theorem d1_76 : decode prog_210_method_2_code 76 = .ok (.if_icmp .lt 10, 3) := by decide +kernel
theorem d1_79 : decode prog_210_method_2_code 79 = .ok (.iload_n 0, 1) := by decide +kernel
theorem d1_80 : decode prog_210_method_2_code 80 = .ok (.sipush 893, 3) := by decide +kernel
theorem d1_83 : decode prog_210_method_2_code 83 = .ok (.if_icmp .le 108, 3) := by decide +kernel
theorem d1_86 : decode prog_210_method_2_code 86 = .ok (.iload_n 0, 1) := by decide +kernel
theorem d1_87 : decode prog_210_method_2_code 87 = .ok (.sipush 895, 3) := by decide +kernel
theorem d1_90 : decode prog_210_method_2_code 90 = .ok (.if_icmp .lt 10, 3) := by decide +kernel
theorem d1_93 : decode prog_210_method_2_code 93 = .ok (.iload_n 0, 1) := by decide +kernel
theorem d1_94 : decode prog_210_method_2_code 94 = .ok (.sipush 8191, 3) := by decide +kernel
theorem d1_97 : decode prog_210_method_2_code 97 = .ok (.if_icmp .le 94, 3) := by decide +kernel
theorem d1_100 : decode prog_210_method_2_code 100 = .ok (.iload_n 0, 1) := by decide +kernel
theorem d1_101 : decode prog_210_method_2_code 101 = .ok (.sipush 8204, 3) := by decide +kernel
theorem d1_104 : decode prog_210_method_2_code 104 = .ok (.if_icmp .lt 10, 3) := by decide +kernel
theorem d1_107 : decode prog_210_method_2_code 107 = .ok (.iload_n 0, 1) := by decide +kernel
theorem d1_108 : decode prog_210_method_2_code 108 = .ok (.sipush 8205, 3) := by decide +kernel
theorem d1_111 : decode prog_210_method_2_code 111 = .ok (.if_icmp .le 80, 3) := by decide +kernel
theorem d1_114 : decode prog_210_method_2_code 114 = .ok (.iload_n 0, 1) := by decide +kernel
theorem d1_115 : decode prog_210_method_2_code 115 = .ok (.sipush 8304, 3) := by decide +kernel
theorem d1_118 : decode prog_210_method_2_code 118 = .ok (.if_icmp .lt 10, 3) := by decide +kernel
theorem d1_121 : decode prog_210_method_2_code 121 = .ok (.iload_n 0, 1) := by decide +kernel
theorem d1_122 : decode prog_210_method_2_code 122 = .ok (.sipush 8591, 3) := by decide +kernel
theorem d1_125 : decode prog_210_method_2_code 125 = .ok (.if_icmp .le 66, 3) := by decide +kernel
theorem d1_128 : decode prog_210_method_2_code 128 = .ok (.iload_n 0, 1) := by decide +kernel
theorem d1_129 : decode prog_210_method_2_code 129 = .ok (.sipush 11264, 3) := by decide +kernel
theorem d1_132 : decode prog_210_method_2_code 132 = .ok (.if_icmp .lt 10, 3) := by decide +kernel
theorem d1_135 : decode prog_210_method_2_code 135 = .ok (.iload_n 0, 1) := by decide +kernel
theorem d1_136 : decode prog_210_method_2_code 136 = .ok (.sipush 12271, 3) := by decide +kernel
theorem d1_139 : decode prog_210_method_2_code 139 = .ok (.if_icmp .le 52, 3) := by decide +kernel
theorem d1_142 : decode prog_210_method_2_code 142 = .ok (.iload_n 0, 1) := by decide +kernel
theorem d1_143 : decode prog_210_method_2_code 143 = .ok (.sipush 12289, 3) := by decide +kernel
theorem d1_146 : decode prog_210_method_2_code 146 = .ok (.if_icmp .lt 9, 3) := by decide +kernel
theorem d1_149 : decode prog_210_method_2_code 149 = .ok (.iload_n 0, 1) := by decide +kernel
theorem d1_150 : decode prog_210_method_2_code 150 = .ok (.ldc 7, 2) := by decide +kernel
theorem d1_152 : decode prog_210_method_2_code 152 = .ok (.if_icmp .le 39, 3) := by decide +kernel
theorem d1_155 : decode prog_210_method_2_code 155 = .ok (.iload_n 0, 1) := by decide +kernel
theorem d1_156 : decode prog_210_method_2_code 156 = .ok (.ldc 8, 2) := by decide +kernel
theorem d1_158 : decode prog_210_method_2_code 158 = .ok (.if_icmp .lt 9, 3) := by decide +kernel
theorem d1_161 : decode prog_210_method_2_code 161 = .ok (.iload_n 0, 1) := by decide +kernel
theorem d1_162 : decode prog_210_method_2_code 162 = .ok (.ldc 9, 2) := by decide +kernel
theorem d1_164 : decode prog_210_method_2_code 164 = .ok (.if_icmp .le 27, 3) := by decide +kernel
theorem d1_167 : decode prog_210_method_2_code 167 = .ok (.iload_n 0, 1) := by decide +kernel
theorem d1_168 : decode prog_210_method_2_code 168 = .ok (.ldc 10, 2) := by decide +kernel
theorem d1_170 : decode prog_210_method_2_code 170 = .ok (.if_icmp .lt 9, 3) := by decide +kernel
theorem d1_173 : decode prog_210_method_2_code 173 = .ok (.iload_n 0, 1) := by decide +kernel
theorem d1_174 : decode prog_210_method_2_code 174 = .ok (.ldc 11, 2) := by decide +kernel
theorem d1_176 : decode prog_210_method_2_code 176 = .ok (.if_icmp .le 15, 3) := by decide +kernel
theorem d1_179 : decode prog_210_method_2_code 179 = .ok (.iload_n 0, 1) := by decide +kernel
theorem d1_180 : decode prog_210_method_2_code 180 = .ok (.ldc 12, 2) := by decide +kernel
theorem d1_182 : decode prog_210_method_2_code 182 = .ok (.if_icmp .lt 13, 3) := by decide +kernel
theorem d1_185 : decode prog_210_method_2_code 185 = .ok (.iload_n 0, 1) := by decide +kernel
theorem d1_186 : decode prog_210_method_2_code 186 = .ok (.ldc 13, 2) := by decide +kernel
theorem d1_188 : decode prog_210_method_2_code 188 = .ok (.if_icmp .gt 7, 3) := by decide +kernel
theorem d1_191 : decode prog_210_method_2_code 191 = .ok (.iconst 1, 1) := by decide +kernel
theorem d1_192 : decode prog_210_method_2_code 192 = .ok (.goto 4, 3) := by decide +kernel
theorem d1_195 : decode prog_210_method_2_code 195 = .ok (.iconst 0, 1) := by decide +kernel
theorem d1_196 : decode prog_210_method_2_code 196 = .ok (.ireturn, 1) := by decide +kernel
theorem pn_0 : plainName "com/example/sound_verdict/soundverdict/XmlName" = true := by first | (simp [plainName, overriddenIn]; done) | decide +kernel
theorem ef_1 (m : MethodId) (x0 : Int32)  : entryFrame m #[(.int x0)] 1 = mkF m 0 #[.val (.int x0)] [] := by first | (simp [entryFrame, mkF, argsToLocals, Value.category]; done) | rfl
def own_f_188 (p1 : Int32) : Int32 := if (983039 : Int32) < p1 then (0 : Int32) else (1 : Int32)
def own_f_182 (p1 : Int32) : Int32 := if p1 < (65536 : Int32) then (0 : Int32) else (own_f_188 p1)
def own_f_176 (p1 : Int32) : Int32 := if (65533 : Int32) < p1 then (own_f_182 p1) else (1 : Int32)
def own_f_170 (p1 : Int32) : Int32 := if p1 < (65008 : Int32) then (own_f_182 p1) else (own_f_176 p1)
def own_f_164 (p1 : Int32) : Int32 := if (64975 : Int32) < p1 then (own_f_170 p1) else (1 : Int32)
def own_f_158 (p1 : Int32) : Int32 := if p1 < (63744 : Int32) then (own_f_170 p1) else (own_f_164 p1)
def own_f_152 (p1 : Int32) : Int32 := if (55295 : Int32) < p1 then (own_f_158 p1) else (1 : Int32)
def own_f_146 (p1 : Int32) : Int32 := if p1 < (12289 : Int32) then (own_f_158 p1) else (own_f_152 p1)
def own_f_139 (p1 : Int32) : Int32 := if (12271 : Int32) < p1 then (own_f_146 p1) else (1 : Int32)
def own_f_132 (p1 : Int32) : Int32 := if p1 < (11264 : Int32) then (own_f_146 p1) else (own_f_139 p1)
def own_f_125 (p1 : Int32) : Int32 := if (8591 : Int32) < p1 then (own_f_132 p1) else (1 : Int32)
def own_f_118 (p1 : Int32) : Int32 := if p1 < (8304 : Int32) then (own_f_132 p1) else (own_f_125 p1)
def own_f_111 (p1 : Int32) : Int32 := if (8205 : Int32) < p1 then (own_f_118 p1) else (1 : Int32)
def own_f_104 (p1 : Int32) : Int32 := if p1 < (8204 : Int32) then (own_f_118 p1) else (own_f_111 p1)
def own_f_97 (p1 : Int32) : Int32 := if (8191 : Int32) < p1 then (own_f_104 p1) else (1 : Int32)
def own_f_90 (p1 : Int32) : Int32 := if p1 < (895 : Int32) then (own_f_104 p1) else (own_f_97 p1)
def own_f_83 (p1 : Int32) : Int32 := if (893 : Int32) < p1 then (own_f_90 p1) else (1 : Int32)
def own_f_76 (p1 : Int32) : Int32 := if p1 < (880 : Int32) then (own_f_90 p1) else (own_f_83 p1)
def own_f_69 (p1 : Int32) : Int32 := if (767 : Int32) < p1 then (own_f_76 p1) else (1 : Int32)
def own_f_62 (p1 : Int32) : Int32 := if p1 < (248 : Int32) then (own_f_76 p1) else (own_f_69 p1)
def own_f_55 (p1 : Int32) : Int32 := if (246 : Int32) < p1 then (own_f_62 p1) else (1 : Int32)
def own_f_48 (p1 : Int32) : Int32 := if p1 < (216 : Int32) then (own_f_62 p1) else (own_f_55 p1)
def own_f_41 (p1 : Int32) : Int32 := if (214 : Int32) < p1 then (own_f_48 p1) else (1 : Int32)
def own_f_34 (p1 : Int32) : Int32 := if p1 < (192 : Int32) then (own_f_48 p1) else (own_f_41 p1)
def own_f_27 (p1 : Int32) : Int32 := if p1 = (95 : Int32) then (1 : Int32) else (own_f_34 p1)
def own_f_21 (p1 : Int32) : Int32 := if (90 : Int32) < p1 then (own_f_27 p1) else (1 : Int32)
def own_f_15 (p1 : Int32) : Int32 := if p1 < (65 : Int32) then (own_f_27 p1) else (own_f_21 p1)
def own_f_9 (p1 : Int32) : Int32 := if (122 : Int32) < p1 then (own_f_15 p1) else (1 : Int32)
def own_f_3 (p1 : Int32) : Int32 := if p1 < (97 : Int32) then (own_f_15 p1) else (own_f_9 p1)
set_option maxRecDepth 65536 in
set_option maxHeartbeats 40000000 in
theorem rm1 (l : Launch) (Z : State) (a0 : Array Value) (hw : ∀ d ∈ tables_1, d.before a0 Z = true) (ws : List Jvm.Cond) (p1 : Int32) (h0 : Heap) (n0 : Nat) (Z0 : n0 ≤ h0.size) :
    MetFree l (⟨"com/example/sound_verdict/soundverdict/XmlName", "isNameStartChar", "(I)Z"⟩ : MethodName) (head1 (Jvm.Cond.code (⟨"com/example/sound_verdict/soundverdict/XmlName", "isNameStartChar", "(I)Z"⟩ : MethodName) prog_210_method_2_code 1 (some .boolean) :: ws) ({ frames := 0, cells := 0, slots := 0, locals := 0 } : Room)) (fun a U => a = #[(.int p1)] ∧ Z.Warmed39 U.vm ∧ U.heap = h0) (fun _ _ _ _ _ => True) (fun _ U o U' => ∃ v L, o = .returned v ∧ (own_P h0 n0 (.int (own_f_3 p1))) v U'.heap L ∧ FrameEnd U o U' L ({ frames := 0, cells := 0, slots := 0, locals := 0 } : Room).cells ({ frames := 0, cells := 0, slots := 0, locals := 0 } : Room).slots) := by
  refine MetFree.of_bodySF (plainFor_of_name pn_0) hisR ?_
  intro p e s m args below meth c s₁ Bd hml0 hP hK
  obtain ⟨rfl, hZ, hh⟩ := hP
  have hx := Bd.exec
  have hby := Bd.bytes
  have hml : c.maxLocals = 1 := hml0
  have hown : s.vm.findClass "com/example/sound_verdict/soundverdict/XmlName" = some m.cls := findClass_of_methodNamed Bd.named
  have hnm := (name_of_methodNamed Bd.named Bd.method).1
  have X0 : Stand p l e ({ frames := 0, cells := 0, slots := 0, locals := 0 } : Room) s m #[(.int p1)] below meth c s₁ [] 0 0 := Stand.of_body Bd
  have e0 : s₁.heap = h0 := by rw [← hh, Bd.state]; rfl
  have N0 := Fr.nil n0
  have hw_13 := hw _ (List.mem_of_getElem? (i := 13) rfl)
  have hw_14 := hw _ (List.mem_of_getElem? (i := 14) rfl)
  have hw_15 := hw _ (List.mem_of_getElem? (i := 15) rfl)
  have hw_20 := hw _ (List.mem_of_getElem? (i := 20) rfl)
  have hw_21 := hw _ (List.mem_of_getElem? (i := 21) rfl)
  have hw_22 := hw _ (List.mem_of_getElem? (i := 22) rfl)
  have hw_23 := hw _ (List.mem_of_getElem? (i := 23) rfl)
  show own_Fin p e below (own_A s ({ frames := 0, cells := 0, slots := 0, locals := 0 } : Room).cells ({ frames := 0, cells := 0, slots := 0, locals := 0 } : Room).slots (own_P h0 n0 (.int (own_f_3 p1)))) _
  refine own_go (fun t k => castTop (ef_1 m (p1)) k) ?_
  have J0 : own_Fin p e below (own_A s ({ frames := 0, cells := 0, slots := 0, locals := 0 } : Room).cells ({ frames := 0, cells := 0, slots := 0, locals := 0 } : Room).slots (own_P h0 n0 (.int (own_f_182 p1)))) (s₁.setTop (mkF m 179 #[.val (.int p1)] [])) := by
    refine own_go (fun t k => XS.iloadN X0.here hx rfl (hb hby d1_179) rfl  k) ?_
    show own_Fin p e below _ (s₁.setTop (mkF m 180 #[.val (.int p1)] [(.int p1)]))
    refine own_go (fun t k => X0.ldcInt hx hown (mvT hZ hw_15) (g := (mkF m 180 #[.val (.int p1)] [(.int p1)])) rfl (hb hby d1_180) _ k) ?_
    show own_Fin p e below _ (s₁.setTop (mkF m 182 #[.val (.int p1)] [(.int (65536 : Int32)), (.int p1)]))
    by_cases hc1 : p1 < (65536 : Int32)
    · skip
      rw [(show (own_f_182 p1) = (0 : Int32) from if_pos hc1)]
      refine own_go (fun t k => XS.icmpYes X0.here hx rfl (pc0 := 182) (pc' := 195) rfl (hb hby d1_182) rfl (tlt hc1).1 (by decide) (by decide) (XS.iconst X0.here hx rfl (hb hby d1_195) k)) ?_
      show own_Fin p e below _ (s₁.setTop (mkF m 196 #[.val (.int p1)] [(.int (0 : Int32))]))
      exact own_out X0 (fun h => by rw [Bd.returns] at h; cases h) Bd.notSynchronized (fun fs hr => retN X0 hx (t := .boolean) Bd.returns (by simp) (hb hby d1_196) hr) ⟨rfl, N0, e0⟩ (by decide) (by decide)
    · skip
      rw [(show (own_f_182 p1) = (own_f_188 p1) from if_neg hc1)]
      refine own_go (fun t k => XS.icmpNo X0.here hx rfl (hb hby d1_182) rfl (flt hc1).1 (XS.iloadN X0.here hx rfl (hb hby d1_185) rfl  k)) ?_
      show own_Fin p e below _ (s₁.setTop (mkF m 186 #[.val (.int p1)] [(.int p1)]))
      refine own_go (fun t k => X0.ldcInt hx hown (mvT hZ hw_23) (g := (mkF m 186 #[.val (.int p1)] [(.int p1)])) rfl (hb hby d1_186) _ k) ?_
      show own_Fin p e below _ (s₁.setTop (mkF m 188 #[.val (.int p1)] [(.int (983039 : Int32)), (.int p1)]))
      by_cases hc2 : (983039 : Int32) < p1
      · skip
        rw [(show (own_f_188 p1) = (0 : Int32) from if_pos hc2)]
        refine own_go (fun t k => XS.icmpYes X0.here hx rfl (pc0 := 188) (pc' := 195) rfl (hb hby d1_188) rfl (tlt hc2).2.2.1 (by decide) (by decide) (XS.iconst X0.here hx rfl (hb hby d1_195) k)) ?_
        show own_Fin p e below _ (s₁.setTop (mkF m 196 #[.val (.int p1)] [(.int (0 : Int32))]))
        exact own_out X0 (fun h => by rw [Bd.returns] at h; cases h) Bd.notSynchronized (fun fs hr => retN X0 hx (t := .boolean) Bd.returns (by simp) (hb hby d1_196) hr) ⟨rfl, N0, e0⟩ (by decide) (by decide)
      · skip
        rw [(show (own_f_188 p1) = (1 : Int32) from if_neg hc2)]
        refine own_go (fun t k => XS.icmpNo X0.here hx rfl (hb hby d1_188) rfl (flt hc2).2.2.1 (XS.iconst X0.here hx rfl (hb hby d1_191) (XS.goto X0.here hx rfl (pc0 := 192) (pc' := 196) rfl (hb hby d1_192) (by decide) (by decide) k))) ?_
        show own_Fin p e below _ (s₁.setTop (mkF m 196 #[.val (.int p1)] [(.int (1 : Int32))]))
        exact own_out X0 (fun h => by rw [Bd.returns] at h; cases h) Bd.notSynchronized (fun fs hr => retN X0 hx (t := .boolean) Bd.returns (by simp) (hb hby d1_196) hr) ⟨rfl, N0, e0⟩ (by decide) (by decide)
  have J1 : own_Fin p e below (own_A s ({ frames := 0, cells := 0, slots := 0, locals := 0 } : Room).cells ({ frames := 0, cells := 0, slots := 0, locals := 0 } : Room).slots (own_P h0 n0 (.int (own_f_170 p1)))) (s₁.setTop (mkF m 167 #[.val (.int p1)] [])) := by
    refine own_go (fun t k => XS.iloadN X0.here hx rfl (hb hby d1_167) rfl  k) ?_
    show own_Fin p e below _ (s₁.setTop (mkF m 168 #[.val (.int p1)] [(.int p1)]))
    refine own_go (fun t k => X0.ldcInt hx hown (mvT hZ hw_14) (g := (mkF m 168 #[.val (.int p1)] [(.int p1)])) rfl (hb hby d1_168) _ k) ?_
    show own_Fin p e below _ (s₁.setTop (mkF m 170 #[.val (.int p1)] [(.int (65008 : Int32)), (.int p1)]))
    by_cases hc3 : p1 < (65008 : Int32)
    · skip
      rw [(show (own_f_170 p1) = (own_f_182 p1) from if_pos hc3)]
      refine own_go (fun t k => XS.icmpYes X0.here hx rfl (pc0 := 170) (pc' := 179) rfl (hb hby d1_170) rfl (tlt hc3).1 (by decide) (by decide) k) ?_
      exact J0
    · skip
      rw [(show (own_f_170 p1) = (own_f_176 p1) from if_neg hc3)]
      refine own_go (fun t k => XS.icmpNo X0.here hx rfl (hb hby d1_170) rfl (flt hc3).1 (XS.iloadN X0.here hx rfl (hb hby d1_173) rfl  k)) ?_
      show own_Fin p e below _ (s₁.setTop (mkF m 174 #[.val (.int p1)] [(.int p1)]))
      refine own_go (fun t k => X0.ldcInt hx hown (mvT hZ hw_22) (g := (mkF m 174 #[.val (.int p1)] [(.int p1)])) rfl (hb hby d1_174) _ k) ?_
      show own_Fin p e below _ (s₁.setTop (mkF m 176 #[.val (.int p1)] [(.int (65533 : Int32)), (.int p1)]))
      by_cases hc4 : (65533 : Int32) < p1
      · skip
        rw [(show (own_f_176 p1) = (own_f_182 p1) from if_pos hc4)]
        refine own_go (fun t k => XS.icmpNo X0.here hx rfl (hb hby d1_176) rfl (tlt hc4).2.2.2 k) ?_
        exact J0
      · skip
        rw [(show (own_f_176 p1) = (1 : Int32) from if_neg hc4)]
        refine own_go (fun t k => XS.icmpYes X0.here hx rfl (pc0 := 176) (pc' := 191) rfl (hb hby d1_176) rfl (flt hc4).2.2.2 (by decide) (by decide) (XS.iconst X0.here hx rfl (hb hby d1_191) (XS.goto X0.here hx rfl (pc0 := 192) (pc' := 196) rfl (hb hby d1_192) (by decide) (by decide) k))) ?_
        show own_Fin p e below _ (s₁.setTop (mkF m 196 #[.val (.int p1)] [(.int (1 : Int32))]))
        exact own_out X0 (fun h => by rw [Bd.returns] at h; cases h) Bd.notSynchronized (fun fs hr => retN X0 hx (t := .boolean) Bd.returns (by simp) (hb hby d1_196) hr) ⟨rfl, N0, e0⟩ (by decide) (by decide)
  have J2 : own_Fin p e below (own_A s ({ frames := 0, cells := 0, slots := 0, locals := 0 } : Room).cells ({ frames := 0, cells := 0, slots := 0, locals := 0 } : Room).slots (own_P h0 n0 (.int (own_f_158 p1)))) (s₁.setTop (mkF m 155 #[.val (.int p1)] [])) := by
    refine own_go (fun t k => XS.iloadN X0.here hx rfl (hb hby d1_155) rfl  k) ?_
    show own_Fin p e below _ (s₁.setTop (mkF m 156 #[.val (.int p1)] [(.int p1)]))
    refine own_go (fun t k => X0.ldcInt hx hown (mvT hZ hw_13) (g := (mkF m 156 #[.val (.int p1)] [(.int p1)])) rfl (hb hby d1_156) _ k) ?_
    show own_Fin p e below _ (s₁.setTop (mkF m 158 #[.val (.int p1)] [(.int (63744 : Int32)), (.int p1)]))
    by_cases hc5 : p1 < (63744 : Int32)
    · skip
      rw [(show (own_f_158 p1) = (own_f_170 p1) from if_pos hc5)]
      refine own_go (fun t k => XS.icmpYes X0.here hx rfl (pc0 := 158) (pc' := 167) rfl (hb hby d1_158) rfl (tlt hc5).1 (by decide) (by decide) k) ?_
      exact J1
    · skip
      rw [(show (own_f_158 p1) = (own_f_164 p1) from if_neg hc5)]
      refine own_go (fun t k => XS.icmpNo X0.here hx rfl (hb hby d1_158) rfl (flt hc5).1 (XS.iloadN X0.here hx rfl (hb hby d1_161) rfl  k)) ?_
      show own_Fin p e below _ (s₁.setTop (mkF m 162 #[.val (.int p1)] [(.int p1)]))
      refine own_go (fun t k => X0.ldcInt hx hown (mvT hZ hw_21) (g := (mkF m 162 #[.val (.int p1)] [(.int p1)])) rfl (hb hby d1_162) _ k) ?_
      show own_Fin p e below _ (s₁.setTop (mkF m 164 #[.val (.int p1)] [(.int (64975 : Int32)), (.int p1)]))
      by_cases hc6 : (64975 : Int32) < p1
      · skip
        rw [(show (own_f_164 p1) = (own_f_170 p1) from if_pos hc6)]
        refine own_go (fun t k => XS.icmpNo X0.here hx rfl (hb hby d1_164) rfl (tlt hc6).2.2.2 k) ?_
        exact J1
      · skip
        rw [(show (own_f_164 p1) = (1 : Int32) from if_neg hc6)]
        refine own_go (fun t k => XS.icmpYes X0.here hx rfl (pc0 := 164) (pc' := 191) rfl (hb hby d1_164) rfl (flt hc6).2.2.2 (by decide) (by decide) (XS.iconst X0.here hx rfl (hb hby d1_191) (XS.goto X0.here hx rfl (pc0 := 192) (pc' := 196) rfl (hb hby d1_192) (by decide) (by decide) k))) ?_
        show own_Fin p e below _ (s₁.setTop (mkF m 196 #[.val (.int p1)] [(.int (1 : Int32))]))
        exact own_out X0 (fun h => by rw [Bd.returns] at h; cases h) Bd.notSynchronized (fun fs hr => retN X0 hx (t := .boolean) Bd.returns (by simp) (hb hby d1_196) hr) ⟨rfl, N0, e0⟩ (by decide) (by decide)
  have J3 : own_Fin p e below (own_A s ({ frames := 0, cells := 0, slots := 0, locals := 0 } : Room).cells ({ frames := 0, cells := 0, slots := 0, locals := 0 } : Room).slots (own_P h0 n0 (.int (own_f_146 p1)))) (s₁.setTop (mkF m 142 #[.val (.int p1)] [])) := by
    refine own_go (fun t k => XS.iloadN X0.here hx rfl (hb hby d1_142) rfl  (XS.sipush X0.here hx rfl (hb hby d1_143) k)) ?_
    show own_Fin p e below _ (s₁.setTop (mkF m 146 #[.val (.int p1)] [(.int (12289 : Int32)), (.int p1)]))
    by_cases hc7 : p1 < (12289 : Int32)
    · skip
      rw [(show (own_f_146 p1) = (own_f_158 p1) from if_pos hc7)]
      refine own_go (fun t k => XS.icmpYes X0.here hx rfl (pc0 := 146) (pc' := 155) rfl (hb hby d1_146) rfl (tlt hc7).1 (by decide) (by decide) k) ?_
      exact J2
    · skip
      rw [(show (own_f_146 p1) = (own_f_152 p1) from if_neg hc7)]
      refine own_go (fun t k => XS.icmpNo X0.here hx rfl (hb hby d1_146) rfl (flt hc7).1 (XS.iloadN X0.here hx rfl (hb hby d1_149) rfl  k)) ?_
      show own_Fin p e below _ (s₁.setTop (mkF m 150 #[.val (.int p1)] [(.int p1)]))
      refine own_go (fun t k => X0.ldcInt hx hown (mvT hZ hw_20) (g := (mkF m 150 #[.val (.int p1)] [(.int p1)])) rfl (hb hby d1_150) _ k) ?_
      show own_Fin p e below _ (s₁.setTop (mkF m 152 #[.val (.int p1)] [(.int (55295 : Int32)), (.int p1)]))
      by_cases hc8 : (55295 : Int32) < p1
      · skip
        rw [(show (own_f_152 p1) = (own_f_158 p1) from if_pos hc8)]
        refine own_go (fun t k => XS.icmpNo X0.here hx rfl (hb hby d1_152) rfl (tlt hc8).2.2.2 k) ?_
        exact J2
      · skip
        rw [(show (own_f_152 p1) = (1 : Int32) from if_neg hc8)]
        refine own_go (fun t k => XS.icmpYes X0.here hx rfl (pc0 := 152) (pc' := 191) rfl (hb hby d1_152) rfl (flt hc8).2.2.2 (by decide) (by decide) (XS.iconst X0.here hx rfl (hb hby d1_191) (XS.goto X0.here hx rfl (pc0 := 192) (pc' := 196) rfl (hb hby d1_192) (by decide) (by decide) k))) ?_
        show own_Fin p e below _ (s₁.setTop (mkF m 196 #[.val (.int p1)] [(.int (1 : Int32))]))
        exact own_out X0 (fun h => by rw [Bd.returns] at h; cases h) Bd.notSynchronized (fun fs hr => retN X0 hx (t := .boolean) Bd.returns (by simp) (hb hby d1_196) hr) ⟨rfl, N0, e0⟩ (by decide) (by decide)
  have J4 : own_Fin p e below (own_A s ({ frames := 0, cells := 0, slots := 0, locals := 0 } : Room).cells ({ frames := 0, cells := 0, slots := 0, locals := 0 } : Room).slots (own_P h0 n0 (.int (own_f_132 p1)))) (s₁.setTop (mkF m 128 #[.val (.int p1)] [])) := by
    refine own_go (fun t k => XS.iloadN X0.here hx rfl (hb hby d1_128) rfl  (XS.sipush X0.here hx rfl (hb hby d1_129) k)) ?_
    show own_Fin p e below _ (s₁.setTop (mkF m 132 #[.val (.int p1)] [(.int (11264 : Int32)), (.int p1)]))
    by_cases hc9 : p1 < (11264 : Int32)
    · skip
      rw [(show (own_f_132 p1) = (own_f_146 p1) from if_pos hc9)]
      refine own_go (fun t k => XS.icmpYes X0.here hx rfl (pc0 := 132) (pc' := 142) rfl (hb hby d1_132) rfl (tlt hc9).1 (by decide) (by decide) k) ?_
      exact J3
    · skip
      rw [(show (own_f_132 p1) = (own_f_139 p1) from if_neg hc9)]
      refine own_go (fun t k => XS.icmpNo X0.here hx rfl (hb hby d1_132) rfl (flt hc9).1 (XS.iloadN X0.here hx rfl (hb hby d1_135) rfl  (XS.sipush X0.here hx rfl (hb hby d1_136) k))) ?_
      show own_Fin p e below _ (s₁.setTop (mkF m 139 #[.val (.int p1)] [(.int (12271 : Int32)), (.int p1)]))
      by_cases hc10 : (12271 : Int32) < p1
      · skip
        rw [(show (own_f_139 p1) = (own_f_146 p1) from if_pos hc10)]
        refine own_go (fun t k => XS.icmpNo X0.here hx rfl (hb hby d1_139) rfl (tlt hc10).2.2.2 k) ?_
        exact J3
      · skip
        rw [(show (own_f_139 p1) = (1 : Int32) from if_neg hc10)]
        refine own_go (fun t k => XS.icmpYes X0.here hx rfl (pc0 := 139) (pc' := 191) rfl (hb hby d1_139) rfl (flt hc10).2.2.2 (by decide) (by decide) (XS.iconst X0.here hx rfl (hb hby d1_191) (XS.goto X0.here hx rfl (pc0 := 192) (pc' := 196) rfl (hb hby d1_192) (by decide) (by decide) k))) ?_
        show own_Fin p e below _ (s₁.setTop (mkF m 196 #[.val (.int p1)] [(.int (1 : Int32))]))
        exact own_out X0 (fun h => by rw [Bd.returns] at h; cases h) Bd.notSynchronized (fun fs hr => retN X0 hx (t := .boolean) Bd.returns (by simp) (hb hby d1_196) hr) ⟨rfl, N0, e0⟩ (by decide) (by decide)
  have J5 : own_Fin p e below (own_A s ({ frames := 0, cells := 0, slots := 0, locals := 0 } : Room).cells ({ frames := 0, cells := 0, slots := 0, locals := 0 } : Room).slots (own_P h0 n0 (.int (own_f_118 p1)))) (s₁.setTop (mkF m 114 #[.val (.int p1)] [])) := by
    refine own_go (fun t k => XS.iloadN X0.here hx rfl (hb hby d1_114) rfl  (XS.sipush X0.here hx rfl (hb hby d1_115) k)) ?_
    show own_Fin p e below _ (s₁.setTop (mkF m 118 #[.val (.int p1)] [(.int (8304 : Int32)), (.int p1)]))
    by_cases hc11 : p1 < (8304 : Int32)
    · skip
      rw [(show (own_f_118 p1) = (own_f_132 p1) from if_pos hc11)]
      refine own_go (fun t k => XS.icmpYes X0.here hx rfl (pc0 := 118) (pc' := 128) rfl (hb hby d1_118) rfl (tlt hc11).1 (by decide) (by decide) k) ?_
      exact J4
    · skip
      rw [(show (own_f_118 p1) = (own_f_125 p1) from if_neg hc11)]
      refine own_go (fun t k => XS.icmpNo X0.here hx rfl (hb hby d1_118) rfl (flt hc11).1 (XS.iloadN X0.here hx rfl (hb hby d1_121) rfl  (XS.sipush X0.here hx rfl (hb hby d1_122) k))) ?_
      show own_Fin p e below _ (s₁.setTop (mkF m 125 #[.val (.int p1)] [(.int (8591 : Int32)), (.int p1)]))
      by_cases hc12 : (8591 : Int32) < p1
      · skip
        rw [(show (own_f_125 p1) = (own_f_132 p1) from if_pos hc12)]
        refine own_go (fun t k => XS.icmpNo X0.here hx rfl (hb hby d1_125) rfl (tlt hc12).2.2.2 k) ?_
        exact J4
      · skip
        rw [(show (own_f_125 p1) = (1 : Int32) from if_neg hc12)]
        refine own_go (fun t k => XS.icmpYes X0.here hx rfl (pc0 := 125) (pc' := 191) rfl (hb hby d1_125) rfl (flt hc12).2.2.2 (by decide) (by decide) (XS.iconst X0.here hx rfl (hb hby d1_191) (XS.goto X0.here hx rfl (pc0 := 192) (pc' := 196) rfl (hb hby d1_192) (by decide) (by decide) k))) ?_
        show own_Fin p e below _ (s₁.setTop (mkF m 196 #[.val (.int p1)] [(.int (1 : Int32))]))
        exact own_out X0 (fun h => by rw [Bd.returns] at h; cases h) Bd.notSynchronized (fun fs hr => retN X0 hx (t := .boolean) Bd.returns (by simp) (hb hby d1_196) hr) ⟨rfl, N0, e0⟩ (by decide) (by decide)
  have J6 : own_Fin p e below (own_A s ({ frames := 0, cells := 0, slots := 0, locals := 0 } : Room).cells ({ frames := 0, cells := 0, slots := 0, locals := 0 } : Room).slots (own_P h0 n0 (.int (own_f_104 p1)))) (s₁.setTop (mkF m 100 #[.val (.int p1)] [])) := by
    refine own_go (fun t k => XS.iloadN X0.here hx rfl (hb hby d1_100) rfl  (XS.sipush X0.here hx rfl (hb hby d1_101) k)) ?_
    show own_Fin p e below _ (s₁.setTop (mkF m 104 #[.val (.int p1)] [(.int (8204 : Int32)), (.int p1)]))
    by_cases hc13 : p1 < (8204 : Int32)
    · skip
      rw [(show (own_f_104 p1) = (own_f_118 p1) from if_pos hc13)]
      refine own_go (fun t k => XS.icmpYes X0.here hx rfl (pc0 := 104) (pc' := 114) rfl (hb hby d1_104) rfl (tlt hc13).1 (by decide) (by decide) k) ?_
      exact J5
    · skip
      rw [(show (own_f_104 p1) = (own_f_111 p1) from if_neg hc13)]
      refine own_go (fun t k => XS.icmpNo X0.here hx rfl (hb hby d1_104) rfl (flt hc13).1 (XS.iloadN X0.here hx rfl (hb hby d1_107) rfl  (XS.sipush X0.here hx rfl (hb hby d1_108) k))) ?_
      show own_Fin p e below _ (s₁.setTop (mkF m 111 #[.val (.int p1)] [(.int (8205 : Int32)), (.int p1)]))
      by_cases hc14 : (8205 : Int32) < p1
      · skip
        rw [(show (own_f_111 p1) = (own_f_118 p1) from if_pos hc14)]
        refine own_go (fun t k => XS.icmpNo X0.here hx rfl (hb hby d1_111) rfl (tlt hc14).2.2.2 k) ?_
        exact J5
      · skip
        rw [(show (own_f_111 p1) = (1 : Int32) from if_neg hc14)]
        refine own_go (fun t k => XS.icmpYes X0.here hx rfl (pc0 := 111) (pc' := 191) rfl (hb hby d1_111) rfl (flt hc14).2.2.2 (by decide) (by decide) (XS.iconst X0.here hx rfl (hb hby d1_191) (XS.goto X0.here hx rfl (pc0 := 192) (pc' := 196) rfl (hb hby d1_192) (by decide) (by decide) k))) ?_
        show own_Fin p e below _ (s₁.setTop (mkF m 196 #[.val (.int p1)] [(.int (1 : Int32))]))
        exact own_out X0 (fun h => by rw [Bd.returns] at h; cases h) Bd.notSynchronized (fun fs hr => retN X0 hx (t := .boolean) Bd.returns (by simp) (hb hby d1_196) hr) ⟨rfl, N0, e0⟩ (by decide) (by decide)
  have J7 : own_Fin p e below (own_A s ({ frames := 0, cells := 0, slots := 0, locals := 0 } : Room).cells ({ frames := 0, cells := 0, slots := 0, locals := 0 } : Room).slots (own_P h0 n0 (.int (own_f_90 p1)))) (s₁.setTop (mkF m 86 #[.val (.int p1)] [])) := by
    refine own_go (fun t k => XS.iloadN X0.here hx rfl (hb hby d1_86) rfl  (XS.sipush X0.here hx rfl (hb hby d1_87) k)) ?_
    show own_Fin p e below _ (s₁.setTop (mkF m 90 #[.val (.int p1)] [(.int (895 : Int32)), (.int p1)]))
    by_cases hc15 : p1 < (895 : Int32)
    · skip
      rw [(show (own_f_90 p1) = (own_f_104 p1) from if_pos hc15)]
      refine own_go (fun t k => XS.icmpYes X0.here hx rfl (pc0 := 90) (pc' := 100) rfl (hb hby d1_90) rfl (tlt hc15).1 (by decide) (by decide) k) ?_
      exact J6
    · skip
      rw [(show (own_f_90 p1) = (own_f_97 p1) from if_neg hc15)]
      refine own_go (fun t k => XS.icmpNo X0.here hx rfl (hb hby d1_90) rfl (flt hc15).1 (XS.iloadN X0.here hx rfl (hb hby d1_93) rfl  (XS.sipush X0.here hx rfl (hb hby d1_94) k))) ?_
      show own_Fin p e below _ (s₁.setTop (mkF m 97 #[.val (.int p1)] [(.int (8191 : Int32)), (.int p1)]))
      by_cases hc16 : (8191 : Int32) < p1
      · skip
        rw [(show (own_f_97 p1) = (own_f_104 p1) from if_pos hc16)]
        refine own_go (fun t k => XS.icmpNo X0.here hx rfl (hb hby d1_97) rfl (tlt hc16).2.2.2 k) ?_
        exact J6
      · skip
        rw [(show (own_f_97 p1) = (1 : Int32) from if_neg hc16)]
        refine own_go (fun t k => XS.icmpYes X0.here hx rfl (pc0 := 97) (pc' := 191) rfl (hb hby d1_97) rfl (flt hc16).2.2.2 (by decide) (by decide) (XS.iconst X0.here hx rfl (hb hby d1_191) (XS.goto X0.here hx rfl (pc0 := 192) (pc' := 196) rfl (hb hby d1_192) (by decide) (by decide) k))) ?_
        show own_Fin p e below _ (s₁.setTop (mkF m 196 #[.val (.int p1)] [(.int (1 : Int32))]))
        exact own_out X0 (fun h => by rw [Bd.returns] at h; cases h) Bd.notSynchronized (fun fs hr => retN X0 hx (t := .boolean) Bd.returns (by simp) (hb hby d1_196) hr) ⟨rfl, N0, e0⟩ (by decide) (by decide)
  have J8 : own_Fin p e below (own_A s ({ frames := 0, cells := 0, slots := 0, locals := 0 } : Room).cells ({ frames := 0, cells := 0, slots := 0, locals := 0 } : Room).slots (own_P h0 n0 (.int (own_f_76 p1)))) (s₁.setTop (mkF m 72 #[.val (.int p1)] [])) := by
    refine own_go (fun t k => XS.iloadN X0.here hx rfl (hb hby d1_72) rfl  (XS.sipush X0.here hx rfl (hb hby d1_73) k)) ?_
    show own_Fin p e below _ (s₁.setTop (mkF m 76 #[.val (.int p1)] [(.int (880 : Int32)), (.int p1)]))
    by_cases hc17 : p1 < (880 : Int32)
    · skip
      rw [(show (own_f_76 p1) = (own_f_90 p1) from if_pos hc17)]
      refine own_go (fun t k => XS.icmpYes X0.here hx rfl (pc0 := 76) (pc' := 86) rfl (hb hby d1_76) rfl (tlt hc17).1 (by decide) (by decide) k) ?_
      exact J7
    · skip
      rw [(show (own_f_76 p1) = (own_f_83 p1) from if_neg hc17)]
      refine own_go (fun t k => XS.icmpNo X0.here hx rfl (hb hby d1_76) rfl (flt hc17).1 (XS.iloadN X0.here hx rfl (hb hby d1_79) rfl  (XS.sipush X0.here hx rfl (hb hby d1_80) k))) ?_
      show own_Fin p e below _ (s₁.setTop (mkF m 83 #[.val (.int p1)] [(.int (893 : Int32)), (.int p1)]))
      by_cases hc18 : (893 : Int32) < p1
      · skip
        rw [(show (own_f_83 p1) = (own_f_90 p1) from if_pos hc18)]
        refine own_go (fun t k => XS.icmpNo X0.here hx rfl (hb hby d1_83) rfl (tlt hc18).2.2.2 k) ?_
        exact J7
      · skip
        rw [(show (own_f_83 p1) = (1 : Int32) from if_neg hc18)]
        refine own_go (fun t k => XS.icmpYes X0.here hx rfl (pc0 := 83) (pc' := 191) rfl (hb hby d1_83) rfl (flt hc18).2.2.2 (by decide) (by decide) (XS.iconst X0.here hx rfl (hb hby d1_191) (XS.goto X0.here hx rfl (pc0 := 192) (pc' := 196) rfl (hb hby d1_192) (by decide) (by decide) k))) ?_
        show own_Fin p e below _ (s₁.setTop (mkF m 196 #[.val (.int p1)] [(.int (1 : Int32))]))
        exact own_out X0 (fun h => by rw [Bd.returns] at h; cases h) Bd.notSynchronized (fun fs hr => retN X0 hx (t := .boolean) Bd.returns (by simp) (hb hby d1_196) hr) ⟨rfl, N0, e0⟩ (by decide) (by decide)
  have J9 : own_Fin p e below (own_A s ({ frames := 0, cells := 0, slots := 0, locals := 0 } : Room).cells ({ frames := 0, cells := 0, slots := 0, locals := 0 } : Room).slots (own_P h0 n0 (.int (own_f_62 p1)))) (s₁.setTop (mkF m 58 #[.val (.int p1)] [])) := by
    refine own_go (fun t k => XS.iloadN X0.here hx rfl (hb hby d1_58) rfl  (XS.sipush X0.here hx rfl (hb hby d1_59) k)) ?_
    show own_Fin p e below _ (s₁.setTop (mkF m 62 #[.val (.int p1)] [(.int (248 : Int32)), (.int p1)]))
    by_cases hc19 : p1 < (248 : Int32)
    · skip
      rw [(show (own_f_62 p1) = (own_f_76 p1) from if_pos hc19)]
      refine own_go (fun t k => XS.icmpYes X0.here hx rfl (pc0 := 62) (pc' := 72) rfl (hb hby d1_62) rfl (tlt hc19).1 (by decide) (by decide) k) ?_
      exact J8
    · skip
      rw [(show (own_f_62 p1) = (own_f_69 p1) from if_neg hc19)]
      refine own_go (fun t k => XS.icmpNo X0.here hx rfl (hb hby d1_62) rfl (flt hc19).1 (XS.iloadN X0.here hx rfl (hb hby d1_65) rfl  (XS.sipush X0.here hx rfl (hb hby d1_66) k))) ?_
      show own_Fin p e below _ (s₁.setTop (mkF m 69 #[.val (.int p1)] [(.int (767 : Int32)), (.int p1)]))
      by_cases hc20 : (767 : Int32) < p1
      · skip
        rw [(show (own_f_69 p1) = (own_f_76 p1) from if_pos hc20)]
        refine own_go (fun t k => XS.icmpNo X0.here hx rfl (hb hby d1_69) rfl (tlt hc20).2.2.2 k) ?_
        exact J8
      · skip
        rw [(show (own_f_69 p1) = (1 : Int32) from if_neg hc20)]
        refine own_go (fun t k => XS.icmpYes X0.here hx rfl (pc0 := 69) (pc' := 191) rfl (hb hby d1_69) rfl (flt hc20).2.2.2 (by decide) (by decide) (XS.iconst X0.here hx rfl (hb hby d1_191) (XS.goto X0.here hx rfl (pc0 := 192) (pc' := 196) rfl (hb hby d1_192) (by decide) (by decide) k))) ?_
        show own_Fin p e below _ (s₁.setTop (mkF m 196 #[.val (.int p1)] [(.int (1 : Int32))]))
        exact own_out X0 (fun h => by rw [Bd.returns] at h; cases h) Bd.notSynchronized (fun fs hr => retN X0 hx (t := .boolean) Bd.returns (by simp) (hb hby d1_196) hr) ⟨rfl, N0, e0⟩ (by decide) (by decide)
  have J10 : own_Fin p e below (own_A s ({ frames := 0, cells := 0, slots := 0, locals := 0 } : Room).cells ({ frames := 0, cells := 0, slots := 0, locals := 0 } : Room).slots (own_P h0 n0 (.int (own_f_48 p1)))) (s₁.setTop (mkF m 44 #[.val (.int p1)] [])) := by
    refine own_go (fun t k => XS.iloadN X0.here hx rfl (hb hby d1_44) rfl  (XS.sipush X0.here hx rfl (hb hby d1_45) k)) ?_
    show own_Fin p e below _ (s₁.setTop (mkF m 48 #[.val (.int p1)] [(.int (216 : Int32)), (.int p1)]))
    by_cases hc21 : p1 < (216 : Int32)
    · skip
      rw [(show (own_f_48 p1) = (own_f_62 p1) from if_pos hc21)]
      refine own_go (fun t k => XS.icmpYes X0.here hx rfl (pc0 := 48) (pc' := 58) rfl (hb hby d1_48) rfl (tlt hc21).1 (by decide) (by decide) k) ?_
      exact J9
    · skip
      rw [(show (own_f_48 p1) = (own_f_55 p1) from if_neg hc21)]
      refine own_go (fun t k => XS.icmpNo X0.here hx rfl (hb hby d1_48) rfl (flt hc21).1 (XS.iloadN X0.here hx rfl (hb hby d1_51) rfl  (XS.sipush X0.here hx rfl (hb hby d1_52) k))) ?_
      show own_Fin p e below _ (s₁.setTop (mkF m 55 #[.val (.int p1)] [(.int (246 : Int32)), (.int p1)]))
      by_cases hc22 : (246 : Int32) < p1
      · skip
        rw [(show (own_f_55 p1) = (own_f_62 p1) from if_pos hc22)]
        refine own_go (fun t k => XS.icmpNo X0.here hx rfl (hb hby d1_55) rfl (tlt hc22).2.2.2 k) ?_
        exact J9
      · skip
        rw [(show (own_f_55 p1) = (1 : Int32) from if_neg hc22)]
        refine own_go (fun t k => XS.icmpYes X0.here hx rfl (pc0 := 55) (pc' := 191) rfl (hb hby d1_55) rfl (flt hc22).2.2.2 (by decide) (by decide) (XS.iconst X0.here hx rfl (hb hby d1_191) (XS.goto X0.here hx rfl (pc0 := 192) (pc' := 196) rfl (hb hby d1_192) (by decide) (by decide) k))) ?_
        show own_Fin p e below _ (s₁.setTop (mkF m 196 #[.val (.int p1)] [(.int (1 : Int32))]))
        exact own_out X0 (fun h => by rw [Bd.returns] at h; cases h) Bd.notSynchronized (fun fs hr => retN X0 hx (t := .boolean) Bd.returns (by simp) (hb hby d1_196) hr) ⟨rfl, N0, e0⟩ (by decide) (by decide)
  have J11 : own_Fin p e below (own_A s ({ frames := 0, cells := 0, slots := 0, locals := 0 } : Room).cells ({ frames := 0, cells := 0, slots := 0, locals := 0 } : Room).slots (own_P h0 n0 (.int (own_f_27 p1)))) (s₁.setTop (mkF m 24 #[.val (.int p1)] [])) := by
    refine own_go (fun t k => XS.iloadN X0.here hx rfl (hb hby d1_24) rfl  (XS.bipush X0.here hx rfl (hb hby d1_25) k)) ?_
    show own_Fin p e below _ (s₁.setTop (mkF m 27 #[.val (.int p1)] [(.int (95 : Int32)), (.int p1)]))
    by_cases hc23 : p1 = (95 : Int32)
    · skip
      rw [(show (own_f_27 p1) = (1 : Int32) from if_pos hc23)]
      refine own_go (fun t k => XS.icmpYes X0.here hx rfl (pc0 := 27) (pc' := 191) rfl (hb hby d1_27) rfl (teq hc23).1 (by decide) (by decide) (XS.iconst X0.here hx rfl (hb hby d1_191) (XS.goto X0.here hx rfl (pc0 := 192) (pc' := 196) rfl (hb hby d1_192) (by decide) (by decide) k))) ?_
      show own_Fin p e below _ (s₁.setTop (mkF m 196 #[.val (.int p1)] [(.int (1 : Int32))]))
      exact own_out X0 (fun h => by rw [Bd.returns] at h; cases h) Bd.notSynchronized (fun fs hr => retN X0 hx (t := .boolean) Bd.returns (by simp) (hb hby d1_196) hr) ⟨rfl, N0, e0⟩ (by decide) (by decide)
    · skip
      rw [(show (own_f_27 p1) = (own_f_34 p1) from if_neg hc23)]
      refine own_go (fun t k => XS.icmpNo X0.here hx rfl (hb hby d1_27) rfl (feq hc23).1 (XS.iloadN X0.here hx rfl (hb hby d1_30) rfl  (XS.sipush X0.here hx rfl (hb hby d1_31) k))) ?_
      show own_Fin p e below _ (s₁.setTop (mkF m 34 #[.val (.int p1)] [(.int (192 : Int32)), (.int p1)]))
      by_cases hc24 : p1 < (192 : Int32)
      · skip
        rw [(show (own_f_34 p1) = (own_f_48 p1) from if_pos hc24)]
        refine own_go (fun t k => XS.icmpYes X0.here hx rfl (pc0 := 34) (pc' := 44) rfl (hb hby d1_34) rfl (tlt hc24).1 (by decide) (by decide) k) ?_
        exact J10
      · skip
        rw [(show (own_f_34 p1) = (own_f_41 p1) from if_neg hc24)]
        refine own_go (fun t k => XS.icmpNo X0.here hx rfl (hb hby d1_34) rfl (flt hc24).1 (XS.iloadN X0.here hx rfl (hb hby d1_37) rfl  (XS.sipush X0.here hx rfl (hb hby d1_38) k))) ?_
        show own_Fin p e below _ (s₁.setTop (mkF m 41 #[.val (.int p1)] [(.int (214 : Int32)), (.int p1)]))
        by_cases hc25 : (214 : Int32) < p1
        · skip
          rw [(show (own_f_41 p1) = (own_f_48 p1) from if_pos hc25)]
          refine own_go (fun t k => XS.icmpNo X0.here hx rfl (hb hby d1_41) rfl (tlt hc25).2.2.2 k) ?_
          exact J10
        · skip
          rw [(show (own_f_41 p1) = (1 : Int32) from if_neg hc25)]
          refine own_go (fun t k => XS.icmpYes X0.here hx rfl (pc0 := 41) (pc' := 191) rfl (hb hby d1_41) rfl (flt hc25).2.2.2 (by decide) (by decide) (XS.iconst X0.here hx rfl (hb hby d1_191) (XS.goto X0.here hx rfl (pc0 := 192) (pc' := 196) rfl (hb hby d1_192) (by decide) (by decide) k))) ?_
          show own_Fin p e below _ (s₁.setTop (mkF m 196 #[.val (.int p1)] [(.int (1 : Int32))]))
          exact own_out X0 (fun h => by rw [Bd.returns] at h; cases h) Bd.notSynchronized (fun fs hr => retN X0 hx (t := .boolean) Bd.returns (by simp) (hb hby d1_196) hr) ⟨rfl, N0, e0⟩ (by decide) (by decide)
  have J12 : own_Fin p e below (own_A s ({ frames := 0, cells := 0, slots := 0, locals := 0 } : Room).cells ({ frames := 0, cells := 0, slots := 0, locals := 0 } : Room).slots (own_P h0 n0 (.int (own_f_15 p1)))) (s₁.setTop (mkF m 12 #[.val (.int p1)] [])) := by
    refine own_go (fun t k => XS.iloadN X0.here hx rfl (hb hby d1_12) rfl  (XS.bipush X0.here hx rfl (hb hby d1_13) k)) ?_
    show own_Fin p e below _ (s₁.setTop (mkF m 15 #[.val (.int p1)] [(.int (65 : Int32)), (.int p1)]))
    by_cases hc26 : p1 < (65 : Int32)
    · skip
      rw [(show (own_f_15 p1) = (own_f_27 p1) from if_pos hc26)]
      refine own_go (fun t k => XS.icmpYes X0.here hx rfl (pc0 := 15) (pc' := 24) rfl (hb hby d1_15) rfl (tlt hc26).1 (by decide) (by decide) k) ?_
      exact J11
    · skip
      rw [(show (own_f_15 p1) = (own_f_21 p1) from if_neg hc26)]
      refine own_go (fun t k => XS.icmpNo X0.here hx rfl (hb hby d1_15) rfl (flt hc26).1 (XS.iloadN X0.here hx rfl (hb hby d1_18) rfl  (XS.bipush X0.here hx rfl (hb hby d1_19) k))) ?_
      show own_Fin p e below _ (s₁.setTop (mkF m 21 #[.val (.int p1)] [(.int (90 : Int32)), (.int p1)]))
      by_cases hc27 : (90 : Int32) < p1
      · skip
        rw [(show (own_f_21 p1) = (own_f_27 p1) from if_pos hc27)]
        refine own_go (fun t k => XS.icmpNo X0.here hx rfl (hb hby d1_21) rfl (tlt hc27).2.2.2 k) ?_
        exact J11
      · skip
        rw [(show (own_f_21 p1) = (1 : Int32) from if_neg hc27)]
        refine own_go (fun t k => XS.icmpYes X0.here hx rfl (pc0 := 21) (pc' := 191) rfl (hb hby d1_21) rfl (flt hc27).2.2.2 (by decide) (by decide) (XS.iconst X0.here hx rfl (hb hby d1_191) (XS.goto X0.here hx rfl (pc0 := 192) (pc' := 196) rfl (hb hby d1_192) (by decide) (by decide) k))) ?_
        show own_Fin p e below _ (s₁.setTop (mkF m 196 #[.val (.int p1)] [(.int (1 : Int32))]))
        exact own_out X0 (fun h => by rw [Bd.returns] at h; cases h) Bd.notSynchronized (fun fs hr => retN X0 hx (t := .boolean) Bd.returns (by simp) (hb hby d1_196) hr) ⟨rfl, N0, e0⟩ (by decide) (by decide)
  show own_Fin p e below _ (s₁.setTop (mkF m 0 #[.val (.int p1)] []))
  refine own_go (fun t k => XS.iloadN X0.here hx rfl (hb hby d1_0) rfl  (XS.bipush X0.here hx rfl (hb hby d1_1) k)) ?_
  show own_Fin p e below _ (s₁.setTop (mkF m 3 #[.val (.int p1)] [(.int (97 : Int32)), (.int p1)]))
  by_cases hc28 : p1 < (97 : Int32)
  · skip
    rw [(show (own_f_3 p1) = (own_f_15 p1) from if_pos hc28)]
    refine own_go (fun t k => XS.icmpYes X0.here hx rfl (pc0 := 3) (pc' := 12) rfl (hb hby d1_3) rfl (tlt hc28).1 (by decide) (by decide) k) ?_
    exact J12
  · skip
    rw [(show (own_f_3 p1) = (own_f_9 p1) from if_neg hc28)]
    refine own_go (fun t k => XS.icmpNo X0.here hx rfl (hb hby d1_3) rfl (flt hc28).1 (XS.iloadN X0.here hx rfl (hb hby d1_6) rfl  (XS.bipush X0.here hx rfl (hb hby d1_7) k))) ?_
    show own_Fin p e below _ (s₁.setTop (mkF m 9 #[.val (.int p1)] [(.int (122 : Int32)), (.int p1)]))
    by_cases hc29 : (122 : Int32) < p1
    · skip
      rw [(show (own_f_9 p1) = (own_f_15 p1) from if_pos hc29)]
      refine own_go (fun t k => XS.icmpNo X0.here hx rfl (hb hby d1_9) rfl (tlt hc29).2.2.2 k) ?_
      exact J12
    · skip
      rw [(show (own_f_9 p1) = (1 : Int32) from if_neg hc29)]
      refine own_go (fun t k => XS.icmpYes X0.here hx rfl (pc0 := 9) (pc' := 191) rfl (hb hby d1_9) rfl (flt hc29).2.2.2 (by decide) (by decide) (XS.iconst X0.here hx rfl (hb hby d1_191) (XS.goto X0.here hx rfl (pc0 := 192) (pc' := 196) rfl (hb hby d1_192) (by decide) (by decide) k))) ?_
      show own_Fin p e below _ (s₁.setTop (mkF m 196 #[.val (.int p1)] [(.int (1 : Int32))]))
      exact own_out X0 (fun h => by rw [Bd.returns] at h; cases h) Bd.notSynchronized (fun fs hr => retN X0 hx (t := .boolean) Bd.returns (by simp) (hb hby d1_196) hr) ⟨rfl, N0, e0⟩ (by decide) (by decide)
theorem d2_0 : decode method_2_code 0 = .ok (.iload_n 0, 1) := by decide +kernel
theorem d2_1 : decode method_2_code 1 = .ok (.bipush 65, 2) := by decide +kernel
theorem d2_3 : decode method_2_code 3 = .ok (.if_icmp .ge 5, 3) := by decide +kernel
theorem d2_6 : decode method_2_code 6 = .ok (.iconst 0, 1) := by decide +kernel
theorem d2_7 : decode method_2_code 7 = .ok (.ireturn, 1) := by decide +kernel
theorem d2_8 : decode method_2_code 8 = .ok (.iload_n 0, 1) := by decide +kernel
theorem d2_9 : decode method_2_code 9 = .ok (.bipush 90, 2) := by decide +kernel
theorem d2_11 : decode method_2_code 11 = .ok (.if_icmp .gt 5, 3) := by decide +kernel
theorem d2_14 : decode method_2_code 14 = .ok (.iconst 1, 1) := by decide +kernel
theorem d2_15 : decode method_2_code 15 = .ok (.ireturn, 1) := by decide +kernel
theorem d2_16 : decode method_2_code 16 = .ok (.iload_n 0, 1) := by decide +kernel
theorem d2_17 : decode method_2_code 17 = .ok (.bipush 97, 2) := by decide +kernel
theorem d2_19 : decode method_2_code 19 = .ok (.if_icmp .ge 15, 3) := by decide +kernel
theorem d2_22 : decode method_2_code 22 = .ok (.iload_n 0, 1) := by decide +kernel
theorem d2_23 : decode method_2_code 23 = .ok (.bipush 95, 2) := by decide +kernel
theorem d2_25 : decode method_2_code 25 = .ok (.if_icmp .ne 7, 3) := by decide +kernel
theorem d2_28 : decode method_2_code 28 = .ok (.iconst 1, 1) := by decide +kernel
theorem d2_29 : decode method_2_code 29 = .ok (.goto 4, 3) := by decide +kernel
theorem d2_32 : decode method_2_code 32 = .ok (.iconst 0, 1) := by decide +kernel
theorem d2_33 : decode method_2_code 33 = .ok (.ireturn, 1) := by decide +kernel
theorem d2_34 : decode method_2_code 34 = .ok (.iload_n 0, 1) := by decide +kernel
theorem d2_35 : decode method_2_code 35 = .ok (.bipush 122, 2) := by decide +kernel
theorem d2_37 : decode method_2_code 37 = .ok (.if_icmp .gt 5, 3) := by decide +kernel
theorem d2_40 : decode method_2_code 40 = .ok (.iconst 1, 1) := by decide +kernel
theorem d2_41 : decode method_2_code 41 = .ok (.ireturn, 1) := by decide +kernel
theorem d2_42 : decode method_2_code 42 = .ok (.iload_n 0, 1) := by decide +kernel
theorem d2_43 : decode method_2_code 43 = .ok (.sipush 192, 3) := by decide +kernel
theorem d2_46 : decode method_2_code 46 = .ok (.if_icmp .ge 5, 3) := by decide +kernel
theorem d2_49 : decode method_2_code 49 = .ok (.iconst 0, 1) := by decide +kernel
theorem d2_50 : decode method_2_code 50 = .ok (.ireturn, 1) := by decide +kernel
theorem d2_51 : decode method_2_code 51 = .ok (.iload_n 0, 1) := by decide +kernel
theorem d2_52 : decode method_2_code 52 = .ok (.sipush 767, 3) := by decide +kernel
theorem d2_55 : decode method_2_code 55 = .ok (.if_icmp .gt 23, 3) := by decide +kernel
theorem d2_58 : decode method_2_code 58 = .ok (.iload_n 0, 1) := by decide +kernel
theorem d2_59 : decode method_2_code 59 = .ok (.sipush 215, 3) := by decide +kernel
theorem d2_62 : decode method_2_code 62 = .ok (.if_icmp .eq 14, 3) := by decide +kernel
theorem d2_65 : decode method_2_code 65 = .ok (.iload_n 0, 1) := by decide +kernel
theorem d2_66 : decode method_2_code 66 = .ok (.sipush 247, 3) := by decide +kernel
theorem d2_69 : decode method_2_code 69 = .ok (.if_icmp .eq 7, 3) := by decide +kernel
theorem d2_72 : decode method_2_code 72 = .ok (.iconst 1, 1) := by decide +kernel
theorem d2_73 : decode method_2_code 73 = .ok (.goto 4, 3) := by decide +kernel
theorem d2_76 : decode method_2_code 76 = .ok (.iconst 0, 1) := by decide +kernel
theorem d2_77 : decode method_2_code 77 = .ok (.ireturn, 1) := by decide +kernel
theorem d2_78 : decode method_2_code 78 = .ok (.iload_n 0, 1) := by decide +kernel
theorem d2_79 : decode method_2_code 79 = .ok (.sipush 880, 3) := by decide +kernel
theorem d2_82 : decode method_2_code 82 = .ok (.if_icmp .ge 5, 3) := by decide +kernel
theorem d2_85 : decode method_2_code 85 = .ok (.iconst 0, 1) := by decide +kernel
theorem d2_86 : decode method_2_code 86 = .ok (.ireturn, 1) := by decide +kernel
theorem d2_87 : decode method_2_code 87 = .ok (.iload_n 0, 1) := by decide +kernel
theorem d2_88 : decode method_2_code 88 = .ok (.sipush 8191, 3) := by decide +kernel
theorem d2_91 : decode method_2_code 91 = .ok (.if_icmp .gt 16, 3) := by decide +kernel
theorem d2_94 : decode method_2_code 94 = .ok (.iload_n 0, 1) := by decide +kernel
theorem d2_95 : decode method_2_code 95 = .ok (.sipush 894, 3) := by decide +kernel
theorem d2_98 : decode method_2_code 98 = .ok (.if_icmp .eq 7, 3) := by decide +kernel
theorem d2_101 : decode method_2_code 101 = .ok (.iconst 1, 1) := by decide +kernel
theorem d2_102 : decode method_2_code 102 = .ok (.goto 4, 3) := by decide +kernel
theorem d2_105 : decode method_2_code 105 = .ok (.iconst 0, 1) := by decide +kernel
theorem d2_106 : decode method_2_code 106 = .ok (.ireturn, 1) := by decide +kernel
theorem d2_107 : decode method_2_code 107 = .ok (.iload_n 0, 1) := by decide +kernel
theorem d2_108 : decode method_2_code 108 = .ok (.sipush 8304, 3) := by decide +kernel
theorem d2_111 : decode method_2_code 111 = .ok (.if_icmp .ge 23, 3) := by decide +kernel
theorem d2_114 : decode method_2_code 114 = .ok (.iload_n 0, 1) := by decide +kernel
theorem d2_115 : decode method_2_code 115 = .ok (.sipush 8204, 3) := by decide +kernel
theorem d2_118 : decode method_2_code 118 = .ok (.if_icmp .eq 10, 3) := by decide +kernel
theorem d2_121 : decode method_2_code 121 = .ok (.iload_n 0, 1) := by decide +kernel
theorem d2_122 : decode method_2_code 122 = .ok (.sipush 8205, 3) := by decide +kernel
theorem d2_125 : decode method_2_code 125 = .ok (.if_icmp .ne 7, 3) := by decide +kernel
theorem d2_128 : decode method_2_code 128 = .ok (.iconst 1, 1) := by decide +kernel
theorem d2_129 : decode method_2_code 129 = .ok (.goto 4, 3) := by decide +kernel
theorem d2_132 : decode method_2_code 132 = .ok (.iconst 0, 1) := by decide +kernel
theorem d2_133 : decode method_2_code 133 = .ok (.ireturn, 1) := by decide +kernel
theorem d2_134 : decode method_2_code 134 = .ok (.iload_n 0, 1) := by decide +kernel
theorem d2_135 : decode method_2_code 135 = .ok (.sipush 8591, 3) := by decide +kernel
theorem d2_138 : decode method_2_code 138 = .ok (.if_icmp .gt 5, 3) := by decide +kernel
theorem d2_141 : decode method_2_code 141 = .ok (.iconst 1, 1) := by decide +kernel
theorem d2_142 : decode method_2_code 142 = .ok (.ireturn, 1) := by decide +kernel
theorem d2_143 : decode method_2_code 143 = .ok (.iload_n 0, 1) := by decide +kernel
theorem d2_144 : decode method_2_code 144 = .ok (.sipush 11264, 3) := by decide +kernel
theorem d2_147 : decode method_2_code 147 = .ok (.if_icmp .ge 5, 3) := by decide +kernel
theorem d2_150 : decode method_2_code 150 = .ok (.iconst 0, 1) := by decide +kernel
theorem d2_151 : decode method_2_code 151 = .ok (.ireturn, 1) := by decide +kernel
theorem d2_152 : decode method_2_code 152 = .ok (.iload_n 0, 1) := by decide +kernel
theorem d2_153 : decode method_2_code 153 = .ok (.sipush 12271, 3) := by decide +kernel
theorem d2_156 : decode method_2_code 156 = .ok (.if_icmp .gt 5, 3) := by decide +kernel
theorem d2_159 : decode method_2_code 159 = .ok (.iconst 1, 1) := by decide +kernel
theorem d2_160 : decode method_2_code 160 = .ok (.ireturn, 1) := by decide +kernel
theorem d2_161 : decode method_2_code 161 = .ok (.iload_n 0, 1) := by decide +kernel
theorem d2_162 : decode method_2_code 162 = .ok (.sipush 12288, 3) := by decide +kernel
theorem d2_165 : decode method_2_code 165 = .ok (.if_icmp .gt 5, 3) := by decide +kernel
theorem d2_168 : decode method_2_code 168 = .ok (.iconst 0, 1) := by decide +kernel
theorem d2_169 : decode method_2_code 169 = .ok (.ireturn, 1) := by decide +kernel
theorem d2_170 : decode method_2_code 170 = .ok (.iload_n 0, 1) := by decide +kernel
theorem d2_171 : decode method_2_code 171 = .ok (.ldc 7, 2) := by decide +kernel
theorem d2_173 : decode method_2_code 173 = .ok (.if_icmp .gt 5, 3) := by decide +kernel
theorem d2_176 : decode method_2_code 176 = .ok (.iconst 1, 1) := by decide +kernel
theorem d2_177 : decode method_2_code 177 = .ok (.ireturn, 1) := by decide +kernel
theorem d2_178 : decode method_2_code 178 = .ok (.iload_n 0, 1) := by decide +kernel
theorem d2_179 : decode method_2_code 179 = .ok (.ldc 8, 2) := by decide +kernel
theorem d2_181 : decode method_2_code 181 = .ok (.if_icmp .ge 5, 3) := by decide +kernel
theorem d2_184 : decode method_2_code 184 = .ok (.iconst 0, 1) := by decide +kernel
theorem d2_185 : decode method_2_code 185 = .ok (.ireturn, 1) := by decide +kernel
theorem d2_186 : decode method_2_code 186 = .ok (.iload_n 0, 1) := by decide +kernel
theorem d2_187 : decode method_2_code 187 = .ok (.ldc 9, 2) := by decide +kernel
theorem d2_189 : decode method_2_code 189 = .ok (.if_icmp .gt 21, 3) := by decide +kernel
theorem d2_192 : decode method_2_code 192 = .ok (.iload_n 0, 1) := by decide +kernel
theorem d2_193 : decode method_2_code 193 = .ok (.ldc 10, 2) := by decide +kernel
theorem d2_195 : decode method_2_code 195 = .ok (.if_icmp .lt 9, 3) := by decide +kernel
theorem d2_198 : decode method_2_code 198 = .ok (.iload_n 0, 1) := by decide +kernel
theorem d2_199 : decode method_2_code 199 = .ok (.ldc 11, 2) := by decide +kernel
theorem d2_201 : decode method_2_code 201 = .ok (.if_icmp .le 7, 3) := by decide +kernel
theorem d2_204 : decode method_2_code 204 = .ok (.iconst 1, 1) := by decide +kernel
theorem d2_205 : decode method_2_code 205 = .ok (.goto 4, 3) := by decide +kernel
theorem d2_208 : decode method_2_code 208 = .ok (.iconst 0, 1) := by decide +kernel
theorem d2_209 : decode method_2_code 209 = .ok (.ireturn, 1) := by decide +kernel
theorem d2_210 : decode method_2_code 210 = .ok (.iload_n 0, 1) := by decide +kernel
theorem d2_211 : decode method_2_code 211 = .ok (.ldc 12, 2) := by decide +kernel
theorem d2_213 : decode method_2_code 213 = .ok (.if_icmp .ge 5, 3) := by decide +kernel
theorem d2_216 : decode method_2_code 216 = .ok (.iconst 0, 1) := by decide +kernel
theorem d2_217 : decode method_2_code 217 = .ok (.ireturn, 1) := by decide +kernel
theorem d2_218 : decode method_2_code 218 = .ok (.iload_n 0, 1) := by decide +kernel
theorem d2_219 : decode method_2_code 219 = .ok (.ldc 13, 2) := by decide +kernel
theorem d2_221 : decode method_2_code 221 = .ok (.if_icmp .gt 7, 3) := by decide +kernel
theorem d2_224 : decode method_2_code 224 = .ok (.iconst 1, 1) := by decide +kernel
theorem d2_225 : decode method_2_code 225 = .ok (.goto 4, 3) := by decide +kernel
theorem d2_228 : decode method_2_code 228 = .ok (.iconst 0, 1) := by decide +kernel
theorem d2_229 : decode method_2_code 229 = .ok (.ireturn, 1) := by decide +kernel
theorem pn_1 : plainName "com/example/sound_verdict/soundverdict/XmlNameIsNameStartCharPinLaw" = true := by first | (simp [plainName, overriddenIn]; done) | decide +kernel
theorem ef_2 (m : MethodId) (x0 : Int32)  : entryFrame m #[(.int x0)] 1 = mkF m 0 #[.val (.int x0)] [] := by first | (simp [entryFrame, mkF, argsToLocals, Value.category]; done) | rfl
def own_g_25 (p1 : Int32) : Int32 := if p1 = (95 : Int32) then (1 : Int32) else (0 : Int32)
def own_g_125 (p1 : Int32) : Int32 := if p1 = (8205 : Int32) then (1 : Int32) else (0 : Int32)
def own_g_118 (p1 : Int32) : Int32 := if p1 = (8204 : Int32) then (1 : Int32) else (own_g_125 p1)
def own_g_221 (p1 : Int32) : Int32 := if (983039 : Int32) < p1 then (0 : Int32) else (1 : Int32)
def own_g_213 (p1 : Int32) : Int32 := if p1 < (65536 : Int32) then (0 : Int32) else (own_g_221 p1)
def own_g_201 (p1 : Int32) : Int32 := if (65007 : Int32) < p1 then (1 : Int32) else (0 : Int32)
def own_g_195 (p1 : Int32) : Int32 := if p1 < (64976 : Int32) then (1 : Int32) else (own_g_201 p1)
def own_g_189 (p1 : Int32) : Int32 := if (65533 : Int32) < p1 then (own_g_213 p1) else (own_g_195 p1)
def own_g_181 (p1 : Int32) : Int32 := if p1 < (63744 : Int32) then (0 : Int32) else (own_g_189 p1)
def own_g_173 (p1 : Int32) : Int32 := if (55295 : Int32) < p1 then (own_g_181 p1) else (1 : Int32)
def own_g_165 (p1 : Int32) : Int32 := if (12288 : Int32) < p1 then (own_g_173 p1) else (0 : Int32)
def own_g_156 (p1 : Int32) : Int32 := if (12271 : Int32) < p1 then (own_g_165 p1) else (1 : Int32)
def own_g_147 (p1 : Int32) : Int32 := if p1 < (11264 : Int32) then (0 : Int32) else (own_g_156 p1)
def own_g_138 (p1 : Int32) : Int32 := if (8591 : Int32) < p1 then (own_g_147 p1) else (1 : Int32)
def own_g_111 (p1 : Int32) : Int32 := if p1 < (8304 : Int32) then (own_g_118 p1) else (own_g_138 p1)
def own_g_98 (p1 : Int32) : Int32 := if p1 = (894 : Int32) then (0 : Int32) else (1 : Int32)
def own_g_91 (p1 : Int32) : Int32 := if (8191 : Int32) < p1 then (own_g_111 p1) else (own_g_98 p1)
def own_g_82 (p1 : Int32) : Int32 := if p1 < (880 : Int32) then (0 : Int32) else (own_g_91 p1)
def own_g_69 (p1 : Int32) : Int32 := if p1 = (247 : Int32) then (0 : Int32) else (1 : Int32)
def own_g_62 (p1 : Int32) : Int32 := if p1 = (215 : Int32) then (0 : Int32) else (own_g_69 p1)
def own_g_55 (p1 : Int32) : Int32 := if (767 : Int32) < p1 then (own_g_82 p1) else (own_g_62 p1)
def own_g_46 (p1 : Int32) : Int32 := if p1 < (192 : Int32) then (0 : Int32) else (own_g_55 p1)
def own_g_37 (p1 : Int32) : Int32 := if (122 : Int32) < p1 then (own_g_46 p1) else (1 : Int32)
def own_g_19 (p1 : Int32) : Int32 := if p1 < (97 : Int32) then (own_g_25 p1) else (own_g_37 p1)
def own_g_11 (p1 : Int32) : Int32 := if (90 : Int32) < p1 then (own_g_19 p1) else (1 : Int32)
def own_g_3 (p1 : Int32) : Int32 := if p1 < (65 : Int32) then (0 : Int32) else (own_g_11 p1)
set_option maxRecDepth 65536 in
set_option maxHeartbeats 40000000 in
theorem rm2 (l : Launch) (Z : State) (a0 : Array Value) (hw : ∀ d ∈ tables_1, d.before a0 Z = true) (ws : List Jvm.Cond) (p1 : Int32) (h0 : Heap) (n0 : Nat) (Z0 : n0 ≤ h0.size) :
    MetFree l (⟨"com/example/sound_verdict/soundverdict/XmlNameIsNameStartCharPinLaw", "ref", "(I)Z"⟩ : MethodName) (head1 (Jvm.Cond.code (⟨"com/example/sound_verdict/soundverdict/XmlNameIsNameStartCharPinLaw", "ref", "(I)Z"⟩ : MethodName) method_2_code 1 (some .boolean) :: ws) ({ frames := 0, cells := 0, slots := 0, locals := 0 } : Room)) (fun a U => a = #[(.int p1)] ∧ Z.Warmed39 U.vm ∧ U.heap = h0) (fun _ _ _ _ _ => True) (fun _ U o U' => ∃ v L, o = .returned v ∧ (own_P h0 n0 (.int (own_g_3 p1))) v U'.heap L ∧ FrameEnd U o U' L ({ frames := 0, cells := 0, slots := 0, locals := 0 } : Room).cells ({ frames := 0, cells := 0, slots := 0, locals := 0 } : Room).slots) := by
  refine MetFree.of_bodySF (plainFor_of_name pn_1) hisR ?_
  intro p e s m args below meth c s₁ Bd hml0 hP hK
  obtain ⟨rfl, hZ, hh⟩ := hP
  have hx := Bd.exec
  have hby := Bd.bytes
  have hml : c.maxLocals = 1 := hml0
  have hown : s.vm.findClass "com/example/sound_verdict/soundverdict/XmlNameIsNameStartCharPinLaw" = some m.cls := findClass_of_methodNamed Bd.named
  have hnm := (name_of_methodNamed Bd.named Bd.method).1
  have X0 : Stand p l e ({ frames := 0, cells := 0, slots := 0, locals := 0 } : Room) s m #[(.int p1)] below meth c s₁ [] 0 0 := Stand.of_body Bd
  have e0 : s₁.heap = h0 := by rw [← hh, Bd.state]; rfl
  have N0 := Fr.nil n0
  have hw_1 := hw _ (List.mem_of_getElem? (i := 1) rfl)
  have hw_2 := hw _ (List.mem_of_getElem? (i := 2) rfl)
  have hw_5 := hw _ (List.mem_of_getElem? (i := 5) rfl)
  have hw_6 := hw _ (List.mem_of_getElem? (i := 6) rfl)
  have hw_7 := hw _ (List.mem_of_getElem? (i := 7) rfl)
  have hw_24 := hw _ (List.mem_of_getElem? (i := 24) rfl)
  have hw_25 := hw _ (List.mem_of_getElem? (i := 25) rfl)
  show own_Fin p e below (own_A s ({ frames := 0, cells := 0, slots := 0, locals := 0 } : Room).cells ({ frames := 0, cells := 0, slots := 0, locals := 0 } : Room).slots (own_P h0 n0 (.int (own_g_3 p1)))) _
  refine own_go (fun t k => castTop (ef_2 m (p1)) k) ?_
  show own_Fin p e below _ (s₁.setTop (mkF m 0 #[.val (.int p1)] []))
  refine own_go (fun t k => XS.iloadN X0.here hx rfl (hb hby d2_0) rfl  (XS.bipush X0.here hx rfl (hb hby d2_1) k)) ?_
  show own_Fin p e below _ (s₁.setTop (mkF m 3 #[.val (.int p1)] [(.int (65 : Int32)), (.int p1)]))
  by_cases hc1 : p1 < (65 : Int32)
  · skip
    rw [(show (own_g_3 p1) = (0 : Int32) from if_pos hc1)]
    refine own_go (fun t k => XS.icmpNo X0.here hx rfl (hb hby d2_3) rfl (tlt hc1).2.1 (XS.iconst X0.here hx rfl (hb hby d2_6) k)) ?_
    show own_Fin p e below _ (s₁.setTop (mkF m 7 #[.val (.int p1)] [(.int (0 : Int32))]))
    exact own_out X0 (fun h => by rw [Bd.returns] at h; cases h) Bd.notSynchronized (fun fs hr => retN X0 hx (t := .boolean) Bd.returns (by simp) (hb hby d2_7) hr) ⟨rfl, N0, e0⟩ (by decide) (by decide)
  · skip
    rw [(show (own_g_3 p1) = (own_g_11 p1) from if_neg hc1)]
    refine own_go (fun t k => XS.icmpYes X0.here hx rfl (pc0 := 3) (pc' := 8) rfl (hb hby d2_3) rfl (flt hc1).2.1 (by decide) (by decide) (XS.iloadN X0.here hx rfl (hb hby d2_8) rfl  (XS.bipush X0.here hx rfl (hb hby d2_9) k))) ?_
    show own_Fin p e below _ (s₁.setTop (mkF m 11 #[.val (.int p1)] [(.int (90 : Int32)), (.int p1)]))
    by_cases hc2 : (90 : Int32) < p1
    · skip
      rw [(show (own_g_11 p1) = (own_g_19 p1) from if_pos hc2)]
      refine own_go (fun t k => XS.icmpYes X0.here hx rfl (pc0 := 11) (pc' := 16) rfl (hb hby d2_11) rfl (tlt hc2).2.2.1 (by decide) (by decide) (XS.iloadN X0.here hx rfl (hb hby d2_16) rfl  (XS.bipush X0.here hx rfl (hb hby d2_17) k))) ?_
      show own_Fin p e below _ (s₁.setTop (mkF m 19 #[.val (.int p1)] [(.int (97 : Int32)), (.int p1)]))
      by_cases hc3 : p1 < (97 : Int32)
      · skip
        rw [(show (own_g_19 p1) = (own_g_25 p1) from if_pos hc3)]
        refine own_go (fun t k => XS.icmpNo X0.here hx rfl (hb hby d2_19) rfl (tlt hc3).2.1 (XS.iloadN X0.here hx rfl (hb hby d2_22) rfl  (XS.bipush X0.here hx rfl (hb hby d2_23) k))) ?_
        show own_Fin p e below _ (s₁.setTop (mkF m 25 #[.val (.int p1)] [(.int (95 : Int32)), (.int p1)]))
        by_cases hc4 : p1 = (95 : Int32)
        · skip
          rw [(show (own_g_25 p1) = (1 : Int32) from if_pos hc4)]
          refine own_go (fun t k => XS.icmpNo X0.here hx rfl (hb hby d2_25) rfl (teq hc4).2 (XS.iconst X0.here hx rfl (hb hby d2_28) (XS.goto X0.here hx rfl (pc0 := 29) (pc' := 33) rfl (hb hby d2_29) (by decide) (by decide) k))) ?_
          show own_Fin p e below _ (s₁.setTop (mkF m 33 #[.val (.int p1)] [(.int (1 : Int32))]))
          exact own_out X0 (fun h => by rw [Bd.returns] at h; cases h) Bd.notSynchronized (fun fs hr => retN X0 hx (t := .boolean) Bd.returns (by simp) (hb hby d2_33) hr) ⟨rfl, N0, e0⟩ (by decide) (by decide)
        · skip
          rw [(show (own_g_25 p1) = (0 : Int32) from if_neg hc4)]
          refine own_go (fun t k => XS.icmpYes X0.here hx rfl (pc0 := 25) (pc' := 32) rfl (hb hby d2_25) rfl (feq hc4).2 (by decide) (by decide) (XS.iconst X0.here hx rfl (hb hby d2_32) k)) ?_
          show own_Fin p e below _ (s₁.setTop (mkF m 33 #[.val (.int p1)] [(.int (0 : Int32))]))
          exact own_out X0 (fun h => by rw [Bd.returns] at h; cases h) Bd.notSynchronized (fun fs hr => retN X0 hx (t := .boolean) Bd.returns (by simp) (hb hby d2_33) hr) ⟨rfl, N0, e0⟩ (by decide) (by decide)
      · skip
        rw [(show (own_g_19 p1) = (own_g_37 p1) from if_neg hc3)]
        refine own_go (fun t k => XS.icmpYes X0.here hx rfl (pc0 := 19) (pc' := 34) rfl (hb hby d2_19) rfl (flt hc3).2.1 (by decide) (by decide) (XS.iloadN X0.here hx rfl (hb hby d2_34) rfl  (XS.bipush X0.here hx rfl (hb hby d2_35) k))) ?_
        show own_Fin p e below _ (s₁.setTop (mkF m 37 #[.val (.int p1)] [(.int (122 : Int32)), (.int p1)]))
        by_cases hc5 : (122 : Int32) < p1
        · skip
          rw [(show (own_g_37 p1) = (own_g_46 p1) from if_pos hc5)]
          refine own_go (fun t k => XS.icmpYes X0.here hx rfl (pc0 := 37) (pc' := 42) rfl (hb hby d2_37) rfl (tlt hc5).2.2.1 (by decide) (by decide) (XS.iloadN X0.here hx rfl (hb hby d2_42) rfl  (XS.sipush X0.here hx rfl (hb hby d2_43) k))) ?_
          show own_Fin p e below _ (s₁.setTop (mkF m 46 #[.val (.int p1)] [(.int (192 : Int32)), (.int p1)]))
          by_cases hc6 : p1 < (192 : Int32)
          · skip
            rw [(show (own_g_46 p1) = (0 : Int32) from if_pos hc6)]
            refine own_go (fun t k => XS.icmpNo X0.here hx rfl (hb hby d2_46) rfl (tlt hc6).2.1 (XS.iconst X0.here hx rfl (hb hby d2_49) k)) ?_
            show own_Fin p e below _ (s₁.setTop (mkF m 50 #[.val (.int p1)] [(.int (0 : Int32))]))
            exact own_out X0 (fun h => by rw [Bd.returns] at h; cases h) Bd.notSynchronized (fun fs hr => retN X0 hx (t := .boolean) Bd.returns (by simp) (hb hby d2_50) hr) ⟨rfl, N0, e0⟩ (by decide) (by decide)
          · skip
            rw [(show (own_g_46 p1) = (own_g_55 p1) from if_neg hc6)]
            refine own_go (fun t k => XS.icmpYes X0.here hx rfl (pc0 := 46) (pc' := 51) rfl (hb hby d2_46) rfl (flt hc6).2.1 (by decide) (by decide) (XS.iloadN X0.here hx rfl (hb hby d2_51) rfl  (XS.sipush X0.here hx rfl (hb hby d2_52) k))) ?_
            show own_Fin p e below _ (s₁.setTop (mkF m 55 #[.val (.int p1)] [(.int (767 : Int32)), (.int p1)]))
            by_cases hc7 : (767 : Int32) < p1
            · skip
              rw [(show (own_g_55 p1) = (own_g_82 p1) from if_pos hc7)]
              refine own_go (fun t k => XS.icmpYes X0.here hx rfl (pc0 := 55) (pc' := 78) rfl (hb hby d2_55) rfl (tlt hc7).2.2.1 (by decide) (by decide) (XS.iloadN X0.here hx rfl (hb hby d2_78) rfl  (XS.sipush X0.here hx rfl (hb hby d2_79) k))) ?_
              show own_Fin p e below _ (s₁.setTop (mkF m 82 #[.val (.int p1)] [(.int (880 : Int32)), (.int p1)]))
              by_cases hc8 : p1 < (880 : Int32)
              · skip
                rw [(show (own_g_82 p1) = (0 : Int32) from if_pos hc8)]
                refine own_go (fun t k => XS.icmpNo X0.here hx rfl (hb hby d2_82) rfl (tlt hc8).2.1 (XS.iconst X0.here hx rfl (hb hby d2_85) k)) ?_
                show own_Fin p e below _ (s₁.setTop (mkF m 86 #[.val (.int p1)] [(.int (0 : Int32))]))
                exact own_out X0 (fun h => by rw [Bd.returns] at h; cases h) Bd.notSynchronized (fun fs hr => retN X0 hx (t := .boolean) Bd.returns (by simp) (hb hby d2_86) hr) ⟨rfl, N0, e0⟩ (by decide) (by decide)
              · skip
                rw [(show (own_g_82 p1) = (own_g_91 p1) from if_neg hc8)]
                refine own_go (fun t k => XS.icmpYes X0.here hx rfl (pc0 := 82) (pc' := 87) rfl (hb hby d2_82) rfl (flt hc8).2.1 (by decide) (by decide) (XS.iloadN X0.here hx rfl (hb hby d2_87) rfl  (XS.sipush X0.here hx rfl (hb hby d2_88) k))) ?_
                show own_Fin p e below _ (s₁.setTop (mkF m 91 #[.val (.int p1)] [(.int (8191 : Int32)), (.int p1)]))
                by_cases hc9 : (8191 : Int32) < p1
                · skip
                  rw [(show (own_g_91 p1) = (own_g_111 p1) from if_pos hc9)]
                  refine own_go (fun t k => XS.icmpYes X0.here hx rfl (pc0 := 91) (pc' := 107) rfl (hb hby d2_91) rfl (tlt hc9).2.2.1 (by decide) (by decide) (XS.iloadN X0.here hx rfl (hb hby d2_107) rfl  (XS.sipush X0.here hx rfl (hb hby d2_108) k))) ?_
                  show own_Fin p e below _ (s₁.setTop (mkF m 111 #[.val (.int p1)] [(.int (8304 : Int32)), (.int p1)]))
                  by_cases hc10 : p1 < (8304 : Int32)
                  · skip
                    rw [(show (own_g_111 p1) = (own_g_118 p1) from if_pos hc10)]
                    refine own_go (fun t k => XS.icmpNo X0.here hx rfl (hb hby d2_111) rfl (tlt hc10).2.1 (XS.iloadN X0.here hx rfl (hb hby d2_114) rfl  (XS.sipush X0.here hx rfl (hb hby d2_115) k))) ?_
                    show own_Fin p e below _ (s₁.setTop (mkF m 118 #[.val (.int p1)] [(.int (8204 : Int32)), (.int p1)]))
                    by_cases hc11 : p1 = (8204 : Int32)
                    · skip
                      rw [(show (own_g_118 p1) = (1 : Int32) from if_pos hc11)]
                      refine own_go (fun t k => XS.icmpYes X0.here hx rfl (pc0 := 118) (pc' := 128) rfl (hb hby d2_118) rfl (teq hc11).1 (by decide) (by decide) (XS.iconst X0.here hx rfl (hb hby d2_128) (XS.goto X0.here hx rfl (pc0 := 129) (pc' := 133) rfl (hb hby d2_129) (by decide) (by decide) k))) ?_
                      show own_Fin p e below _ (s₁.setTop (mkF m 133 #[.val (.int p1)] [(.int (1 : Int32))]))
                      exact own_out X0 (fun h => by rw [Bd.returns] at h; cases h) Bd.notSynchronized (fun fs hr => retN X0 hx (t := .boolean) Bd.returns (by simp) (hb hby d2_133) hr) ⟨rfl, N0, e0⟩ (by decide) (by decide)
                    · skip
                      rw [(show (own_g_118 p1) = (own_g_125 p1) from if_neg hc11)]
                      refine own_go (fun t k => XS.icmpNo X0.here hx rfl (hb hby d2_118) rfl (feq hc11).1 (XS.iloadN X0.here hx rfl (hb hby d2_121) rfl  (XS.sipush X0.here hx rfl (hb hby d2_122) k))) ?_
                      show own_Fin p e below _ (s₁.setTop (mkF m 125 #[.val (.int p1)] [(.int (8205 : Int32)), (.int p1)]))
                      by_cases hc12 : p1 = (8205 : Int32)
                      · skip
                        rw [(show (own_g_125 p1) = (1 : Int32) from if_pos hc12)]
                        refine own_go (fun t k => XS.icmpNo X0.here hx rfl (hb hby d2_125) rfl (teq hc12).2 (XS.iconst X0.here hx rfl (hb hby d2_128) (XS.goto X0.here hx rfl (pc0 := 129) (pc' := 133) rfl (hb hby d2_129) (by decide) (by decide) k))) ?_
                        show own_Fin p e below _ (s₁.setTop (mkF m 133 #[.val (.int p1)] [(.int (1 : Int32))]))
                        exact own_out X0 (fun h => by rw [Bd.returns] at h; cases h) Bd.notSynchronized (fun fs hr => retN X0 hx (t := .boolean) Bd.returns (by simp) (hb hby d2_133) hr) ⟨rfl, N0, e0⟩ (by decide) (by decide)
                      · skip
                        rw [(show (own_g_125 p1) = (0 : Int32) from if_neg hc12)]
                        refine own_go (fun t k => XS.icmpYes X0.here hx rfl (pc0 := 125) (pc' := 132) rfl (hb hby d2_125) rfl (feq hc12).2 (by decide) (by decide) (XS.iconst X0.here hx rfl (hb hby d2_132) k)) ?_
                        show own_Fin p e below _ (s₁.setTop (mkF m 133 #[.val (.int p1)] [(.int (0 : Int32))]))
                        exact own_out X0 (fun h => by rw [Bd.returns] at h; cases h) Bd.notSynchronized (fun fs hr => retN X0 hx (t := .boolean) Bd.returns (by simp) (hb hby d2_133) hr) ⟨rfl, N0, e0⟩ (by decide) (by decide)
                  · skip
                    rw [(show (own_g_111 p1) = (own_g_138 p1) from if_neg hc10)]
                    refine own_go (fun t k => XS.icmpYes X0.here hx rfl (pc0 := 111) (pc' := 134) rfl (hb hby d2_111) rfl (flt hc10).2.1 (by decide) (by decide) (XS.iloadN X0.here hx rfl (hb hby d2_134) rfl  (XS.sipush X0.here hx rfl (hb hby d2_135) k))) ?_
                    show own_Fin p e below _ (s₁.setTop (mkF m 138 #[.val (.int p1)] [(.int (8591 : Int32)), (.int p1)]))
                    by_cases hc13 : (8591 : Int32) < p1
                    · skip
                      rw [(show (own_g_138 p1) = (own_g_147 p1) from if_pos hc13)]
                      refine own_go (fun t k => XS.icmpYes X0.here hx rfl (pc0 := 138) (pc' := 143) rfl (hb hby d2_138) rfl (tlt hc13).2.2.1 (by decide) (by decide) (XS.iloadN X0.here hx rfl (hb hby d2_143) rfl  (XS.sipush X0.here hx rfl (hb hby d2_144) k))) ?_
                      show own_Fin p e below _ (s₁.setTop (mkF m 147 #[.val (.int p1)] [(.int (11264 : Int32)), (.int p1)]))
                      by_cases hc14 : p1 < (11264 : Int32)
                      · skip
                        rw [(show (own_g_147 p1) = (0 : Int32) from if_pos hc14)]
                        refine own_go (fun t k => XS.icmpNo X0.here hx rfl (hb hby d2_147) rfl (tlt hc14).2.1 (XS.iconst X0.here hx rfl (hb hby d2_150) k)) ?_
                        show own_Fin p e below _ (s₁.setTop (mkF m 151 #[.val (.int p1)] [(.int (0 : Int32))]))
                        exact own_out X0 (fun h => by rw [Bd.returns] at h; cases h) Bd.notSynchronized (fun fs hr => retN X0 hx (t := .boolean) Bd.returns (by simp) (hb hby d2_151) hr) ⟨rfl, N0, e0⟩ (by decide) (by decide)
                      · skip
                        rw [(show (own_g_147 p1) = (own_g_156 p1) from if_neg hc14)]
                        refine own_go (fun t k => XS.icmpYes X0.here hx rfl (pc0 := 147) (pc' := 152) rfl (hb hby d2_147) rfl (flt hc14).2.1 (by decide) (by decide) (XS.iloadN X0.here hx rfl (hb hby d2_152) rfl  (XS.sipush X0.here hx rfl (hb hby d2_153) k))) ?_
                        show own_Fin p e below _ (s₁.setTop (mkF m 156 #[.val (.int p1)] [(.int (12271 : Int32)), (.int p1)]))
                        by_cases hc15 : (12271 : Int32) < p1
                        · skip
                          rw [(show (own_g_156 p1) = (own_g_165 p1) from if_pos hc15)]
                          refine own_go (fun t k => XS.icmpYes X0.here hx rfl (pc0 := 156) (pc' := 161) rfl (hb hby d2_156) rfl (tlt hc15).2.2.1 (by decide) (by decide) (XS.iloadN X0.here hx rfl (hb hby d2_161) rfl  (XS.sipush X0.here hx rfl (hb hby d2_162) k))) ?_
                          show own_Fin p e below _ (s₁.setTop (mkF m 165 #[.val (.int p1)] [(.int (12288 : Int32)), (.int p1)]))
                          by_cases hc16 : (12288 : Int32) < p1
                          · skip
                            rw [(show (own_g_165 p1) = (own_g_173 p1) from if_pos hc16)]
                            refine own_go (fun t k => XS.icmpYes X0.here hx rfl (pc0 := 165) (pc' := 170) rfl (hb hby d2_165) rfl (tlt hc16).2.2.1 (by decide) (by decide) (XS.iloadN X0.here hx rfl (hb hby d2_170) rfl  k)) ?_
                            show own_Fin p e below _ (s₁.setTop (mkF m 171 #[.val (.int p1)] [(.int p1)]))
                            refine own_go (fun t k => X0.ldcInt hx hown (mvT hZ hw_1) (g := (mkF m 171 #[.val (.int p1)] [(.int p1)])) rfl (hb hby d2_171) _ k) ?_
                            show own_Fin p e below _ (s₁.setTop (mkF m 173 #[.val (.int p1)] [(.int (55295 : Int32)), (.int p1)]))
                            by_cases hc17 : (55295 : Int32) < p1
                            · skip
                              rw [(show (own_g_173 p1) = (own_g_181 p1) from if_pos hc17)]
                              refine own_go (fun t k => XS.icmpYes X0.here hx rfl (pc0 := 173) (pc' := 178) rfl (hb hby d2_173) rfl (tlt hc17).2.2.1 (by decide) (by decide) (XS.iloadN X0.here hx rfl (hb hby d2_178) rfl  k)) ?_
                              show own_Fin p e below _ (s₁.setTop (mkF m 179 #[.val (.int p1)] [(.int p1)]))
                              refine own_go (fun t k => X0.ldcInt hx hown (mvT hZ hw_2) (g := (mkF m 179 #[.val (.int p1)] [(.int p1)])) rfl (hb hby d2_179) _ k) ?_
                              show own_Fin p e below _ (s₁.setTop (mkF m 181 #[.val (.int p1)] [(.int (63744 : Int32)), (.int p1)]))
                              by_cases hc18 : p1 < (63744 : Int32)
                              · skip
                                rw [(show (own_g_181 p1) = (0 : Int32) from if_pos hc18)]
                                refine own_go (fun t k => XS.icmpNo X0.here hx rfl (hb hby d2_181) rfl (tlt hc18).2.1 (XS.iconst X0.here hx rfl (hb hby d2_184) k)) ?_
                                show own_Fin p e below _ (s₁.setTop (mkF m 185 #[.val (.int p1)] [(.int (0 : Int32))]))
                                exact own_out X0 (fun h => by rw [Bd.returns] at h; cases h) Bd.notSynchronized (fun fs hr => retN X0 hx (t := .boolean) Bd.returns (by simp) (hb hby d2_185) hr) ⟨rfl, N0, e0⟩ (by decide) (by decide)
                              · skip
                                rw [(show (own_g_181 p1) = (own_g_189 p1) from if_neg hc18)]
                                refine own_go (fun t k => XS.icmpYes X0.here hx rfl (pc0 := 181) (pc' := 186) rfl (hb hby d2_181) rfl (flt hc18).2.1 (by decide) (by decide) (XS.iloadN X0.here hx rfl (hb hby d2_186) rfl  k)) ?_
                                show own_Fin p e below _ (s₁.setTop (mkF m 187 #[.val (.int p1)] [(.int p1)]))
                                refine own_go (fun t k => X0.ldcInt hx hown (mvT hZ hw_5) (g := (mkF m 187 #[.val (.int p1)] [(.int p1)])) rfl (hb hby d2_187) _ k) ?_
                                show own_Fin p e below _ (s₁.setTop (mkF m 189 #[.val (.int p1)] [(.int (65533 : Int32)), (.int p1)]))
                                by_cases hc19 : (65533 : Int32) < p1
                                · skip
                                  rw [(show (own_g_189 p1) = (own_g_213 p1) from if_pos hc19)]
                                  refine own_go (fun t k => XS.icmpYes X0.here hx rfl (pc0 := 189) (pc' := 210) rfl (hb hby d2_189) rfl (tlt hc19).2.2.1 (by decide) (by decide) (XS.iloadN X0.here hx rfl (hb hby d2_210) rfl  k)) ?_
                                  show own_Fin p e below _ (s₁.setTop (mkF m 211 #[.val (.int p1)] [(.int p1)]))
                                  refine own_go (fun t k => X0.ldcInt hx hown (mvT hZ hw_6) (g := (mkF m 211 #[.val (.int p1)] [(.int p1)])) rfl (hb hby d2_211) _ k) ?_
                                  show own_Fin p e below _ (s₁.setTop (mkF m 213 #[.val (.int p1)] [(.int (65536 : Int32)), (.int p1)]))
                                  by_cases hc20 : p1 < (65536 : Int32)
                                  · skip
                                    rw [(show (own_g_213 p1) = (0 : Int32) from if_pos hc20)]
                                    refine own_go (fun t k => XS.icmpNo X0.here hx rfl (hb hby d2_213) rfl (tlt hc20).2.1 (XS.iconst X0.here hx rfl (hb hby d2_216) k)) ?_
                                    show own_Fin p e below _ (s₁.setTop (mkF m 217 #[.val (.int p1)] [(.int (0 : Int32))]))
                                    exact own_out X0 (fun h => by rw [Bd.returns] at h; cases h) Bd.notSynchronized (fun fs hr => retN X0 hx (t := .boolean) Bd.returns (by simp) (hb hby d2_217) hr) ⟨rfl, N0, e0⟩ (by decide) (by decide)
                                  · skip
                                    rw [(show (own_g_213 p1) = (own_g_221 p1) from if_neg hc20)]
                                    refine own_go (fun t k => XS.icmpYes X0.here hx rfl (pc0 := 213) (pc' := 218) rfl (hb hby d2_213) rfl (flt hc20).2.1 (by decide) (by decide) (XS.iloadN X0.here hx rfl (hb hby d2_218) rfl  k)) ?_
                                    show own_Fin p e below _ (s₁.setTop (mkF m 219 #[.val (.int p1)] [(.int p1)]))
                                    refine own_go (fun t k => X0.ldcInt hx hown (mvT hZ hw_7) (g := (mkF m 219 #[.val (.int p1)] [(.int p1)])) rfl (hb hby d2_219) _ k) ?_
                                    show own_Fin p e below _ (s₁.setTop (mkF m 221 #[.val (.int p1)] [(.int (983039 : Int32)), (.int p1)]))
                                    by_cases hc21 : (983039 : Int32) < p1
                                    · skip
                                      rw [(show (own_g_221 p1) = (0 : Int32) from if_pos hc21)]
                                      refine own_go (fun t k => XS.icmpYes X0.here hx rfl (pc0 := 221) (pc' := 228) rfl (hb hby d2_221) rfl (tlt hc21).2.2.1 (by decide) (by decide) (XS.iconst X0.here hx rfl (hb hby d2_228) k)) ?_
                                      show own_Fin p e below _ (s₁.setTop (mkF m 229 #[.val (.int p1)] [(.int (0 : Int32))]))
                                      exact own_out X0 (fun h => by rw [Bd.returns] at h; cases h) Bd.notSynchronized (fun fs hr => retN X0 hx (t := .boolean) Bd.returns (by simp) (hb hby d2_229) hr) ⟨rfl, N0, e0⟩ (by decide) (by decide)
                                    · skip
                                      rw [(show (own_g_221 p1) = (1 : Int32) from if_neg hc21)]
                                      refine own_go (fun t k => XS.icmpNo X0.here hx rfl (hb hby d2_221) rfl (flt hc21).2.2.1 (XS.iconst X0.here hx rfl (hb hby d2_224) (XS.goto X0.here hx rfl (pc0 := 225) (pc' := 229) rfl (hb hby d2_225) (by decide) (by decide) k))) ?_
                                      show own_Fin p e below _ (s₁.setTop (mkF m 229 #[.val (.int p1)] [(.int (1 : Int32))]))
                                      exact own_out X0 (fun h => by rw [Bd.returns] at h; cases h) Bd.notSynchronized (fun fs hr => retN X0 hx (t := .boolean) Bd.returns (by simp) (hb hby d2_229) hr) ⟨rfl, N0, e0⟩ (by decide) (by decide)
                                · skip
                                  rw [(show (own_g_189 p1) = (own_g_195 p1) from if_neg hc19)]
                                  refine own_go (fun t k => XS.icmpNo X0.here hx rfl (hb hby d2_189) rfl (flt hc19).2.2.1 (XS.iloadN X0.here hx rfl (hb hby d2_192) rfl  k)) ?_
                                  show own_Fin p e below _ (s₁.setTop (mkF m 193 #[.val (.int p1)] [(.int p1)]))
                                  refine own_go (fun t k => X0.ldcInt hx hown (mvT hZ hw_24) (g := (mkF m 193 #[.val (.int p1)] [(.int p1)])) rfl (hb hby d2_193) _ k) ?_
                                  show own_Fin p e below _ (s₁.setTop (mkF m 195 #[.val (.int p1)] [(.int (64976 : Int32)), (.int p1)]))
                                  by_cases hc22 : p1 < (64976 : Int32)
                                  · skip
                                    rw [(show (own_g_195 p1) = (1 : Int32) from if_pos hc22)]
                                    refine own_go (fun t k => XS.icmpYes X0.here hx rfl (pc0 := 195) (pc' := 204) rfl (hb hby d2_195) rfl (tlt hc22).1 (by decide) (by decide) (XS.iconst X0.here hx rfl (hb hby d2_204) (XS.goto X0.here hx rfl (pc0 := 205) (pc' := 209) rfl (hb hby d2_205) (by decide) (by decide) k))) ?_
                                    show own_Fin p e below _ (s₁.setTop (mkF m 209 #[.val (.int p1)] [(.int (1 : Int32))]))
                                    exact own_out X0 (fun h => by rw [Bd.returns] at h; cases h) Bd.notSynchronized (fun fs hr => retN X0 hx (t := .boolean) Bd.returns (by simp) (hb hby d2_209) hr) ⟨rfl, N0, e0⟩ (by decide) (by decide)
                                  · skip
                                    rw [(show (own_g_195 p1) = (own_g_201 p1) from if_neg hc22)]
                                    refine own_go (fun t k => XS.icmpNo X0.here hx rfl (hb hby d2_195) rfl (flt hc22).1 (XS.iloadN X0.here hx rfl (hb hby d2_198) rfl  k)) ?_
                                    show own_Fin p e below _ (s₁.setTop (mkF m 199 #[.val (.int p1)] [(.int p1)]))
                                    refine own_go (fun t k => X0.ldcInt hx hown (mvT hZ hw_25) (g := (mkF m 199 #[.val (.int p1)] [(.int p1)])) rfl (hb hby d2_199) _ k) ?_
                                    show own_Fin p e below _ (s₁.setTop (mkF m 201 #[.val (.int p1)] [(.int (65007 : Int32)), (.int p1)]))
                                    by_cases hc23 : (65007 : Int32) < p1
                                    · skip
                                      rw [(show (own_g_201 p1) = (1 : Int32) from if_pos hc23)]
                                      refine own_go (fun t k => XS.icmpNo X0.here hx rfl (hb hby d2_201) rfl (tlt hc23).2.2.2 (XS.iconst X0.here hx rfl (hb hby d2_204) (XS.goto X0.here hx rfl (pc0 := 205) (pc' := 209) rfl (hb hby d2_205) (by decide) (by decide) k))) ?_
                                      show own_Fin p e below _ (s₁.setTop (mkF m 209 #[.val (.int p1)] [(.int (1 : Int32))]))
                                      exact own_out X0 (fun h => by rw [Bd.returns] at h; cases h) Bd.notSynchronized (fun fs hr => retN X0 hx (t := .boolean) Bd.returns (by simp) (hb hby d2_209) hr) ⟨rfl, N0, e0⟩ (by decide) (by decide)
                                    · skip
                                      rw [(show (own_g_201 p1) = (0 : Int32) from if_neg hc23)]
                                      refine own_go (fun t k => XS.icmpYes X0.here hx rfl (pc0 := 201) (pc' := 208) rfl (hb hby d2_201) rfl (flt hc23).2.2.2 (by decide) (by decide) (XS.iconst X0.here hx rfl (hb hby d2_208) k)) ?_
                                      show own_Fin p e below _ (s₁.setTop (mkF m 209 #[.val (.int p1)] [(.int (0 : Int32))]))
                                      exact own_out X0 (fun h => by rw [Bd.returns] at h; cases h) Bd.notSynchronized (fun fs hr => retN X0 hx (t := .boolean) Bd.returns (by simp) (hb hby d2_209) hr) ⟨rfl, N0, e0⟩ (by decide) (by decide)
                            · skip
                              rw [(show (own_g_173 p1) = (1 : Int32) from if_neg hc17)]
                              refine own_go (fun t k => XS.icmpNo X0.here hx rfl (hb hby d2_173) rfl (flt hc17).2.2.1 (XS.iconst X0.here hx rfl (hb hby d2_176) k)) ?_
                              show own_Fin p e below _ (s₁.setTop (mkF m 177 #[.val (.int p1)] [(.int (1 : Int32))]))
                              exact own_out X0 (fun h => by rw [Bd.returns] at h; cases h) Bd.notSynchronized (fun fs hr => retN X0 hx (t := .boolean) Bd.returns (by simp) (hb hby d2_177) hr) ⟨rfl, N0, e0⟩ (by decide) (by decide)
                          · skip
                            rw [(show (own_g_165 p1) = (0 : Int32) from if_neg hc16)]
                            refine own_go (fun t k => XS.icmpNo X0.here hx rfl (hb hby d2_165) rfl (flt hc16).2.2.1 (XS.iconst X0.here hx rfl (hb hby d2_168) k)) ?_
                            show own_Fin p e below _ (s₁.setTop (mkF m 169 #[.val (.int p1)] [(.int (0 : Int32))]))
                            exact own_out X0 (fun h => by rw [Bd.returns] at h; cases h) Bd.notSynchronized (fun fs hr => retN X0 hx (t := .boolean) Bd.returns (by simp) (hb hby d2_169) hr) ⟨rfl, N0, e0⟩ (by decide) (by decide)
                        · skip
                          rw [(show (own_g_156 p1) = (1 : Int32) from if_neg hc15)]
                          refine own_go (fun t k => XS.icmpNo X0.here hx rfl (hb hby d2_156) rfl (flt hc15).2.2.1 (XS.iconst X0.here hx rfl (hb hby d2_159) k)) ?_
                          show own_Fin p e below _ (s₁.setTop (mkF m 160 #[.val (.int p1)] [(.int (1 : Int32))]))
                          exact own_out X0 (fun h => by rw [Bd.returns] at h; cases h) Bd.notSynchronized (fun fs hr => retN X0 hx (t := .boolean) Bd.returns (by simp) (hb hby d2_160) hr) ⟨rfl, N0, e0⟩ (by decide) (by decide)
                    · skip
                      rw [(show (own_g_138 p1) = (1 : Int32) from if_neg hc13)]
                      refine own_go (fun t k => XS.icmpNo X0.here hx rfl (hb hby d2_138) rfl (flt hc13).2.2.1 (XS.iconst X0.here hx rfl (hb hby d2_141) k)) ?_
                      show own_Fin p e below _ (s₁.setTop (mkF m 142 #[.val (.int p1)] [(.int (1 : Int32))]))
                      exact own_out X0 (fun h => by rw [Bd.returns] at h; cases h) Bd.notSynchronized (fun fs hr => retN X0 hx (t := .boolean) Bd.returns (by simp) (hb hby d2_142) hr) ⟨rfl, N0, e0⟩ (by decide) (by decide)
                · skip
                  rw [(show (own_g_91 p1) = (own_g_98 p1) from if_neg hc9)]
                  refine own_go (fun t k => XS.icmpNo X0.here hx rfl (hb hby d2_91) rfl (flt hc9).2.2.1 (XS.iloadN X0.here hx rfl (hb hby d2_94) rfl  (XS.sipush X0.here hx rfl (hb hby d2_95) k))) ?_
                  show own_Fin p e below _ (s₁.setTop (mkF m 98 #[.val (.int p1)] [(.int (894 : Int32)), (.int p1)]))
                  by_cases hc24 : p1 = (894 : Int32)
                  · skip
                    rw [(show (own_g_98 p1) = (0 : Int32) from if_pos hc24)]
                    refine own_go (fun t k => XS.icmpYes X0.here hx rfl (pc0 := 98) (pc' := 105) rfl (hb hby d2_98) rfl (teq hc24).1 (by decide) (by decide) (XS.iconst X0.here hx rfl (hb hby d2_105) k)) ?_
                    show own_Fin p e below _ (s₁.setTop (mkF m 106 #[.val (.int p1)] [(.int (0 : Int32))]))
                    exact own_out X0 (fun h => by rw [Bd.returns] at h; cases h) Bd.notSynchronized (fun fs hr => retN X0 hx (t := .boolean) Bd.returns (by simp) (hb hby d2_106) hr) ⟨rfl, N0, e0⟩ (by decide) (by decide)
                  · skip
                    rw [(show (own_g_98 p1) = (1 : Int32) from if_neg hc24)]
                    refine own_go (fun t k => XS.icmpNo X0.here hx rfl (hb hby d2_98) rfl (feq hc24).1 (XS.iconst X0.here hx rfl (hb hby d2_101) (XS.goto X0.here hx rfl (pc0 := 102) (pc' := 106) rfl (hb hby d2_102) (by decide) (by decide) k))) ?_
                    show own_Fin p e below _ (s₁.setTop (mkF m 106 #[.val (.int p1)] [(.int (1 : Int32))]))
                    exact own_out X0 (fun h => by rw [Bd.returns] at h; cases h) Bd.notSynchronized (fun fs hr => retN X0 hx (t := .boolean) Bd.returns (by simp) (hb hby d2_106) hr) ⟨rfl, N0, e0⟩ (by decide) (by decide)
            · skip
              rw [(show (own_g_55 p1) = (own_g_62 p1) from if_neg hc7)]
              refine own_go (fun t k => XS.icmpNo X0.here hx rfl (hb hby d2_55) rfl (flt hc7).2.2.1 (XS.iloadN X0.here hx rfl (hb hby d2_58) rfl  (XS.sipush X0.here hx rfl (hb hby d2_59) k))) ?_
              show own_Fin p e below _ (s₁.setTop (mkF m 62 #[.val (.int p1)] [(.int (215 : Int32)), (.int p1)]))
              by_cases hc25 : p1 = (215 : Int32)
              · skip
                rw [(show (own_g_62 p1) = (0 : Int32) from if_pos hc25)]
                refine own_go (fun t k => XS.icmpYes X0.here hx rfl (pc0 := 62) (pc' := 76) rfl (hb hby d2_62) rfl (teq hc25).1 (by decide) (by decide) (XS.iconst X0.here hx rfl (hb hby d2_76) k)) ?_
                show own_Fin p e below _ (s₁.setTop (mkF m 77 #[.val (.int p1)] [(.int (0 : Int32))]))
                exact own_out X0 (fun h => by rw [Bd.returns] at h; cases h) Bd.notSynchronized (fun fs hr => retN X0 hx (t := .boolean) Bd.returns (by simp) (hb hby d2_77) hr) ⟨rfl, N0, e0⟩ (by decide) (by decide)
              · skip
                rw [(show (own_g_62 p1) = (own_g_69 p1) from if_neg hc25)]
                refine own_go (fun t k => XS.icmpNo X0.here hx rfl (hb hby d2_62) rfl (feq hc25).1 (XS.iloadN X0.here hx rfl (hb hby d2_65) rfl  (XS.sipush X0.here hx rfl (hb hby d2_66) k))) ?_
                show own_Fin p e below _ (s₁.setTop (mkF m 69 #[.val (.int p1)] [(.int (247 : Int32)), (.int p1)]))
                by_cases hc26 : p1 = (247 : Int32)
                · skip
                  rw [(show (own_g_69 p1) = (0 : Int32) from if_pos hc26)]
                  refine own_go (fun t k => XS.icmpYes X0.here hx rfl (pc0 := 69) (pc' := 76) rfl (hb hby d2_69) rfl (teq hc26).1 (by decide) (by decide) (XS.iconst X0.here hx rfl (hb hby d2_76) k)) ?_
                  show own_Fin p e below _ (s₁.setTop (mkF m 77 #[.val (.int p1)] [(.int (0 : Int32))]))
                  exact own_out X0 (fun h => by rw [Bd.returns] at h; cases h) Bd.notSynchronized (fun fs hr => retN X0 hx (t := .boolean) Bd.returns (by simp) (hb hby d2_77) hr) ⟨rfl, N0, e0⟩ (by decide) (by decide)
                · skip
                  rw [(show (own_g_69 p1) = (1 : Int32) from if_neg hc26)]
                  refine own_go (fun t k => XS.icmpNo X0.here hx rfl (hb hby d2_69) rfl (feq hc26).1 (XS.iconst X0.here hx rfl (hb hby d2_72) (XS.goto X0.here hx rfl (pc0 := 73) (pc' := 77) rfl (hb hby d2_73) (by decide) (by decide) k))) ?_
                  show own_Fin p e below _ (s₁.setTop (mkF m 77 #[.val (.int p1)] [(.int (1 : Int32))]))
                  exact own_out X0 (fun h => by rw [Bd.returns] at h; cases h) Bd.notSynchronized (fun fs hr => retN X0 hx (t := .boolean) Bd.returns (by simp) (hb hby d2_77) hr) ⟨rfl, N0, e0⟩ (by decide) (by decide)
        · skip
          rw [(show (own_g_37 p1) = (1 : Int32) from if_neg hc5)]
          refine own_go (fun t k => XS.icmpNo X0.here hx rfl (hb hby d2_37) rfl (flt hc5).2.2.1 (XS.iconst X0.here hx rfl (hb hby d2_40) k)) ?_
          show own_Fin p e below _ (s₁.setTop (mkF m 41 #[.val (.int p1)] [(.int (1 : Int32))]))
          exact own_out X0 (fun h => by rw [Bd.returns] at h; cases h) Bd.notSynchronized (fun fs hr => retN X0 hx (t := .boolean) Bd.returns (by simp) (hb hby d2_41) hr) ⟨rfl, N0, e0⟩ (by decide) (by decide)
    · skip
      rw [(show (own_g_11 p1) = (1 : Int32) from if_neg hc2)]
      refine own_go (fun t k => XS.icmpNo X0.here hx rfl (hb hby d2_11) rfl (flt hc2).2.2.1 (XS.iconst X0.here hx rfl (hb hby d2_14) k)) ?_
      show own_Fin p e below _ (s₁.setTop (mkF m 15 #[.val (.int p1)] [(.int (1 : Int32))]))
      exact own_out X0 (fun h => by rw [Bd.returns] at h; cases h) Bd.notSynchronized (fun fs hr => retN X0 hx (t := .boolean) Bd.returns (by simp) (hb hby d2_15) hr) ⟨rfl, N0, e0⟩ (by decide) (by decide)
theorem own_ints (vs : List Int32) (k : Nat) : ∃ z : Int32, (vs.map Value.int).getD k (.int (0 : Int32)) = .int z := ⟨vs.getD k 0, by simp only [List.getD_eq_getElem?_getD, List.getElem?_map]; cases vs[k]? <;> rfl⟩
theorem own_idx (p : Int32) : ¬ ((p &&& (2147483647 : Int32)) % (29 : Int32)) < 0 ∧ ((p &&& (2147483647 : Int32)) % (29 : Int32)) < (29 : Int32) := by
  have a := c_mask p 2147483647 31 (by decide) (by decide)
  have b := (c_irem (p &&& (2147483647 : Int32)) 29 29 rfl).1 (by omega)
  have e0 : (0 : Int32).toInt = 0 := rfl
  have e5 : (29 : Int32).toInt = 29 := rfl
  simp only [Int32.lt_iff_toInt_lt]
  omega
theorem own_f_188e (c : Int32) : own_f_188 c = if 983039 < c.toInt then (0 : Int32) else (1 : Int32) := by
  have e0 : (983039 : Int32).toInt = 983039 := rfl
  unfold own_f_188
  simp only [Int32.lt_iff_toInt_lt, Int64.lt_iff_toInt_lt, ← Int32.toInt_inj, e0]
theorem own_f_182e (c : Int32) : own_f_182 c = if c.toInt < 65536 then (0 : Int32) else (own_f_188 c) := by
  have e0 : (65536 : Int32).toInt = 65536 := rfl
  unfold own_f_182
  simp only [Int32.lt_iff_toInt_lt, Int64.lt_iff_toInt_lt, ← Int32.toInt_inj, e0]
theorem own_f_176e (c : Int32) : own_f_176 c = if 65533 < c.toInt then (own_f_182 c) else (1 : Int32) := by
  have e0 : (65533 : Int32).toInt = 65533 := rfl
  unfold own_f_176
  simp only [Int32.lt_iff_toInt_lt, Int64.lt_iff_toInt_lt, ← Int32.toInt_inj, e0]
theorem own_f_170e (c : Int32) : own_f_170 c = if c.toInt < 65008 then (own_f_182 c) else (own_f_176 c) := by
  have e0 : (65008 : Int32).toInt = 65008 := rfl
  unfold own_f_170
  simp only [Int32.lt_iff_toInt_lt, Int64.lt_iff_toInt_lt, ← Int32.toInt_inj, e0]
theorem own_f_164e (c : Int32) : own_f_164 c = if 64975 < c.toInt then (own_f_170 c) else (1 : Int32) := by
  have e0 : (64975 : Int32).toInt = 64975 := rfl
  unfold own_f_164
  simp only [Int32.lt_iff_toInt_lt, Int64.lt_iff_toInt_lt, ← Int32.toInt_inj, e0]
theorem own_f_158e (c : Int32) : own_f_158 c = if c.toInt < 63744 then (own_f_170 c) else (own_f_164 c) := by
  have e0 : (63744 : Int32).toInt = 63744 := rfl
  unfold own_f_158
  simp only [Int32.lt_iff_toInt_lt, Int64.lt_iff_toInt_lt, ← Int32.toInt_inj, e0]
theorem own_f_152e (c : Int32) : own_f_152 c = if 55295 < c.toInt then (own_f_158 c) else (1 : Int32) := by
  have e0 : (55295 : Int32).toInt = 55295 := rfl
  unfold own_f_152
  simp only [Int32.lt_iff_toInt_lt, Int64.lt_iff_toInt_lt, ← Int32.toInt_inj, e0]
theorem own_f_146e (c : Int32) : own_f_146 c = if c.toInt < 12289 then (own_f_158 c) else (own_f_152 c) := by
  have e0 : (12289 : Int32).toInt = 12289 := rfl
  unfold own_f_146
  simp only [Int32.lt_iff_toInt_lt, Int64.lt_iff_toInt_lt, ← Int32.toInt_inj, e0]
theorem own_f_139e (c : Int32) : own_f_139 c = if 12271 < c.toInt then (own_f_146 c) else (1 : Int32) := by
  have e0 : (12271 : Int32).toInt = 12271 := rfl
  unfold own_f_139
  simp only [Int32.lt_iff_toInt_lt, Int64.lt_iff_toInt_lt, ← Int32.toInt_inj, e0]
theorem own_f_132e (c : Int32) : own_f_132 c = if c.toInt < 11264 then (own_f_146 c) else (own_f_139 c) := by
  have e0 : (11264 : Int32).toInt = 11264 := rfl
  unfold own_f_132
  simp only [Int32.lt_iff_toInt_lt, Int64.lt_iff_toInt_lt, ← Int32.toInt_inj, e0]
theorem own_f_125e (c : Int32) : own_f_125 c = if 8591 < c.toInt then (own_f_132 c) else (1 : Int32) := by
  have e0 : (8591 : Int32).toInt = 8591 := rfl
  unfold own_f_125
  simp only [Int32.lt_iff_toInt_lt, Int64.lt_iff_toInt_lt, ← Int32.toInt_inj, e0]
theorem own_f_118e (c : Int32) : own_f_118 c = if c.toInt < 8304 then (own_f_132 c) else (own_f_125 c) := by
  have e0 : (8304 : Int32).toInt = 8304 := rfl
  unfold own_f_118
  simp only [Int32.lt_iff_toInt_lt, Int64.lt_iff_toInt_lt, ← Int32.toInt_inj, e0]
theorem own_f_111e (c : Int32) : own_f_111 c = if 8205 < c.toInt then (own_f_118 c) else (1 : Int32) := by
  have e0 : (8205 : Int32).toInt = 8205 := rfl
  unfold own_f_111
  simp only [Int32.lt_iff_toInt_lt, Int64.lt_iff_toInt_lt, ← Int32.toInt_inj, e0]
theorem own_f_104e (c : Int32) : own_f_104 c = if c.toInt < 8204 then (own_f_118 c) else (own_f_111 c) := by
  have e0 : (8204 : Int32).toInt = 8204 := rfl
  unfold own_f_104
  simp only [Int32.lt_iff_toInt_lt, Int64.lt_iff_toInt_lt, ← Int32.toInt_inj, e0]
theorem own_f_97e (c : Int32) : own_f_97 c = if 8191 < c.toInt then (own_f_104 c) else (1 : Int32) := by
  have e0 : (8191 : Int32).toInt = 8191 := rfl
  unfold own_f_97
  simp only [Int32.lt_iff_toInt_lt, Int64.lt_iff_toInt_lt, ← Int32.toInt_inj, e0]
theorem own_f_90e (c : Int32) : own_f_90 c = if c.toInt < 895 then (own_f_104 c) else (own_f_97 c) := by
  have e0 : (895 : Int32).toInt = 895 := rfl
  unfold own_f_90
  simp only [Int32.lt_iff_toInt_lt, Int64.lt_iff_toInt_lt, ← Int32.toInt_inj, e0]
theorem own_f_83e (c : Int32) : own_f_83 c = if 893 < c.toInt then (own_f_90 c) else (1 : Int32) := by
  have e0 : (893 : Int32).toInt = 893 := rfl
  unfold own_f_83
  simp only [Int32.lt_iff_toInt_lt, Int64.lt_iff_toInt_lt, ← Int32.toInt_inj, e0]
theorem own_f_76e (c : Int32) : own_f_76 c = if c.toInt < 880 then (own_f_90 c) else (own_f_83 c) := by
  have e0 : (880 : Int32).toInt = 880 := rfl
  unfold own_f_76
  simp only [Int32.lt_iff_toInt_lt, Int64.lt_iff_toInt_lt, ← Int32.toInt_inj, e0]
theorem own_f_69e (c : Int32) : own_f_69 c = if 767 < c.toInt then (own_f_76 c) else (1 : Int32) := by
  have e0 : (767 : Int32).toInt = 767 := rfl
  unfold own_f_69
  simp only [Int32.lt_iff_toInt_lt, Int64.lt_iff_toInt_lt, ← Int32.toInt_inj, e0]
theorem own_f_62e (c : Int32) : own_f_62 c = if c.toInt < 248 then (own_f_76 c) else (own_f_69 c) := by
  have e0 : (248 : Int32).toInt = 248 := rfl
  unfold own_f_62
  simp only [Int32.lt_iff_toInt_lt, Int64.lt_iff_toInt_lt, ← Int32.toInt_inj, e0]
theorem own_f_55e (c : Int32) : own_f_55 c = if 246 < c.toInt then (own_f_62 c) else (1 : Int32) := by
  have e0 : (246 : Int32).toInt = 246 := rfl
  unfold own_f_55
  simp only [Int32.lt_iff_toInt_lt, Int64.lt_iff_toInt_lt, ← Int32.toInt_inj, e0]
theorem own_f_48e (c : Int32) : own_f_48 c = if c.toInt < 216 then (own_f_62 c) else (own_f_55 c) := by
  have e0 : (216 : Int32).toInt = 216 := rfl
  unfold own_f_48
  simp only [Int32.lt_iff_toInt_lt, Int64.lt_iff_toInt_lt, ← Int32.toInt_inj, e0]
theorem own_f_41e (c : Int32) : own_f_41 c = if 214 < c.toInt then (own_f_48 c) else (1 : Int32) := by
  have e0 : (214 : Int32).toInt = 214 := rfl
  unfold own_f_41
  simp only [Int32.lt_iff_toInt_lt, Int64.lt_iff_toInt_lt, ← Int32.toInt_inj, e0]
theorem own_f_34e (c : Int32) : own_f_34 c = if c.toInt < 192 then (own_f_48 c) else (own_f_41 c) := by
  have e0 : (192 : Int32).toInt = 192 := rfl
  unfold own_f_34
  simp only [Int32.lt_iff_toInt_lt, Int64.lt_iff_toInt_lt, ← Int32.toInt_inj, e0]
theorem own_f_27e (c : Int32) : own_f_27 c = if c.toInt = 95 then (1 : Int32) else (own_f_34 c) := by
  have e0 : (95 : Int32).toInt = 95 := rfl
  unfold own_f_27
  simp only [Int32.lt_iff_toInt_lt, Int64.lt_iff_toInt_lt, ← Int32.toInt_inj, e0]
theorem own_f_21e (c : Int32) : own_f_21 c = if 90 < c.toInt then (own_f_27 c) else (1 : Int32) := by
  have e0 : (90 : Int32).toInt = 90 := rfl
  unfold own_f_21
  simp only [Int32.lt_iff_toInt_lt, Int64.lt_iff_toInt_lt, ← Int32.toInt_inj, e0]
theorem own_f_15e (c : Int32) : own_f_15 c = if c.toInt < 65 then (own_f_27 c) else (own_f_21 c) := by
  have e0 : (65 : Int32).toInt = 65 := rfl
  unfold own_f_15
  simp only [Int32.lt_iff_toInt_lt, Int64.lt_iff_toInt_lt, ← Int32.toInt_inj, e0]
theorem own_f_9e (c : Int32) : own_f_9 c = if 122 < c.toInt then (own_f_15 c) else (1 : Int32) := by
  have e0 : (122 : Int32).toInt = 122 := rfl
  unfold own_f_9
  simp only [Int32.lt_iff_toInt_lt, Int64.lt_iff_toInt_lt, ← Int32.toInt_inj, e0]
theorem own_f_3e (c : Int32) : own_f_3 c = if c.toInt < 97 then (own_f_15 c) else (own_f_9 c) := by
  have e0 : (97 : Int32).toInt = 97 := rfl
  unfold own_f_3
  simp only [Int32.lt_iff_toInt_lt, Int64.lt_iff_toInt_lt, ← Int32.toInt_inj, e0]
theorem own_g_25e (c : Int32) : own_g_25 c = if c.toInt = 95 then (1 : Int32) else (0 : Int32) := by
  have e0 : (95 : Int32).toInt = 95 := rfl
  unfold own_g_25
  simp only [Int32.lt_iff_toInt_lt, Int64.lt_iff_toInt_lt, ← Int32.toInt_inj, e0]
theorem own_g_125e (c : Int32) : own_g_125 c = if c.toInt = 8205 then (1 : Int32) else (0 : Int32) := by
  have e0 : (8205 : Int32).toInt = 8205 := rfl
  unfold own_g_125
  simp only [Int32.lt_iff_toInt_lt, Int64.lt_iff_toInt_lt, ← Int32.toInt_inj, e0]
theorem own_g_118e (c : Int32) : own_g_118 c = if c.toInt = 8204 then (1 : Int32) else (own_g_125 c) := by
  have e0 : (8204 : Int32).toInt = 8204 := rfl
  unfold own_g_118
  simp only [Int32.lt_iff_toInt_lt, Int64.lt_iff_toInt_lt, ← Int32.toInt_inj, e0]
theorem own_g_221e (c : Int32) : own_g_221 c = if 983039 < c.toInt then (0 : Int32) else (1 : Int32) := by
  have e0 : (983039 : Int32).toInt = 983039 := rfl
  unfold own_g_221
  simp only [Int32.lt_iff_toInt_lt, Int64.lt_iff_toInt_lt, ← Int32.toInt_inj, e0]
theorem own_g_213e (c : Int32) : own_g_213 c = if c.toInt < 65536 then (0 : Int32) else (own_g_221 c) := by
  have e0 : (65536 : Int32).toInt = 65536 := rfl
  unfold own_g_213
  simp only [Int32.lt_iff_toInt_lt, Int64.lt_iff_toInt_lt, ← Int32.toInt_inj, e0]
theorem own_g_201e (c : Int32) : own_g_201 c = if 65007 < c.toInt then (1 : Int32) else (0 : Int32) := by
  have e0 : (65007 : Int32).toInt = 65007 := rfl
  unfold own_g_201
  simp only [Int32.lt_iff_toInt_lt, Int64.lt_iff_toInt_lt, ← Int32.toInt_inj, e0]
theorem own_g_195e (c : Int32) : own_g_195 c = if c.toInt < 64976 then (1 : Int32) else (own_g_201 c) := by
  have e0 : (64976 : Int32).toInt = 64976 := rfl
  unfold own_g_195
  simp only [Int32.lt_iff_toInt_lt, Int64.lt_iff_toInt_lt, ← Int32.toInt_inj, e0]
theorem own_g_189e (c : Int32) : own_g_189 c = if 65533 < c.toInt then (own_g_213 c) else (own_g_195 c) := by
  have e0 : (65533 : Int32).toInt = 65533 := rfl
  unfold own_g_189
  simp only [Int32.lt_iff_toInt_lt, Int64.lt_iff_toInt_lt, ← Int32.toInt_inj, e0]
theorem own_g_181e (c : Int32) : own_g_181 c = if c.toInt < 63744 then (0 : Int32) else (own_g_189 c) := by
  have e0 : (63744 : Int32).toInt = 63744 := rfl
  unfold own_g_181
  simp only [Int32.lt_iff_toInt_lt, Int64.lt_iff_toInt_lt, ← Int32.toInt_inj, e0]
theorem own_g_173e (c : Int32) : own_g_173 c = if 55295 < c.toInt then (own_g_181 c) else (1 : Int32) := by
  have e0 : (55295 : Int32).toInt = 55295 := rfl
  unfold own_g_173
  simp only [Int32.lt_iff_toInt_lt, Int64.lt_iff_toInt_lt, ← Int32.toInt_inj, e0]
theorem own_g_165e (c : Int32) : own_g_165 c = if 12288 < c.toInt then (own_g_173 c) else (0 : Int32) := by
  have e0 : (12288 : Int32).toInt = 12288 := rfl
  unfold own_g_165
  simp only [Int32.lt_iff_toInt_lt, Int64.lt_iff_toInt_lt, ← Int32.toInt_inj, e0]
theorem own_g_156e (c : Int32) : own_g_156 c = if 12271 < c.toInt then (own_g_165 c) else (1 : Int32) := by
  have e0 : (12271 : Int32).toInt = 12271 := rfl
  unfold own_g_156
  simp only [Int32.lt_iff_toInt_lt, Int64.lt_iff_toInt_lt, ← Int32.toInt_inj, e0]
theorem own_g_147e (c : Int32) : own_g_147 c = if c.toInt < 11264 then (0 : Int32) else (own_g_156 c) := by
  have e0 : (11264 : Int32).toInt = 11264 := rfl
  unfold own_g_147
  simp only [Int32.lt_iff_toInt_lt, Int64.lt_iff_toInt_lt, ← Int32.toInt_inj, e0]
theorem own_g_138e (c : Int32) : own_g_138 c = if 8591 < c.toInt then (own_g_147 c) else (1 : Int32) := by
  have e0 : (8591 : Int32).toInt = 8591 := rfl
  unfold own_g_138
  simp only [Int32.lt_iff_toInt_lt, Int64.lt_iff_toInt_lt, ← Int32.toInt_inj, e0]
theorem own_g_111e (c : Int32) : own_g_111 c = if c.toInt < 8304 then (own_g_118 c) else (own_g_138 c) := by
  have e0 : (8304 : Int32).toInt = 8304 := rfl
  unfold own_g_111
  simp only [Int32.lt_iff_toInt_lt, Int64.lt_iff_toInt_lt, ← Int32.toInt_inj, e0]
theorem own_g_98e (c : Int32) : own_g_98 c = if c.toInt = 894 then (0 : Int32) else (1 : Int32) := by
  have e0 : (894 : Int32).toInt = 894 := rfl
  unfold own_g_98
  simp only [Int32.lt_iff_toInt_lt, Int64.lt_iff_toInt_lt, ← Int32.toInt_inj, e0]
theorem own_g_91e (c : Int32) : own_g_91 c = if 8191 < c.toInt then (own_g_111 c) else (own_g_98 c) := by
  have e0 : (8191 : Int32).toInt = 8191 := rfl
  unfold own_g_91
  simp only [Int32.lt_iff_toInt_lt, Int64.lt_iff_toInt_lt, ← Int32.toInt_inj, e0]
theorem own_g_82e (c : Int32) : own_g_82 c = if c.toInt < 880 then (0 : Int32) else (own_g_91 c) := by
  have e0 : (880 : Int32).toInt = 880 := rfl
  unfold own_g_82
  simp only [Int32.lt_iff_toInt_lt, Int64.lt_iff_toInt_lt, ← Int32.toInt_inj, e0]
theorem own_g_69e (c : Int32) : own_g_69 c = if c.toInt = 247 then (0 : Int32) else (1 : Int32) := by
  have e0 : (247 : Int32).toInt = 247 := rfl
  unfold own_g_69
  simp only [Int32.lt_iff_toInt_lt, Int64.lt_iff_toInt_lt, ← Int32.toInt_inj, e0]
theorem own_g_62e (c : Int32) : own_g_62 c = if c.toInt = 215 then (0 : Int32) else (own_g_69 c) := by
  have e0 : (215 : Int32).toInt = 215 := rfl
  unfold own_g_62
  simp only [Int32.lt_iff_toInt_lt, Int64.lt_iff_toInt_lt, ← Int32.toInt_inj, e0]
theorem own_g_55e (c : Int32) : own_g_55 c = if 767 < c.toInt then (own_g_82 c) else (own_g_62 c) := by
  have e0 : (767 : Int32).toInt = 767 := rfl
  unfold own_g_55
  simp only [Int32.lt_iff_toInt_lt, Int64.lt_iff_toInt_lt, ← Int32.toInt_inj, e0]
theorem own_g_46e (c : Int32) : own_g_46 c = if c.toInt < 192 then (0 : Int32) else (own_g_55 c) := by
  have e0 : (192 : Int32).toInt = 192 := rfl
  unfold own_g_46
  simp only [Int32.lt_iff_toInt_lt, Int64.lt_iff_toInt_lt, ← Int32.toInt_inj, e0]
theorem own_g_37e (c : Int32) : own_g_37 c = if 122 < c.toInt then (own_g_46 c) else (1 : Int32) := by
  have e0 : (122 : Int32).toInt = 122 := rfl
  unfold own_g_37
  simp only [Int32.lt_iff_toInt_lt, Int64.lt_iff_toInt_lt, ← Int32.toInt_inj, e0]
theorem own_g_19e (c : Int32) : own_g_19 c = if c.toInt < 97 then (own_g_25 c) else (own_g_37 c) := by
  have e0 : (97 : Int32).toInt = 97 := rfl
  unfold own_g_19
  simp only [Int32.lt_iff_toInt_lt, Int64.lt_iff_toInt_lt, ← Int32.toInt_inj, e0]
theorem own_g_11e (c : Int32) : own_g_11 c = if 90 < c.toInt then (own_g_19 c) else (1 : Int32) := by
  have e0 : (90 : Int32).toInt = 90 := rfl
  unfold own_g_11
  simp only [Int32.lt_iff_toInt_lt, Int64.lt_iff_toInt_lt, ← Int32.toInt_inj, e0]
theorem own_g_3e (c : Int32) : own_g_3 c = if c.toInt < 65 then (0 : Int32) else (own_g_11 c) := by
  have e0 : (65 : Int32).toInt = 65 := rfl
  unfold own_g_3
  simp only [Int32.lt_iff_toInt_lt, Int64.lt_iff_toInt_lt, ← Int32.toInt_inj, e0]
theorem own_eq (c : Int32) : own_f_3 c = own_g_3 c := by
  by_cases h0 : c.toInt < 65
  · rw [own_f_3e, if_pos (by omega), own_f_15e, if_pos (by omega), own_f_27e, if_neg (by omega), own_f_34e, if_pos (by omega), own_f_48e, if_pos (by omega), own_f_62e, if_pos (by omega), own_f_76e, if_pos (by omega), own_f_90e, if_pos (by omega), own_f_104e, if_pos (by omega), own_f_118e, if_pos (by omega), own_f_132e, if_pos (by omega), own_f_146e, if_pos (by omega), own_f_158e, if_pos (by omega), own_f_170e, if_pos (by omega), own_f_182e, if_pos (by omega), own_g_3e, if_pos (by omega)]
  by_cases h1 : c.toInt < 91
  · rw [own_f_3e, if_pos (by omega), own_f_15e, if_neg (by omega), own_f_21e, if_neg (by omega), own_g_3e, if_neg (by omega), own_g_11e, if_neg (by omega)]
  by_cases h2 : c.toInt < 95
  · rw [own_f_3e, if_pos (by omega), own_f_15e, if_neg (by omega), own_f_21e, if_pos (by omega), own_f_27e, if_neg (by omega), own_f_34e, if_pos (by omega), own_f_48e, if_pos (by omega), own_f_62e, if_pos (by omega), own_f_76e, if_pos (by omega), own_f_90e, if_pos (by omega), own_f_104e, if_pos (by omega), own_f_118e, if_pos (by omega), own_f_132e, if_pos (by omega), own_f_146e, if_pos (by omega), own_f_158e, if_pos (by omega), own_f_170e, if_pos (by omega), own_f_182e, if_pos (by omega), own_g_3e, if_neg (by omega), own_g_11e, if_pos (by omega), own_g_19e, if_pos (by omega), own_g_25e, if_neg (by omega)]
  by_cases h3 : c.toInt < 96
  · rw [own_f_3e, if_pos (by omega), own_f_15e, if_neg (by omega), own_f_21e, if_pos (by omega), own_f_27e, if_pos (by omega), own_g_3e, if_neg (by omega), own_g_11e, if_pos (by omega), own_g_19e, if_pos (by omega), own_g_25e, if_pos (by omega)]
  by_cases h4 : c.toInt < 97
  · rw [own_f_3e, if_pos (by omega), own_f_15e, if_neg (by omega), own_f_21e, if_pos (by omega), own_f_27e, if_neg (by omega), own_f_34e, if_pos (by omega), own_f_48e, if_pos (by omega), own_f_62e, if_pos (by omega), own_f_76e, if_pos (by omega), own_f_90e, if_pos (by omega), own_f_104e, if_pos (by omega), own_f_118e, if_pos (by omega), own_f_132e, if_pos (by omega), own_f_146e, if_pos (by omega), own_f_158e, if_pos (by omega), own_f_170e, if_pos (by omega), own_f_182e, if_pos (by omega), own_g_3e, if_neg (by omega), own_g_11e, if_pos (by omega), own_g_19e, if_pos (by omega), own_g_25e, if_neg (by omega)]
  by_cases h5 : c.toInt < 123
  · rw [own_f_3e, if_neg (by omega), own_f_9e, if_neg (by omega), own_g_3e, if_neg (by omega), own_g_11e, if_pos (by omega), own_g_19e, if_neg (by omega), own_g_37e, if_neg (by omega)]
  by_cases h6 : c.toInt < 192
  · rw [own_f_3e, if_neg (by omega), own_f_9e, if_pos (by omega), own_f_15e, if_neg (by omega), own_f_21e, if_pos (by omega), own_f_27e, if_neg (by omega), own_f_34e, if_pos (by omega), own_f_48e, if_pos (by omega), own_f_62e, if_pos (by omega), own_f_76e, if_pos (by omega), own_f_90e, if_pos (by omega), own_f_104e, if_pos (by omega), own_f_118e, if_pos (by omega), own_f_132e, if_pos (by omega), own_f_146e, if_pos (by omega), own_f_158e, if_pos (by omega), own_f_170e, if_pos (by omega), own_f_182e, if_pos (by omega), own_g_3e, if_neg (by omega), own_g_11e, if_pos (by omega), own_g_19e, if_neg (by omega), own_g_37e, if_pos (by omega), own_g_46e, if_pos (by omega)]
  by_cases h7 : c.toInt < 215
  · rw [own_f_3e, if_neg (by omega), own_f_9e, if_pos (by omega), own_f_15e, if_neg (by omega), own_f_21e, if_pos (by omega), own_f_27e, if_neg (by omega), own_f_34e, if_neg (by omega), own_f_41e, if_neg (by omega), own_g_3e, if_neg (by omega), own_g_11e, if_pos (by omega), own_g_19e, if_neg (by omega), own_g_37e, if_pos (by omega), own_g_46e, if_neg (by omega), own_g_55e, if_neg (by omega), own_g_62e, if_neg (by omega), own_g_69e, if_neg (by omega)]
  by_cases h8 : c.toInt < 216
  · rw [own_f_3e, if_neg (by omega), own_f_9e, if_pos (by omega), own_f_15e, if_neg (by omega), own_f_21e, if_pos (by omega), own_f_27e, if_neg (by omega), own_f_34e, if_neg (by omega), own_f_41e, if_pos (by omega), own_f_48e, if_pos (by omega), own_f_62e, if_pos (by omega), own_f_76e, if_pos (by omega), own_f_90e, if_pos (by omega), own_f_104e, if_pos (by omega), own_f_118e, if_pos (by omega), own_f_132e, if_pos (by omega), own_f_146e, if_pos (by omega), own_f_158e, if_pos (by omega), own_f_170e, if_pos (by omega), own_f_182e, if_pos (by omega), own_g_3e, if_neg (by omega), own_g_11e, if_pos (by omega), own_g_19e, if_neg (by omega), own_g_37e, if_pos (by omega), own_g_46e, if_neg (by omega), own_g_55e, if_neg (by omega), own_g_62e, if_pos (by omega)]
  by_cases h9 : c.toInt < 247
  · rw [own_f_3e, if_neg (by omega), own_f_9e, if_pos (by omega), own_f_15e, if_neg (by omega), own_f_21e, if_pos (by omega), own_f_27e, if_neg (by omega), own_f_34e, if_neg (by omega), own_f_41e, if_pos (by omega), own_f_48e, if_neg (by omega), own_f_55e, if_neg (by omega), own_g_3e, if_neg (by omega), own_g_11e, if_pos (by omega), own_g_19e, if_neg (by omega), own_g_37e, if_pos (by omega), own_g_46e, if_neg (by omega), own_g_55e, if_neg (by omega), own_g_62e, if_neg (by omega), own_g_69e, if_neg (by omega)]
  by_cases h10 : c.toInt < 248
  · rw [own_f_3e, if_neg (by omega), own_f_9e, if_pos (by omega), own_f_15e, if_neg (by omega), own_f_21e, if_pos (by omega), own_f_27e, if_neg (by omega), own_f_34e, if_neg (by omega), own_f_41e, if_pos (by omega), own_f_48e, if_neg (by omega), own_f_55e, if_pos (by omega), own_f_62e, if_pos (by omega), own_f_76e, if_pos (by omega), own_f_90e, if_pos (by omega), own_f_104e, if_pos (by omega), own_f_118e, if_pos (by omega), own_f_132e, if_pos (by omega), own_f_146e, if_pos (by omega), own_f_158e, if_pos (by omega), own_f_170e, if_pos (by omega), own_f_182e, if_pos (by omega), own_g_3e, if_neg (by omega), own_g_11e, if_pos (by omega), own_g_19e, if_neg (by omega), own_g_37e, if_pos (by omega), own_g_46e, if_neg (by omega), own_g_55e, if_neg (by omega), own_g_62e, if_neg (by omega), own_g_69e, if_pos (by omega)]
  by_cases h11 : c.toInt < 768
  · rw [own_f_3e, if_neg (by omega), own_f_9e, if_pos (by omega), own_f_15e, if_neg (by omega), own_f_21e, if_pos (by omega), own_f_27e, if_neg (by omega), own_f_34e, if_neg (by omega), own_f_41e, if_pos (by omega), own_f_48e, if_neg (by omega), own_f_55e, if_pos (by omega), own_f_62e, if_neg (by omega), own_f_69e, if_neg (by omega), own_g_3e, if_neg (by omega), own_g_11e, if_pos (by omega), own_g_19e, if_neg (by omega), own_g_37e, if_pos (by omega), own_g_46e, if_neg (by omega), own_g_55e, if_neg (by omega), own_g_62e, if_neg (by omega), own_g_69e, if_neg (by omega)]
  by_cases h12 : c.toInt < 880
  · rw [own_f_3e, if_neg (by omega), own_f_9e, if_pos (by omega), own_f_15e, if_neg (by omega), own_f_21e, if_pos (by omega), own_f_27e, if_neg (by omega), own_f_34e, if_neg (by omega), own_f_41e, if_pos (by omega), own_f_48e, if_neg (by omega), own_f_55e, if_pos (by omega), own_f_62e, if_neg (by omega), own_f_69e, if_pos (by omega), own_f_76e, if_pos (by omega), own_f_90e, if_pos (by omega), own_f_104e, if_pos (by omega), own_f_118e, if_pos (by omega), own_f_132e, if_pos (by omega), own_f_146e, if_pos (by omega), own_f_158e, if_pos (by omega), own_f_170e, if_pos (by omega), own_f_182e, if_pos (by omega), own_g_3e, if_neg (by omega), own_g_11e, if_pos (by omega), own_g_19e, if_neg (by omega), own_g_37e, if_pos (by omega), own_g_46e, if_neg (by omega), own_g_55e, if_pos (by omega), own_g_82e, if_pos (by omega)]
  by_cases h13 : c.toInt < 894
  · rw [own_f_3e, if_neg (by omega), own_f_9e, if_pos (by omega), own_f_15e, if_neg (by omega), own_f_21e, if_pos (by omega), own_f_27e, if_neg (by omega), own_f_34e, if_neg (by omega), own_f_41e, if_pos (by omega), own_f_48e, if_neg (by omega), own_f_55e, if_pos (by omega), own_f_62e, if_neg (by omega), own_f_69e, if_pos (by omega), own_f_76e, if_neg (by omega), own_f_83e, if_neg (by omega), own_g_3e, if_neg (by omega), own_g_11e, if_pos (by omega), own_g_19e, if_neg (by omega), own_g_37e, if_pos (by omega), own_g_46e, if_neg (by omega), own_g_55e, if_pos (by omega), own_g_82e, if_neg (by omega), own_g_91e, if_neg (by omega), own_g_98e, if_neg (by omega)]
  by_cases h14 : c.toInt < 895
  · rw [own_f_3e, if_neg (by omega), own_f_9e, if_pos (by omega), own_f_15e, if_neg (by omega), own_f_21e, if_pos (by omega), own_f_27e, if_neg (by omega), own_f_34e, if_neg (by omega), own_f_41e, if_pos (by omega), own_f_48e, if_neg (by omega), own_f_55e, if_pos (by omega), own_f_62e, if_neg (by omega), own_f_69e, if_pos (by omega), own_f_76e, if_neg (by omega), own_f_83e, if_pos (by omega), own_f_90e, if_pos (by omega), own_f_104e, if_pos (by omega), own_f_118e, if_pos (by omega), own_f_132e, if_pos (by omega), own_f_146e, if_pos (by omega), own_f_158e, if_pos (by omega), own_f_170e, if_pos (by omega), own_f_182e, if_pos (by omega), own_g_3e, if_neg (by omega), own_g_11e, if_pos (by omega), own_g_19e, if_neg (by omega), own_g_37e, if_pos (by omega), own_g_46e, if_neg (by omega), own_g_55e, if_pos (by omega), own_g_82e, if_neg (by omega), own_g_91e, if_neg (by omega), own_g_98e, if_pos (by omega)]
  by_cases h15 : c.toInt < 8192
  · rw [own_f_3e, if_neg (by omega), own_f_9e, if_pos (by omega), own_f_15e, if_neg (by omega), own_f_21e, if_pos (by omega), own_f_27e, if_neg (by omega), own_f_34e, if_neg (by omega), own_f_41e, if_pos (by omega), own_f_48e, if_neg (by omega), own_f_55e, if_pos (by omega), own_f_62e, if_neg (by omega), own_f_69e, if_pos (by omega), own_f_76e, if_neg (by omega), own_f_83e, if_pos (by omega), own_f_90e, if_neg (by omega), own_f_97e, if_neg (by omega), own_g_3e, if_neg (by omega), own_g_11e, if_pos (by omega), own_g_19e, if_neg (by omega), own_g_37e, if_pos (by omega), own_g_46e, if_neg (by omega), own_g_55e, if_pos (by omega), own_g_82e, if_neg (by omega), own_g_91e, if_neg (by omega), own_g_98e, if_neg (by omega)]
  by_cases h16 : c.toInt < 8204
  · rw [own_f_3e, if_neg (by omega), own_f_9e, if_pos (by omega), own_f_15e, if_neg (by omega), own_f_21e, if_pos (by omega), own_f_27e, if_neg (by omega), own_f_34e, if_neg (by omega), own_f_41e, if_pos (by omega), own_f_48e, if_neg (by omega), own_f_55e, if_pos (by omega), own_f_62e, if_neg (by omega), own_f_69e, if_pos (by omega), own_f_76e, if_neg (by omega), own_f_83e, if_pos (by omega), own_f_90e, if_neg (by omega), own_f_97e, if_pos (by omega), own_f_104e, if_pos (by omega), own_f_118e, if_pos (by omega), own_f_132e, if_pos (by omega), own_f_146e, if_pos (by omega), own_f_158e, if_pos (by omega), own_f_170e, if_pos (by omega), own_f_182e, if_pos (by omega), own_g_3e, if_neg (by omega), own_g_11e, if_pos (by omega), own_g_19e, if_neg (by omega), own_g_37e, if_pos (by omega), own_g_46e, if_neg (by omega), own_g_55e, if_pos (by omega), own_g_82e, if_neg (by omega), own_g_91e, if_pos (by omega), own_g_111e, if_pos (by omega), own_g_118e, if_neg (by omega), own_g_125e, if_neg (by omega)]
  by_cases h17 : c.toInt < 8205
  · rw [own_f_3e, if_neg (by omega), own_f_9e, if_pos (by omega), own_f_15e, if_neg (by omega), own_f_21e, if_pos (by omega), own_f_27e, if_neg (by omega), own_f_34e, if_neg (by omega), own_f_41e, if_pos (by omega), own_f_48e, if_neg (by omega), own_f_55e, if_pos (by omega), own_f_62e, if_neg (by omega), own_f_69e, if_pos (by omega), own_f_76e, if_neg (by omega), own_f_83e, if_pos (by omega), own_f_90e, if_neg (by omega), own_f_97e, if_pos (by omega), own_f_104e, if_neg (by omega), own_f_111e, if_neg (by omega), own_g_3e, if_neg (by omega), own_g_11e, if_pos (by omega), own_g_19e, if_neg (by omega), own_g_37e, if_pos (by omega), own_g_46e, if_neg (by omega), own_g_55e, if_pos (by omega), own_g_82e, if_neg (by omega), own_g_91e, if_pos (by omega), own_g_111e, if_pos (by omega), own_g_118e, if_pos (by omega)]
  by_cases h18 : c.toInt < 8206
  · rw [own_f_3e, if_neg (by omega), own_f_9e, if_pos (by omega), own_f_15e, if_neg (by omega), own_f_21e, if_pos (by omega), own_f_27e, if_neg (by omega), own_f_34e, if_neg (by omega), own_f_41e, if_pos (by omega), own_f_48e, if_neg (by omega), own_f_55e, if_pos (by omega), own_f_62e, if_neg (by omega), own_f_69e, if_pos (by omega), own_f_76e, if_neg (by omega), own_f_83e, if_pos (by omega), own_f_90e, if_neg (by omega), own_f_97e, if_pos (by omega), own_f_104e, if_neg (by omega), own_f_111e, if_neg (by omega), own_g_3e, if_neg (by omega), own_g_11e, if_pos (by omega), own_g_19e, if_neg (by omega), own_g_37e, if_pos (by omega), own_g_46e, if_neg (by omega), own_g_55e, if_pos (by omega), own_g_82e, if_neg (by omega), own_g_91e, if_pos (by omega), own_g_111e, if_pos (by omega), own_g_118e, if_neg (by omega), own_g_125e, if_pos (by omega)]
  by_cases h19 : c.toInt < 8304
  · rw [own_f_3e, if_neg (by omega), own_f_9e, if_pos (by omega), own_f_15e, if_neg (by omega), own_f_21e, if_pos (by omega), own_f_27e, if_neg (by omega), own_f_34e, if_neg (by omega), own_f_41e, if_pos (by omega), own_f_48e, if_neg (by omega), own_f_55e, if_pos (by omega), own_f_62e, if_neg (by omega), own_f_69e, if_pos (by omega), own_f_76e, if_neg (by omega), own_f_83e, if_pos (by omega), own_f_90e, if_neg (by omega), own_f_97e, if_pos (by omega), own_f_104e, if_neg (by omega), own_f_111e, if_pos (by omega), own_f_118e, if_pos (by omega), own_f_132e, if_pos (by omega), own_f_146e, if_pos (by omega), own_f_158e, if_pos (by omega), own_f_170e, if_pos (by omega), own_f_182e, if_pos (by omega), own_g_3e, if_neg (by omega), own_g_11e, if_pos (by omega), own_g_19e, if_neg (by omega), own_g_37e, if_pos (by omega), own_g_46e, if_neg (by omega), own_g_55e, if_pos (by omega), own_g_82e, if_neg (by omega), own_g_91e, if_pos (by omega), own_g_111e, if_pos (by omega), own_g_118e, if_neg (by omega), own_g_125e, if_neg (by omega)]
  by_cases h20 : c.toInt < 8592
  · rw [own_f_3e, if_neg (by omega), own_f_9e, if_pos (by omega), own_f_15e, if_neg (by omega), own_f_21e, if_pos (by omega), own_f_27e, if_neg (by omega), own_f_34e, if_neg (by omega), own_f_41e, if_pos (by omega), own_f_48e, if_neg (by omega), own_f_55e, if_pos (by omega), own_f_62e, if_neg (by omega), own_f_69e, if_pos (by omega), own_f_76e, if_neg (by omega), own_f_83e, if_pos (by omega), own_f_90e, if_neg (by omega), own_f_97e, if_pos (by omega), own_f_104e, if_neg (by omega), own_f_111e, if_pos (by omega), own_f_118e, if_neg (by omega), own_f_125e, if_neg (by omega), own_g_3e, if_neg (by omega), own_g_11e, if_pos (by omega), own_g_19e, if_neg (by omega), own_g_37e, if_pos (by omega), own_g_46e, if_neg (by omega), own_g_55e, if_pos (by omega), own_g_82e, if_neg (by omega), own_g_91e, if_pos (by omega), own_g_111e, if_neg (by omega), own_g_138e, if_neg (by omega)]
  by_cases h21 : c.toInt < 11264
  · rw [own_f_3e, if_neg (by omega), own_f_9e, if_pos (by omega), own_f_15e, if_neg (by omega), own_f_21e, if_pos (by omega), own_f_27e, if_neg (by omega), own_f_34e, if_neg (by omega), own_f_41e, if_pos (by omega), own_f_48e, if_neg (by omega), own_f_55e, if_pos (by omega), own_f_62e, if_neg (by omega), own_f_69e, if_pos (by omega), own_f_76e, if_neg (by omega), own_f_83e, if_pos (by omega), own_f_90e, if_neg (by omega), own_f_97e, if_pos (by omega), own_f_104e, if_neg (by omega), own_f_111e, if_pos (by omega), own_f_118e, if_neg (by omega), own_f_125e, if_pos (by omega), own_f_132e, if_pos (by omega), own_f_146e, if_pos (by omega), own_f_158e, if_pos (by omega), own_f_170e, if_pos (by omega), own_f_182e, if_pos (by omega), own_g_3e, if_neg (by omega), own_g_11e, if_pos (by omega), own_g_19e, if_neg (by omega), own_g_37e, if_pos (by omega), own_g_46e, if_neg (by omega), own_g_55e, if_pos (by omega), own_g_82e, if_neg (by omega), own_g_91e, if_pos (by omega), own_g_111e, if_neg (by omega), own_g_138e, if_pos (by omega), own_g_147e, if_pos (by omega)]
  by_cases h22 : c.toInt < 12272
  · rw [own_f_3e, if_neg (by omega), own_f_9e, if_pos (by omega), own_f_15e, if_neg (by omega), own_f_21e, if_pos (by omega), own_f_27e, if_neg (by omega), own_f_34e, if_neg (by omega), own_f_41e, if_pos (by omega), own_f_48e, if_neg (by omega), own_f_55e, if_pos (by omega), own_f_62e, if_neg (by omega), own_f_69e, if_pos (by omega), own_f_76e, if_neg (by omega), own_f_83e, if_pos (by omega), own_f_90e, if_neg (by omega), own_f_97e, if_pos (by omega), own_f_104e, if_neg (by omega), own_f_111e, if_pos (by omega), own_f_118e, if_neg (by omega), own_f_125e, if_pos (by omega), own_f_132e, if_neg (by omega), own_f_139e, if_neg (by omega), own_g_3e, if_neg (by omega), own_g_11e, if_pos (by omega), own_g_19e, if_neg (by omega), own_g_37e, if_pos (by omega), own_g_46e, if_neg (by omega), own_g_55e, if_pos (by omega), own_g_82e, if_neg (by omega), own_g_91e, if_pos (by omega), own_g_111e, if_neg (by omega), own_g_138e, if_pos (by omega), own_g_147e, if_neg (by omega), own_g_156e, if_neg (by omega)]
  by_cases h23 : c.toInt < 12289
  · rw [own_f_3e, if_neg (by omega), own_f_9e, if_pos (by omega), own_f_15e, if_neg (by omega), own_f_21e, if_pos (by omega), own_f_27e, if_neg (by omega), own_f_34e, if_neg (by omega), own_f_41e, if_pos (by omega), own_f_48e, if_neg (by omega), own_f_55e, if_pos (by omega), own_f_62e, if_neg (by omega), own_f_69e, if_pos (by omega), own_f_76e, if_neg (by omega), own_f_83e, if_pos (by omega), own_f_90e, if_neg (by omega), own_f_97e, if_pos (by omega), own_f_104e, if_neg (by omega), own_f_111e, if_pos (by omega), own_f_118e, if_neg (by omega), own_f_125e, if_pos (by omega), own_f_132e, if_neg (by omega), own_f_139e, if_pos (by omega), own_f_146e, if_pos (by omega), own_f_158e, if_pos (by omega), own_f_170e, if_pos (by omega), own_f_182e, if_pos (by omega), own_g_3e, if_neg (by omega), own_g_11e, if_pos (by omega), own_g_19e, if_neg (by omega), own_g_37e, if_pos (by omega), own_g_46e, if_neg (by omega), own_g_55e, if_pos (by omega), own_g_82e, if_neg (by omega), own_g_91e, if_pos (by omega), own_g_111e, if_neg (by omega), own_g_138e, if_pos (by omega), own_g_147e, if_neg (by omega), own_g_156e, if_pos (by omega), own_g_165e, if_neg (by omega)]
  by_cases h24 : c.toInt < 55296
  · rw [own_f_3e, if_neg (by omega), own_f_9e, if_pos (by omega), own_f_15e, if_neg (by omega), own_f_21e, if_pos (by omega), own_f_27e, if_neg (by omega), own_f_34e, if_neg (by omega), own_f_41e, if_pos (by omega), own_f_48e, if_neg (by omega), own_f_55e, if_pos (by omega), own_f_62e, if_neg (by omega), own_f_69e, if_pos (by omega), own_f_76e, if_neg (by omega), own_f_83e, if_pos (by omega), own_f_90e, if_neg (by omega), own_f_97e, if_pos (by omega), own_f_104e, if_neg (by omega), own_f_111e, if_pos (by omega), own_f_118e, if_neg (by omega), own_f_125e, if_pos (by omega), own_f_132e, if_neg (by omega), own_f_139e, if_pos (by omega), own_f_146e, if_neg (by omega), own_f_152e, if_neg (by omega), own_g_3e, if_neg (by omega), own_g_11e, if_pos (by omega), own_g_19e, if_neg (by omega), own_g_37e, if_pos (by omega), own_g_46e, if_neg (by omega), own_g_55e, if_pos (by omega), own_g_82e, if_neg (by omega), own_g_91e, if_pos (by omega), own_g_111e, if_neg (by omega), own_g_138e, if_pos (by omega), own_g_147e, if_neg (by omega), own_g_156e, if_pos (by omega), own_g_165e, if_pos (by omega), own_g_173e, if_neg (by omega)]
  by_cases h25 : c.toInt < 63744
  · rw [own_f_3e, if_neg (by omega), own_f_9e, if_pos (by omega), own_f_15e, if_neg (by omega), own_f_21e, if_pos (by omega), own_f_27e, if_neg (by omega), own_f_34e, if_neg (by omega), own_f_41e, if_pos (by omega), own_f_48e, if_neg (by omega), own_f_55e, if_pos (by omega), own_f_62e, if_neg (by omega), own_f_69e, if_pos (by omega), own_f_76e, if_neg (by omega), own_f_83e, if_pos (by omega), own_f_90e, if_neg (by omega), own_f_97e, if_pos (by omega), own_f_104e, if_neg (by omega), own_f_111e, if_pos (by omega), own_f_118e, if_neg (by omega), own_f_125e, if_pos (by omega), own_f_132e, if_neg (by omega), own_f_139e, if_pos (by omega), own_f_146e, if_neg (by omega), own_f_152e, if_pos (by omega), own_f_158e, if_pos (by omega), own_f_170e, if_pos (by omega), own_f_182e, if_pos (by omega), own_g_3e, if_neg (by omega), own_g_11e, if_pos (by omega), own_g_19e, if_neg (by omega), own_g_37e, if_pos (by omega), own_g_46e, if_neg (by omega), own_g_55e, if_pos (by omega), own_g_82e, if_neg (by omega), own_g_91e, if_pos (by omega), own_g_111e, if_neg (by omega), own_g_138e, if_pos (by omega), own_g_147e, if_neg (by omega), own_g_156e, if_pos (by omega), own_g_165e, if_pos (by omega), own_g_173e, if_pos (by omega), own_g_181e, if_pos (by omega)]
  by_cases h26 : c.toInt < 64976
  · rw [own_f_3e, if_neg (by omega), own_f_9e, if_pos (by omega), own_f_15e, if_neg (by omega), own_f_21e, if_pos (by omega), own_f_27e, if_neg (by omega), own_f_34e, if_neg (by omega), own_f_41e, if_pos (by omega), own_f_48e, if_neg (by omega), own_f_55e, if_pos (by omega), own_f_62e, if_neg (by omega), own_f_69e, if_pos (by omega), own_f_76e, if_neg (by omega), own_f_83e, if_pos (by omega), own_f_90e, if_neg (by omega), own_f_97e, if_pos (by omega), own_f_104e, if_neg (by omega), own_f_111e, if_pos (by omega), own_f_118e, if_neg (by omega), own_f_125e, if_pos (by omega), own_f_132e, if_neg (by omega), own_f_139e, if_pos (by omega), own_f_146e, if_neg (by omega), own_f_152e, if_pos (by omega), own_f_158e, if_neg (by omega), own_f_164e, if_neg (by omega), own_g_3e, if_neg (by omega), own_g_11e, if_pos (by omega), own_g_19e, if_neg (by omega), own_g_37e, if_pos (by omega), own_g_46e, if_neg (by omega), own_g_55e, if_pos (by omega), own_g_82e, if_neg (by omega), own_g_91e, if_pos (by omega), own_g_111e, if_neg (by omega), own_g_138e, if_pos (by omega), own_g_147e, if_neg (by omega), own_g_156e, if_pos (by omega), own_g_165e, if_pos (by omega), own_g_173e, if_pos (by omega), own_g_181e, if_neg (by omega), own_g_189e, if_neg (by omega), own_g_195e, if_pos (by omega)]
  by_cases h27 : c.toInt < 65008
  · rw [own_f_3e, if_neg (by omega), own_f_9e, if_pos (by omega), own_f_15e, if_neg (by omega), own_f_21e, if_pos (by omega), own_f_27e, if_neg (by omega), own_f_34e, if_neg (by omega), own_f_41e, if_pos (by omega), own_f_48e, if_neg (by omega), own_f_55e, if_pos (by omega), own_f_62e, if_neg (by omega), own_f_69e, if_pos (by omega), own_f_76e, if_neg (by omega), own_f_83e, if_pos (by omega), own_f_90e, if_neg (by omega), own_f_97e, if_pos (by omega), own_f_104e, if_neg (by omega), own_f_111e, if_pos (by omega), own_f_118e, if_neg (by omega), own_f_125e, if_pos (by omega), own_f_132e, if_neg (by omega), own_f_139e, if_pos (by omega), own_f_146e, if_neg (by omega), own_f_152e, if_pos (by omega), own_f_158e, if_neg (by omega), own_f_164e, if_pos (by omega), own_f_170e, if_pos (by omega), own_f_182e, if_pos (by omega), own_g_3e, if_neg (by omega), own_g_11e, if_pos (by omega), own_g_19e, if_neg (by omega), own_g_37e, if_pos (by omega), own_g_46e, if_neg (by omega), own_g_55e, if_pos (by omega), own_g_82e, if_neg (by omega), own_g_91e, if_pos (by omega), own_g_111e, if_neg (by omega), own_g_138e, if_pos (by omega), own_g_147e, if_neg (by omega), own_g_156e, if_pos (by omega), own_g_165e, if_pos (by omega), own_g_173e, if_pos (by omega), own_g_181e, if_neg (by omega), own_g_189e, if_neg (by omega), own_g_195e, if_neg (by omega), own_g_201e, if_neg (by omega)]
  by_cases h28 : c.toInt < 65534
  · rw [own_f_3e, if_neg (by omega), own_f_9e, if_pos (by omega), own_f_15e, if_neg (by omega), own_f_21e, if_pos (by omega), own_f_27e, if_neg (by omega), own_f_34e, if_neg (by omega), own_f_41e, if_pos (by omega), own_f_48e, if_neg (by omega), own_f_55e, if_pos (by omega), own_f_62e, if_neg (by omega), own_f_69e, if_pos (by omega), own_f_76e, if_neg (by omega), own_f_83e, if_pos (by omega), own_f_90e, if_neg (by omega), own_f_97e, if_pos (by omega), own_f_104e, if_neg (by omega), own_f_111e, if_pos (by omega), own_f_118e, if_neg (by omega), own_f_125e, if_pos (by omega), own_f_132e, if_neg (by omega), own_f_139e, if_pos (by omega), own_f_146e, if_neg (by omega), own_f_152e, if_pos (by omega), own_f_158e, if_neg (by omega), own_f_164e, if_pos (by omega), own_f_170e, if_neg (by omega), own_f_176e, if_neg (by omega), own_g_3e, if_neg (by omega), own_g_11e, if_pos (by omega), own_g_19e, if_neg (by omega), own_g_37e, if_pos (by omega), own_g_46e, if_neg (by omega), own_g_55e, if_pos (by omega), own_g_82e, if_neg (by omega), own_g_91e, if_pos (by omega), own_g_111e, if_neg (by omega), own_g_138e, if_pos (by omega), own_g_147e, if_neg (by omega), own_g_156e, if_pos (by omega), own_g_165e, if_pos (by omega), own_g_173e, if_pos (by omega), own_g_181e, if_neg (by omega), own_g_189e, if_neg (by omega), own_g_195e, if_neg (by omega), own_g_201e, if_pos (by omega)]
  by_cases h29 : c.toInt < 65536
  · rw [own_f_3e, if_neg (by omega), own_f_9e, if_pos (by omega), own_f_15e, if_neg (by omega), own_f_21e, if_pos (by omega), own_f_27e, if_neg (by omega), own_f_34e, if_neg (by omega), own_f_41e, if_pos (by omega), own_f_48e, if_neg (by omega), own_f_55e, if_pos (by omega), own_f_62e, if_neg (by omega), own_f_69e, if_pos (by omega), own_f_76e, if_neg (by omega), own_f_83e, if_pos (by omega), own_f_90e, if_neg (by omega), own_f_97e, if_pos (by omega), own_f_104e, if_neg (by omega), own_f_111e, if_pos (by omega), own_f_118e, if_neg (by omega), own_f_125e, if_pos (by omega), own_f_132e, if_neg (by omega), own_f_139e, if_pos (by omega), own_f_146e, if_neg (by omega), own_f_152e, if_pos (by omega), own_f_158e, if_neg (by omega), own_f_164e, if_pos (by omega), own_f_170e, if_neg (by omega), own_f_176e, if_pos (by omega), own_f_182e, if_pos (by omega), own_g_3e, if_neg (by omega), own_g_11e, if_pos (by omega), own_g_19e, if_neg (by omega), own_g_37e, if_pos (by omega), own_g_46e, if_neg (by omega), own_g_55e, if_pos (by omega), own_g_82e, if_neg (by omega), own_g_91e, if_pos (by omega), own_g_111e, if_neg (by omega), own_g_138e, if_pos (by omega), own_g_147e, if_neg (by omega), own_g_156e, if_pos (by omega), own_g_165e, if_pos (by omega), own_g_173e, if_pos (by omega), own_g_181e, if_neg (by omega), own_g_189e, if_pos (by omega), own_g_213e, if_pos (by omega)]
  by_cases h30 : c.toInt < 983040
  · rw [own_f_3e, if_neg (by omega), own_f_9e, if_pos (by omega), own_f_15e, if_neg (by omega), own_f_21e, if_pos (by omega), own_f_27e, if_neg (by omega), own_f_34e, if_neg (by omega), own_f_41e, if_pos (by omega), own_f_48e, if_neg (by omega), own_f_55e, if_pos (by omega), own_f_62e, if_neg (by omega), own_f_69e, if_pos (by omega), own_f_76e, if_neg (by omega), own_f_83e, if_pos (by omega), own_f_90e, if_neg (by omega), own_f_97e, if_pos (by omega), own_f_104e, if_neg (by omega), own_f_111e, if_pos (by omega), own_f_118e, if_neg (by omega), own_f_125e, if_pos (by omega), own_f_132e, if_neg (by omega), own_f_139e, if_pos (by omega), own_f_146e, if_neg (by omega), own_f_152e, if_pos (by omega), own_f_158e, if_neg (by omega), own_f_164e, if_pos (by omega), own_f_170e, if_neg (by omega), own_f_176e, if_pos (by omega), own_f_182e, if_neg (by omega), own_f_188e, if_neg (by omega), own_g_3e, if_neg (by omega), own_g_11e, if_pos (by omega), own_g_19e, if_neg (by omega), own_g_37e, if_pos (by omega), own_g_46e, if_neg (by omega), own_g_55e, if_pos (by omega), own_g_82e, if_neg (by omega), own_g_91e, if_pos (by omega), own_g_111e, if_neg (by omega), own_g_138e, if_pos (by omega), own_g_147e, if_neg (by omega), own_g_156e, if_pos (by omega), own_g_165e, if_pos (by omega), own_g_173e, if_pos (by omega), own_g_181e, if_neg (by omega), own_g_189e, if_pos (by omega), own_g_213e, if_neg (by omega), own_g_221e, if_neg (by omega)]
  rw [own_f_3e, if_neg (by omega), own_f_9e, if_pos (by omega), own_f_15e, if_neg (by omega), own_f_21e, if_pos (by omega), own_f_27e, if_neg (by omega), own_f_34e, if_neg (by omega), own_f_41e, if_pos (by omega), own_f_48e, if_neg (by omega), own_f_55e, if_pos (by omega), own_f_62e, if_neg (by omega), own_f_69e, if_pos (by omega), own_f_76e, if_neg (by omega), own_f_83e, if_pos (by omega), own_f_90e, if_neg (by omega), own_f_97e, if_pos (by omega), own_f_104e, if_neg (by omega), own_f_111e, if_pos (by omega), own_f_118e, if_neg (by omega), own_f_125e, if_pos (by omega), own_f_132e, if_neg (by omega), own_f_139e, if_pos (by omega), own_f_146e, if_neg (by omega), own_f_152e, if_pos (by omega), own_f_158e, if_neg (by omega), own_f_164e, if_pos (by omega), own_f_170e, if_neg (by omega), own_f_176e, if_pos (by omega), own_f_182e, if_neg (by omega), own_f_188e, if_pos (by omega), own_g_3e, if_neg (by omega), own_g_11e, if_pos (by omega), own_g_19e, if_neg (by omega), own_g_37e, if_pos (by omega), own_g_46e, if_neg (by omega), own_g_55e, if_pos (by omega), own_g_82e, if_neg (by omega), own_g_91e, if_pos (by omega), own_g_111e, if_neg (by omega), own_g_138e, if_pos (by omega), own_g_147e, if_neg (by omega), own_g_156e, if_pos (by omega), own_g_165e, if_pos (by omega), own_g_173e, if_pos (by omega), own_g_181e, if_neg (by omega), own_g_189e, if_pos (by omega), own_g_213e, if_neg (by omega), own_g_221e, if_pos (by omega)]

theorem pd_0 : parseMethodDescriptor "(I)Z" = some ⟨[.int], some .boolean⟩ := by decide +kernel
theorem ef_0 (m : MethodId) (x0 : Int32) (x1 : Int32)  : entryFrame m #[(.int x0), (.int x1)] maxLocals = mkF m 0 #[.val (.int x0), .val (.int x1), .unset, .unset, .unset, .unset, .unset, .unset] [] := by first | (simp [entryFrame, mkF, argsToLocals, Value.category, maxLocals]; done) | rfl
def own_q0 (Z : State) (p1 : Int32) (p2 : Int32) (h0 : Heap) (n0 : Nat) (v : Option Value) (h : Heap) (L : List Loc) : Prop := v = some (.int (1 : Int32)) ∧ Fr n0 L
set_option maxRecDepth 65536 in
set_option maxHeartbeats 40000000 in
theorem rm0 (l : Launch) (Z : State) (a0 : Array Value) (hw : ∀ d ∈ tables_1, d.before a0 Z = true) (ws : List Jvm.Cond) (p1 : Int32) (p2 : Int32) (h0 : Heap) (n0 : Nat) (Z0 : n0 ≤ h0.size) :
    MetFree l x (head1 (Jvm.Cond.code x code maxLocals ret :: ws) room_1) (fun a U => a = #[(.int p1), (.int p2)] ∧ Z.Warmed39 U.vm ∧ U.heap = h0) (fun _ _ _ _ _ => True) (fun _ U o U' => ∃ v L, o = .returned v ∧ (own_q0 Z p1 p2 h0 n0) v U'.heap L ∧ FrameEnd U o U' L room_1.cells room_1.slots) := by
  refine MetFree.of_bodySF (plainFor_of_name pn_1) hisR ?_
  intro p e s m args below meth c s₁ Bd hml0 hP hK
  obtain ⟨rfl, hZ, hh⟩ := hP
  have hx := Bd.exec
  have hby := Bd.bytes
  have hml : c.maxLocals = 8 := hml0
  have hown : s.vm.findClass "com/example/sound_verdict/soundverdict/XmlNameIsNameStartCharPinLaw" = some m.cls := findClass_of_methodNamed Bd.named
  have hnm := (name_of_methodNamed Bd.named Bd.method).1
  have X0 : Stand p l e room_1 s m #[(.int p1), (.int p2)] below meth c s₁ [] 0 0 := Stand.of_body Bd
  have e0 : s₁.heap = h0 := by rw [← hh, Bd.state]; rfl
  have N0 := Fr.nil n0
  have hw_0 := hw _ (List.mem_of_getElem? (i := 0) rfl)
  have hw_1 := hw _ (List.mem_of_getElem? (i := 1) rfl)
  have hw_2 := hw _ (List.mem_of_getElem? (i := 2) rfl)
  have hw_3 := hw _ (List.mem_of_getElem? (i := 3) rfl)
  have hw_4 := hw _ (List.mem_of_getElem? (i := 4) rfl)
  have hw_5 := hw _ (List.mem_of_getElem? (i := 5) rfl)
  have hw_6 := hw _ (List.mem_of_getElem? (i := 6) rfl)
  have hw_7 := hw _ (List.mem_of_getElem? (i := 7) rfl)
  have hw_8 := hw _ (List.mem_of_getElem? (i := 8) rfl)
  have hw_9 := hw _ (List.mem_of_getElem? (i := 9) rfl)
  have hw_10 := hw _ (List.mem_of_getElem? (i := 10) rfl)
  have hw_11 := hw _ (List.mem_of_getElem? (i := 11) rfl)
  have hw_12 := hw _ (List.mem_of_getElem? (i := 12) rfl)
  have hw_16 := hw _ (List.mem_of_getElem? (i := 16) rfl)
  have hw_17 := hw _ (List.mem_of_getElem? (i := 17) rfl)
  have hw_18 := hw _ (List.mem_of_getElem? (i := 18) rfl)
  have hw_19 := hw _ (List.mem_of_getElem? (i := 19) rfl)
  show own_Fin p e below (own_A s room_1.cells room_1.slots (own_q0 Z p1 p2 h0 n0)) _
  refine own_go (fun t k => castTop (ef_0 m (p1) (p2)) k) ?_
  show own_Fin p e below _ (s₁.setTop (mkF m 0 #[.val (.int p1), .val (.int p2), .unset, .unset, .unset, .unset, .unset, .unset] []))
  refine own_go (fun t k => XS.bipush X0.here hx rfl (hb hby at_0) k) ?_
  show own_Fin p e below _ (s₁.setTop (mkF m 2 #[.val (.int p1), .val (.int p2), .unset, .unset, .unset, .unset, .unset, .unset] [(.int (29 : Int32))]))
  obtain ⟨T1, h1, k1, X1, e1, E1, A1, st1⟩ := newP (aty := .int) X0 hx hZ hw_0 e0 (g := (mkF m 2 #[.val (.int p1), .val (.int p2), .unset, .unset, .unset, .unset, .unset, .unset] [(.int (29 : Int32))])) rfl (hb hby at_2) rfl (by decide) (cap := 29) (by decide) (by decide) (by decide) (by decide)
  obtain ⟨b1, g1⟩ : ∃ z, z = h0.size := ⟨_, rfl⟩
  rw [← g1] at A1 st1
  have g_b1 : n0 ≤ b1 := Nat.le_trans Z0 (Nat.le_of_eq g1.symm)
  have Zh2 : n0 ≤ h1.size := Nat.le_trans Z0 E1.1
  have V1 : Arv Z h1 b1 k1 .int (29 : Int32) [(.int (0 : Int32)), (.int (0 : Int32)), (.int (0 : Int32)), (.int (0 : Int32)), (.int (0 : Int32)), (.int (0 : Int32)), (.int (0 : Int32)), (.int (0 : Int32)), (.int (0 : Int32)), (.int (0 : Int32)), (.int (0 : Int32)), (.int (0 : Int32)), (.int (0 : Int32)), (.int (0 : Int32)), (.int (0 : Int32)), (.int (0 : Int32)), (.int (0 : Int32)), (.int (0 : Int32)), (.int (0 : Int32)), (.int (0 : Int32)), (.int (0 : Int32)), (.int (0 : Int32)), (.int (0 : Int32)), (.int (0 : Int32)), (.int (0 : Int32)), (.int (0 : Int32)), (.int (0 : Int32)), (.int (0 : Int32)), (.int (0 : Int32))] (.int (0 : Int32)) := (Arv.new A1 (by decide)).pad (pad_rep [] (.int (0 : Int32)) 29)
  refine own_go st1 ?_
  show own_Fin p e below _ (T1.setTop (mkF m 4 #[.val (.int p1), .val (.int p2), .unset, .unset, .unset, .unset, .unset, .unset] [(.ref b1)]))
  refine own_go (fun t k => XS.dup X1.here hx rfl (hb hby at_4) rfl rfl (XS.iconst X1.here hx rfl (hb hby at_5) (XS.bipush X1.here hx rfl (hb hby at_6) k))) ?_
  show own_Fin p e below _ (T1.setTop (mkF m 8 #[.val (.int p1), .val (.int p2), .unset, .unset, .unset, .unset, .unset, .unset] [(.int (65 : Int32)), (.int (0 : Int32)), (.ref b1), (.ref b1)]))
  obtain ⟨cl3, Ar3, q3, S3, M3, H3, G3⟩ := (id V1)
  have hin3 : ¬ ((0 : Int32) < 0 ∨ cl3.slots.size ≤ ((0 : Int32)).toNatClampNeg) := inb_of S3 ⟨by decide, by decide⟩
  obtain ⟨T3, h3, X3, e3, W3, st3⟩ := stI X1 hx hZ e1 Ar3 (j := (0 : Int32)) hin3 (g := (mkF m 8 #[.val (.int p1), .val (.int p2), .unset, .unset, .unset, .unset, .unset, .unset] [(.int (65 : Int32)), (.int (0 : Int32)), (.ref b1), (.ref b1)])) rfl rfl (hb hby at_8)
  have V3 := Arv.set Ar3 q3 S3 M3 H3 G3 rfl W3 0 rfl (Nat.le_of_ble_eq_true rfl)
  have f5 : Arv Z h3 b1 k1 .int (29 : Int32) [(.int (65 : Int32)), (.int (0 : Int32)), (.int (0 : Int32)), (.int (0 : Int32)), (.int (0 : Int32)), (.int (0 : Int32)), (.int (0 : Int32)), (.int (0 : Int32)), (.int (0 : Int32)), (.int (0 : Int32)), (.int (0 : Int32)), (.int (0 : Int32)), (.int (0 : Int32)), (.int (0 : Int32)), (.int (0 : Int32)), (.int (0 : Int32)), (.int (0 : Int32)), (.int (0 : Int32)), (.int (0 : Int32)), (.int (0 : Int32)), (.int (0 : Int32)), (.int (0 : Int32)), (.int (0 : Int32)), (.int (0 : Int32)), (.int (0 : Int32)), (.int (0 : Int32)), (.int (0 : Int32)), (.int (0 : Int32)), (.int (0 : Int32))] (.int (0 : Int32)) := V3
  have Zh6 : n0 ≤ h3.size := Nat.le_trans Zh2 (Nat.le_of_eq W3.size.symm)
  have N3 := Fr.snoc X3 N0 g_b1
  refine own_go st3 ?_
  show own_Fin p e below _ (T3.setTop (mkF m 9 #[.val (.int p1), .val (.int p2), .unset, .unset, .unset, .unset, .unset, .unset] [(.ref b1)]))
  clear V3 hin3 G3 H3 M3 S3 q3 Ar3 cl3 st3 W3 V1 X1 e1 Zh2
  refine own_go (fun t k => XS.dup X3.here hx rfl (hb hby at_9) rfl rfl (XS.iconst X3.here hx rfl (hb hby at_10) (XS.bipush X3.here hx rfl (hb hby at_11) k))) ?_
  show own_Fin p e below _ (T3.setTop (mkF m 13 #[.val (.int p1), .val (.int p2), .unset, .unset, .unset, .unset, .unset, .unset] [(.int (90 : Int32)), (.int (1 : Int32)), (.ref b1), (.ref b1)]))
  obtain ⟨cl7, Ar7, q7, S7, M7, H7, G7⟩ := (id f5)
  have hin7 : ¬ ((1 : Int32) < 0 ∨ cl7.slots.size ≤ ((1 : Int32)).toNatClampNeg) := inb_of S7 ⟨by decide, by decide⟩
  obtain ⟨T7, h7, X7, e7, W7, st7⟩ := stI X3 hx hZ e3 Ar7 (j := (1 : Int32)) hin7 (g := (mkF m 13 #[.val (.int p1), .val (.int p2), .unset, .unset, .unset, .unset, .unset, .unset] [(.int (90 : Int32)), (.int (1 : Int32)), (.ref b1), (.ref b1)])) rfl rfl (hb hby at_13)
  have V7 := Arv.set Ar7 q7 S7 M7 H7 G7 rfl W7 1 rfl (Nat.le_of_ble_eq_true rfl)
  have f9 : Arv Z h7 b1 k1 .int (29 : Int32) [(.int (65 : Int32)), (.int (90 : Int32)), (.int (0 : Int32)), (.int (0 : Int32)), (.int (0 : Int32)), (.int (0 : Int32)), (.int (0 : Int32)), (.int (0 : Int32)), (.int (0 : Int32)), (.int (0 : Int32)), (.int (0 : Int32)), (.int (0 : Int32)), (.int (0 : Int32)), (.int (0 : Int32)), (.int (0 : Int32)), (.int (0 : Int32)), (.int (0 : Int32)), (.int (0 : Int32)), (.int (0 : Int32)), (.int (0 : Int32)), (.int (0 : Int32)), (.int (0 : Int32)), (.int (0 : Int32)), (.int (0 : Int32)), (.int (0 : Int32)), (.int (0 : Int32)), (.int (0 : Int32)), (.int (0 : Int32)), (.int (0 : Int32))] (.int (0 : Int32)) := V7
  have Zh10 : n0 ≤ h7.size := Nat.le_trans Zh6 (Nat.le_of_eq W7.size.symm)
  have N7 := Fr.snoc X7 N3 g_b1
  refine own_go st7 ?_
  show own_Fin p e below _ (T7.setTop (mkF m 14 #[.val (.int p1), .val (.int p2), .unset, .unset, .unset, .unset, .unset, .unset] [(.ref b1)]))
  clear V7 hin7 G7 H7 M7 S7 q7 Ar7 cl7 st7 W7 f5 X3 e3 Zh6 N3
  refine own_go (fun t k => XS.dup X7.here hx rfl (hb hby at_14) rfl rfl (XS.iconst X7.here hx rfl (hb hby at_15) (XS.bipush X7.here hx rfl (hb hby at_16) k))) ?_
  show own_Fin p e below _ (T7.setTop (mkF m 18 #[.val (.int p1), .val (.int p2), .unset, .unset, .unset, .unset, .unset, .unset] [(.int (95 : Int32)), (.int (2 : Int32)), (.ref b1), (.ref b1)]))
  obtain ⟨cl11, Ar11, q11, S11, M11, H11, G11⟩ := (id f9)
  have hin11 : ¬ ((2 : Int32) < 0 ∨ cl11.slots.size ≤ ((2 : Int32)).toNatClampNeg) := inb_of S11 ⟨by decide, by decide⟩
  obtain ⟨T11, h11, X11, e11, W11, st11⟩ := stI X7 hx hZ e7 Ar11 (j := (2 : Int32)) hin11 (g := (mkF m 18 #[.val (.int p1), .val (.int p2), .unset, .unset, .unset, .unset, .unset, .unset] [(.int (95 : Int32)), (.int (2 : Int32)), (.ref b1), (.ref b1)])) rfl rfl (hb hby at_18)
  have V11 := Arv.set Ar11 q11 S11 M11 H11 G11 rfl W11 2 rfl (Nat.le_of_ble_eq_true rfl)
  have f13 : Arv Z h11 b1 k1 .int (29 : Int32) [(.int (65 : Int32)), (.int (90 : Int32)), (.int (95 : Int32)), (.int (0 : Int32)), (.int (0 : Int32)), (.int (0 : Int32)), (.int (0 : Int32)), (.int (0 : Int32)), (.int (0 : Int32)), (.int (0 : Int32)), (.int (0 : Int32)), (.int (0 : Int32)), (.int (0 : Int32)), (.int (0 : Int32)), (.int (0 : Int32)), (.int (0 : Int32)), (.int (0 : Int32)), (.int (0 : Int32)), (.int (0 : Int32)), (.int (0 : Int32)), (.int (0 : Int32)), (.int (0 : Int32)), (.int (0 : Int32)), (.int (0 : Int32)), (.int (0 : Int32)), (.int (0 : Int32)), (.int (0 : Int32)), (.int (0 : Int32)), (.int (0 : Int32))] (.int (0 : Int32)) := V11
  have Zh14 : n0 ≤ h11.size := Nat.le_trans Zh10 (Nat.le_of_eq W11.size.symm)
  have N11 := Fr.snoc X11 N7 g_b1
  refine own_go st11 ?_
  show own_Fin p e below _ (T11.setTop (mkF m 19 #[.val (.int p1), .val (.int p2), .unset, .unset, .unset, .unset, .unset, .unset] [(.ref b1)]))
  clear V11 hin11 G11 H11 M11 S11 q11 Ar11 cl11 st11 W11 f9 X7 e7 Zh10 N7
  refine own_go (fun t k => XS.dup X11.here hx rfl (hb hby at_19) rfl rfl (XS.iconst X11.here hx rfl (hb hby at_20) (XS.bipush X11.here hx rfl (hb hby at_21) k))) ?_
  show own_Fin p e below _ (T11.setTop (mkF m 23 #[.val (.int p1), .val (.int p2), .unset, .unset, .unset, .unset, .unset, .unset] [(.int (97 : Int32)), (.int (3 : Int32)), (.ref b1), (.ref b1)]))
  obtain ⟨cl15, Ar15, q15, S15, M15, H15, G15⟩ := (id f13)
  have hin15 : ¬ ((3 : Int32) < 0 ∨ cl15.slots.size ≤ ((3 : Int32)).toNatClampNeg) := inb_of S15 ⟨by decide, by decide⟩
  obtain ⟨T15, h15, X15, e15, W15, st15⟩ := stI X11 hx hZ e11 Ar15 (j := (3 : Int32)) hin15 (g := (mkF m 23 #[.val (.int p1), .val (.int p2), .unset, .unset, .unset, .unset, .unset, .unset] [(.int (97 : Int32)), (.int (3 : Int32)), (.ref b1), (.ref b1)])) rfl rfl (hb hby at_23)
  have V15 := Arv.set Ar15 q15 S15 M15 H15 G15 rfl W15 3 rfl (Nat.le_of_ble_eq_true rfl)
  have f17 : Arv Z h15 b1 k1 .int (29 : Int32) [(.int (65 : Int32)), (.int (90 : Int32)), (.int (95 : Int32)), (.int (97 : Int32)), (.int (0 : Int32)), (.int (0 : Int32)), (.int (0 : Int32)), (.int (0 : Int32)), (.int (0 : Int32)), (.int (0 : Int32)), (.int (0 : Int32)), (.int (0 : Int32)), (.int (0 : Int32)), (.int (0 : Int32)), (.int (0 : Int32)), (.int (0 : Int32)), (.int (0 : Int32)), (.int (0 : Int32)), (.int (0 : Int32)), (.int (0 : Int32)), (.int (0 : Int32)), (.int (0 : Int32)), (.int (0 : Int32)), (.int (0 : Int32)), (.int (0 : Int32)), (.int (0 : Int32)), (.int (0 : Int32)), (.int (0 : Int32)), (.int (0 : Int32))] (.int (0 : Int32)) := V15
  have Zh18 : n0 ≤ h15.size := Nat.le_trans Zh14 (Nat.le_of_eq W15.size.symm)
  have N15 := Fr.snoc X15 N11 g_b1
  refine own_go st15 ?_
  show own_Fin p e below _ (T15.setTop (mkF m 24 #[.val (.int p1), .val (.int p2), .unset, .unset, .unset, .unset, .unset, .unset] [(.ref b1)]))
  clear V15 hin15 G15 H15 M15 S15 q15 Ar15 cl15 st15 W15 f13 X11 e11 Zh14 N11
  refine own_go (fun t k => XS.dup X15.here hx rfl (hb hby at_24) rfl rfl (XS.iconst X15.here hx rfl (hb hby at_25) (XS.bipush X15.here hx rfl (hb hby at_26) k))) ?_
  show own_Fin p e below _ (T15.setTop (mkF m 28 #[.val (.int p1), .val (.int p2), .unset, .unset, .unset, .unset, .unset, .unset] [(.int (122 : Int32)), (.int (4 : Int32)), (.ref b1), (.ref b1)]))
  obtain ⟨cl19, Ar19, q19, S19, M19, H19, G19⟩ := (id f17)
  have hin19 : ¬ ((4 : Int32) < 0 ∨ cl19.slots.size ≤ ((4 : Int32)).toNatClampNeg) := inb_of S19 ⟨by decide, by decide⟩
  obtain ⟨T19, h19, X19, e19, W19, st19⟩ := stI X15 hx hZ e15 Ar19 (j := (4 : Int32)) hin19 (g := (mkF m 28 #[.val (.int p1), .val (.int p2), .unset, .unset, .unset, .unset, .unset, .unset] [(.int (122 : Int32)), (.int (4 : Int32)), (.ref b1), (.ref b1)])) rfl rfl (hb hby at_28)
  have V19 := Arv.set Ar19 q19 S19 M19 H19 G19 rfl W19 4 rfl (Nat.le_of_ble_eq_true rfl)
  have f21 : Arv Z h19 b1 k1 .int (29 : Int32) [(.int (65 : Int32)), (.int (90 : Int32)), (.int (95 : Int32)), (.int (97 : Int32)), (.int (122 : Int32)), (.int (0 : Int32)), (.int (0 : Int32)), (.int (0 : Int32)), (.int (0 : Int32)), (.int (0 : Int32)), (.int (0 : Int32)), (.int (0 : Int32)), (.int (0 : Int32)), (.int (0 : Int32)), (.int (0 : Int32)), (.int (0 : Int32)), (.int (0 : Int32)), (.int (0 : Int32)), (.int (0 : Int32)), (.int (0 : Int32)), (.int (0 : Int32)), (.int (0 : Int32)), (.int (0 : Int32)), (.int (0 : Int32)), (.int (0 : Int32)), (.int (0 : Int32)), (.int (0 : Int32)), (.int (0 : Int32)), (.int (0 : Int32))] (.int (0 : Int32)) := V19
  have Zh22 : n0 ≤ h19.size := Nat.le_trans Zh18 (Nat.le_of_eq W19.size.symm)
  have N19 := Fr.snoc X19 N15 g_b1
  refine own_go st19 ?_
  show own_Fin p e below _ (T19.setTop (mkF m 29 #[.val (.int p1), .val (.int p2), .unset, .unset, .unset, .unset, .unset, .unset] [(.ref b1)]))
  clear V19 hin19 G19 H19 M19 S19 q19 Ar19 cl19 st19 W19 f17 X15 e15 Zh18 N15
  refine own_go (fun t k => XS.dup X19.here hx rfl (hb hby at_29) rfl rfl (XS.iconst X19.here hx rfl (hb hby at_30) (XS.sipush X19.here hx rfl (hb hby at_31) k))) ?_
  show own_Fin p e below _ (T19.setTop (mkF m 34 #[.val (.int p1), .val (.int p2), .unset, .unset, .unset, .unset, .unset, .unset] [(.int (192 : Int32)), (.int (5 : Int32)), (.ref b1), (.ref b1)]))
  obtain ⟨cl23, Ar23, q23, S23, M23, H23, G23⟩ := (id f21)
  have hin23 : ¬ ((5 : Int32) < 0 ∨ cl23.slots.size ≤ ((5 : Int32)).toNatClampNeg) := inb_of S23 ⟨by decide, by decide⟩
  obtain ⟨T23, h23, X23, e23, W23, st23⟩ := stI X19 hx hZ e19 Ar23 (j := (5 : Int32)) hin23 (g := (mkF m 34 #[.val (.int p1), .val (.int p2), .unset, .unset, .unset, .unset, .unset, .unset] [(.int (192 : Int32)), (.int (5 : Int32)), (.ref b1), (.ref b1)])) rfl rfl (hb hby at_34)
  have V23 := Arv.set Ar23 q23 S23 M23 H23 G23 rfl W23 5 rfl (Nat.le_of_ble_eq_true rfl)
  have f25 : Arv Z h23 b1 k1 .int (29 : Int32) [(.int (65 : Int32)), (.int (90 : Int32)), (.int (95 : Int32)), (.int (97 : Int32)), (.int (122 : Int32)), (.int (192 : Int32)), (.int (0 : Int32)), (.int (0 : Int32)), (.int (0 : Int32)), (.int (0 : Int32)), (.int (0 : Int32)), (.int (0 : Int32)), (.int (0 : Int32)), (.int (0 : Int32)), (.int (0 : Int32)), (.int (0 : Int32)), (.int (0 : Int32)), (.int (0 : Int32)), (.int (0 : Int32)), (.int (0 : Int32)), (.int (0 : Int32)), (.int (0 : Int32)), (.int (0 : Int32)), (.int (0 : Int32)), (.int (0 : Int32)), (.int (0 : Int32)), (.int (0 : Int32)), (.int (0 : Int32)), (.int (0 : Int32))] (.int (0 : Int32)) := V23
  have Zh26 : n0 ≤ h23.size := Nat.le_trans Zh22 (Nat.le_of_eq W23.size.symm)
  have N23 := Fr.snoc X23 N19 g_b1
  refine own_go st23 ?_
  show own_Fin p e below _ (T23.setTop (mkF m 35 #[.val (.int p1), .val (.int p2), .unset, .unset, .unset, .unset, .unset, .unset] [(.ref b1)]))
  clear V23 hin23 G23 H23 M23 S23 q23 Ar23 cl23 st23 W23 f21 X19 e19 Zh22 N19
  refine own_go (fun t k => XS.dup X23.here hx rfl (hb hby at_35) rfl rfl (XS.bipush X23.here hx rfl (hb hby at_36) (XS.sipush X23.here hx rfl (hb hby at_38) k))) ?_
  show own_Fin p e below _ (T23.setTop (mkF m 41 #[.val (.int p1), .val (.int p2), .unset, .unset, .unset, .unset, .unset, .unset] [(.int (214 : Int32)), (.int (6 : Int32)), (.ref b1), (.ref b1)]))
  obtain ⟨cl27, Ar27, q27, S27, M27, H27, G27⟩ := (id f25)
  have hin27 : ¬ ((6 : Int32) < 0 ∨ cl27.slots.size ≤ ((6 : Int32)).toNatClampNeg) := inb_of S27 ⟨by decide, by decide⟩
  obtain ⟨T27, h27, X27, e27, W27, st27⟩ := stI X23 hx hZ e23 Ar27 (j := (6 : Int32)) hin27 (g := (mkF m 41 #[.val (.int p1), .val (.int p2), .unset, .unset, .unset, .unset, .unset, .unset] [(.int (214 : Int32)), (.int (6 : Int32)), (.ref b1), (.ref b1)])) rfl rfl (hb hby at_41)
  have V27 := Arv.set Ar27 q27 S27 M27 H27 G27 rfl W27 6 rfl (Nat.le_of_ble_eq_true rfl)
  have f29 : Arv Z h27 b1 k1 .int (29 : Int32) [(.int (65 : Int32)), (.int (90 : Int32)), (.int (95 : Int32)), (.int (97 : Int32)), (.int (122 : Int32)), (.int (192 : Int32)), (.int (214 : Int32)), (.int (0 : Int32)), (.int (0 : Int32)), (.int (0 : Int32)), (.int (0 : Int32)), (.int (0 : Int32)), (.int (0 : Int32)), (.int (0 : Int32)), (.int (0 : Int32)), (.int (0 : Int32)), (.int (0 : Int32)), (.int (0 : Int32)), (.int (0 : Int32)), (.int (0 : Int32)), (.int (0 : Int32)), (.int (0 : Int32)), (.int (0 : Int32)), (.int (0 : Int32)), (.int (0 : Int32)), (.int (0 : Int32)), (.int (0 : Int32)), (.int (0 : Int32)), (.int (0 : Int32))] (.int (0 : Int32)) := V27
  have Zh30 : n0 ≤ h27.size := Nat.le_trans Zh26 (Nat.le_of_eq W27.size.symm)
  have N27 := Fr.snoc X27 N23 g_b1
  refine own_go st27 ?_
  show own_Fin p e below _ (T27.setTop (mkF m 42 #[.val (.int p1), .val (.int p2), .unset, .unset, .unset, .unset, .unset, .unset] [(.ref b1)]))
  clear V27 hin27 G27 H27 M27 S27 q27 Ar27 cl27 st27 W27 f25 X23 e23 Zh26 N23
  refine own_go (fun t k => XS.dup X27.here hx rfl (hb hby at_42) rfl rfl (XS.bipush X27.here hx rfl (hb hby at_43) (XS.sipush X27.here hx rfl (hb hby at_45) k))) ?_
  show own_Fin p e below _ (T27.setTop (mkF m 48 #[.val (.int p1), .val (.int p2), .unset, .unset, .unset, .unset, .unset, .unset] [(.int (216 : Int32)), (.int (7 : Int32)), (.ref b1), (.ref b1)]))
  obtain ⟨cl31, Ar31, q31, S31, M31, H31, G31⟩ := (id f29)
  have hin31 : ¬ ((7 : Int32) < 0 ∨ cl31.slots.size ≤ ((7 : Int32)).toNatClampNeg) := inb_of S31 ⟨by decide, by decide⟩
  obtain ⟨T31, h31, X31, e31, W31, st31⟩ := stI X27 hx hZ e27 Ar31 (j := (7 : Int32)) hin31 (g := (mkF m 48 #[.val (.int p1), .val (.int p2), .unset, .unset, .unset, .unset, .unset, .unset] [(.int (216 : Int32)), (.int (7 : Int32)), (.ref b1), (.ref b1)])) rfl rfl (hb hby at_48)
  have V31 := Arv.set Ar31 q31 S31 M31 H31 G31 rfl W31 7 rfl (Nat.le_of_ble_eq_true rfl)
  have f33 : Arv Z h31 b1 k1 .int (29 : Int32) [(.int (65 : Int32)), (.int (90 : Int32)), (.int (95 : Int32)), (.int (97 : Int32)), (.int (122 : Int32)), (.int (192 : Int32)), (.int (214 : Int32)), (.int (216 : Int32)), (.int (0 : Int32)), (.int (0 : Int32)), (.int (0 : Int32)), (.int (0 : Int32)), (.int (0 : Int32)), (.int (0 : Int32)), (.int (0 : Int32)), (.int (0 : Int32)), (.int (0 : Int32)), (.int (0 : Int32)), (.int (0 : Int32)), (.int (0 : Int32)), (.int (0 : Int32)), (.int (0 : Int32)), (.int (0 : Int32)), (.int (0 : Int32)), (.int (0 : Int32)), (.int (0 : Int32)), (.int (0 : Int32)), (.int (0 : Int32)), (.int (0 : Int32))] (.int (0 : Int32)) := V31
  have Zh34 : n0 ≤ h31.size := Nat.le_trans Zh30 (Nat.le_of_eq W31.size.symm)
  have N31 := Fr.snoc X31 N27 g_b1
  refine own_go st31 ?_
  show own_Fin p e below _ (T31.setTop (mkF m 49 #[.val (.int p1), .val (.int p2), .unset, .unset, .unset, .unset, .unset, .unset] [(.ref b1)]))
  clear V31 hin31 G31 H31 M31 S31 q31 Ar31 cl31 st31 W31 f29 X27 e27 Zh30 N27
  refine own_go (fun t k => XS.dup X31.here hx rfl (hb hby at_49) rfl rfl (XS.bipush X31.here hx rfl (hb hby at_50) (XS.sipush X31.here hx rfl (hb hby at_52) k))) ?_
  show own_Fin p e below _ (T31.setTop (mkF m 55 #[.val (.int p1), .val (.int p2), .unset, .unset, .unset, .unset, .unset, .unset] [(.int (246 : Int32)), (.int (8 : Int32)), (.ref b1), (.ref b1)]))
  obtain ⟨cl35, Ar35, q35, S35, M35, H35, G35⟩ := (id f33)
  have hin35 : ¬ ((8 : Int32) < 0 ∨ cl35.slots.size ≤ ((8 : Int32)).toNatClampNeg) := inb_of S35 ⟨by decide, by decide⟩
  obtain ⟨T35, h35, X35, e35, W35, st35⟩ := stI X31 hx hZ e31 Ar35 (j := (8 : Int32)) hin35 (g := (mkF m 55 #[.val (.int p1), .val (.int p2), .unset, .unset, .unset, .unset, .unset, .unset] [(.int (246 : Int32)), (.int (8 : Int32)), (.ref b1), (.ref b1)])) rfl rfl (hb hby at_55)
  have V35 := Arv.set Ar35 q35 S35 M35 H35 G35 rfl W35 8 rfl (Nat.le_of_ble_eq_true rfl)
  have f37 : Arv Z h35 b1 k1 .int (29 : Int32) [(.int (65 : Int32)), (.int (90 : Int32)), (.int (95 : Int32)), (.int (97 : Int32)), (.int (122 : Int32)), (.int (192 : Int32)), (.int (214 : Int32)), (.int (216 : Int32)), (.int (246 : Int32)), (.int (0 : Int32)), (.int (0 : Int32)), (.int (0 : Int32)), (.int (0 : Int32)), (.int (0 : Int32)), (.int (0 : Int32)), (.int (0 : Int32)), (.int (0 : Int32)), (.int (0 : Int32)), (.int (0 : Int32)), (.int (0 : Int32)), (.int (0 : Int32)), (.int (0 : Int32)), (.int (0 : Int32)), (.int (0 : Int32)), (.int (0 : Int32)), (.int (0 : Int32)), (.int (0 : Int32)), (.int (0 : Int32)), (.int (0 : Int32))] (.int (0 : Int32)) := V35
  have Zh38 : n0 ≤ h35.size := Nat.le_trans Zh34 (Nat.le_of_eq W35.size.symm)
  have N35 := Fr.snoc X35 N31 g_b1
  refine own_go st35 ?_
  show own_Fin p e below _ (T35.setTop (mkF m 56 #[.val (.int p1), .val (.int p2), .unset, .unset, .unset, .unset, .unset, .unset] [(.ref b1)]))
  clear V35 hin35 G35 H35 M35 S35 q35 Ar35 cl35 st35 W35 f33 X31 e31 Zh34 N31
  refine own_go (fun t k => XS.dup X35.here hx rfl (hb hby at_56) rfl rfl (XS.bipush X35.here hx rfl (hb hby at_57) (XS.sipush X35.here hx rfl (hb hby at_59) k))) ?_
  show own_Fin p e below _ (T35.setTop (mkF m 62 #[.val (.int p1), .val (.int p2), .unset, .unset, .unset, .unset, .unset, .unset] [(.int (248 : Int32)), (.int (9 : Int32)), (.ref b1), (.ref b1)]))
  obtain ⟨cl39, Ar39, q39, S39, M39, H39, G39⟩ := (id f37)
  have hin39 : ¬ ((9 : Int32) < 0 ∨ cl39.slots.size ≤ ((9 : Int32)).toNatClampNeg) := inb_of S39 ⟨by decide, by decide⟩
  obtain ⟨T39, h39, X39, e39, W39, st39⟩ := stI X35 hx hZ e35 Ar39 (j := (9 : Int32)) hin39 (g := (mkF m 62 #[.val (.int p1), .val (.int p2), .unset, .unset, .unset, .unset, .unset, .unset] [(.int (248 : Int32)), (.int (9 : Int32)), (.ref b1), (.ref b1)])) rfl rfl (hb hby at_62)
  have V39 := Arv.set Ar39 q39 S39 M39 H39 G39 rfl W39 9 rfl (Nat.le_of_ble_eq_true rfl)
  have f41 : Arv Z h39 b1 k1 .int (29 : Int32) [(.int (65 : Int32)), (.int (90 : Int32)), (.int (95 : Int32)), (.int (97 : Int32)), (.int (122 : Int32)), (.int (192 : Int32)), (.int (214 : Int32)), (.int (216 : Int32)), (.int (246 : Int32)), (.int (248 : Int32)), (.int (0 : Int32)), (.int (0 : Int32)), (.int (0 : Int32)), (.int (0 : Int32)), (.int (0 : Int32)), (.int (0 : Int32)), (.int (0 : Int32)), (.int (0 : Int32)), (.int (0 : Int32)), (.int (0 : Int32)), (.int (0 : Int32)), (.int (0 : Int32)), (.int (0 : Int32)), (.int (0 : Int32)), (.int (0 : Int32)), (.int (0 : Int32)), (.int (0 : Int32)), (.int (0 : Int32)), (.int (0 : Int32))] (.int (0 : Int32)) := V39
  have Zh42 : n0 ≤ h39.size := Nat.le_trans Zh38 (Nat.le_of_eq W39.size.symm)
  have N39 := Fr.snoc X39 N35 g_b1
  refine own_go st39 ?_
  show own_Fin p e below _ (T39.setTop (mkF m 63 #[.val (.int p1), .val (.int p2), .unset, .unset, .unset, .unset, .unset, .unset] [(.ref b1)]))
  clear V39 hin39 G39 H39 M39 S39 q39 Ar39 cl39 st39 W39 f37 X35 e35 Zh38 N35
  refine own_go (fun t k => XS.dup X39.here hx rfl (hb hby at_63) rfl rfl (XS.bipush X39.here hx rfl (hb hby at_64) (XS.sipush X39.here hx rfl (hb hby at_66) k))) ?_
  show own_Fin p e below _ (T39.setTop (mkF m 69 #[.val (.int p1), .val (.int p2), .unset, .unset, .unset, .unset, .unset, .unset] [(.int (767 : Int32)), (.int (10 : Int32)), (.ref b1), (.ref b1)]))
  obtain ⟨cl43, Ar43, q43, S43, M43, H43, G43⟩ := (id f41)
  have hin43 : ¬ ((10 : Int32) < 0 ∨ cl43.slots.size ≤ ((10 : Int32)).toNatClampNeg) := inb_of S43 ⟨by decide, by decide⟩
  obtain ⟨T43, h43, X43, e43, W43, st43⟩ := stI X39 hx hZ e39 Ar43 (j := (10 : Int32)) hin43 (g := (mkF m 69 #[.val (.int p1), .val (.int p2), .unset, .unset, .unset, .unset, .unset, .unset] [(.int (767 : Int32)), (.int (10 : Int32)), (.ref b1), (.ref b1)])) rfl rfl (hb hby at_69)
  have V43 := Arv.set Ar43 q43 S43 M43 H43 G43 rfl W43 10 rfl (Nat.le_of_ble_eq_true rfl)
  have f45 : Arv Z h43 b1 k1 .int (29 : Int32) [(.int (65 : Int32)), (.int (90 : Int32)), (.int (95 : Int32)), (.int (97 : Int32)), (.int (122 : Int32)), (.int (192 : Int32)), (.int (214 : Int32)), (.int (216 : Int32)), (.int (246 : Int32)), (.int (248 : Int32)), (.int (767 : Int32)), (.int (0 : Int32)), (.int (0 : Int32)), (.int (0 : Int32)), (.int (0 : Int32)), (.int (0 : Int32)), (.int (0 : Int32)), (.int (0 : Int32)), (.int (0 : Int32)), (.int (0 : Int32)), (.int (0 : Int32)), (.int (0 : Int32)), (.int (0 : Int32)), (.int (0 : Int32)), (.int (0 : Int32)), (.int (0 : Int32)), (.int (0 : Int32)), (.int (0 : Int32)), (.int (0 : Int32))] (.int (0 : Int32)) := V43
  have Zh46 : n0 ≤ h43.size := Nat.le_trans Zh42 (Nat.le_of_eq W43.size.symm)
  have N43 := Fr.snoc X43 N39 g_b1
  refine own_go st43 ?_
  show own_Fin p e below _ (T43.setTop (mkF m 70 #[.val (.int p1), .val (.int p2), .unset, .unset, .unset, .unset, .unset, .unset] [(.ref b1)]))
  clear V43 hin43 G43 H43 M43 S43 q43 Ar43 cl43 st43 W43 f41 X39 e39 Zh42 N39
  refine own_go (fun t k => XS.dup X43.here hx rfl (hb hby at_70) rfl rfl (XS.bipush X43.here hx rfl (hb hby at_71) (XS.sipush X43.here hx rfl (hb hby at_73) k))) ?_
  show own_Fin p e below _ (T43.setTop (mkF m 76 #[.val (.int p1), .val (.int p2), .unset, .unset, .unset, .unset, .unset, .unset] [(.int (880 : Int32)), (.int (11 : Int32)), (.ref b1), (.ref b1)]))
  obtain ⟨cl47, Ar47, q47, S47, M47, H47, G47⟩ := (id f45)
  have hin47 : ¬ ((11 : Int32) < 0 ∨ cl47.slots.size ≤ ((11 : Int32)).toNatClampNeg) := inb_of S47 ⟨by decide, by decide⟩
  obtain ⟨T47, h47, X47, e47, W47, st47⟩ := stI X43 hx hZ e43 Ar47 (j := (11 : Int32)) hin47 (g := (mkF m 76 #[.val (.int p1), .val (.int p2), .unset, .unset, .unset, .unset, .unset, .unset] [(.int (880 : Int32)), (.int (11 : Int32)), (.ref b1), (.ref b1)])) rfl rfl (hb hby at_76)
  have V47 := Arv.set Ar47 q47 S47 M47 H47 G47 rfl W47 11 rfl (Nat.le_of_ble_eq_true rfl)
  have f49 : Arv Z h47 b1 k1 .int (29 : Int32) [(.int (65 : Int32)), (.int (90 : Int32)), (.int (95 : Int32)), (.int (97 : Int32)), (.int (122 : Int32)), (.int (192 : Int32)), (.int (214 : Int32)), (.int (216 : Int32)), (.int (246 : Int32)), (.int (248 : Int32)), (.int (767 : Int32)), (.int (880 : Int32)), (.int (0 : Int32)), (.int (0 : Int32)), (.int (0 : Int32)), (.int (0 : Int32)), (.int (0 : Int32)), (.int (0 : Int32)), (.int (0 : Int32)), (.int (0 : Int32)), (.int (0 : Int32)), (.int (0 : Int32)), (.int (0 : Int32)), (.int (0 : Int32)), (.int (0 : Int32)), (.int (0 : Int32)), (.int (0 : Int32)), (.int (0 : Int32)), (.int (0 : Int32))] (.int (0 : Int32)) := V47
  have Zh50 : n0 ≤ h47.size := Nat.le_trans Zh46 (Nat.le_of_eq W47.size.symm)
  have N47 := Fr.snoc X47 N43 g_b1
  refine own_go st47 ?_
  show own_Fin p e below _ (T47.setTop (mkF m 77 #[.val (.int p1), .val (.int p2), .unset, .unset, .unset, .unset, .unset, .unset] [(.ref b1)]))
  clear V47 hin47 G47 H47 M47 S47 q47 Ar47 cl47 st47 W47 f45 X43 e43 Zh46 N43
  refine own_go (fun t k => XS.dup X47.here hx rfl (hb hby at_77) rfl rfl (XS.bipush X47.here hx rfl (hb hby at_78) (XS.sipush X47.here hx rfl (hb hby at_80) k))) ?_
  show own_Fin p e below _ (T47.setTop (mkF m 83 #[.val (.int p1), .val (.int p2), .unset, .unset, .unset, .unset, .unset, .unset] [(.int (893 : Int32)), (.int (12 : Int32)), (.ref b1), (.ref b1)]))
  obtain ⟨cl51, Ar51, q51, S51, M51, H51, G51⟩ := (id f49)
  have hin51 : ¬ ((12 : Int32) < 0 ∨ cl51.slots.size ≤ ((12 : Int32)).toNatClampNeg) := inb_of S51 ⟨by decide, by decide⟩
  obtain ⟨T51, h51, X51, e51, W51, st51⟩ := stI X47 hx hZ e47 Ar51 (j := (12 : Int32)) hin51 (g := (mkF m 83 #[.val (.int p1), .val (.int p2), .unset, .unset, .unset, .unset, .unset, .unset] [(.int (893 : Int32)), (.int (12 : Int32)), (.ref b1), (.ref b1)])) rfl rfl (hb hby at_83)
  have V51 := Arv.set Ar51 q51 S51 M51 H51 G51 rfl W51 12 rfl (Nat.le_of_ble_eq_true rfl)
  have f53 : Arv Z h51 b1 k1 .int (29 : Int32) [(.int (65 : Int32)), (.int (90 : Int32)), (.int (95 : Int32)), (.int (97 : Int32)), (.int (122 : Int32)), (.int (192 : Int32)), (.int (214 : Int32)), (.int (216 : Int32)), (.int (246 : Int32)), (.int (248 : Int32)), (.int (767 : Int32)), (.int (880 : Int32)), (.int (893 : Int32)), (.int (0 : Int32)), (.int (0 : Int32)), (.int (0 : Int32)), (.int (0 : Int32)), (.int (0 : Int32)), (.int (0 : Int32)), (.int (0 : Int32)), (.int (0 : Int32)), (.int (0 : Int32)), (.int (0 : Int32)), (.int (0 : Int32)), (.int (0 : Int32)), (.int (0 : Int32)), (.int (0 : Int32)), (.int (0 : Int32)), (.int (0 : Int32))] (.int (0 : Int32)) := V51
  have Zh54 : n0 ≤ h51.size := Nat.le_trans Zh50 (Nat.le_of_eq W51.size.symm)
  have N51 := Fr.snoc X51 N47 g_b1
  refine own_go st51 ?_
  show own_Fin p e below _ (T51.setTop (mkF m 84 #[.val (.int p1), .val (.int p2), .unset, .unset, .unset, .unset, .unset, .unset] [(.ref b1)]))
  clear V51 hin51 G51 H51 M51 S51 q51 Ar51 cl51 st51 W51 f49 X47 e47 Zh50 N47
  refine own_go (fun t k => XS.dup X51.here hx rfl (hb hby at_84) rfl rfl (XS.bipush X51.here hx rfl (hb hby at_85) (XS.sipush X51.here hx rfl (hb hby at_87) k))) ?_
  show own_Fin p e below _ (T51.setTop (mkF m 90 #[.val (.int p1), .val (.int p2), .unset, .unset, .unset, .unset, .unset, .unset] [(.int (895 : Int32)), (.int (13 : Int32)), (.ref b1), (.ref b1)]))
  obtain ⟨cl55, Ar55, q55, S55, M55, H55, G55⟩ := (id f53)
  have hin55 : ¬ ((13 : Int32) < 0 ∨ cl55.slots.size ≤ ((13 : Int32)).toNatClampNeg) := inb_of S55 ⟨by decide, by decide⟩
  obtain ⟨T55, h55, X55, e55, W55, st55⟩ := stI X51 hx hZ e51 Ar55 (j := (13 : Int32)) hin55 (g := (mkF m 90 #[.val (.int p1), .val (.int p2), .unset, .unset, .unset, .unset, .unset, .unset] [(.int (895 : Int32)), (.int (13 : Int32)), (.ref b1), (.ref b1)])) rfl rfl (hb hby at_90)
  have V55 := Arv.set Ar55 q55 S55 M55 H55 G55 rfl W55 13 rfl (Nat.le_of_ble_eq_true rfl)
  have f57 : Arv Z h55 b1 k1 .int (29 : Int32) [(.int (65 : Int32)), (.int (90 : Int32)), (.int (95 : Int32)), (.int (97 : Int32)), (.int (122 : Int32)), (.int (192 : Int32)), (.int (214 : Int32)), (.int (216 : Int32)), (.int (246 : Int32)), (.int (248 : Int32)), (.int (767 : Int32)), (.int (880 : Int32)), (.int (893 : Int32)), (.int (895 : Int32)), (.int (0 : Int32)), (.int (0 : Int32)), (.int (0 : Int32)), (.int (0 : Int32)), (.int (0 : Int32)), (.int (0 : Int32)), (.int (0 : Int32)), (.int (0 : Int32)), (.int (0 : Int32)), (.int (0 : Int32)), (.int (0 : Int32)), (.int (0 : Int32)), (.int (0 : Int32)), (.int (0 : Int32)), (.int (0 : Int32))] (.int (0 : Int32)) := V55
  have Zh58 : n0 ≤ h55.size := Nat.le_trans Zh54 (Nat.le_of_eq W55.size.symm)
  have N55 := Fr.snoc X55 N51 g_b1
  refine own_go st55 ?_
  show own_Fin p e below _ (T55.setTop (mkF m 91 #[.val (.int p1), .val (.int p2), .unset, .unset, .unset, .unset, .unset, .unset] [(.ref b1)]))
  clear V55 hin55 G55 H55 M55 S55 q55 Ar55 cl55 st55 W55 f53 X51 e51 Zh54 N51
  refine own_go (fun t k => XS.dup X55.here hx rfl (hb hby at_91) rfl rfl (XS.bipush X55.here hx rfl (hb hby at_92) (XS.sipush X55.here hx rfl (hb hby at_94) k))) ?_
  show own_Fin p e below _ (T55.setTop (mkF m 97 #[.val (.int p1), .val (.int p2), .unset, .unset, .unset, .unset, .unset, .unset] [(.int (8191 : Int32)), (.int (14 : Int32)), (.ref b1), (.ref b1)]))
  obtain ⟨cl59, Ar59, q59, S59, M59, H59, G59⟩ := (id f57)
  have hin59 : ¬ ((14 : Int32) < 0 ∨ cl59.slots.size ≤ ((14 : Int32)).toNatClampNeg) := inb_of S59 ⟨by decide, by decide⟩
  obtain ⟨T59, h59, X59, e59, W59, st59⟩ := stI X55 hx hZ e55 Ar59 (j := (14 : Int32)) hin59 (g := (mkF m 97 #[.val (.int p1), .val (.int p2), .unset, .unset, .unset, .unset, .unset, .unset] [(.int (8191 : Int32)), (.int (14 : Int32)), (.ref b1), (.ref b1)])) rfl rfl (hb hby at_97)
  have V59 := Arv.set Ar59 q59 S59 M59 H59 G59 rfl W59 14 rfl (Nat.le_of_ble_eq_true rfl)
  have f61 : Arv Z h59 b1 k1 .int (29 : Int32) [(.int (65 : Int32)), (.int (90 : Int32)), (.int (95 : Int32)), (.int (97 : Int32)), (.int (122 : Int32)), (.int (192 : Int32)), (.int (214 : Int32)), (.int (216 : Int32)), (.int (246 : Int32)), (.int (248 : Int32)), (.int (767 : Int32)), (.int (880 : Int32)), (.int (893 : Int32)), (.int (895 : Int32)), (.int (8191 : Int32)), (.int (0 : Int32)), (.int (0 : Int32)), (.int (0 : Int32)), (.int (0 : Int32)), (.int (0 : Int32)), (.int (0 : Int32)), (.int (0 : Int32)), (.int (0 : Int32)), (.int (0 : Int32)), (.int (0 : Int32)), (.int (0 : Int32)), (.int (0 : Int32)), (.int (0 : Int32)), (.int (0 : Int32))] (.int (0 : Int32)) := V59
  have Zh62 : n0 ≤ h59.size := Nat.le_trans Zh58 (Nat.le_of_eq W59.size.symm)
  have N59 := Fr.snoc X59 N55 g_b1
  refine own_go st59 ?_
  show own_Fin p e below _ (T59.setTop (mkF m 98 #[.val (.int p1), .val (.int p2), .unset, .unset, .unset, .unset, .unset, .unset] [(.ref b1)]))
  clear V59 hin59 G59 H59 M59 S59 q59 Ar59 cl59 st59 W59 f57 X55 e55 Zh58 N55
  refine own_go (fun t k => XS.dup X59.here hx rfl (hb hby at_98) rfl rfl (XS.bipush X59.here hx rfl (hb hby at_99) (XS.sipush X59.here hx rfl (hb hby at_101) k))) ?_
  show own_Fin p e below _ (T59.setTop (mkF m 104 #[.val (.int p1), .val (.int p2), .unset, .unset, .unset, .unset, .unset, .unset] [(.int (8204 : Int32)), (.int (15 : Int32)), (.ref b1), (.ref b1)]))
  obtain ⟨cl63, Ar63, q63, S63, M63, H63, G63⟩ := (id f61)
  have hin63 : ¬ ((15 : Int32) < 0 ∨ cl63.slots.size ≤ ((15 : Int32)).toNatClampNeg) := inb_of S63 ⟨by decide, by decide⟩
  obtain ⟨T63, h63, X63, e63, W63, st63⟩ := stI X59 hx hZ e59 Ar63 (j := (15 : Int32)) hin63 (g := (mkF m 104 #[.val (.int p1), .val (.int p2), .unset, .unset, .unset, .unset, .unset, .unset] [(.int (8204 : Int32)), (.int (15 : Int32)), (.ref b1), (.ref b1)])) rfl rfl (hb hby at_104)
  have V63 := Arv.set Ar63 q63 S63 M63 H63 G63 rfl W63 15 rfl (Nat.le_of_ble_eq_true rfl)
  have f65 : Arv Z h63 b1 k1 .int (29 : Int32) [(.int (65 : Int32)), (.int (90 : Int32)), (.int (95 : Int32)), (.int (97 : Int32)), (.int (122 : Int32)), (.int (192 : Int32)), (.int (214 : Int32)), (.int (216 : Int32)), (.int (246 : Int32)), (.int (248 : Int32)), (.int (767 : Int32)), (.int (880 : Int32)), (.int (893 : Int32)), (.int (895 : Int32)), (.int (8191 : Int32)), (.int (8204 : Int32)), (.int (0 : Int32)), (.int (0 : Int32)), (.int (0 : Int32)), (.int (0 : Int32)), (.int (0 : Int32)), (.int (0 : Int32)), (.int (0 : Int32)), (.int (0 : Int32)), (.int (0 : Int32)), (.int (0 : Int32)), (.int (0 : Int32)), (.int (0 : Int32)), (.int (0 : Int32))] (.int (0 : Int32)) := V63
  have Zh66 : n0 ≤ h63.size := Nat.le_trans Zh62 (Nat.le_of_eq W63.size.symm)
  have N63 := Fr.snoc X63 N59 g_b1
  refine own_go st63 ?_
  show own_Fin p e below _ (T63.setTop (mkF m 105 #[.val (.int p1), .val (.int p2), .unset, .unset, .unset, .unset, .unset, .unset] [(.ref b1)]))
  clear V63 hin63 G63 H63 M63 S63 q63 Ar63 cl63 st63 W63 f61 X59 e59 Zh62 N59
  refine own_go (fun t k => XS.dup X63.here hx rfl (hb hby at_105) rfl rfl (XS.bipush X63.here hx rfl (hb hby at_106) (XS.sipush X63.here hx rfl (hb hby at_108) k))) ?_
  show own_Fin p e below _ (T63.setTop (mkF m 111 #[.val (.int p1), .val (.int p2), .unset, .unset, .unset, .unset, .unset, .unset] [(.int (8205 : Int32)), (.int (16 : Int32)), (.ref b1), (.ref b1)]))
  obtain ⟨cl67, Ar67, q67, S67, M67, H67, G67⟩ := (id f65)
  have hin67 : ¬ ((16 : Int32) < 0 ∨ cl67.slots.size ≤ ((16 : Int32)).toNatClampNeg) := inb_of S67 ⟨by decide, by decide⟩
  obtain ⟨T67, h67, X67, e67, W67, st67⟩ := stI X63 hx hZ e63 Ar67 (j := (16 : Int32)) hin67 (g := (mkF m 111 #[.val (.int p1), .val (.int p2), .unset, .unset, .unset, .unset, .unset, .unset] [(.int (8205 : Int32)), (.int (16 : Int32)), (.ref b1), (.ref b1)])) rfl rfl (hb hby at_111)
  have V67 := Arv.set Ar67 q67 S67 M67 H67 G67 rfl W67 16 rfl (Nat.le_of_ble_eq_true rfl)
  have f69 : Arv Z h67 b1 k1 .int (29 : Int32) [(.int (65 : Int32)), (.int (90 : Int32)), (.int (95 : Int32)), (.int (97 : Int32)), (.int (122 : Int32)), (.int (192 : Int32)), (.int (214 : Int32)), (.int (216 : Int32)), (.int (246 : Int32)), (.int (248 : Int32)), (.int (767 : Int32)), (.int (880 : Int32)), (.int (893 : Int32)), (.int (895 : Int32)), (.int (8191 : Int32)), (.int (8204 : Int32)), (.int (8205 : Int32)), (.int (0 : Int32)), (.int (0 : Int32)), (.int (0 : Int32)), (.int (0 : Int32)), (.int (0 : Int32)), (.int (0 : Int32)), (.int (0 : Int32)), (.int (0 : Int32)), (.int (0 : Int32)), (.int (0 : Int32)), (.int (0 : Int32)), (.int (0 : Int32))] (.int (0 : Int32)) := V67
  have Zh70 : n0 ≤ h67.size := Nat.le_trans Zh66 (Nat.le_of_eq W67.size.symm)
  have N67 := Fr.snoc X67 N63 g_b1
  refine own_go st67 ?_
  show own_Fin p e below _ (T67.setTop (mkF m 112 #[.val (.int p1), .val (.int p2), .unset, .unset, .unset, .unset, .unset, .unset] [(.ref b1)]))
  clear V67 hin67 G67 H67 M67 S67 q67 Ar67 cl67 st67 W67 f65 X63 e63 Zh66 N63
  refine own_go (fun t k => XS.dup X67.here hx rfl (hb hby at_112) rfl rfl (XS.bipush X67.here hx rfl (hb hby at_113) (XS.sipush X67.here hx rfl (hb hby at_115) k))) ?_
  show own_Fin p e below _ (T67.setTop (mkF m 118 #[.val (.int p1), .val (.int p2), .unset, .unset, .unset, .unset, .unset, .unset] [(.int (8304 : Int32)), (.int (17 : Int32)), (.ref b1), (.ref b1)]))
  obtain ⟨cl71, Ar71, q71, S71, M71, H71, G71⟩ := (id f69)
  have hin71 : ¬ ((17 : Int32) < 0 ∨ cl71.slots.size ≤ ((17 : Int32)).toNatClampNeg) := inb_of S71 ⟨by decide, by decide⟩
  obtain ⟨T71, h71, X71, e71, W71, st71⟩ := stI X67 hx hZ e67 Ar71 (j := (17 : Int32)) hin71 (g := (mkF m 118 #[.val (.int p1), .val (.int p2), .unset, .unset, .unset, .unset, .unset, .unset] [(.int (8304 : Int32)), (.int (17 : Int32)), (.ref b1), (.ref b1)])) rfl rfl (hb hby at_118)
  have V71 := Arv.set Ar71 q71 S71 M71 H71 G71 rfl W71 17 rfl (Nat.le_of_ble_eq_true rfl)
  have f73 : Arv Z h71 b1 k1 .int (29 : Int32) [(.int (65 : Int32)), (.int (90 : Int32)), (.int (95 : Int32)), (.int (97 : Int32)), (.int (122 : Int32)), (.int (192 : Int32)), (.int (214 : Int32)), (.int (216 : Int32)), (.int (246 : Int32)), (.int (248 : Int32)), (.int (767 : Int32)), (.int (880 : Int32)), (.int (893 : Int32)), (.int (895 : Int32)), (.int (8191 : Int32)), (.int (8204 : Int32)), (.int (8205 : Int32)), (.int (8304 : Int32)), (.int (0 : Int32)), (.int (0 : Int32)), (.int (0 : Int32)), (.int (0 : Int32)), (.int (0 : Int32)), (.int (0 : Int32)), (.int (0 : Int32)), (.int (0 : Int32)), (.int (0 : Int32)), (.int (0 : Int32)), (.int (0 : Int32))] (.int (0 : Int32)) := V71
  have Zh74 : n0 ≤ h71.size := Nat.le_trans Zh70 (Nat.le_of_eq W71.size.symm)
  have N71 := Fr.snoc X71 N67 g_b1
  refine own_go st71 ?_
  show own_Fin p e below _ (T71.setTop (mkF m 119 #[.val (.int p1), .val (.int p2), .unset, .unset, .unset, .unset, .unset, .unset] [(.ref b1)]))
  clear V71 hin71 G71 H71 M71 S71 q71 Ar71 cl71 st71 W71 f69 X67 e67 Zh70 N67
  refine own_go (fun t k => XS.dup X71.here hx rfl (hb hby at_119) rfl rfl (XS.bipush X71.here hx rfl (hb hby at_120) (XS.sipush X71.here hx rfl (hb hby at_122) k))) ?_
  show own_Fin p e below _ (T71.setTop (mkF m 125 #[.val (.int p1), .val (.int p2), .unset, .unset, .unset, .unset, .unset, .unset] [(.int (8591 : Int32)), (.int (18 : Int32)), (.ref b1), (.ref b1)]))
  obtain ⟨cl75, Ar75, q75, S75, M75, H75, G75⟩ := (id f73)
  have hin75 : ¬ ((18 : Int32) < 0 ∨ cl75.slots.size ≤ ((18 : Int32)).toNatClampNeg) := inb_of S75 ⟨by decide, by decide⟩
  obtain ⟨T75, h75, X75, e75, W75, st75⟩ := stI X71 hx hZ e71 Ar75 (j := (18 : Int32)) hin75 (g := (mkF m 125 #[.val (.int p1), .val (.int p2), .unset, .unset, .unset, .unset, .unset, .unset] [(.int (8591 : Int32)), (.int (18 : Int32)), (.ref b1), (.ref b1)])) rfl rfl (hb hby at_125)
  have V75 := Arv.set Ar75 q75 S75 M75 H75 G75 rfl W75 18 rfl (Nat.le_of_ble_eq_true rfl)
  have f77 : Arv Z h75 b1 k1 .int (29 : Int32) [(.int (65 : Int32)), (.int (90 : Int32)), (.int (95 : Int32)), (.int (97 : Int32)), (.int (122 : Int32)), (.int (192 : Int32)), (.int (214 : Int32)), (.int (216 : Int32)), (.int (246 : Int32)), (.int (248 : Int32)), (.int (767 : Int32)), (.int (880 : Int32)), (.int (893 : Int32)), (.int (895 : Int32)), (.int (8191 : Int32)), (.int (8204 : Int32)), (.int (8205 : Int32)), (.int (8304 : Int32)), (.int (8591 : Int32)), (.int (0 : Int32)), (.int (0 : Int32)), (.int (0 : Int32)), (.int (0 : Int32)), (.int (0 : Int32)), (.int (0 : Int32)), (.int (0 : Int32)), (.int (0 : Int32)), (.int (0 : Int32)), (.int (0 : Int32))] (.int (0 : Int32)) := V75
  have Zh78 : n0 ≤ h75.size := Nat.le_trans Zh74 (Nat.le_of_eq W75.size.symm)
  have N75 := Fr.snoc X75 N71 g_b1
  refine own_go st75 ?_
  show own_Fin p e below _ (T75.setTop (mkF m 126 #[.val (.int p1), .val (.int p2), .unset, .unset, .unset, .unset, .unset, .unset] [(.ref b1)]))
  clear V75 hin75 G75 H75 M75 S75 q75 Ar75 cl75 st75 W75 f73 X71 e71 Zh74 N71
  refine own_go (fun t k => XS.dup X75.here hx rfl (hb hby at_126) rfl rfl (XS.bipush X75.here hx rfl (hb hby at_127) (XS.sipush X75.here hx rfl (hb hby at_129) k))) ?_
  show own_Fin p e below _ (T75.setTop (mkF m 132 #[.val (.int p1), .val (.int p2), .unset, .unset, .unset, .unset, .unset, .unset] [(.int (11264 : Int32)), (.int (19 : Int32)), (.ref b1), (.ref b1)]))
  obtain ⟨cl79, Ar79, q79, S79, M79, H79, G79⟩ := (id f77)
  have hin79 : ¬ ((19 : Int32) < 0 ∨ cl79.slots.size ≤ ((19 : Int32)).toNatClampNeg) := inb_of S79 ⟨by decide, by decide⟩
  obtain ⟨T79, h79, X79, e79, W79, st79⟩ := stI X75 hx hZ e75 Ar79 (j := (19 : Int32)) hin79 (g := (mkF m 132 #[.val (.int p1), .val (.int p2), .unset, .unset, .unset, .unset, .unset, .unset] [(.int (11264 : Int32)), (.int (19 : Int32)), (.ref b1), (.ref b1)])) rfl rfl (hb hby at_132)
  have V79 := Arv.set Ar79 q79 S79 M79 H79 G79 rfl W79 19 rfl (Nat.le_of_ble_eq_true rfl)
  have f81 : Arv Z h79 b1 k1 .int (29 : Int32) [(.int (65 : Int32)), (.int (90 : Int32)), (.int (95 : Int32)), (.int (97 : Int32)), (.int (122 : Int32)), (.int (192 : Int32)), (.int (214 : Int32)), (.int (216 : Int32)), (.int (246 : Int32)), (.int (248 : Int32)), (.int (767 : Int32)), (.int (880 : Int32)), (.int (893 : Int32)), (.int (895 : Int32)), (.int (8191 : Int32)), (.int (8204 : Int32)), (.int (8205 : Int32)), (.int (8304 : Int32)), (.int (8591 : Int32)), (.int (11264 : Int32)), (.int (0 : Int32)), (.int (0 : Int32)), (.int (0 : Int32)), (.int (0 : Int32)), (.int (0 : Int32)), (.int (0 : Int32)), (.int (0 : Int32)), (.int (0 : Int32)), (.int (0 : Int32))] (.int (0 : Int32)) := V79
  have Zh82 : n0 ≤ h79.size := Nat.le_trans Zh78 (Nat.le_of_eq W79.size.symm)
  have N79 := Fr.snoc X79 N75 g_b1
  refine own_go st79 ?_
  show own_Fin p e below _ (T79.setTop (mkF m 133 #[.val (.int p1), .val (.int p2), .unset, .unset, .unset, .unset, .unset, .unset] [(.ref b1)]))
  clear V79 hin79 G79 H79 M79 S79 q79 Ar79 cl79 st79 W79 f77 X75 e75 Zh78 N75
  refine own_go (fun t k => XS.dup X79.here hx rfl (hb hby at_133) rfl rfl (XS.bipush X79.here hx rfl (hb hby at_134) (XS.sipush X79.here hx rfl (hb hby at_136) k))) ?_
  show own_Fin p e below _ (T79.setTop (mkF m 139 #[.val (.int p1), .val (.int p2), .unset, .unset, .unset, .unset, .unset, .unset] [(.int (12271 : Int32)), (.int (20 : Int32)), (.ref b1), (.ref b1)]))
  obtain ⟨cl83, Ar83, q83, S83, M83, H83, G83⟩ := (id f81)
  have hin83 : ¬ ((20 : Int32) < 0 ∨ cl83.slots.size ≤ ((20 : Int32)).toNatClampNeg) := inb_of S83 ⟨by decide, by decide⟩
  obtain ⟨T83, h83, X83, e83, W83, st83⟩ := stI X79 hx hZ e79 Ar83 (j := (20 : Int32)) hin83 (g := (mkF m 139 #[.val (.int p1), .val (.int p2), .unset, .unset, .unset, .unset, .unset, .unset] [(.int (12271 : Int32)), (.int (20 : Int32)), (.ref b1), (.ref b1)])) rfl rfl (hb hby at_139)
  have V83 := Arv.set Ar83 q83 S83 M83 H83 G83 rfl W83 20 rfl (Nat.le_of_ble_eq_true rfl)
  have f85 : Arv Z h83 b1 k1 .int (29 : Int32) [(.int (65 : Int32)), (.int (90 : Int32)), (.int (95 : Int32)), (.int (97 : Int32)), (.int (122 : Int32)), (.int (192 : Int32)), (.int (214 : Int32)), (.int (216 : Int32)), (.int (246 : Int32)), (.int (248 : Int32)), (.int (767 : Int32)), (.int (880 : Int32)), (.int (893 : Int32)), (.int (895 : Int32)), (.int (8191 : Int32)), (.int (8204 : Int32)), (.int (8205 : Int32)), (.int (8304 : Int32)), (.int (8591 : Int32)), (.int (11264 : Int32)), (.int (12271 : Int32)), (.int (0 : Int32)), (.int (0 : Int32)), (.int (0 : Int32)), (.int (0 : Int32)), (.int (0 : Int32)), (.int (0 : Int32)), (.int (0 : Int32)), (.int (0 : Int32))] (.int (0 : Int32)) := V83
  have Zh86 : n0 ≤ h83.size := Nat.le_trans Zh82 (Nat.le_of_eq W83.size.symm)
  have N83 := Fr.snoc X83 N79 g_b1
  refine own_go st83 ?_
  show own_Fin p e below _ (T83.setTop (mkF m 140 #[.val (.int p1), .val (.int p2), .unset, .unset, .unset, .unset, .unset, .unset] [(.ref b1)]))
  clear V83 hin83 G83 H83 M83 S83 q83 Ar83 cl83 st83 W83 f81 X79 e79 Zh82 N79
  refine own_go (fun t k => XS.dup X83.here hx rfl (hb hby at_140) rfl rfl (XS.bipush X83.here hx rfl (hb hby at_141) (XS.sipush X83.here hx rfl (hb hby at_143) k))) ?_
  show own_Fin p e below _ (T83.setTop (mkF m 146 #[.val (.int p1), .val (.int p2), .unset, .unset, .unset, .unset, .unset, .unset] [(.int (12289 : Int32)), (.int (21 : Int32)), (.ref b1), (.ref b1)]))
  obtain ⟨cl87, Ar87, q87, S87, M87, H87, G87⟩ := (id f85)
  have hin87 : ¬ ((21 : Int32) < 0 ∨ cl87.slots.size ≤ ((21 : Int32)).toNatClampNeg) := inb_of S87 ⟨by decide, by decide⟩
  obtain ⟨T87, h87, X87, e87, W87, st87⟩ := stI X83 hx hZ e83 Ar87 (j := (21 : Int32)) hin87 (g := (mkF m 146 #[.val (.int p1), .val (.int p2), .unset, .unset, .unset, .unset, .unset, .unset] [(.int (12289 : Int32)), (.int (21 : Int32)), (.ref b1), (.ref b1)])) rfl rfl (hb hby at_146)
  have V87 := Arv.set Ar87 q87 S87 M87 H87 G87 rfl W87 21 rfl (Nat.le_of_ble_eq_true rfl)
  have f89 : Arv Z h87 b1 k1 .int (29 : Int32) [(.int (65 : Int32)), (.int (90 : Int32)), (.int (95 : Int32)), (.int (97 : Int32)), (.int (122 : Int32)), (.int (192 : Int32)), (.int (214 : Int32)), (.int (216 : Int32)), (.int (246 : Int32)), (.int (248 : Int32)), (.int (767 : Int32)), (.int (880 : Int32)), (.int (893 : Int32)), (.int (895 : Int32)), (.int (8191 : Int32)), (.int (8204 : Int32)), (.int (8205 : Int32)), (.int (8304 : Int32)), (.int (8591 : Int32)), (.int (11264 : Int32)), (.int (12271 : Int32)), (.int (12289 : Int32)), (.int (0 : Int32)), (.int (0 : Int32)), (.int (0 : Int32)), (.int (0 : Int32)), (.int (0 : Int32)), (.int (0 : Int32)), (.int (0 : Int32))] (.int (0 : Int32)) := V87
  have Zh90 : n0 ≤ h87.size := Nat.le_trans Zh86 (Nat.le_of_eq W87.size.symm)
  have N87 := Fr.snoc X87 N83 g_b1
  refine own_go st87 ?_
  show own_Fin p e below _ (T87.setTop (mkF m 147 #[.val (.int p1), .val (.int p2), .unset, .unset, .unset, .unset, .unset, .unset] [(.ref b1)]))
  clear V87 hin87 G87 H87 M87 S87 q87 Ar87 cl87 st87 W87 f85 X83 e83 Zh86 N83
  refine own_go (fun t k => XS.dup X87.here hx rfl (hb hby at_147) rfl rfl (XS.bipush X87.here hx rfl (hb hby at_148) k)) ?_
  show own_Fin p e below _ (T87.setTop (mkF m 150 #[.val (.int p1), .val (.int p2), .unset, .unset, .unset, .unset, .unset, .unset] [(.int (22 : Int32)), (.ref b1), (.ref b1)]))
  refine own_go (fun t k => X87.ldcInt hx hown (mvT hZ hw_1) (g := (mkF m 150 #[.val (.int p1), .val (.int p2), .unset, .unset, .unset, .unset, .unset, .unset] [(.int (22 : Int32)), (.ref b1), (.ref b1)])) rfl (hb hby at_150) _ k) ?_
  show own_Fin p e below _ (T87.setTop (mkF m 152 #[.val (.int p1), .val (.int p2), .unset, .unset, .unset, .unset, .unset, .unset] [(.int (55295 : Int32)), (.int (22 : Int32)), (.ref b1), (.ref b1)]))
  obtain ⟨cl91, Ar91, q91, S91, M91, H91, G91⟩ := (id f89)
  have hin91 : ¬ ((22 : Int32) < 0 ∨ cl91.slots.size ≤ ((22 : Int32)).toNatClampNeg) := inb_of S91 ⟨by decide, by decide⟩
  obtain ⟨T91, h91, X91, e91, W91, st91⟩ := stI X87 hx hZ e87 Ar91 (j := (22 : Int32)) hin91 (g := (mkF m 152 #[.val (.int p1), .val (.int p2), .unset, .unset, .unset, .unset, .unset, .unset] [(.int (55295 : Int32)), (.int (22 : Int32)), (.ref b1), (.ref b1)])) rfl rfl (hb hby at_152)
  have V91 := Arv.set Ar91 q91 S91 M91 H91 G91 rfl W91 22 rfl (Nat.le_of_ble_eq_true rfl)
  have f93 : Arv Z h91 b1 k1 .int (29 : Int32) [(.int (65 : Int32)), (.int (90 : Int32)), (.int (95 : Int32)), (.int (97 : Int32)), (.int (122 : Int32)), (.int (192 : Int32)), (.int (214 : Int32)), (.int (216 : Int32)), (.int (246 : Int32)), (.int (248 : Int32)), (.int (767 : Int32)), (.int (880 : Int32)), (.int (893 : Int32)), (.int (895 : Int32)), (.int (8191 : Int32)), (.int (8204 : Int32)), (.int (8205 : Int32)), (.int (8304 : Int32)), (.int (8591 : Int32)), (.int (11264 : Int32)), (.int (12271 : Int32)), (.int (12289 : Int32)), (.int (55295 : Int32)), (.int (0 : Int32)), (.int (0 : Int32)), (.int (0 : Int32)), (.int (0 : Int32)), (.int (0 : Int32)), (.int (0 : Int32))] (.int (0 : Int32)) := V91
  have Zh94 : n0 ≤ h91.size := Nat.le_trans Zh90 (Nat.le_of_eq W91.size.symm)
  have N91 := Fr.snoc X91 N87 g_b1
  refine own_go st91 ?_
  show own_Fin p e below _ (T91.setTop (mkF m 153 #[.val (.int p1), .val (.int p2), .unset, .unset, .unset, .unset, .unset, .unset] [(.ref b1)]))
  clear V91 hin91 G91 H91 M91 S91 q91 Ar91 cl91 st91 W91 f89 X87 e87 Zh90 N87
  refine own_go (fun t k => XS.dup X91.here hx rfl (hb hby at_153) rfl rfl (XS.bipush X91.here hx rfl (hb hby at_154) k)) ?_
  show own_Fin p e below _ (T91.setTop (mkF m 156 #[.val (.int p1), .val (.int p2), .unset, .unset, .unset, .unset, .unset, .unset] [(.int (23 : Int32)), (.ref b1), (.ref b1)]))
  refine own_go (fun t k => X91.ldcInt hx hown (mvT hZ hw_2) (g := (mkF m 156 #[.val (.int p1), .val (.int p2), .unset, .unset, .unset, .unset, .unset, .unset] [(.int (23 : Int32)), (.ref b1), (.ref b1)])) rfl (hb hby at_156) _ k) ?_
  show own_Fin p e below _ (T91.setTop (mkF m 158 #[.val (.int p1), .val (.int p2), .unset, .unset, .unset, .unset, .unset, .unset] [(.int (63744 : Int32)), (.int (23 : Int32)), (.ref b1), (.ref b1)]))
  obtain ⟨cl95, Ar95, q95, S95, M95, H95, G95⟩ := (id f93)
  have hin95 : ¬ ((23 : Int32) < 0 ∨ cl95.slots.size ≤ ((23 : Int32)).toNatClampNeg) := inb_of S95 ⟨by decide, by decide⟩
  obtain ⟨T95, h95, X95, e95, W95, st95⟩ := stI X91 hx hZ e91 Ar95 (j := (23 : Int32)) hin95 (g := (mkF m 158 #[.val (.int p1), .val (.int p2), .unset, .unset, .unset, .unset, .unset, .unset] [(.int (63744 : Int32)), (.int (23 : Int32)), (.ref b1), (.ref b1)])) rfl rfl (hb hby at_158)
  have V95 := Arv.set Ar95 q95 S95 M95 H95 G95 rfl W95 23 rfl (Nat.le_of_ble_eq_true rfl)
  have f97 : Arv Z h95 b1 k1 .int (29 : Int32) [(.int (65 : Int32)), (.int (90 : Int32)), (.int (95 : Int32)), (.int (97 : Int32)), (.int (122 : Int32)), (.int (192 : Int32)), (.int (214 : Int32)), (.int (216 : Int32)), (.int (246 : Int32)), (.int (248 : Int32)), (.int (767 : Int32)), (.int (880 : Int32)), (.int (893 : Int32)), (.int (895 : Int32)), (.int (8191 : Int32)), (.int (8204 : Int32)), (.int (8205 : Int32)), (.int (8304 : Int32)), (.int (8591 : Int32)), (.int (11264 : Int32)), (.int (12271 : Int32)), (.int (12289 : Int32)), (.int (55295 : Int32)), (.int (63744 : Int32)), (.int (0 : Int32)), (.int (0 : Int32)), (.int (0 : Int32)), (.int (0 : Int32)), (.int (0 : Int32))] (.int (0 : Int32)) := V95
  have Zh98 : n0 ≤ h95.size := Nat.le_trans Zh94 (Nat.le_of_eq W95.size.symm)
  have N95 := Fr.snoc X95 N91 g_b1
  refine own_go st95 ?_
  show own_Fin p e below _ (T95.setTop (mkF m 159 #[.val (.int p1), .val (.int p2), .unset, .unset, .unset, .unset, .unset, .unset] [(.ref b1)]))
  clear V95 hin95 G95 H95 M95 S95 q95 Ar95 cl95 st95 W95 f93 X91 e91 Zh94 N91
  refine own_go (fun t k => XS.dup X95.here hx rfl (hb hby at_159) rfl rfl (XS.bipush X95.here hx rfl (hb hby at_160) k)) ?_
  show own_Fin p e below _ (T95.setTop (mkF m 162 #[.val (.int p1), .val (.int p2), .unset, .unset, .unset, .unset, .unset, .unset] [(.int (24 : Int32)), (.ref b1), (.ref b1)]))
  refine own_go (fun t k => X95.ldcInt hx hown (mvT hZ hw_3) (g := (mkF m 162 #[.val (.int p1), .val (.int p2), .unset, .unset, .unset, .unset, .unset, .unset] [(.int (24 : Int32)), (.ref b1), (.ref b1)])) rfl (hb hby at_162) _ k) ?_
  show own_Fin p e below _ (T95.setTop (mkF m 164 #[.val (.int p1), .val (.int p2), .unset, .unset, .unset, .unset, .unset, .unset] [(.int (64975 : Int32)), (.int (24 : Int32)), (.ref b1), (.ref b1)]))
  obtain ⟨cl99, Ar99, q99, S99, M99, H99, G99⟩ := (id f97)
  have hin99 : ¬ ((24 : Int32) < 0 ∨ cl99.slots.size ≤ ((24 : Int32)).toNatClampNeg) := inb_of S99 ⟨by decide, by decide⟩
  obtain ⟨T99, h99, X99, e99, W99, st99⟩ := stI X95 hx hZ e95 Ar99 (j := (24 : Int32)) hin99 (g := (mkF m 164 #[.val (.int p1), .val (.int p2), .unset, .unset, .unset, .unset, .unset, .unset] [(.int (64975 : Int32)), (.int (24 : Int32)), (.ref b1), (.ref b1)])) rfl rfl (hb hby at_164)
  have V99 := Arv.set Ar99 q99 S99 M99 H99 G99 rfl W99 24 rfl (Nat.le_of_ble_eq_true rfl)
  have f101 : Arv Z h99 b1 k1 .int (29 : Int32) [(.int (65 : Int32)), (.int (90 : Int32)), (.int (95 : Int32)), (.int (97 : Int32)), (.int (122 : Int32)), (.int (192 : Int32)), (.int (214 : Int32)), (.int (216 : Int32)), (.int (246 : Int32)), (.int (248 : Int32)), (.int (767 : Int32)), (.int (880 : Int32)), (.int (893 : Int32)), (.int (895 : Int32)), (.int (8191 : Int32)), (.int (8204 : Int32)), (.int (8205 : Int32)), (.int (8304 : Int32)), (.int (8591 : Int32)), (.int (11264 : Int32)), (.int (12271 : Int32)), (.int (12289 : Int32)), (.int (55295 : Int32)), (.int (63744 : Int32)), (.int (64975 : Int32)), (.int (0 : Int32)), (.int (0 : Int32)), (.int (0 : Int32)), (.int (0 : Int32))] (.int (0 : Int32)) := V99
  have Zh102 : n0 ≤ h99.size := Nat.le_trans Zh98 (Nat.le_of_eq W99.size.symm)
  have N99 := Fr.snoc X99 N95 g_b1
  refine own_go st99 ?_
  show own_Fin p e below _ (T99.setTop (mkF m 165 #[.val (.int p1), .val (.int p2), .unset, .unset, .unset, .unset, .unset, .unset] [(.ref b1)]))
  clear V99 hin99 G99 H99 M99 S99 q99 Ar99 cl99 st99 W99 f97 X95 e95 Zh98 N95
  refine own_go (fun t k => XS.dup X99.here hx rfl (hb hby at_165) rfl rfl (XS.bipush X99.here hx rfl (hb hby at_166) k)) ?_
  show own_Fin p e below _ (T99.setTop (mkF m 168 #[.val (.int p1), .val (.int p2), .unset, .unset, .unset, .unset, .unset, .unset] [(.int (25 : Int32)), (.ref b1), (.ref b1)]))
  refine own_go (fun t k => X99.ldcInt hx hown (mvT hZ hw_4) (g := (mkF m 168 #[.val (.int p1), .val (.int p2), .unset, .unset, .unset, .unset, .unset, .unset] [(.int (25 : Int32)), (.ref b1), (.ref b1)])) rfl (hb hby at_168) _ k) ?_
  show own_Fin p e below _ (T99.setTop (mkF m 170 #[.val (.int p1), .val (.int p2), .unset, .unset, .unset, .unset, .unset, .unset] [(.int (65008 : Int32)), (.int (25 : Int32)), (.ref b1), (.ref b1)]))
  obtain ⟨cl103, Ar103, q103, S103, M103, H103, G103⟩ := (id f101)
  have hin103 : ¬ ((25 : Int32) < 0 ∨ cl103.slots.size ≤ ((25 : Int32)).toNatClampNeg) := inb_of S103 ⟨by decide, by decide⟩
  obtain ⟨T103, h103, X103, e103, W103, st103⟩ := stI X99 hx hZ e99 Ar103 (j := (25 : Int32)) hin103 (g := (mkF m 170 #[.val (.int p1), .val (.int p2), .unset, .unset, .unset, .unset, .unset, .unset] [(.int (65008 : Int32)), (.int (25 : Int32)), (.ref b1), (.ref b1)])) rfl rfl (hb hby at_170)
  have V103 := Arv.set Ar103 q103 S103 M103 H103 G103 rfl W103 25 rfl (Nat.le_of_ble_eq_true rfl)
  have f105 : Arv Z h103 b1 k1 .int (29 : Int32) [(.int (65 : Int32)), (.int (90 : Int32)), (.int (95 : Int32)), (.int (97 : Int32)), (.int (122 : Int32)), (.int (192 : Int32)), (.int (214 : Int32)), (.int (216 : Int32)), (.int (246 : Int32)), (.int (248 : Int32)), (.int (767 : Int32)), (.int (880 : Int32)), (.int (893 : Int32)), (.int (895 : Int32)), (.int (8191 : Int32)), (.int (8204 : Int32)), (.int (8205 : Int32)), (.int (8304 : Int32)), (.int (8591 : Int32)), (.int (11264 : Int32)), (.int (12271 : Int32)), (.int (12289 : Int32)), (.int (55295 : Int32)), (.int (63744 : Int32)), (.int (64975 : Int32)), (.int (65008 : Int32)), (.int (0 : Int32)), (.int (0 : Int32)), (.int (0 : Int32))] (.int (0 : Int32)) := V103
  have Zh106 : n0 ≤ h103.size := Nat.le_trans Zh102 (Nat.le_of_eq W103.size.symm)
  have N103 := Fr.snoc X103 N99 g_b1
  refine own_go st103 ?_
  show own_Fin p e below _ (T103.setTop (mkF m 171 #[.val (.int p1), .val (.int p2), .unset, .unset, .unset, .unset, .unset, .unset] [(.ref b1)]))
  clear V103 hin103 G103 H103 M103 S103 q103 Ar103 cl103 st103 W103 f101 X99 e99 Zh102 N99
  refine own_go (fun t k => XS.dup X103.here hx rfl (hb hby at_171) rfl rfl (XS.bipush X103.here hx rfl (hb hby at_172) k)) ?_
  show own_Fin p e below _ (T103.setTop (mkF m 174 #[.val (.int p1), .val (.int p2), .unset, .unset, .unset, .unset, .unset, .unset] [(.int (26 : Int32)), (.ref b1), (.ref b1)]))
  refine own_go (fun t k => X103.ldcInt hx hown (mvT hZ hw_5) (g := (mkF m 174 #[.val (.int p1), .val (.int p2), .unset, .unset, .unset, .unset, .unset, .unset] [(.int (26 : Int32)), (.ref b1), (.ref b1)])) rfl (hb hby at_174) _ k) ?_
  show own_Fin p e below _ (T103.setTop (mkF m 176 #[.val (.int p1), .val (.int p2), .unset, .unset, .unset, .unset, .unset, .unset] [(.int (65533 : Int32)), (.int (26 : Int32)), (.ref b1), (.ref b1)]))
  obtain ⟨cl107, Ar107, q107, S107, M107, H107, G107⟩ := (id f105)
  have hin107 : ¬ ((26 : Int32) < 0 ∨ cl107.slots.size ≤ ((26 : Int32)).toNatClampNeg) := inb_of S107 ⟨by decide, by decide⟩
  obtain ⟨T107, h107, X107, e107, W107, st107⟩ := stI X103 hx hZ e103 Ar107 (j := (26 : Int32)) hin107 (g := (mkF m 176 #[.val (.int p1), .val (.int p2), .unset, .unset, .unset, .unset, .unset, .unset] [(.int (65533 : Int32)), (.int (26 : Int32)), (.ref b1), (.ref b1)])) rfl rfl (hb hby at_176)
  have V107 := Arv.set Ar107 q107 S107 M107 H107 G107 rfl W107 26 rfl (Nat.le_of_ble_eq_true rfl)
  have f109 : Arv Z h107 b1 k1 .int (29 : Int32) [(.int (65 : Int32)), (.int (90 : Int32)), (.int (95 : Int32)), (.int (97 : Int32)), (.int (122 : Int32)), (.int (192 : Int32)), (.int (214 : Int32)), (.int (216 : Int32)), (.int (246 : Int32)), (.int (248 : Int32)), (.int (767 : Int32)), (.int (880 : Int32)), (.int (893 : Int32)), (.int (895 : Int32)), (.int (8191 : Int32)), (.int (8204 : Int32)), (.int (8205 : Int32)), (.int (8304 : Int32)), (.int (8591 : Int32)), (.int (11264 : Int32)), (.int (12271 : Int32)), (.int (12289 : Int32)), (.int (55295 : Int32)), (.int (63744 : Int32)), (.int (64975 : Int32)), (.int (65008 : Int32)), (.int (65533 : Int32)), (.int (0 : Int32)), (.int (0 : Int32))] (.int (0 : Int32)) := V107
  have Zh110 : n0 ≤ h107.size := Nat.le_trans Zh106 (Nat.le_of_eq W107.size.symm)
  have N107 := Fr.snoc X107 N103 g_b1
  refine own_go st107 ?_
  show own_Fin p e below _ (T107.setTop (mkF m 177 #[.val (.int p1), .val (.int p2), .unset, .unset, .unset, .unset, .unset, .unset] [(.ref b1)]))
  clear V107 hin107 G107 H107 M107 S107 q107 Ar107 cl107 st107 W107 f105 X103 e103 Zh106 N103
  refine own_go (fun t k => XS.dup X107.here hx rfl (hb hby at_177) rfl rfl (XS.bipush X107.here hx rfl (hb hby at_178) k)) ?_
  show own_Fin p e below _ (T107.setTop (mkF m 180 #[.val (.int p1), .val (.int p2), .unset, .unset, .unset, .unset, .unset, .unset] [(.int (27 : Int32)), (.ref b1), (.ref b1)]))
  refine own_go (fun t k => X107.ldcInt hx hown (mvT hZ hw_6) (g := (mkF m 180 #[.val (.int p1), .val (.int p2), .unset, .unset, .unset, .unset, .unset, .unset] [(.int (27 : Int32)), (.ref b1), (.ref b1)])) rfl (hb hby at_180) _ k) ?_
  show own_Fin p e below _ (T107.setTop (mkF m 182 #[.val (.int p1), .val (.int p2), .unset, .unset, .unset, .unset, .unset, .unset] [(.int (65536 : Int32)), (.int (27 : Int32)), (.ref b1), (.ref b1)]))
  obtain ⟨cl111, Ar111, q111, S111, M111, H111, G111⟩ := (id f109)
  have hin111 : ¬ ((27 : Int32) < 0 ∨ cl111.slots.size ≤ ((27 : Int32)).toNatClampNeg) := inb_of S111 ⟨by decide, by decide⟩
  obtain ⟨T111, h111, X111, e111, W111, st111⟩ := stI X107 hx hZ e107 Ar111 (j := (27 : Int32)) hin111 (g := (mkF m 182 #[.val (.int p1), .val (.int p2), .unset, .unset, .unset, .unset, .unset, .unset] [(.int (65536 : Int32)), (.int (27 : Int32)), (.ref b1), (.ref b1)])) rfl rfl (hb hby at_182)
  have V111 := Arv.set Ar111 q111 S111 M111 H111 G111 rfl W111 27 rfl (Nat.le_of_ble_eq_true rfl)
  have f113 : Arv Z h111 b1 k1 .int (29 : Int32) [(.int (65 : Int32)), (.int (90 : Int32)), (.int (95 : Int32)), (.int (97 : Int32)), (.int (122 : Int32)), (.int (192 : Int32)), (.int (214 : Int32)), (.int (216 : Int32)), (.int (246 : Int32)), (.int (248 : Int32)), (.int (767 : Int32)), (.int (880 : Int32)), (.int (893 : Int32)), (.int (895 : Int32)), (.int (8191 : Int32)), (.int (8204 : Int32)), (.int (8205 : Int32)), (.int (8304 : Int32)), (.int (8591 : Int32)), (.int (11264 : Int32)), (.int (12271 : Int32)), (.int (12289 : Int32)), (.int (55295 : Int32)), (.int (63744 : Int32)), (.int (64975 : Int32)), (.int (65008 : Int32)), (.int (65533 : Int32)), (.int (65536 : Int32)), (.int (0 : Int32))] (.int (0 : Int32)) := V111
  have Zh114 : n0 ≤ h111.size := Nat.le_trans Zh110 (Nat.le_of_eq W111.size.symm)
  have N111 := Fr.snoc X111 N107 g_b1
  refine own_go st111 ?_
  show own_Fin p e below _ (T111.setTop (mkF m 183 #[.val (.int p1), .val (.int p2), .unset, .unset, .unset, .unset, .unset, .unset] [(.ref b1)]))
  clear V111 hin111 G111 H111 M111 S111 q111 Ar111 cl111 st111 W111 f109 X107 e107 Zh110 N107
  refine own_go (fun t k => XS.dup X111.here hx rfl (hb hby at_183) rfl rfl (XS.bipush X111.here hx rfl (hb hby at_184) k)) ?_
  show own_Fin p e below _ (T111.setTop (mkF m 186 #[.val (.int p1), .val (.int p2), .unset, .unset, .unset, .unset, .unset, .unset] [(.int (28 : Int32)), (.ref b1), (.ref b1)]))
  refine own_go (fun t k => X111.ldcInt hx hown (mvT hZ hw_7) (g := (mkF m 186 #[.val (.int p1), .val (.int p2), .unset, .unset, .unset, .unset, .unset, .unset] [(.int (28 : Int32)), (.ref b1), (.ref b1)])) rfl (hb hby at_186) _ k) ?_
  show own_Fin p e below _ (T111.setTop (mkF m 188 #[.val (.int p1), .val (.int p2), .unset, .unset, .unset, .unset, .unset, .unset] [(.int (983039 : Int32)), (.int (28 : Int32)), (.ref b1), (.ref b1)]))
  obtain ⟨cl115, Ar115, q115, S115, M115, H115, G115⟩ := (id f113)
  have hin115 : ¬ ((28 : Int32) < 0 ∨ cl115.slots.size ≤ ((28 : Int32)).toNatClampNeg) := inb_of S115 ⟨by decide, by decide⟩
  obtain ⟨T115, h115, X115, e115, W115, st115⟩ := stI X111 hx hZ e111 Ar115 (j := (28 : Int32)) hin115 (g := (mkF m 188 #[.val (.int p1), .val (.int p2), .unset, .unset, .unset, .unset, .unset, .unset] [(.int (983039 : Int32)), (.int (28 : Int32)), (.ref b1), (.ref b1)])) rfl rfl (hb hby at_188)
  have V115 := Arv.set Ar115 q115 S115 M115 H115 G115 rfl W115 28 rfl (Nat.le_of_ble_eq_true rfl)
  have f117 : Arv Z h115 b1 k1 .int (29 : Int32) [(.int (65 : Int32)), (.int (90 : Int32)), (.int (95 : Int32)), (.int (97 : Int32)), (.int (122 : Int32)), (.int (192 : Int32)), (.int (214 : Int32)), (.int (216 : Int32)), (.int (246 : Int32)), (.int (248 : Int32)), (.int (767 : Int32)), (.int (880 : Int32)), (.int (893 : Int32)), (.int (895 : Int32)), (.int (8191 : Int32)), (.int (8204 : Int32)), (.int (8205 : Int32)), (.int (8304 : Int32)), (.int (8591 : Int32)), (.int (11264 : Int32)), (.int (12271 : Int32)), (.int (12289 : Int32)), (.int (55295 : Int32)), (.int (63744 : Int32)), (.int (64975 : Int32)), (.int (65008 : Int32)), (.int (65533 : Int32)), (.int (65536 : Int32)), (.int (983039 : Int32))] (.int (0 : Int32)) := V115
  have Zh118 : n0 ≤ h115.size := Nat.le_trans Zh114 (Nat.le_of_eq W115.size.symm)
  have N115 := Fr.snoc X115 N111 g_b1
  refine own_go st115 ?_
  show own_Fin p e below _ (T115.setTop (mkF m 189 #[.val (.int p1), .val (.int p2), .unset, .unset, .unset, .unset, .unset, .unset] [(.ref b1)]))
  clear V115 hin115 G115 H115 M115 S115 q115 Ar115 cl115 st115 W115 f113 X111 e111 Zh114 N111
  refine own_go (fun t k => XS.astoreN X115.here hx rfl (hb hby at_189) rfl rfl (l' := #[.val (.int p1), .val (.int p2), .val (.ref b1), .unset, .unset, .unset, .unset, .unset]) rfl k) ?_
  show own_Fin p e below _ (T115.setTop (mkF m 190 #[.val (.int p1), .val (.int p2), .val (.ref b1), .unset, .unset, .unset, .unset, .unset] []))
  obtain ⟨LL119, X119, N119⟩ : ∃ LL : List Loc, Stand p l e room_1 s m #[(.int p1), (.int p2)] below meth c T115 LL 1 29 ∧ Fr n0 LL := ⟨_, X115, N115⟩
  clear X115 N115
  refine own_go (fun t k => XS.aloadN X119.here hx rfl (hb hby at_190) rfl rfl  (XS.iloadN X119.here hx rfl (hb hby at_191) rfl  k)) ?_
  show own_Fin p e below _ (T115.setTop (mkF m 192 #[.val (.int p1), .val (.int p2), .val (.ref b1), .unset, .unset, .unset, .unset, .unset] [(.int p2), (.ref b1)]))
  refine own_go (fun t k => X119.ldcInt hx hown (mvT hZ hw_8) (g := (mkF m 192 #[.val (.int p1), .val (.int p2), .val (.ref b1), .unset, .unset, .unset, .unset, .unset] [(.int p2), (.ref b1)])) rfl (hb hby at_192) _ (XS.iand X119.here hx rfl (hb hby at_194) rfl (XS.bipush X119.here hx rfl (hb hby at_195) (iremM X119 hx rfl (hb hby at_197) rfl (by decide) k)))) ?_
  show own_Fin p e below _ (T115.setTop (mkF m 198 #[.val (.int p1), .val (.int p2), .val (.ref b1), .unset, .unset, .unset, .unset, .unset] [(.int ((p2 &&& (2147483647 : Int32)) % (29 : Int32))), (.ref b1)]))
  obtain ⟨cl120, Ar120, q120, S120, M120, H120, G120⟩ := (id f117)
  have hin120 : ¬ (((p2 &&& (2147483647 : Int32)) % (29 : Int32)) < 0 ∨ cl120.slots.size ≤ (((p2 &&& (2147483647 : Int32)) % (29 : Int32))).toNatClampNeg) := inb_of S120 (own_idx _)
  obtain ⟨z120, hz120⟩ := own_ints [(65 : Int32), (90 : Int32), (95 : Int32), (97 : Int32), (122 : Int32), (192 : Int32), (214 : Int32), (216 : Int32), (246 : Int32), (248 : Int32), (767 : Int32), (880 : Int32), (893 : Int32), (895 : Int32), (8191 : Int32), (8204 : Int32), (8205 : Int32), (8304 : Int32), (8591 : Int32), (11264 : Int32), (12271 : Int32), (12289 : Int32), (55295 : Int32), (63744 : Int32), (64975 : Int32), (65008 : Int32), (65533 : Int32), (65536 : Int32), (983039 : Int32)] (((p2 &&& (2147483647 : Int32)) % (29 : Int32))).toNatClampNeg
  have hat120 : cl120.slots[(((p2 &&& (2147483647 : Int32)) % (29 : Int32))).toNatClampNeg]? = some (.int z120) := H120.at hin120 hz120
  refine own_go (fun t k => X119.iaload hx (j := ((p2 &&& (2147483647 : Int32)) % (29 : Int32))) (v := (.int z120)) (by rw [e115]; exact Ar120.1) (State.isArrayOf_alike hZ.alike Ar120.2.1) Ar120.2.2 hin120 hat120 (g := (mkF m 198 #[.val (.int p1), .val (.int p2), .val (.ref b1), .unset, .unset, .unset, .unset, .unset] [(.int ((p2 &&& (2147483647 : Int32)) % (29 : Int32))), (.ref b1)])) rfl rfl (hb hby at_198) _ (XS.istoreN X119.here hx rfl (hb hby at_199) rfl (l' := #[.val (.int p1), .val (.int p2), .val (.ref b1), .val (.int z120), .unset, .unset, .unset, .unset]) rfl (XS.iloadN X119.here hx rfl (hb hby at_200) rfl  k))) ?_
  show own_Fin p e below _ (T115.setTop (mkF m 201 #[.val (.int p1), .val (.int p2), .val (.ref b1), .val (.int z120), .unset, .unset, .unset, .unset] [(.int p1)]))
  obtain ⟨_, _, ⟨T121, L121, k121, n121⟩, -, X121, ⟨Lc121, hQ121, l121, y121, z121⟩, st121⟩ := Jvm.LawKit.callS X119 hx (y := (⟨"com/example/sound_verdict/soundverdict/XmlName", "isNameStartChar", "(I)Z"⟩ : MethodName)) hown (mvT hZ hw_9) (mvT hZ hw_10) (mvT hZ hw_11) (mvT hZ hw_12) (by decide) (backOf (W := 0) (rm1 l Z a0 hw [] (p1)  h115 n0 Zh118 ) hZ hw_12 hw_11 (by decide) (by decide)) (g := (mkF m 201 #[.val (.int p1), .val (.int p2), .val (.ref b1), .val (.int z120), .unset, .unset, .unset, .unset] [(.int p1)])) rfl (by rw [hml]; rfl) (argsL := [(.int p1)]) (rest := []) (lenOf pd_0 rfl) rfl (by show 2 * 0 + _ ≤ _; exact Nat.le_of_eq rfl) (hb hby at_201) (fun _ _ => ⟨rfl, e115, (by decide : 1 + 0 ≤ _), (by decide : 29 + 0 ≤ _)⟩)
  dsimp only [Pt.U, Pt.locs, Pt.cells, Pt.slots] at X121 l121 y121 z121 st121 hQ121
  subst l121 y121 z121
  obtain ⟨rfl, N121q, e121⟩ := hQ121
  have N121 := Fr.app N119 N121q
  refine own_go st121 ?_
  show own_Fin p e below _ (T121.setTop (mkF m 204 #[.val (.int p1), .val (.int p2), .val (.ref b1), .val (.int z120), .unset, .unset, .unset, .unset] [(.int (own_f_3 p1))]))
  obtain ⟨V122, h_V122⟩ : ∃ z : Int32, z = (own_f_3 p1) := ⟨_, rfl⟩
  rw [← h_V122]
  show own_Fin p e below _ (T121.setTop (mkF m 204 #[.val (.int p1), .val (.int p2), .val (.ref b1), .val (.int z120), .unset, .unset, .unset, .unset] [(.int V122)]))
  refine own_go (fun t k => XS.iloadN X121.here hx rfl (hb hby at_204) rfl  k) ?_
  show own_Fin p e below _ (T121.setTop (mkF m 205 #[.val (.int p1), .val (.int p2), .val (.ref b1), .val (.int z120), .unset, .unset, .unset, .unset] [(.int p1), (.int V122)]))
  obtain ⟨_, _, ⟨T123, L123, k123, n123⟩, -, X123, ⟨Lc123, hQ123, l123, y123, z123⟩, st123⟩ := Jvm.LawKit.callS X121 hx (y := (⟨"com/example/sound_verdict/soundverdict/XmlNameIsNameStartCharPinLaw", "ref", "(I)Z"⟩ : MethodName)) hown (mvT hZ hw_16) (mvT hZ hw_17) (mvT hZ hw_18) (mvT hZ hw_19) (by decide) (backOf (W := 1) (rm2 l Z a0 hw [] (p1)  h115 n0 Zh118 ) hZ hw_19 hw_18 (by decide) (by decide)) (g := (mkF m 205 #[.val (.int p1), .val (.int p2), .val (.ref b1), .val (.int z120), .unset, .unset, .unset, .unset] [(.int p1), (.int V122)])) rfl (by rw [hml]; rfl) (argsL := [(.int p1)]) (rest := [(.int V122)]) (lenOf pd_0 rfl) rfl (by show 2 * 0 + _ ≤ _; exact Nat.le_of_eq rfl) (hb hby at_205) (fun _ _ => ⟨rfl, e121, (by decide : 1 + 0 ≤ _), (by decide : 29 + 0 ≤ _)⟩)
  dsimp only [Pt.U, Pt.locs, Pt.cells, Pt.slots] at X123 l123 y123 z123 st123 hQ123
  subst l123 y123 z123
  obtain ⟨rfl, N123q, e123⟩ := hQ123
  have N123 := Fr.app N121 N123q
  refine own_go st123 ?_
  show own_Fin p e below _ (T123.setTop (mkF m 208 #[.val (.int p1), .val (.int p2), .val (.ref b1), .val (.int z120), .unset, .unset, .unset, .unset] [(.int (own_g_3 p1)), (.int V122)]))
  obtain ⟨V124, h_V124⟩ : ∃ z : Int32, z = (own_g_3 p1) := ⟨_, rfl⟩
  rw [← h_V124]
  show own_Fin p e below _ (T123.setTop (mkF m 208 #[.val (.int p1), .val (.int p2), .val (.ref b1), .val (.int z120), .unset, .unset, .unset, .unset] [(.int V124), (.int V122)]))
  refine own_go (fun t k => XS.icmpNo X123.here hx rfl (hb hby at_208) rfl (teq (h_V122.trans ((own_eq _).trans h_V124.symm))).2 (XS.iconst X123.here hx rfl (hb hby at_211) (XS.goto X123.here hx rfl (pc0 := 212) (pc' := 216) rfl (hb hby at_212) (by decide) (by decide) (XS.istore X123.here hx rfl (hb hby at_216) rfl (l' := #[.val (.int p1), .val (.int p2), .val (.ref b1), .val (.int z120), .val (.int (1 : Int32)), .unset, .unset, .unset]) rfl k)))) ?_
  show own_Fin p e below _ (T123.setTop (mkF m 218 #[.val (.int p1), .val (.int p2), .val (.ref b1), .val (.int z120), .val (.int (1 : Int32)), .unset, .unset, .unset] []))
  refine own_go (fun t k => XS.iloadN X123.here hx rfl (hb hby at_218) rfl  (XS.iconst X123.here hx rfl (hb hby at_219) (XS.isub X123.here hx rfl (hb hby at_220) rfl k))) ?_
  show own_Fin p e below _ (T123.setTop (mkF m 221 #[.val (.int p1), .val (.int p2), .val (.ref b1), .val (.int z120), .val (.int (1 : Int32)), .unset, .unset, .unset] [(.int (z120 - (1 : Int32)))]))
  obtain ⟨_, _, ⟨T125, L125, k125, n125⟩, -, X125, ⟨Lc125, hQ125, l125, y125, z125⟩, st125⟩ := Jvm.LawKit.callS X123 hx (y := (⟨"com/example/sound_verdict/soundverdict/XmlName", "isNameStartChar", "(I)Z"⟩ : MethodName)) hown (mvT hZ hw_9) (mvT hZ hw_10) (mvT hZ hw_11) (mvT hZ hw_12) (by decide) (backOf (W := 0) (rm1 l Z a0 hw [] ((z120 - (1 : Int32)))  h115 n0 Zh118 ) hZ hw_12 hw_11 (by decide) (by decide)) (g := (mkF m 221 #[.val (.int p1), .val (.int p2), .val (.ref b1), .val (.int z120), .val (.int (1 : Int32)), .unset, .unset, .unset] [(.int (z120 - (1 : Int32)))])) rfl (by rw [hml]; rfl) (argsL := [(.int (z120 - (1 : Int32)))]) (rest := []) (lenOf pd_0 rfl) rfl (by show 2 * 0 + _ ≤ _; exact Nat.le_of_eq rfl) (hb hby at_221) (fun _ _ => ⟨rfl, e123, (by decide : 1 + 0 ≤ _), (by decide : 29 + 0 ≤ _)⟩)
  dsimp only [Pt.U, Pt.locs, Pt.cells, Pt.slots] at X125 l125 y125 z125 st125 hQ125
  subst l125 y125 z125
  obtain ⟨rfl, N125q, e125⟩ := hQ125
  have N125 := Fr.app N123 N125q
  refine own_go st125 ?_
  show own_Fin p e below _ (T125.setTop (mkF m 224 #[.val (.int p1), .val (.int p2), .val (.ref b1), .val (.int z120), .val (.int (1 : Int32)), .unset, .unset, .unset] [(.int (own_f_3 (z120 - (1 : Int32))))]))
  obtain ⟨V126, h_V126⟩ : ∃ z : Int32, z = (own_f_3 (z120 - (1 : Int32))) := ⟨_, rfl⟩
  rw [← h_V126]
  show own_Fin p e below _ (T125.setTop (mkF m 224 #[.val (.int p1), .val (.int p2), .val (.ref b1), .val (.int z120), .val (.int (1 : Int32)), .unset, .unset, .unset] [(.int V126)]))
  refine own_go (fun t k => XS.iloadN X125.here hx rfl (hb hby at_224) rfl  (XS.iconst X125.here hx rfl (hb hby at_225) (XS.isub X125.here hx rfl (hb hby at_226) rfl k))) ?_
  show own_Fin p e below _ (T125.setTop (mkF m 227 #[.val (.int p1), .val (.int p2), .val (.ref b1), .val (.int z120), .val (.int (1 : Int32)), .unset, .unset, .unset] [(.int (z120 - (1 : Int32))), (.int V126)]))
  obtain ⟨_, _, ⟨T127, L127, k127, n127⟩, -, X127, ⟨Lc127, hQ127, l127, y127, z127⟩, st127⟩ := Jvm.LawKit.callS X125 hx (y := (⟨"com/example/sound_verdict/soundverdict/XmlNameIsNameStartCharPinLaw", "ref", "(I)Z"⟩ : MethodName)) hown (mvT hZ hw_16) (mvT hZ hw_17) (mvT hZ hw_18) (mvT hZ hw_19) (by decide) (backOf (W := 1) (rm2 l Z a0 hw [] ((z120 - (1 : Int32)))  h115 n0 Zh118 ) hZ hw_19 hw_18 (by decide) (by decide)) (g := (mkF m 227 #[.val (.int p1), .val (.int p2), .val (.ref b1), .val (.int z120), .val (.int (1 : Int32)), .unset, .unset, .unset] [(.int (z120 - (1 : Int32))), (.int V126)])) rfl (by rw [hml]; rfl) (argsL := [(.int (z120 - (1 : Int32)))]) (rest := [(.int V126)]) (lenOf pd_0 rfl) rfl (by show 2 * 0 + _ ≤ _; exact Nat.le_of_eq rfl) (hb hby at_227) (fun _ _ => ⟨rfl, e125, (by decide : 1 + 0 ≤ _), (by decide : 29 + 0 ≤ _)⟩)
  dsimp only [Pt.U, Pt.locs, Pt.cells, Pt.slots] at X127 l127 y127 z127 st127 hQ127
  subst l127 y127 z127
  obtain ⟨rfl, N127q, e127⟩ := hQ127
  have N127 := Fr.app N125 N127q
  refine own_go st127 ?_
  show own_Fin p e below _ (T127.setTop (mkF m 230 #[.val (.int p1), .val (.int p2), .val (.ref b1), .val (.int z120), .val (.int (1 : Int32)), .unset, .unset, .unset] [(.int (own_g_3 (z120 - (1 : Int32)))), (.int V126)]))
  obtain ⟨V128, h_V128⟩ : ∃ z : Int32, z = (own_g_3 (z120 - (1 : Int32))) := ⟨_, rfl⟩
  rw [← h_V128]
  show own_Fin p e below _ (T127.setTop (mkF m 230 #[.val (.int p1), .val (.int p2), .val (.ref b1), .val (.int z120), .val (.int (1 : Int32)), .unset, .unset, .unset] [(.int V128), (.int V126)]))
  refine own_go (fun t k => XS.icmpNo X127.here hx rfl (hb hby at_230) rfl (teq (h_V126.trans ((own_eq _).trans h_V128.symm))).2 (XS.iconst X127.here hx rfl (hb hby at_233) (XS.goto X127.here hx rfl (pc0 := 234) (pc' := 238) rfl (hb hby at_234) (by decide) (by decide) (XS.istore X127.here hx rfl (hb hby at_238) rfl (l' := #[.val (.int p1), .val (.int p2), .val (.ref b1), .val (.int z120), .val (.int (1 : Int32)), .val (.int (1 : Int32)), .unset, .unset]) rfl k)))) ?_
  show own_Fin p e below _ (T127.setTop (mkF m 240 #[.val (.int p1), .val (.int p2), .val (.ref b1), .val (.int z120), .val (.int (1 : Int32)), .val (.int (1 : Int32)), .unset, .unset] []))
  refine own_go (fun t k => XS.iloadN X127.here hx rfl (hb hby at_240) rfl  k) ?_
  show own_Fin p e below _ (T127.setTop (mkF m 241 #[.val (.int p1), .val (.int p2), .val (.ref b1), .val (.int z120), .val (.int (1 : Int32)), .val (.int (1 : Int32)), .unset, .unset] [(.int z120)]))
  obtain ⟨_, _, ⟨T129, L129, k129, n129⟩, -, X129, ⟨Lc129, hQ129, l129, y129, z129⟩, st129⟩ := Jvm.LawKit.callS X127 hx (y := (⟨"com/example/sound_verdict/soundverdict/XmlName", "isNameStartChar", "(I)Z"⟩ : MethodName)) hown (mvT hZ hw_9) (mvT hZ hw_10) (mvT hZ hw_11) (mvT hZ hw_12) (by decide) (backOf (W := 0) (rm1 l Z a0 hw [] (z120)  h115 n0 Zh118 ) hZ hw_12 hw_11 (by decide) (by decide)) (g := (mkF m 241 #[.val (.int p1), .val (.int p2), .val (.ref b1), .val (.int z120), .val (.int (1 : Int32)), .val (.int (1 : Int32)), .unset, .unset] [(.int z120)])) rfl (by rw [hml]; rfl) (argsL := [(.int z120)]) (rest := []) (lenOf pd_0 rfl) rfl (by show 2 * 0 + _ ≤ _; exact Nat.le_of_eq rfl) (hb hby at_241) (fun _ _ => ⟨rfl, e127, (by decide : 1 + 0 ≤ _), (by decide : 29 + 0 ≤ _)⟩)
  dsimp only [Pt.U, Pt.locs, Pt.cells, Pt.slots] at X129 l129 y129 z129 st129 hQ129
  subst l129 y129 z129
  obtain ⟨rfl, N129q, e129⟩ := hQ129
  have N129 := Fr.app N127 N129q
  refine own_go st129 ?_
  show own_Fin p e below _ (T129.setTop (mkF m 244 #[.val (.int p1), .val (.int p2), .val (.ref b1), .val (.int z120), .val (.int (1 : Int32)), .val (.int (1 : Int32)), .unset, .unset] [(.int (own_f_3 z120))]))
  obtain ⟨V130, h_V130⟩ : ∃ z : Int32, z = (own_f_3 z120) := ⟨_, rfl⟩
  rw [← h_V130]
  show own_Fin p e below _ (T129.setTop (mkF m 244 #[.val (.int p1), .val (.int p2), .val (.ref b1), .val (.int z120), .val (.int (1 : Int32)), .val (.int (1 : Int32)), .unset, .unset] [(.int V130)]))
  refine own_go (fun t k => XS.iloadN X129.here hx rfl (hb hby at_244) rfl  k) ?_
  show own_Fin p e below _ (T129.setTop (mkF m 245 #[.val (.int p1), .val (.int p2), .val (.ref b1), .val (.int z120), .val (.int (1 : Int32)), .val (.int (1 : Int32)), .unset, .unset] [(.int z120), (.int V130)]))
  obtain ⟨_, _, ⟨T131, L131, k131, n131⟩, -, X131, ⟨Lc131, hQ131, l131, y131, z131⟩, st131⟩ := Jvm.LawKit.callS X129 hx (y := (⟨"com/example/sound_verdict/soundverdict/XmlNameIsNameStartCharPinLaw", "ref", "(I)Z"⟩ : MethodName)) hown (mvT hZ hw_16) (mvT hZ hw_17) (mvT hZ hw_18) (mvT hZ hw_19) (by decide) (backOf (W := 1) (rm2 l Z a0 hw [] (z120)  h115 n0 Zh118 ) hZ hw_19 hw_18 (by decide) (by decide)) (g := (mkF m 245 #[.val (.int p1), .val (.int p2), .val (.ref b1), .val (.int z120), .val (.int (1 : Int32)), .val (.int (1 : Int32)), .unset, .unset] [(.int z120), (.int V130)])) rfl (by rw [hml]; rfl) (argsL := [(.int z120)]) (rest := [(.int V130)]) (lenOf pd_0 rfl) rfl (by show 2 * 0 + _ ≤ _; exact Nat.le_of_eq rfl) (hb hby at_245) (fun _ _ => ⟨rfl, e129, (by decide : 1 + 0 ≤ _), (by decide : 29 + 0 ≤ _)⟩)
  dsimp only [Pt.U, Pt.locs, Pt.cells, Pt.slots] at X131 l131 y131 z131 st131 hQ131
  subst l131 y131 z131
  obtain ⟨rfl, N131q, e131⟩ := hQ131
  have N131 := Fr.app N129 N131q
  refine own_go st131 ?_
  show own_Fin p e below _ (T131.setTop (mkF m 248 #[.val (.int p1), .val (.int p2), .val (.ref b1), .val (.int z120), .val (.int (1 : Int32)), .val (.int (1 : Int32)), .unset, .unset] [(.int (own_g_3 z120)), (.int V130)]))
  obtain ⟨V132, h_V132⟩ : ∃ z : Int32, z = (own_g_3 z120) := ⟨_, rfl⟩
  rw [← h_V132]
  show own_Fin p e below _ (T131.setTop (mkF m 248 #[.val (.int p1), .val (.int p2), .val (.ref b1), .val (.int z120), .val (.int (1 : Int32)), .val (.int (1 : Int32)), .unset, .unset] [(.int V132), (.int V130)]))
  refine own_go (fun t k => XS.icmpNo X131.here hx rfl (hb hby at_248) rfl (teq (h_V130.trans ((own_eq _).trans h_V132.symm))).2 (XS.iconst X131.here hx rfl (hb hby at_251) (XS.goto X131.here hx rfl (pc0 := 252) (pc' := 256) rfl (hb hby at_252) (by decide) (by decide) (XS.istore X131.here hx rfl (hb hby at_256) rfl (l' := #[.val (.int p1), .val (.int p2), .val (.ref b1), .val (.int z120), .val (.int (1 : Int32)), .val (.int (1 : Int32)), .val (.int (1 : Int32)), .unset]) rfl k)))) ?_
  show own_Fin p e below _ (T131.setTop (mkF m 258 #[.val (.int p1), .val (.int p2), .val (.ref b1), .val (.int z120), .val (.int (1 : Int32)), .val (.int (1 : Int32)), .val (.int (1 : Int32)), .unset] []))
  refine own_go (fun t k => XS.iloadN X131.here hx rfl (hb hby at_258) rfl  (XS.iconst X131.here hx rfl (hb hby at_259) (XS.iadd X131.here hx rfl (hb hby at_260) rfl k))) ?_
  show own_Fin p e below _ (T131.setTop (mkF m 261 #[.val (.int p1), .val (.int p2), .val (.ref b1), .val (.int z120), .val (.int (1 : Int32)), .val (.int (1 : Int32)), .val (.int (1 : Int32)), .unset] [(.int (z120 + (1 : Int32)))]))
  obtain ⟨_, _, ⟨T133, L133, k133, n133⟩, -, X133, ⟨Lc133, hQ133, l133, y133, z133⟩, st133⟩ := Jvm.LawKit.callS X131 hx (y := (⟨"com/example/sound_verdict/soundverdict/XmlName", "isNameStartChar", "(I)Z"⟩ : MethodName)) hown (mvT hZ hw_9) (mvT hZ hw_10) (mvT hZ hw_11) (mvT hZ hw_12) (by decide) (backOf (W := 0) (rm1 l Z a0 hw [] ((z120 + (1 : Int32)))  h115 n0 Zh118 ) hZ hw_12 hw_11 (by decide) (by decide)) (g := (mkF m 261 #[.val (.int p1), .val (.int p2), .val (.ref b1), .val (.int z120), .val (.int (1 : Int32)), .val (.int (1 : Int32)), .val (.int (1 : Int32)), .unset] [(.int (z120 + (1 : Int32)))])) rfl (by rw [hml]; rfl) (argsL := [(.int (z120 + (1 : Int32)))]) (rest := []) (lenOf pd_0 rfl) rfl (by show 2 * 0 + _ ≤ _; exact Nat.le_of_eq rfl) (hb hby at_261) (fun _ _ => ⟨rfl, e131, (by decide : 1 + 0 ≤ _), (by decide : 29 + 0 ≤ _)⟩)
  dsimp only [Pt.U, Pt.locs, Pt.cells, Pt.slots] at X133 l133 y133 z133 st133 hQ133
  subst l133 y133 z133
  obtain ⟨rfl, N133q, e133⟩ := hQ133
  have N133 := Fr.app N131 N133q
  refine own_go st133 ?_
  show own_Fin p e below _ (T133.setTop (mkF m 264 #[.val (.int p1), .val (.int p2), .val (.ref b1), .val (.int z120), .val (.int (1 : Int32)), .val (.int (1 : Int32)), .val (.int (1 : Int32)), .unset] [(.int (own_f_3 (z120 + (1 : Int32))))]))
  obtain ⟨V134, h_V134⟩ : ∃ z : Int32, z = (own_f_3 (z120 + (1 : Int32))) := ⟨_, rfl⟩
  rw [← h_V134]
  show own_Fin p e below _ (T133.setTop (mkF m 264 #[.val (.int p1), .val (.int p2), .val (.ref b1), .val (.int z120), .val (.int (1 : Int32)), .val (.int (1 : Int32)), .val (.int (1 : Int32)), .unset] [(.int V134)]))
  refine own_go (fun t k => XS.iloadN X133.here hx rfl (hb hby at_264) rfl  (XS.iconst X133.here hx rfl (hb hby at_265) (XS.iadd X133.here hx rfl (hb hby at_266) rfl k))) ?_
  show own_Fin p e below _ (T133.setTop (mkF m 267 #[.val (.int p1), .val (.int p2), .val (.ref b1), .val (.int z120), .val (.int (1 : Int32)), .val (.int (1 : Int32)), .val (.int (1 : Int32)), .unset] [(.int (z120 + (1 : Int32))), (.int V134)]))
  obtain ⟨_, _, ⟨T135, L135, k135, n135⟩, -, X135, ⟨Lc135, hQ135, l135, y135, z135⟩, st135⟩ := Jvm.LawKit.callS X133 hx (y := (⟨"com/example/sound_verdict/soundverdict/XmlNameIsNameStartCharPinLaw", "ref", "(I)Z"⟩ : MethodName)) hown (mvT hZ hw_16) (mvT hZ hw_17) (mvT hZ hw_18) (mvT hZ hw_19) (by decide) (backOf (W := 1) (rm2 l Z a0 hw [] ((z120 + (1 : Int32)))  h115 n0 Zh118 ) hZ hw_19 hw_18 (by decide) (by decide)) (g := (mkF m 267 #[.val (.int p1), .val (.int p2), .val (.ref b1), .val (.int z120), .val (.int (1 : Int32)), .val (.int (1 : Int32)), .val (.int (1 : Int32)), .unset] [(.int (z120 + (1 : Int32))), (.int V134)])) rfl (by rw [hml]; rfl) (argsL := [(.int (z120 + (1 : Int32)))]) (rest := [(.int V134)]) (lenOf pd_0 rfl) rfl (by show 2 * 0 + _ ≤ _; exact Nat.le_of_eq rfl) (hb hby at_267) (fun _ _ => ⟨rfl, e133, (by decide : 1 + 0 ≤ _), (by decide : 29 + 0 ≤ _)⟩)
  dsimp only [Pt.U, Pt.locs, Pt.cells, Pt.slots] at X135 l135 y135 z135 st135 hQ135
  subst l135 y135 z135
  obtain ⟨rfl, N135q, e135⟩ := hQ135
  have N135 := Fr.app N133 N135q
  refine own_go st135 ?_
  show own_Fin p e below _ (T135.setTop (mkF m 270 #[.val (.int p1), .val (.int p2), .val (.ref b1), .val (.int z120), .val (.int (1 : Int32)), .val (.int (1 : Int32)), .val (.int (1 : Int32)), .unset] [(.int (own_g_3 (z120 + (1 : Int32)))), (.int V134)]))
  obtain ⟨V136, h_V136⟩ : ∃ z : Int32, z = (own_g_3 (z120 + (1 : Int32))) := ⟨_, rfl⟩
  rw [← h_V136]
  show own_Fin p e below _ (T135.setTop (mkF m 270 #[.val (.int p1), .val (.int p2), .val (.ref b1), .val (.int z120), .val (.int (1 : Int32)), .val (.int (1 : Int32)), .val (.int (1 : Int32)), .unset] [(.int V136), (.int V134)]))
  refine own_go (fun t k => XS.icmpNo X135.here hx rfl (hb hby at_270) rfl (teq (h_V134.trans ((own_eq _).trans h_V136.symm))).2 (XS.iconst X135.here hx rfl (hb hby at_273) (XS.goto X135.here hx rfl (pc0 := 274) (pc' := 278) rfl (hb hby at_274) (by decide) (by decide) (XS.istore X135.here hx rfl (hb hby at_278) rfl (l' := #[.val (.int p1), .val (.int p2), .val (.ref b1), .val (.int z120), .val (.int (1 : Int32)), .val (.int (1 : Int32)), .val (.int (1 : Int32)), .val (.int (1 : Int32))]) rfl k)))) ?_
  show own_Fin p e below _ (T135.setTop (mkF m 280 #[.val (.int p1), .val (.int p2), .val (.ref b1), .val (.int z120), .val (.int (1 : Int32)), .val (.int (1 : Int32)), .val (.int (1 : Int32)), .val (.int (1 : Int32))] []))
  refine own_go (fun t k => XS.iload X135.here hx rfl (hb hby at_280) rfl  k) ?_
  show own_Fin p e below _ (T135.setTop (mkF m 282 #[.val (.int p1), .val (.int p2), .val (.ref b1), .val (.int z120), .val (.int (1 : Int32)), .val (.int (1 : Int32)), .val (.int (1 : Int32)), .val (.int (1 : Int32))] [(.int (1 : Int32))]))
  refine own_go (fun t k => XS.ifNo X135.here hx rfl (hb hby at_282) rfl ((if0 _ _).trans (feq (by decide : ¬ ((1 : Int32) = (0 : Int32)))).1) (XS.iload X135.here hx rfl (hb hby at_285) rfl  k)) ?_
  show own_Fin p e below _ (T135.setTop (mkF m 287 #[.val (.int p1), .val (.int p2), .val (.ref b1), .val (.int z120), .val (.int (1 : Int32)), .val (.int (1 : Int32)), .val (.int (1 : Int32)), .val (.int (1 : Int32))] [(.int (1 : Int32))]))
  refine own_go (fun t k => XS.ifNo X135.here hx rfl (hb hby at_287) rfl ((if0 _ _).trans (feq (by decide : ¬ ((1 : Int32) = (0 : Int32)))).1) (XS.iload X135.here hx rfl (hb hby at_290) rfl  k)) ?_
  show own_Fin p e below _ (T135.setTop (mkF m 292 #[.val (.int p1), .val (.int p2), .val (.ref b1), .val (.int z120), .val (.int (1 : Int32)), .val (.int (1 : Int32)), .val (.int (1 : Int32)), .val (.int (1 : Int32))] [(.int (1 : Int32))]))
  refine own_go (fun t k => XS.ifNo X135.here hx rfl (hb hby at_292) rfl ((if0 _ _).trans (feq (by decide : ¬ ((1 : Int32) = (0 : Int32)))).1) (XS.iload X135.here hx rfl (hb hby at_295) rfl  k)) ?_
  show own_Fin p e below _ (T135.setTop (mkF m 297 #[.val (.int p1), .val (.int p2), .val (.ref b1), .val (.int z120), .val (.int (1 : Int32)), .val (.int (1 : Int32)), .val (.int (1 : Int32)), .val (.int (1 : Int32))] [(.int (1 : Int32))]))
  refine own_go (fun t k => XS.ifNo X135.here hx rfl (hb hby at_297) rfl ((if0 _ _).trans (feq (by decide : ¬ ((1 : Int32) = (0 : Int32)))).1) (XS.iconst X135.here hx rfl (hb hby at_300) (XS.goto X135.here hx rfl (pc0 := 301) (pc' := 305) rfl (hb hby at_301) (by decide) (by decide) k))) ?_
  show own_Fin p e below _ (T135.setTop (mkF m 305 #[.val (.int p1), .val (.int p2), .val (.ref b1), .val (.int z120), .val (.int (1 : Int32)), .val (.int (1 : Int32)), .val (.int (1 : Int32)), .val (.int (1 : Int32))] [(.int (1 : Int32))]))
  exact own_out X135 (fun h => by rw [Bd.returns] at h; cases h) Bd.notSynchronized (fun fs hr => retN X135 hx (t := .boolean) Bd.returns (by simp) (hb hby at_305) hr) ⟨rfl, N135⟩ (by decide) (by decide)
set_option maxRecDepth 65536 in
set_option maxHeartbeats 40000000 in
theorem comes_1 {Post : Tables → Env → Array Value → State → Outcome → State → Prop} (hpost : ∀ tb e args s v u, (limb_1_1.after args s (.returned v) u = true ∧ limb_1_2.after args s (.returned v) u = true ∧ True) → FrameEnd s (.returned v) u (Jvm.fieldLocs frame_1_writes args s ++ Jvm.arrayLocs frame_1_arrays args s ++ Jvm.staticLocs frame_1_statics s) 16 128 → Post tb e args s (.returned v) u) :
    ArmFor flags0 classFile x code maxLocals ret World_1 tables_1 room_1 Calls_1 rest_1 Pre_1 Post := by
  intro l hfl _ _ p e ha hc hk s m args below hf hA hF happ hP
  obtain ⟨hcalls, hrest, hpre⟩ := hP
  obtain ⟨-, -, -, hnamed, -, -, -, hat⟩ := (Spec.applies_iff hf).mp happ
  obtain ⟨hg, hn⟩ := and_e (Cond.before_iff.mp (show (Jvm.Cond.and given_1 narrow_1).before args s = true from hpre))
  obtain ⟨g0, r0⟩ := and_e hg
  obtain ⟨g1, r1⟩ := and_e r0
  obtain ⟨w0, w1, rfl⟩ : ∃ w0 w1 : Value, args = #[w0, w1] := by
    have hs : args.size = 2 := by simpa [Cond.value, given_1] using g0
    obtain ⟨L⟩ := args
    match L, hs with
    | [w0, w1], _ => exact ⟨w0, w1, rfl⟩
  have hw := fun d (hd : d ∈ tables_1) => atoms_spec (ws := Jvm.Cond.code x code maxLocals ret :: tables_1) hat d (List.mem_cons_of_mem _ hd)
  have hfit : Fit s := fun {y c} hc i hi => by
    obtain ⟨ha, rfl⟩ := Array.getElem?_eq_some_iff.mp hc
    have q := List.all_eq_true.mp ((Array.all_eq_true_iff_forall_mem.mp hF) _ (Array.getElem_mem ha)) i (List.mem_range.mpr hi)
    simpa [Array.getElem?_eq_getElem hi] using q
  obtain ⟨i0, ei0⟩ := is_v g1
  obtain rfl : w0 = (.int i0) := Option.some.inj ei0
  obtain ⟨i1, ei1⟩ := is_v r1
  obtain rfl : w1 = (.int i1) := Option.some.inj ei1
  obtain ⟨n, o, h1, h2, h3, _, L, rfl, ⟨rfl, N⟩, hq⟩ := rm0 l s _ hw tables_1 i0 i1  s.heap s.heap.size (Nat.le_refl _)  p e ha hc hk s m _ below hf ((Spec.applies_iff_loose hf).mp happ).1 ⟨rfl, State.Warmed39.refl s, rfl⟩ trivial
  refine ⟨n, _, h1, h2, h3, hpost _ _ _ _ _ _ ⟨Cond.after_iff.mpr rfl, Cond.after_iff.mpr (eq_i res_at (Term.int_eval (1)) rfl), trivial⟩ ⟨hq.1, hq.2.1, (hq.2.2.sift fun y hy => Or.inr (N y hy)).mono (by decide) (by decide)⟩⟩
theorem main_1_1 : Claimed_1_1 := comes_1 fun _ _ _ _ _ _ h hF => ⟨h.1, hF⟩
theorem main_1_2 : Claimed_1_2 := comes_1 fun _ _ _ _ _ _ h hF => ⟨h.2.1, hF⟩
end Jvm.Pilot.@@N@@
namespace Jvm.Pilot.@@N@@
open Jvm Jvm.ClassFile Sem Op Lib Jvm.Free Jvm.Stand Jvm.Pilot.@@N@@.Jvm.D
/-! MADE BY PROGRAM (witnessworld.py) out of the Statement's table words and the real class files: 9 classes; the members and pool entries that the words name. The judged class is class 1, her method 2. -/
namespace start1
open Jvm.ClassFile
def u (s : String) : CpInfo := .utf8 (stringToUtf16 s)
/-- a pool by its gaps: so many unusable entries, then the entry; so many at the end -/
def gap : Nat → List CpInfo → List CpInfo
  | 0, r => r
  | n + 1, r => .unusable :: gap n r
def poolList (es : List (Nat × CpInfo)) (last : Nat) : List CpInfo := es.foldr (fun e r => gap e.1 (e.2 :: r)) (gap last [])
def pool (es : List (Nat × CpInfo)) (last : Nat) : Array CpInfo := ⟨poolList es last⟩
def fileOf (pool : Array CpInfo) (this : Nat) (attrs : Array Attribute := #[]) (ms : Array MethodInfo := #[]) (fl : Nat := 33) (sup : Nat := 0) (ifs : Array Nat := #[]) (fds : Array FieldInfo := #[]) : ClassFile where
  minorVersion := 0
  majorVersion := 65
  constantPool := pool
  accessFlags := fl
  thisClass := this
  superClass := sup
  interfaces := ifs
  fields := fds
  methods := ms
  attributes := attrs
def plain (name : String) (sup : Option ClassId) : Class where
  name := name
  kind := .ordinary
  loader := none
  accessFlags := 33
  super := sup
  interfaces := #[]
  cf := none
  fields := #[]
  methods := #[]
  instanceTypes := #[]
  staticTypes := #[]
  resolved := #[]
  callSites := []
  init := .initialized
  statics := none
  mirror := none

def pool0 : Array CpInfo := pool [(5, u "<init>"), (0, u "()V"), (1, .class_ 10), (1, u "java/lang/Object")] 113

def k0m0 : Method := { name := "<init>", desc := "()V", sig := { parameters := [], returnType := none }, accessFlags := 1, code := none }
/-- java/lang/Object -/
def k0 : Class := { plain "java/lang/Object" none with
  accessFlags := 33
  interfaces := #[]
  cf := some (fileOf pool0 8 #[] #[{ accessFlags := 1, nameIndex := 5, descriptorIndex := 6, attributes := #[] }] 33 0 #[] #[])
  fields := #[]
  methods := #[k0m0]
  instanceTypes := #[]
  staticTypes := #[]
  resolved := Array.replicate 124 none
  statics := none }

def pool1 : Array CpInfo := pool [(2, .class_ 4), (1, u "java/lang/Object"), (0, u "<init>"), (0, u "()V"), (0, .integer 55295), (0, .integer 63744), (0, .integer 65533), (0, .integer 64976), (0, .integer 65007), (0, .integer 65536), (0, .integer 983039), (0, .integer 64975), (0, .integer 65008), (0, .integer 2147483647), (0, .methodref 18 19), (0, .class_ 20), (0, .nameAndType 21 22), (0, u "com/example/sound_verdict/soundverdict/XmlName"), (0, u "isNameStartChar"), (0, u "(I)Z"), (0, .methodref 24 25), (0, .class_ 26), (0, .nameAndType 27 22), (0, u "com/example/sound_verdict/soundverdict/XmlNameIsNameStartCharPinLaw"), (0, u "ref"), (3, u "law"), (0, u "(II)Z")] 4

def k1m0 : Method := { name := "<init>", desc := "()V", sig := { parameters := [], returnType := none }, accessFlags := 2, code := none }
def k1c1 : Code := { maxStack := 2, maxLocals := 1, code := method_2_code, exceptionTable := #[], attributes := #[] }
def k1m1 : Method := { name := "ref", desc := "(I)Z", sig := { parameters := [.int], returnType := some .boolean }, accessFlags := 10, code := some k1c1 }
def k1c2 : Code := { maxStack := 4, maxLocals := 8, code := code, exceptionTable := #[], attributes := #[] }
def k1m2 : Method := { name := "law", desc := "(II)Z", sig := { parameters := [.int, .int], returnType := some .boolean }, accessFlags := 9, code := some k1c2 }
/-- com/example/sound_verdict/soundverdict/XmlNameIsNameStartCharPinLaw -/
def k1 : Class := { plain "com/example/sound_verdict/soundverdict/XmlNameIsNameStartCharPinLaw" (some 0) with
  accessFlags := 49
  interfaces := #[]
  cf := some (fileOf pool1 24 #[] #[{ accessFlags := 2, nameIndex := 5, descriptorIndex := 6, attributes := #[] }, { accessFlags := 10, nameIndex := 27, descriptorIndex := 22, attributes := #[] }, { accessFlags := 9, nameIndex := 31, descriptorIndex := 32, attributes := #[] }] 49 2 #[] #[])
  fields := #[]
  methods := #[k1m0, k1m1, k1m2]
  instanceTypes := #[]
  staticTypes := #[]
  resolved := Array.replicate 37 none
  statics := none }

def pool2 : Array CpInfo := pool [(2, .class_ 4), (1, u "java/lang/Object"), (0, u "<init>"), (0, u "()V"), (0, .integer 55295), (0, .integer 63744), (0, .integer 64975), (0, .integer 65008), (0, .integer 65533), (0, .integer 65536), (0, .integer 983039), (1, .class_ 17), (1, u "com/example/sound_verdict/soundverdict/XmlName"), (0, u "isNameStartChar"), (0, u "(I)Z"), (22, u "XML_PREFIX"), (0, u "Ljava/lang/String;"), (3, u "XML_NAMESPACE"), (2, u "XMLNS_NAMESPACE"), (2, u "FUNCTIONS_NAMESPACE")] 9

def k2m0 : Method := { name := "<init>", desc := "()V", sig := { parameters := [], returnType := none }, accessFlags := 2, code := none }
def k2c1 : Code := { maxStack := 2, maxLocals := 1, code := prog_210_method_2_code, exceptionTable := #[], attributes := #[] }
def k2m1 : Method := { name := "isNameStartChar", desc := "(I)Z", sig := { parameters := [.int], returnType := some .boolean }, accessFlags := 8, code := some k2c1 }
/-- com/example/sound_verdict/soundverdict/XmlName -/
def k2 : Class := { plain "com/example/sound_verdict/soundverdict/XmlName" (some 0) with
  accessFlags := 48
  interfaces := #[]
  cf := some (fileOf pool2 15 #[] #[{ accessFlags := 2, nameIndex := 5, descriptorIndex := 6, attributes := #[] }, { accessFlags := 8, nameIndex := 18, descriptorIndex := 19, attributes := #[] }] 48 2 #[] #[{ accessFlags := 24, nameIndex := 42, descriptorIndex := 43, attributes := #[] }, { accessFlags := 24, nameIndex := 47, descriptorIndex := 43, attributes := #[] }, { accessFlags := 24, nameIndex := 50, descriptorIndex := 43, attributes := #[] }, { accessFlags := 24, nameIndex := 53, descriptorIndex := 43, attributes := #[] }])
  fields := #[{ name := "XML_PREFIX", type := (.object "java/lang/String"), accessFlags := 24, slot := 0, constantValue := 0 }, { name := "XML_NAMESPACE", type := (.object "java/lang/String"), accessFlags := 24, slot := 1, constantValue := 0 }, { name := "XMLNS_NAMESPACE", type := (.object "java/lang/String"), accessFlags := 24, slot := 2, constantValue := 0 }, { name := "FUNCTIONS_NAMESPACE", type := (.object "java/lang/String"), accessFlags := 24, slot := 3, constantValue := 0 }]
  methods := #[k2m0, k2m1]
  instanceTypes := #[]
  staticTypes := #[(.object "java/lang/String"), (.object "java/lang/String"), (.object "java/lang/String"), (.object "java/lang/String")]
  resolved := Array.replicate 63 none
  statics := none }

def pool3 : Array CpInfo := pool [(1, u "java/lang/Cloneable"), (0, .class_ 1), (0, u "java/lang/Object"), (0, .class_ 3)] 3

/-- java/lang/Cloneable -/
def k3 : Class := { plain "java/lang/Cloneable" (some 0) with
  accessFlags := 1537
  interfaces := #[]
  cf := some (fileOf pool3 2 #[] #[] 1537 4 #[] #[])
  fields := #[]
  methods := #[]
  instanceTypes := #[]
  staticTypes := #[]
  resolved := Array.replicate 8 none
  statics := none }

def pool4 : Array CpInfo := pool [(1, u "java/io/Serializable"), (0, .class_ 1), (0, u "java/lang/Object"), (0, .class_ 3)] 3

/-- java/io/Serializable -/
def k4 : Class := { plain "java/io/Serializable" (some 0) with
  accessFlags := 1537
  interfaces := #[]
  cf := some (fileOf pool4 2 #[] #[] 1537 4 #[] #[])
  fields := #[]
  methods := #[]
  instanceTypes := #[]
  staticTypes := #[]
  resolved := Array.replicate 8 none
  statics := none }

/-- the primitive byte -/
def k5 : Class := { plain "byte" none with kind := .primitive 'B', accessFlags := 0x411 }
/-- [B -/
def k6 : Class := { plain "[B" (some 0) with kind := .array 5 .byte, interfaces := #[3, 4], accessFlags := 1041 }

/-- the primitive int -/
def k7 : Class := { plain "int" none with kind := .primitive 'I', accessFlags := 0x411 }
/-- [I -/
def k8 : Class := { plain "[I" (some 0) with kind := .array 7 .int, interfaces := #[3, 4], accessFlags := 1041 }

def heap : Heap := #[]
def classes : Array Class := #[k0, k1, k2, k3, k4, k5, k6, k7, k8]
def interned : List (Array UInt16 × Addr) := []
def slotsUsed : Nat := 0
def theMethod : MethodId := ⟨1, 2⟩
def args0 : Array Value := #[.int 5, .int 6]
def aboutOver (below : List Frame) : State where
  vm := { classes := classes, interned := interned.toArray }
  heap := heap
  slotsUsed := slotsUsed
  threads := #[{ frames := .invoking theMethod args0 :: below }]
def below0 : List Frame := [.native { method := ⟨0, 0⟩, args := #[] }]
def about1 : State := aboutOver below0
def p0 : Program := .bare "" "" ""
def e0 : Env := launch0.env 0 0 0
theorem w_frames : about1.frames = Frame.invoking theMethod args0 :: below0 := rfl
set_option maxRecDepth 65536 in
theorem w_args : argsFit about1.vm theMethod args0 = true := by decide +kernel
set_option maxRecDepth 65536 in
theorem w_heap : heapFits about1 = true := by decide +kernel
set_option maxRecDepth 65536 in
theorem w_runnable : about1.curStatus? = some .runnable := by decide +kernel
set_option maxRecDepth 65536 in
theorem w_alone : about1.alone = true := by decide +kernel
set_option maxRecDepth 65536 in
theorem w_named : about1.methodNamed? x = some theMethod := by decide +kernel
set_option maxRecDepth 65536 in
theorem w_hears : about1.hears theMethod below0 = true := by decide +kernel
set_option maxRecDepth 65536 in
theorem w_ripe : about1.ripe theMethod args0 below0 = true := by decide +kernel
theorem w_running : about1.status = .running := rfl
set_option maxRecDepth 65536 in
theorem w_room : about1.hasRoom e0.platform room_1 = true :=
  launch0.hasRoom_least _ room_1 (by decide +kernel) (by decide +kernel) (by decide +kernel) (by decide +kernel) (by decide +kernel) (by decide +kernel)
theorem allAtoms_all (ts : List Jvm.Cond) (a : Array Jvm.Value) (st : Jvm.State) : (allAtoms ts).before a st = ts.all (fun c => c.before a st) := by
  induction ts with
  | nil => rfl
  | cons c t ih =>
    show (Jvm.Cond.and c (allAtoms t)).before a st = _
    rw [Jvm.Cond.before_and, ih, List.all_cons]
def words1 : List Jvm.Cond := Jvm.Cond.code x code maxLocals ret :: tables_1
/-- a 'code' word, met by the world's own term for the bytes: nothing is compared byte by byte -/
theorem code_word {y : MethodName} {bytes : ByteArray} {mx : Nat} {rt : Option FieldType} {a : Array Value} {s : State} {m : MethodId} {meth : Method} {c : Code} (h1 : s.methodNamed? y = some m) (h2 : s.vm.method? m = some meth) (h3 : meth.code = some c) (h4 : c.code = bytes)
    (h5 : (c.maxLocals == mx && c.exceptionTable.isEmpty && decide (c.maxStack ≤ mostOperands) && decide (meth.sig.returnType = rt) && !meth.locks && decide (parseMethodDescriptor y.desc = some meth.sig)) = true) : (Jvm.Cond.code y bytes mx rt).before a s = true := by
  simp only [Bool.and_eq_true, beq_iff_eq, Bool.not_eq_true', decide_eq_true_eq] at h5
  obtain ⟨⟨⟨⟨⟨g1, g2⟩, g3⟩, g4⟩, g5⟩, g6⟩ := h5
  simp [Cond.before, Cond.holds, Cond.value, h1, h2, h3, h4, g1, g2, g3, g4, g5, g6]
def isCode : Jvm.Cond → Bool
  | .code _ _ _ _ => true
  | _ => false
theorem all_split {L : List Jvm.Cond} {P : Jvm.Cond → Bool} (h1 : L.all (fun c => isCode c || P c) = true) (h2 : ∀ c ∈ L.filter isCode, P c = true) : L.all P = true := by
  refine List.all_eq_true.mpr fun c hc => ?_
  have h := List.all_eq_true.mp h1 c hc
  rcases Bool.eq_false_or_eq_true (isCode c) with hi | hi
  · exact h2 c (List.mem_filter.mpr ⟨hc, hi⟩)
  · simpa [hi] using h
set_option maxRecDepth 65536 in
theorem w_c0 : (Jvm.Cond.code x code maxLocals ret).before args0 about1 = true := code_word (m := ⟨1, 2⟩) (meth := k1m2) (c := k1c2) (by decide +kernel) rfl rfl rfl (by decide +kernel)
set_option maxRecDepth 65536 in
theorem w_c1 : (Jvm.Cond.code ({ cls := "com/example/sound_verdict/soundverdict/XmlName", name := "isNameStartChar", desc := "(I)Z" } : Jvm.MethodName) prog_210_method_2_code (1 : Nat) (Option.some Jvm.ClassFile.FieldType.boolean)).before args0 about1 = true := code_word (m := ⟨2, 1⟩) (meth := k2m1) (c := k2c1) (by decide +kernel) rfl rfl rfl (by decide +kernel)
set_option maxRecDepth 65536 in
theorem w_c2 : (Jvm.Cond.code ({ cls := "com/example/sound_verdict/soundverdict/XmlNameIsNameStartCharPinLaw", name := "ref", desc := "(I)Z" } : Jvm.MethodName) method_2_code (1 : Nat) (Option.some Jvm.ClassFile.FieldType.boolean)).before args0 about1 = true := code_word (m := ⟨1, 1⟩) (meth := k1m1) (c := k1c1) (by decide +kernel) rfl rfl rfl (by decide +kernel)
def codes1 : List Jvm.Cond := [Jvm.Cond.code x code maxLocals ret, Jvm.Cond.code ({ cls := "com/example/sound_verdict/soundverdict/XmlName", name := "isNameStartChar", desc := "(I)Z" } : Jvm.MethodName) prog_210_method_2_code (1 : Nat) (Option.some Jvm.ClassFile.FieldType.boolean), Jvm.Cond.code ({ cls := "com/example/sound_verdict/soundverdict/XmlNameIsNameStartCharPinLaw", name := "ref", desc := "(I)Z" } : Jvm.MethodName) method_2_code (1 : Nat) (Option.some Jvm.ClassFile.FieldType.boolean)]
set_option maxRecDepth 65536 in
theorem codes_eq : words1.filter isCode = codes1 := rfl
theorem w_codes : ∀ c ∈ words1.filter isCode, c.before args0 about1 = true := by
  rw [codes_eq]
  intro c hc
  simp only [codes1, List.mem_cons, List.not_mem_nil, or_false] at hc
  rcases hc with rfl | rfl | rfl
  · exact w_c0
  · exact w_c1
  · exact w_c2
set_option maxRecDepth 65536 in
theorem w_t1 : (words1.take 24).all (fun c => isCode c || c.before args0 about1) = true := by decide +kernel
set_option maxRecDepth 65536 in
theorem w_t2 : (words1.drop 24).all (fun c => isCode c || c.before args0 about1) = true := by decide +kernel
theorem w_tables : (allAtoms (Jvm.Cond.code x code maxLocals ret :: tables_1)).before args0 about1 = true := by
  rw [allAtoms_all]
  show words1.all (fun c => c.before args0 about1) = true
  refine all_split ?_ w_codes
  rw [← List.take_append_drop 24 words1, List.all_append, w_t1, w_t2]
  rfl
set_option maxRecDepth 65536 in
theorem w_case : (Jvm.Cond.and given_1 narrow_1).before args0 about1 = true := by decide +kernel
theorem w_applies : (headSpec (Jvm.Cond.code x code maxLocals ret :: tables_1) room_1).applies x e0.platform about1 = true :=
  (Spec.applies_iff w_frames).mpr ⟨w_running, w_runnable, w_alone, w_named, w_hears, w_ripe, w_room, w_tables⟩
theorem atStart : AtStart classFile x code maxLocals ret World_1 tables_1 room_1 Calls_1 rest_1 Pre_1 launch0 p0 e0 about1 theMethod args0 below0 :=
  ⟨lists_1, trivial, launch0.admits_env _ _ _, launch0.least_env, fairChoices_fair.cas, fairChoices_fair.clock, w_frames, w_args, w_heap, w_applies, trivial, trivial, w_case⟩
end start1
theorem witness_1 : WitnessClaimed_1 := ⟨start1.p0, start1.e0, start1.about1, start1.theMethod, start1.args0, start1.below0, start1.atStart⟩
end Jvm.Pilot.@@N@@
