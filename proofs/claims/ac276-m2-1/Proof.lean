import JvmDerived
import JvmDerived.Pilot.@@N@@Statement
import JvmDerived.Pilot.@@N@@Code
set_option linter.unusedVariables false
set_option linter.unusedSimpArgs false
namespace Jvm.RoadKit
open Sem ClassFile Op Lib Jvm.Stand Jvm.Free Jvm.LawKit
section New
variable {p : Program} {l : Launch} {e : Env} {R : Room} {s : State} {m : MethodId} {args : Array Value} {below : List Frame} {meth : Method} {c : Code} {T : State} {locs : List Loc} {cells slots : Nat}
theorem retI (X : Stand p l e R s m args below meth c T locs cells slots) (hx : p.tables.exec = Jvm.exec) {pc : Nat} {Ls : Array Slot} {z : Int32} {rest : List Value} (hret : meth.sig.returnType = some .int) (hd : decode c.code pc = .ok (.ireturn, 1)) {fs : List Frame}
    (hl : ∀ (f : JFrame) (acts : List Action), f.method = m → f.locked = none → f.entered = [] → (doReturn e (T.setTop f) acts (some (.int z))).1 = T.setFrames fs) : Steps p.tables e below (T.setTop (mkF m pc Ls (.int z :: rest))) (T.setFrames fs) := by
  have hm' : T.vm.method? m = some meth := X.method'
  have hn : narrow .int (.int z) = .int z := rfl
  show Steps p.tables e below (T.setTop { method := m, pc := pc, locals := Ls, stack := _ :: rest, locked := none }) _
  jvm_step X.here [X.here.top, hx, hd, hm', hret, hn]
  first | (intro acts; rw [hl _ acts rfl rfl rfl]) | rw [hl _ _ rfl rfl rfl]
  exact Steps.refl _
/-- from the state S the run comes to an end at which A holds -/
def own_Fin (p : Program) (e : Env) (below : List Frame) (A : State → Outcome → Prop) (S : State) : Prop := ∃ s₂ o, Steps p.tables e below S s₂ ∧ s₂.status = .running ∧ Ended s₂ below o ∧ A s₂ o
theorem own_go {A : State → Outcome → Prop} {S S' : State} (k : ∀ t, Steps p.tables e below S' t → Steps p.tables e below S t) (h : own_Fin p e below A S') : own_Fin p e below A S := by
  obtain ⟨t, o, h1, h2⟩ := h; exact ⟨t, o, k t h1, h2⟩
/-- what a walk leaves: Q of the value, the heap and the written places -/
def own_A (s : State) (C S : Nat) (Q : Option Value → Heap → List Loc → Prop) : State → Outcome → Prop := fun U' o => ∃ v L, o = .returned v ∧ Q v U'.heap L ∧ FrameEnd s o U' L C S
/-- a body that writes nothing: its value, the heap as it was -/
def own_P (h0 : Heap) (n0 : Nat) (w : Value) (v : Option Value) (h : Heap) (L : List Loc) : Prop := v = some w ∧ Fr n0 L ∧ h = h0
theorem own_out (X : Stand p l e R s m args below meth c T locs cells slots) {v : Option Value} {Q : Option Value → Heap → List Loc → Prop} {C S : Nat} {g : JFrame}
    (hv : meth.sig.returnType = none → v = none) (hlocks : meth.locks = false)
    (st : ∀ fs, (∀ (f : JFrame) (acts : List Action), f.method = m → f.locked = none → f.entered = [] → (doReturn e (T.setTop f) acts v).1 = T.setFrames fs) → Steps p.tables e below (T.setTop g) (T.setFrames fs))
    (hQ : Q v T.heap locs) (hc : cells ≤ C) (hs : slots ≤ S) : own_Fin p e below (own_A s C S Q) (T.setTop g) := by
  obtain ⟨fs, hr, hrun, hended, hW, hsame⟩ := X.leave (v := v) hv hlocks
  exact ⟨_, _, st fs hr, hrun, hended, _, _, rfl, hQ, ⟨_, rfl⟩, hW, hsame.mono hc hs⟩
end New
end Jvm.RoadKit
/- laws to paste: Road.backV (cut by pick.py; bodies as the Statement names them) -/
namespace Jvm.Pilot.@@N@@
namespace StrChars
open Jvm Sem ClassFile Op Lib Jvm.Stand Jvm.Free.XT Jvm.Free.ALB Jvm.Free.JM Jvm.Free
open Jvm.Lib.Cold (StaticIs)
/-- a char array whose places are chars -/
def Ch (a : Addr) (A : Cell) (U : State) : Prop := Arr .char a A U ∧ Typed .char A
theorem Ch.mv {a : Addr} {A : Cell} {U U' : State} (h : Ch a A U) (hal : U.vm.Alike U'.vm) (hh : U'.heap = U.heap) : Ch a A U' := ⟨h.1.mv hal hh, h.2⟩
theorem Ch.keep {a : Addr} {A : Cell} {U U' : State} (h : Ch a A U) (hal : U.vm.Alike U'.vm) (hk : U'.heap[a]? = some A) : Ch a A U' := ⟨h.1.keep hal hk, h.2⟩
/-- what place i of a char[]'s cell holds -/
def cv (A : Cell) (i : Nat) : Int32 := match A.slots[i]? with | some (.int x) => x | _ => 0
theorem Ch.get {a : Addr} {A : Cell} {U : State} (h : Ch a A U) {i : Nat} (hi : i < A.slots.size) : A.slots[i]? = some (.int (cv A i)) := by
  have e := Array.getElem?_eq_getElem hi
  have f := h.2 i _ e
  unfold cv; rw [e]
  generalize A.slots[i] = v at f
  cases v <;> simp [fits] at f ⊢
/-- the byte that i2b leaves of a char -/
def lo8 (x : Int32) : Int32 := x.toInt8.toInt32
theorem fits_lo8 (y : Int32) : fits .byte (.int (lo8 y)) = true := by
  have h1 := y.toInt8.le_toInt
  have h2 := y.toInt8.toInt_lt
  simp only [lo8, fits, Bool.and_eq_true, decide_eq_true_eq, Int32.le_iff_toInt_le, Int8.toInt_toInt32, show (-128 : Int32).toInt = -128 from by decide, show (127 : Int32).toInt = 127 from by decide]
  omega
/-- A' is A but that each place j of lo .. hi - 1 holds f j -/
def Laid (A A' : Cell) (lo hi : Nat) (f : Nat → Value) : Prop := A'.cls = A.cls ∧ A'.vm = A.vm ∧ A'.slots.size = A.slots.size ∧ ∀ i, A'.slots[i]? = if lo ≤ i ∧ i < hi then some (f i) else A.slots[i]?
theorem Laid.zero (A : Cell) (lo : Nat) (f : Nat → Value) : Laid A A lo (lo + 0) f := ⟨rfl, rfl, rfl, fun i => by rw [if_neg (by omega)]⟩
theorem Laid.step {A Ak : Cell} {lo k : Nat} {f : Nat → Value} {v : Value} (h : Laid A Ak lo k f) (hlo : lo ≤ k) (hk : k < Ak.slots.size) (hv : v = f k) : Laid A (Ak.setSlot k v) lo (k + 1) f := by
  refine ⟨h.1, h.2.1, by simpa [Cell.setSlot] using h.2.2.1, fun i => ?_⟩
  by_cases e : k = i
  · subst e; rw [Cell.slots_setSlot_self v hk, if_pos (by omega), hv]
  · rw [Cell.slots_setSlot_ne v e, h.2.2.2 i]
    by_cases q : lo ≤ i ∧ i < k
    · rw [if_pos q, if_pos (by omega)]
    · rw [if_neg q, if_neg (by omega)]
def U16 : String := "java/lang/StringUTF16"
namespace Cmp5
def yN : MethodName := ⟨"java/lang/StringUTF16", "compress", "([CI[BII)I"⟩
abbrev yB : ByteArray := jdk_52_method_21_code
theorem d0 : decode yB 0 = .ok (.iconst 0, 1) := by decide +kernel
theorem d1 : decode yB 1 = .ok (.istore 5, 2) := by decide +kernel
theorem d3 : decode yB 3 = .ok (.iload 5, 2) := by decide +kernel
theorem d5 : decode yB 5 = .ok (.iload 4, 2) := by decide +kernel
theorem d7 : decode yB 7 = .ok (.if_icmp (.ge) 37, 3) := by decide +kernel
theorem d10 : decode yB 10 = .ok (.aload_n 0, 1) := by decide +kernel
theorem d11 : decode yB 11 = .ok (.iload_n 1, 1) := by decide +kernel
theorem d12 : decode yB 12 = .ok (.caload, 1) := by decide +kernel
theorem d13 : decode yB 13 = .ok (.istore 6, 2) := by decide +kernel
theorem d15 : decode yB 15 = .ok (.iload 6, 2) := by decide +kernel
theorem d17 : decode yB 17 = .ok (.sipush 255, 3) := by decide +kernel
theorem d20 : decode yB 20 = .ok (.if_icmp (.le) 6, 3) := by decide +kernel
theorem d26 : decode yB 26 = .ok (.aload_n 2, 1) := by decide +kernel
theorem d27 : decode yB 27 = .ok (.iload_n 3, 1) := by decide +kernel
theorem d28 : decode yB 28 = .ok (.iload 6, 2) := by decide +kernel
theorem d30 : decode yB 30 = .ok (.i2b, 1) := by decide +kernel
theorem d31 : decode yB 31 = .ok (.bastore, 1) := by decide +kernel
theorem d32 : decode yB 32 = .ok (.iinc 1 1, 3) := by decide +kernel
theorem d35 : decode yB 35 = .ok (.iinc 3 1, 3) := by decide +kernel
theorem d38 : decode yB 38 = .ok (.iinc 5 1, 3) := by decide +kernel
theorem d41 : decode yB 41 = .ok (.goto (-38), 3) := by decide +kernel
theorem d44 : decode yB 44 = .ok (.iload 4, 2) := by decide +kernel
theorem d46 : decode yB 46 = .ok (.ireturn, 1) := by decide +kernel
def site : List Cond := []
def tab : Cond := tabOf yN yB 7 (some .int) site
def P (b : Addr) (A : Cell) (d : Addr) (B : Cell) (o q len : Nat) (args : Array Value) (s : State) : Prop := args = #[.ref b, .int (Int32.ofNat o), .ref d, .int (Int32.ofNat q), .int (Int32.ofNat len)] ∧ Ch b A s ∧ Arr .byte d B s ∧ b ≠ d ∧ o + len ≤ A.slots.size ∧ q + len ≤ B.slots.size ∧ ∀ i, i < len → ¬ 255 < cv A (o + i)
def E (b : Addr) (A : Cell) (d : Addr) (B : Cell) (o q len : Nat) (r : Option Value) (s u : State) : Prop := r = some (.int (Int32.ofNat len)) ∧ ∃ B', Put d B' s u ∧ Laid B B' q (q + len) (fun j => Value.int (lo8 (cv A (o + (j - q)))))
/-- no char of the range above 255: len; the places written hold each char's low byte -/
theorem law (l : Launch) (b : Addr) (A : Cell) (d : Addr) (B : Cell) (o q len : Nat) : Law l yN 5 5 0 0 yB 7 (some .int) site (P b A d B o q len) (E b A d B o q len) (copyLocs d q len) 0 0 := by
  refine Law.of_walk (plainFor_of_name (by decide +kernel)) (by decide +kernel) (by decide +kernel) (by decide) (fun _ _ h => by rw [h.1]; rfl) (fun _ U U' hal hh h => ⟨h.1, h.2.1.mv hal hh, h.2.2.1.mv hal hh, h.2.2.2⟩) (fun r U U' V V' h1 hal h2 h => ⟨h.1, h.2.elim fun B' q => ⟨B', q.1.mv h1 h2, q.2⟩⟩) ?_
  intro p e s m args below meth c s₁ X0 hexec hbytes hml hret hlk hnm hown hh0 W hP
  obtain ⟨rfl, hA, hB, hne, l1, l2, hp⟩ := hP
  have c1 : Steps p.tables e below (s₁.setTop (entryFrame m #[.ref b, .int (Int32.ofNat o), .ref d, .int (Int32.ofNat q), .int (Int32.ofNat len)] 7)) (s₁.setTop (mkF m 0 #[.val (.ref b), .val (.int (Int32.ofNat o)), .val (.ref d), .val (.int (Int32.ofNat q)), .val (.int (Int32.ofNat len)), .unset, .unset] [])) := entry rfl
  have hA0 := hA.1.mv X0.warmed.alike hh0
  have hB0 := hB.mv X0.warmed.alike hh0
  have a31 := hA.1.2.2.2
  have c2 : Steps p.tables e below (s₁.setTop (entryFrame m #[.ref b, .int (Int32.ofNat o), .ref d, .int (Int32.ofNat q), .int (Int32.ofNat len)] 7)) (s₁.setTop (mkF m 3 #[.val (.ref b), .val (.int (Int32.ofNat o)), .val (.ref d), .val (.int (Int32.ofNat q)), .val (.int (Int32.ofNat len)), .val (.int 0), .unset] [])) := c1.trans (by
    refine iconstV X0.here hexec rfl 0 (hb hbytes d0) (by decide) ?_
    refine XS.istore X0.here hexec rfl (hb hbytes d1) rfl rfl ?_
    exact Steps.refl _)
  have loop : ∀ (r i : Nat), i + r = len → ∀ (z : Slot), (z = .unset ∨ ∃ w, z = .val w ∧ w.category = 1) → ∀ (Tl : State) (Bk : Cell), Stand p l e { frames := 0, locals := 0, cells := 0, slots := 0 } s m #[.ref b, .int (Int32.ofNat o), .ref d, .int (Int32.ofNat q), .int (Int32.ofNat len)] below meth c Tl ([] ++ copyLocs d q i) 0 0 → Put d Bk s₁ Tl → Laid B Bk q (q + i) (fun j => Value.int (lo8 (cv A (o + (j - q))))) →
      Steps p.tables e below (s₁.setTop (entryFrame m #[.ref b, .int (Int32.ofNat o), .ref d, .int (Int32.ofNat q), .int (Int32.ofNat len)] 7)) (Tl.setTop (mkF m 3 #[.val (.ref b), .val (.int (Int32.ofNat (o + i))), .val (.ref d), .val (.int (Int32.ofNat (q + i))), .val (.int (Int32.ofNat len)), .val (.int (Int32.ofNat i)), z] [])) → ∃ (T' : State) (B' : Cell) (z' : Slot), Stand p l e { frames := 0, locals := 0, cells := 0, slots := 0 } s m #[.ref b, .int (Int32.ofNat o), .ref d, .int (Int32.ofNat q), .int (Int32.ofNat len)] below meth c T' ([] ++ copyLocs d q len) 0 0 ∧ Put d B' s₁ T' ∧ Laid B B' q (q + len) (fun j => Value.int (lo8 (cv A (o + (j - q))))) ∧
      Steps p.tables e below (s₁.setTop (entryFrame m #[.ref b, .int (Int32.ofNat o), .ref d, .int (Int32.ofNat q), .int (Int32.ofNat len)] 7)) (T'.setTop (mkF m 3 #[.val (.ref b), .val (.int (Int32.ofNat (o + len))), .val (.ref d), .val (.int (Int32.ofNat (q + len))), .val (.int (Int32.ofNat len)), .val (.int (Int32.ofNat len)), z'] [])) := by
    intro r
    induction r with
    | zero =>
      intro i hi z hz Tl Bk Xl pl fl cl
      have hil : i = len := by omega
      rw [hil] at Xl fl cl
      exact ⟨Tl, Bk, z, Xl, pl, fl, cl⟩
    | succ r ih =>
      intro i hi z hz Tl Bk Xl pl fl cl
      have all := X0.warmed.alike.symm.trans Xl.warmed.alike
      have hAl := hA0.keep all (pl.other hne hA0.1)
      have hBk := hB0.like all pl.1 fl.1 fl.2.1 fl.2.2.1
      have hlt : q + i < Bk.slots.size := by rw [fl.2.2.1]; omega
      have c3 : Steps p.tables e below (s₁.setTop (entryFrame m #[.ref b, .int (Int32.ofNat o), .ref d, .int (Int32.ofNat q), .int (Int32.ofNat len)] 7)) (Tl.setTop (mkF m 12 #[.val (.ref b), .val (.int (Int32.ofNat (o + i))), .val (.ref d), .val (.int (Int32.ofNat (q + i))), .val (.int (Int32.ofNat len)), .val (.int (Int32.ofNat i)), z] [.int (Int32.ofNat (o + i)), .ref b])) := cl.trans (by
        refine XS.iload Xl.here hexec rfl (hb hbytes d3) rfl ?_
        refine XS.iload Xl.here hexec rfl (hb hbytes d5) rfl ?_
        refine XS.icmpNo Xl.here hexec rfl (hb hbytes d7) rfl (ii_ge_f (lt32 (by omega) (by omega))) ?_
        refine XS.aloadN Xl.here hexec rfl (hb hbytes d10) rfl rfl ?_
        refine XS.iloadN Xl.here hexec rfl (hb hbytes d11) rfl ?_
        exact Steps.refl _)
      have c4 : Steps p.tables e below (s₁.setTop (entryFrame m #[.ref b, .int (Int32.ofNat o), .ref d, .int (Int32.ofNat q), .int (Int32.ofNat len)] 7)) (Tl.setTop (mkF m 13 #[.val (.ref b), .val (.int (Int32.ofNat (o + i))), .val (.ref d), .val (.int (Int32.ofNat (q + i))), .val (.int (Int32.ofNat len)), .val (.int (Int32.ofNat i)), z] [.int (cv A (o + i))])) := c3.trans (by
        refine Xl.aget hexec hAl rfl (hA.get (i := o + i) (by omega)) rfl rfl (hb hbytes d12) ?_
        exact Steps.refl _)
      have c5 : Steps p.tables e below (s₁.setTop (entryFrame m #[.ref b, .int (Int32.ofNat o), .ref d, .int (Int32.ofNat q), .int (Int32.ofNat len)] 7)) (Tl.setTop (mkF m 15 #[.val (.ref b), .val (.int (Int32.ofNat (o + i))), .val (.ref d), .val (.int (Int32.ofNat (q + i))), .val (.int (Int32.ofNat len)), .val (.int (Int32.ofNat i)), .val (.int (cv A (o + i)))] [])) := c4.trans (by
        refine XS.istoreS Xl.here hexec rfl (hb hbytes d13) rfl rfl hz ?_
        exact Steps.refl _)
      have c6 : Steps p.tables e below (s₁.setTop (entryFrame m #[.ref b, .int (Int32.ofNat o), .ref d, .int (Int32.ofNat q), .int (Int32.ofNat len)] 7)) (Tl.setTop (mkF m 31 #[.val (.ref b), .val (.int (Int32.ofNat (o + i))), .val (.ref d), .val (.int (Int32.ofNat (q + i))), .val (.int (Int32.ofNat len)), .val (.int (Int32.ofNat i)), .val (.int (cv A (o + i)))] [.int (lo8 (cv A (o + i))), .int (Int32.ofNat (q + i)), .ref d])) := c5.trans (by
        refine XS.iload Xl.here hexec rfl (hb hbytes d15) rfl ?_
        refine sipushV Xl.here hexec rfl 255 (hb hbytes d17) (by decide) ?_
        refine XS.icmpYes Xl.here hexec rfl (pc0 := 20) rfl (hb hbytes d20) rfl (ii_le_t (hp i (by omega))) (by decide) rfl ?_
        refine XS.aloadN Xl.here hexec rfl (hb hbytes d26) rfl rfl ?_
        refine XS.iloadN Xl.here hexec rfl (hb hbytes d27) rfl ?_
        refine XS.iload Xl.here hexec rfl (hb hbytes d28) rfl ?_
        refine i2b Xl.here hexec rfl (hb hbytes d30) rfl ?_
        exact Steps.refl _)
      obtain ⟨T7, X7, p7, st7⟩ := Xl.aput hexec hBk rfl hlt rfl (fits_lo8 (cv A (o + i))) (g := (mkF m 31 #[.val (.ref b), .val (.int (Int32.ofNat (o + i))), .val (.ref d), .val (.int (Int32.ofNat (q + i))), .val (.int (Int32.ofNat len)), .val (.int (Int32.ofNat i)), .val (.int (cv A (o + i)))] [.int (lo8 (cv A (o + i))), .int (Int32.ofNat (q + i)), .ref d])) rfl (rest := []) rfl (hb hbytes d31)
      have c8 : Steps p.tables e below (s₁.setTop (entryFrame m #[.ref b, .int (Int32.ofNat o), .ref d, .int (Int32.ofNat q), .int (Int32.ofNat len)] 7)) (T7.setTop (mkF m 32 #[.val (.ref b), .val (.int (Int32.ofNat (o + i))), .val (.ref d), .val (.int (Int32.ofNat (q + i))), .val (.int (Int32.ofNat len)), .val (.int (Int32.ofNat i)), .val (.int (cv A (o + i)))] [])) := c6.trans (st7 _ (Steps.refl _))
      have c9 : Steps p.tables e below (s₁.setTop (entryFrame m #[.ref b, .int (Int32.ofNat o), .ref d, .int (Int32.ofNat q), .int (Int32.ofNat len)] 7)) (T7.setTop (mkF m 3 #[.val (.ref b), .val (.int (Int32.ofNat (o + i) + 1)), .val (.ref d), .val (.int (Int32.ofNat (q + i) + 1)), .val (.int (Int32.ofNat len)), .val (.int (Int32.ofNat i + 1)), .val (.int (cv A (o + i)))] [])) := c8.trans (by
        refine iincV X7.here hexec rfl 1 (hb hbytes d32) (by decide) rfl rfl ?_
        refine iincV X7.here hexec rfl 1 (hb hbytes d35) (by decide) rfl rfl ?_
        refine iincV X7.here hexec rfl 1 (hb hbytes d38) (by decide) rfl rfl ?_
        refine XS.goto X7.here hexec rfl (pc0 := 41) rfl (hb hbytes d41) (by decide) rfl ?_
        exact Steps.refl _)
      have c10 : Steps p.tables e below (s₁.setTop (entryFrame m #[.ref b, .int (Int32.ofNat o), .ref d, .int (Int32.ofNat q), .int (Int32.ofNat len)] 7)) (T7.setTop (mkF m 3 #[.val (.ref b), .val (.int (Int32.ofNat (o + (i + 1)))), .val (.ref d), .val (.int (Int32.ofNat (q + (i + 1)))), .val (.int (Int32.ofNat len)), .val (.int (Int32.ofNat (i + 1))), .val (.int (cv A (o + i)))] [])) := by
        have := c9
        rw [succ32, succ32, succ32] at this
        exact this
      exact ih (i + 1) (by omega) _ (Or.inr ⟨_, rfl, rfl⟩) T7 _ (by rw [copyLocs_step, ← List.append_assoc]; exact X7) (pl.trans p7) (fl.step (by omega) hlt (by simp)) c10
  obtain ⟨T9, B9, z9, X9, p9, f9, g9⟩ := loop len 0 (by omega) .unset (Or.inl rfl) s₁ B (by simpa [copyLocs] using X0) ⟨hB0.1, fun _ _ => rfl, rfl⟩ (Laid.zero _ _ _) c2
  have c11 : Steps p.tables e below (s₁.setTop (entryFrame m #[.ref b, .int (Int32.ofNat o), .ref d, .int (Int32.ofNat q), .int (Int32.ofNat len)] 7)) (T9.setTop (mkF m 46 #[.val (.ref b), .val (.int (Int32.ofNat (o + len))), .val (.ref d), .val (.int (Int32.ofNat (q + len))), .val (.int (Int32.ofNat len)), .val (.int (Int32.ofNat len)), z9] [.int (Int32.ofNat len)])) := g9.trans (by
    refine XS.iload X9.here hexec rfl (hb hbytes d3) rfl ?_
    refine XS.iload X9.here hexec rfl (hb hbytes d5) rfl ?_
    refine XS.icmpYes X9.here hexec rfl (pc0 := 7) rfl (hb hbytes d7) rfl (ii_ge_t (nlt32 (by omega) (Nat.le_refl _))) (by decide) rfl ?_
    refine XS.iload X9.here hexec rfl (hb hbytes d44) rfl ?_
    exact Steps.refl _)
  exact ⟨T9, some (.int (Int32.ofNat len)), _, _, _, X9, by simp, rfl, rfl, (fun h => by cases h), ⟨rfl, B9, p9.from hh0, f9⟩, fun fs hl => c11.trans (X9.ireturnOut hexec hret rfl (Or.inl rfl) (hb hbytes d46) hl)⟩
end Cmp5
namespace Cmp3
def yN : MethodName := ⟨"java/lang/StringUTF16", "compress", "([CII)[B"⟩
abbrev yB : ByteArray := jdk_52_method_16_code
theorem d0 : decode yB 0 = .ok (.iload_n 2, 1) := by decide +kernel
theorem d1 : decode yB 1 = .ok (.newarray .byte, 2) := by decide +kernel
theorem d3 : decode yB 3 = .ok (.astore_n 3, 1) := by decide +kernel
theorem d4 : decode yB 4 = .ok (.aload_n 0, 1) := by decide +kernel
theorem d5 : decode yB 5 = .ok (.iload_n 1, 1) := by decide +kernel
theorem d6 : decode yB 6 = .ok (.aload_n 3, 1) := by decide +kernel
theorem d7 : decode yB 7 = .ok (.iconst 0, 1) := by decide +kernel
theorem d8 : decode yB 8 = .ok (.iload_n 2, 1) := by decide +kernel
theorem d9 : decode yB 9 = .ok (.invokestatic 115, 3) := by decide +kernel
theorem d12 : decode yB 12 = .ok (.istore 4, 2) := by decide +kernel
theorem d14 : decode yB 14 = .ok (.iload 4, 2) := by decide +kernel
theorem d16 : decode yB 16 = .ok (.iload_n 2, 1) := by decide +kernel
theorem d17 : decode yB 17 = .ok (.if_icmp (.eq) 40, 3) := by decide +kernel
theorem d57 : decode yB 57 = .ok (.aload_n 3, 1) := by decide +kernel
theorem d58 : decode yB 58 = .ok (.areturn, 1) := by decide +kernel
def site : List Cond := [.arrayClass .byte, Cmp5.tab] ++ staticW U16 115 Cmp5.yN
def tab : Cond := tabOf yN yB 6 (some (.array .byte)) site
def P (b : Addr) (A : Cell) (o len : Nat) (args : Array Value) (s : State) : Prop := args = #[.ref b, .int (Int32.ofNat o), .int (Int32.ofNat len)] ∧ Ch b A s ∧ o + len ≤ A.slots.size ∧ len ≤ 536870912 ∧ ∀ i, i < len → ¬ 255 < cv A (o + i)
def E (b : Addr) (A : Cell) (o len : Nat) (r : Option Value) (s u : State) : Prop := NewArr .byte "[B" len (fun j => .int (lo8 (cv A (o + j)))) r s u ∧ u.heap.size = s.heap.size + 1
/-- no char of the range above 255: a new byte[] of their low bytes -/
theorem law (l : Launch) (b : Addr) (A : Cell) (o len : Nat) : Law l yN 3 3 1 18 yB 6 (some (.array .byte)) site (P b A o len) (E b A o len) [] 1 len := by
  refine Law.of_walk (plainFor_of_name (by decide +kernel)) (by decide +kernel) (by decide +kernel) (by decide) (fun _ _ h => by rw [h.1]; rfl) (fun _ U U' hal hh h => ⟨h.1, h.2.1.mv hal hh, h.2.2⟩) (fun r U U' V V' h1 hal h2 h => ⟨NewArr.mv r U U' V V' h1 hal h2 h.1, by rw [h1, h2]; exact h.2⟩) ?_
  intro p e s m args below meth c s₁ X0 hexec hbytes hml hret hlk hnm hown hh0 W hP
  obtain ⟨rfl, hA, l1, l2, hp⟩ := hP
  have a31 := hA.1.2.2.2
  have c1 : Steps p.tables e below (s₁.setTop (entryFrame m #[.ref b, .int (Int32.ofNat o), .int (Int32.ofNat len)] 6)) (s₁.setTop (mkF m 0 #[.val (.ref b), .val (.int (Int32.ofNat o)), .val (.int (Int32.ofNat len)), .unset, .unset, .unset] [])) := entry rfl
  have c2 : Steps p.tables e below (s₁.setTop (entryFrame m #[.ref b, .int (Int32.ofNat o), .int (Int32.ofNat len)] 6)) (s₁.setTop (mkF m 1 #[.val (.ref b), .val (.int (Int32.ofNat o)), .val (.int (Int32.ofNat len)), .unset, .unset, .unset] [.int (Int32.ofNat len)])) := c1.trans (by
    refine XS.iloadN X0.here hexec rfl (hb hbytes d0) rfl ?_
    exact Steps.refl _)
  obtain ⟨T3, B3, X3, ba3, bs3, bv3, bh3, bf3, st3⟩ := X0.anew hexec (atype := .byte) (wk W (.arrayClass .byte)) rfl (by show len * 1 ≤ _; omega) (by omega) (g := (mkF m 1 #[.val (.ref b), .val (.int (Int32.ofNat o)), .val (.int (Int32.ofNat len)), .unset, .unset, .unset] [.int (Int32.ofNat len)])) rfl (hb hbytes d1) (rest := []) rfl (Nat.le_refl _) (by show 0 + len ≤ len; omega)
  rw [hh0] at ba3 st3
  have kp3 : XT.Kept s T3 := (XT.Kept.of_eq hh0).push bh3
  have hA3 := hA.keep X3.warmed.alike (kp3 _ _ hA.1.1)
  have hne : b ≠ s.heap.size := hA.1.ne
  have c4 : Steps p.tables e below (s₁.setTop (entryFrame m #[.ref b, .int (Int32.ofNat o), .int (Int32.ofNat len)] 6)) (T3.setTop (mkF m 3 #[.val (.ref b), .val (.int (Int32.ofNat o)), .val (.int (Int32.ofNat len)), .unset, .unset, .unset] [.ref s.heap.size])) := c2.trans (st3 _ (Steps.refl _))
  have c5 : Steps p.tables e below (s₁.setTop (entryFrame m #[.ref b, .int (Int32.ofNat o), .int (Int32.ofNat len)] 6)) (T3.setTop (mkF m 9 #[.val (.ref b), .val (.int (Int32.ofNat o)), .val (.int (Int32.ofNat len)), .val (.ref s.heap.size), .unset, .unset] [.int (Int32.ofNat len), .int 0, .ref s.heap.size, .int (Int32.ofNat o), .ref b])) := c4.trans (by
    refine XS.astoreN X3.here hexec rfl (hb hbytes d3) rfl rfl rfl ?_
    refine XS.aloadN X3.here hexec rfl (hb hbytes d4) rfl rfl ?_
    refine XS.iloadN X3.here hexec rfl (hb hbytes d5) rfl ?_
    refine XS.aloadN X3.here hexec rfl (hb hbytes d6) rfl rfl ?_
    refine iconstV X3.here hexec rfl 0 (hb hbytes d7) (by decide) ?_
    refine XS.iloadN X3.here hexec rfl (hb hbytes d8) rfl ?_
    exact Steps.refl _)
  obtain ⟨v6, T6, X6, E6, g6⟩ := X3.callS hexec (Cmp5.law l b A s.heap.size B3 o 0 len) hown (wks W (staticW U16 115 Cmp5.yN)) (wk W Cmp5.tab) (W := 0) (Nat.le_of_ble_eq_true rfl) (Nat.le_of_ble_eq_true rfl) (Nat.le_refl _) (by show 0 + len + 0 ≤ len; omega) (g := (mkF m 9 #[.val (.ref b), .val (.int (Int32.ofNat o)), .val (.int (Int32.ofNat len)), .val (.ref s.heap.size), .unset, .unset] [.int (Int32.ofNat len), .int (Int32.ofNat 0), .ref s.heap.size, .int (Int32.ofNat o), .ref b])) rfl (by rw [hml]; rfl) c5 (argsL := [.ref b, .int (Int32.ofNat o), .ref s.heap.size, .int (Int32.ofNat 0), .int (Int32.ofNat len)]) (rest := []) rfl rfl (by show 2 * 0 + 0 ≤ _; decide) (hb hbytes d9) (⟨rfl, hA3, ba3, hne, l1, by rw [bs3]; simp, hp⟩)
  obtain ⟨rfl, B6, p6, f6⟩ := E6
  have c7 : Steps p.tables e below (s₁.setTop (entryFrame m #[.ref b, .int (Int32.ofNat o), .int (Int32.ofNat len)] 6)) (T6.setTop (mkF m 12 #[.val (.ref b), .val (.int (Int32.ofNat o)), .val (.int (Int32.ofNat len)), .val (.ref s.heap.size), .unset, .unset] [.int (Int32.ofNat len)])) := g6
  have c8 : Steps p.tables e below (s₁.setTop (entryFrame m #[.ref b, .int (Int32.ofNat o), .int (Int32.ofNat len)] 6)) (T6.setTop (mkF m 58 #[.val (.ref b), .val (.int (Int32.ofNat o)), .val (.int (Int32.ofNat len)), .val (.ref s.heap.size), .val (.int (Int32.ofNat len)), .unset] [.ref s.heap.size])) := c7.trans (by
    refine XS.istore X6.here hexec rfl (hb hbytes d12) rfl rfl ?_
    refine XS.iload X6.here hexec rfl (hb hbytes d14) rfl ?_
    refine XS.iloadN X6.here hexec rfl (hb hbytes d16) rfl ?_
    refine XS.icmpYes X6.here hexec rfl (pc0 := 17) rfl (hb hbytes d17) rfl (ii_eq_t rfl) (by decide) rfl ?_
    refine XS.aloadN X6.here hexec rfl (hb hbytes d57) rfl rfl ?_
    exact Steps.refl _)
  have X8 := X6.wide (L' := []) (cells' := 1) (slots' := len) (fun x hx hlt => by
    simp only [List.nil_append, copyLocs, List.mem_map, List.mem_range] at hx
    obtain ⟨i, -, rfl⟩ := hx
    exact absurd hlt (Nat.lt_irrefl _)) (Nat.le_refl _) (by omega)
  exact ⟨T6, some (.ref s.heap.size), _, _, _, X8, rfl, rfl, rfl, (fun h => by cases h), ⟨⟨rfl, B6, ba3.like (X3.warmed.alike.symm.trans X6.warmed.alike) p6.1 f6.1 f6.2.1 f6.2.2.1, f6.2.1.trans bv3, by rw [X6.warmed.alike.findClass, f6.1]; exact bf3, by rw [f6.2.2.1, bs3]; simp, fun j hj => by rw [f6.2.2.2 j, if_pos (by omega)]; rfl, kp3.put p6 (Nat.le_refl _)⟩, by rw [p6.2.2, bh3, hh0]; simp⟩, fun fs hl => c8.trans (X8.areturnOut hexec rfl hret rfl (hb hbytes d58) hl)⟩
end Cmp3
namespace CodL
def yN : MethodName := ⟨"java/lang/StringUTF16", "coderFromArrayLen", "([BI)B"⟩
abbrev yB : ByteArray := jdk_52_method_15_code
theorem d0 : decode yB 0 = .ok (.iload_n 1, 1) := by decide +kernel
theorem d1 : decode yB 1 = .ok (.aload_n 0, 1) := by decide +kernel
theorem d2 : decode yB 2 = .ok (.arraylength, 1) := by decide +kernel
theorem d3 : decode yB 3 = .ok (.isub, 1) := by decide +kernel
theorem d4 : decode yB 4 = .ok (.bipush 31, 2) := by decide +kernel
theorem d6 : decode yB 6 = .ok (.iushr, 1) := by decide +kernel
theorem d7 : decode yB 7 = .ok (.i2b, 1) := by decide +kernel
theorem d8 : decode yB 8 = .ok (.ireturn, 1) := by decide +kernel
def site : List Cond := []
def tab : Cond := tabOf yN yB 2 (some .byte) site
def P (d : Addr) (B : Cell) (args : Array Value) (s : State) : Prop := args = #[.ref d, .int (Int32.ofNat B.slots.size)] ∧ Arr .byte d B s
def E (r : Option Value) (s u : State) : Prop := XT.PureE (some (.int 0)) r s u
/-- an array as long as the number of chars: LATIN1 -/
theorem law (l : Launch) (d : Addr) (B : Cell) : Law l yN 2 2 0 0 yB 2 (some .byte) site (P d B) E [] 0 0 := by
  refine Law.of_walk (plainFor_of_name (by decide +kernel)) (by decide +kernel) (by decide +kernel) (by decide) (fun _ _ h => by rw [h.1]; rfl) (fun _ U U' hal hh h => ⟨h.1, h.2.mv hal hh⟩) (fun r U U' V V' h1 hal h2 h => XT.PureE.mv r U U' V V' h1 hal h2 h) ?_
  intro p e s m args below meth c s₁ X0 hexec hbytes hml hret hlk hnm hown hh0 W hP
  obtain ⟨rfl, hB⟩ := hP
  have hB0 := hB.mv X0.warmed.alike hh0
  have c1 : Steps p.tables e below (s₁.setTop (entryFrame m #[.ref d, .int (Int32.ofNat B.slots.size)] 2)) (s₁.setTop (mkF m 0 #[.val (.ref d), .val (.int (Int32.ofNat B.slots.size))] [])) := entry rfl
  have c2 : Steps p.tables e below (s₁.setTop (entryFrame m #[.ref d, .int (Int32.ofNat B.slots.size)] 2)) (s₁.setTop (mkF m 2 #[.val (.ref d), .val (.int (Int32.ofNat B.slots.size))] [.ref d, .int (Int32.ofNat B.slots.size)])) := c1.trans (by
    refine XS.iloadN X0.here hexec rfl (hb hbytes d0) rfl ?_
    refine XS.aloadN X0.here hexec rfl (hb hbytes d1) rfl rfl ?_
    exact Steps.refl _)
  have c3 : Steps p.tables e below (s₁.setTop (entryFrame m #[.ref d, .int (Int32.ofNat B.slots.size)] 2)) (s₁.setTop (mkF m 8 #[.val (.ref d), .val (.int (Int32.ofNat B.slots.size))] [.int (lo8 (ushr (Int32.ofNat B.slots.size - Int32.ofNat B.slots.size) 31))])) := c2.trans (by
    refine X0.alen hexec hB0 rfl rfl (hb hbytes d2) ?_
    refine XS.isub X0.here hexec rfl (hb hbytes d3) rfl ?_
    refine bipushV X0.here hexec rfl 31 (hb hbytes d4) (by decide) ?_
    refine iushr X0.here hexec rfl (hb hbytes d6) rfl ?_
    refine i2b X0.here hexec rfl (hb hbytes d7) rfl ?_
    exact Steps.refl _)
  have e0 : lo8 (ushr (Int32.ofNat B.slots.size - Int32.ofNat B.slots.size) 31) = 0 := by rw [Int32.sub_self]; decide
  rw [e0] at c3
  exact ⟨s₁, some (.int 0), _, _, _, X0, rfl, rfl, rfl, (fun h => by cases h), ⟨rfl, hh0⟩, fun fs hl => c3.trans (X0.ireturnOut hexec hret rfl (Or.inr (Or.inr (Or.inl rfl))) (hb hbytes d8) hl)⟩
end CodL
/-- the String at a is Latin-1 over a new byte[] (the heap's one new cell): the low bytes of the len chars of A from o on; every cell but a is kept -/
def Got (a : Addr) (D : Cell) (fV fC : Field) (A : Cell) (o len : Nat) (r : Option Value) (s u : State) : Prop := r = none ∧ ∃ D' V : Cell, Blank "java/lang/String" a D' u ∧ Same D D' [fV.slot, fC.slot] ∧ D'.slots[fV.slot]? = some (.ref s.heap.size) ∧ D'.slots[fC.slot]? = some (.int 0) ∧ Arr .byte s.heap.size V u ∧ V.vm = .none ∧ u.vm.findClass "[B" = some V.cls ∧ V.slots.size = len ∧ (∀ j, j < len → V.slots[j]? = some (.int (lo8 (cv A (o + j))))) ∧ (∀ (y : Addr) (c : Cell), y ≠ a → s.heap[y]? = some c → u.heap[y]? = some c) ∧ u.heap.size = s.heap.size + 1
theorem Got.mv {a : Addr} {D A : Cell} {fV fC : Field} {o len : Nat} : ∀ r (U U' V V' : State), U'.heap = U.heap → V.vm.Alike V'.vm → V'.heap = V.heap → Got a D fV fC A o len r U V → Got a D fV fC A o len r U' V' :=
  fun r U U' V V' h1 hal h2 ⟨e0, D', X, a1, a2, a3, a4, a5, a6, a7, a8, a9, a10, a11⟩ => ⟨e0, D', X, a1.mv hal h2, a2, by rw [h1]; exact a3, a4, by rw [h1]; exact a5.mv hal h2, a6, by rw [hal.findClass]; exact a7, a8, a9, by rw [h1, h2]; exact a10, by rw [h1, h2]; exact a11⟩
namespace New4
def yN : MethodName := ⟨"java/lang/String", "<init>", "([CIILjava/lang/Void;)V"⟩
abbrev yB : ByteArray := jdk_42_method_149_code
theorem d0 : decode yB 0 = .ok (.aload_n 0, 1) := by decide +kernel
theorem d1 : decode yB 1 = .ok (.invokespecial 1, 3) := by decide +kernel
theorem d4 : decode yB 4 = .ok (.iload_n 3, 1) := by decide +kernel
theorem d5 : decode yB 5 = .ok (.ifCond (.ne) 22, 3) := by decide +kernel
theorem d27 : decode yB 27 = .ok (.getstatic 38, 3) := by decide +kernel
theorem d30 : decode yB 30 = .ok (.ifCond (.eq) 28, 3) := by decide +kernel
theorem d33 : decode yB 33 = .ok (.aload_n 1, 1) := by decide +kernel
theorem d34 : decode yB 34 = .ok (.iload_n 2, 1) := by decide +kernel
theorem d35 : decode yB 35 = .ok (.iload_n 3, 1) := by decide +kernel
theorem d36 : decode yB 36 = .ok (.invokestatic 177, 3) := by decide +kernel
theorem d39 : decode yB 39 = .ok (.astore 5, 2) := by decide +kernel
theorem d41 : decode yB 41 = .ok (.aload_n 0, 1) := by decide +kernel
theorem d42 : decode yB 42 = .ok (.aload 5, 2) := by decide +kernel
theorem d44 : decode yB 44 = .ok (.iload_n 3, 1) := by decide +kernel
theorem d45 : decode yB 45 = .ok (.invokestatic 47, 3) := by decide +kernel
theorem d48 : decode yB 48 = .ok (.putfield 15, 3) := by decide +kernel
theorem d51 : decode yB 51 = .ok (.aload_n 0, 1) := by decide +kernel
theorem d52 : decode yB 52 = .ok (.aload 5, 2) := by decide +kernel
theorem d54 : decode yB 54 = .ok (.putfield 9, 3) := by decide +kernel
theorem d57 : decode yB 57 = .ok (.return_, 1) := by decide +kernel
def site : List Cond := [.fieldLink "java/lang/String" 38 "java/lang/String" "COMPACT_STRINGS" "Z", Cmp3.tab, CodL.tab, .laysFinal "java/lang/String" "java/lang/String" "value" "[B", .fieldLink "java/lang/String" 9 "java/lang/String" "value" "[B", .laysFinal "java/lang/String" "java/lang/String" "coder" "B", .fieldLink "java/lang/String" 15 "java/lang/String" "coder" "B"] ++ objW "java/lang/String" 1 ++ staticW "java/lang/String" 177 Cmp3.yN ++ staticW "java/lang/String" 47 CodL.yN
def tab : Cond := tabOf yN yB 6 none site
def P (a : Addr) (D : Cell) (fV fC : Field) (b : Addr) (A : Cell) (z : Int32) (o len : Nat) (args : Array Value) (s : State) : Prop := args = #[.ref a, .ref b, .int (Int32.ofNat o), .int (Int32.ofNat len), .null] ∧ Blank "java/lang/String" a D s ∧ Found "java/lang/String" "value" "[B" fV s ∧ Found "java/lang/String" "coder" "B" fC s ∧ Ch b A s ∧ StaticIs s "java/lang/String" "COMPACT_STRINGS" "Z" (.int z) ∧ ¬ z = 0 ∧ 0 < len ∧ o + len ≤ A.slots.size ∧ len ≤ 536870912 ∧ ∀ i, i < len → ¬ 255 < cv A (o + i)
def E (a : Addr) (D : Cell) (fV fC : Field) (A : Cell) (o len : Nat) (r : Option Value) (s u : State) : Prop := Got a D fV fC A o len r s u
/-- len > 0, no char of the range above 255: a Latin-1 String of their low bytes -/
theorem law (l : Launch) (a : Addr) (D : Cell) (fV fC : Field) (b : Addr) (A : Cell) (z : Int32) (o len : Nat) : Law l yN 5 4 2 35 yB 6 none site (P a D fV fC b A z o len) (E a D fV fC A o len) [⟨a, fC.slot⟩, ⟨a, fV.slot⟩] 1 len := by
  refine Law.of_walk (plainFor_of_name (by decide +kernel)) (by decide +kernel) (by decide +kernel) (by decide) (fun _ _ h => by rw [h.1]; rfl) (fun _ U U' hal hh h => ⟨h.1, h.2.1.mv hal hh, h.2.2.1.al hal, h.2.2.2.1.al hal, h.2.2.2.2.1.mv hal hh, h.2.2.2.2.2.1.there hal hh, h.2.2.2.2.2.2⟩) (fun r U U' V V' h1 hal h2 h => Got.mv r U U' V V' h1 hal h2 h) ?_
  intro p e s m args below meth c s₁ X0 hexec hbytes hml hret hlk hnm hown hh0 W hP
  obtain ⟨rfl, hB, f1, f2, hA, s1, hz, l0, l1, l2, hp⟩ := hP
  have a31 := hA.1.2.2.2
  have c1 : Steps p.tables e below (s₁.setTop (entryFrame m #[.ref a, .ref b, .int (Int32.ofNat o), .int (Int32.ofNat len), .null] 6)) (s₁.setTop (mkF m 0 #[.val (.ref a), .val (.ref b), .val (.int (Int32.ofNat o)), .val (.int (Int32.ofNat len)), .val .null, .unset] [])) := entry rfl
  have c2 : Steps p.tables e below (s₁.setTop (entryFrame m #[.ref a, .ref b, .int (Int32.ofNat o), .int (Int32.ofNat len), .null] 6)) (s₁.setTop (mkF m 1 #[.val (.ref a), .val (.ref b), .val (.int (Int32.ofNat o)), .val (.int (Int32.ofNat len)), .val .null, .unset] [.ref a])) := c1.trans (by
    refine XS.aloadN X0.here hexec rfl (hb hbytes d0) rfl rfl ?_
    exact Steps.refl _)
  obtain ⟨T3, X3, q3, st3⟩ := X0.oinit hexec hown (wks W (objW "java/lang/String" 1)) (g := (mkF m 1 #[.val (.ref a), .val (.ref b), .val (.int (Int32.ofNat o)), .val (.int (Int32.ofNat len)), .val .null, .unset] [.ref a])) rfl (by rw [hml]; rfl) (rest := []) rfl (hb hbytes d1) (W := 0) (by show 2 * 0 + 0 ≤ _; decide) (Nat.le_of_ble_eq_true rfl) (Nat.le_of_ble_eq_true rfl)
  have hh3 := q3.trans hh0
  have c4 : Steps p.tables e below (s₁.setTop (entryFrame m #[.ref a, .ref b, .int (Int32.ofNat o), .int (Int32.ofNat len), .null] 6)) (T3.setTop (mkF m 27 #[.val (.ref a), .val (.ref b), .val (.int (Int32.ofNat o)), .val (.int (Int32.ofNat len)), .val .null, .unset] [])) := (c2.trans (st3 _ (Steps.refl _))).trans (by
    refine XS.iloadN X3.here hexec rfl (hb hbytes d4) rfl ?_
    refine XS.ifYes X3.here hexec rfl (pc0 := 5) rfl (hb hbytes d5) rfl (i0_ne_t (nz32 (by omega) l0)) (by decide) rfl ?_
    exact Steps.refl _)
  obtain ⟨T5, X5, q5, st5⟩ := X3.sget hexec hown (wk W (.fieldLink "java/lang/String" 38 "java/lang/String" "COMPACT_STRINGS" "Z")) s1 (fun _ _ h => by rw [hh3]; exact h) (g := (mkF m 27 #[.val (.ref a), .val (.ref b), .val (.int (Int32.ofNat o)), .val (.int (Int32.ofNat len)), .val .null, .unset] [])) rfl (hb hbytes d27)
  have hh5 := q5.trans hh3
  have c6 : Steps p.tables e below (s₁.setTop (entryFrame m #[.ref a, .ref b, .int (Int32.ofNat o), .int (Int32.ofNat len), .null] 6)) (T5.setTop (mkF m 30 #[.val (.ref a), .val (.ref b), .val (.int (Int32.ofNat o)), .val (.int (Int32.ofNat len)), .val .null, .unset] [.int z])) := c4.trans (st5 _ (Steps.refl _))
  have c7 : Steps p.tables e below (s₁.setTop (entryFrame m #[.ref a, .ref b, .int (Int32.ofNat o), .int (Int32.ofNat len), .null] 6)) (T5.setTop (mkF m 36 #[.val (.ref a), .val (.ref b), .val (.int (Int32.ofNat o)), .val (.int (Int32.ofNat len)), .val .null, .unset] [.int (Int32.ofNat len), .int (Int32.ofNat o), .ref b])) := c6.trans (by
    refine XS.ifNo X5.here hexec rfl (hb hbytes d30) rfl (i0_eq_f hz) ?_
    refine XS.aloadN X5.here hexec rfl (hb hbytes d33) rfl rfl ?_
    refine XS.iloadN X5.here hexec rfl (hb hbytes d34) rfl ?_
    refine XS.iloadN X5.here hexec rfl (hb hbytes d35) rfl ?_
    exact Steps.refl _)
  obtain ⟨v8, T8, X8, E8, g8⟩ := X5.callS hexec (Cmp3.law l b A o len) hown (wks W (staticW "java/lang/String" 177 Cmp3.yN)) (wk W Cmp3.tab) (W := 0) (Nat.le_of_ble_eq_true rfl) (Nat.le_of_ble_eq_true rfl) (Nat.le_refl _) (by show 0 + len ≤ len; omega) (g := (mkF m 36 #[.val (.ref a), .val (.ref b), .val (.int (Int32.ofNat o)), .val (.int (Int32.ofNat len)), .val .null, .unset] [.int (Int32.ofNat len), .int (Int32.ofNat o), .ref b])) rfl (by rw [hml]; rfl) c7 (argsL := [.ref b, .int (Int32.ofNat o), .int (Int32.ofNat len)]) (rest := []) rfl rfl (by show 2 * 0 + 0 ≤ _; decide) (hb hbytes d36) (⟨rfl, hA.mv X5.warmed.alike hh5, l1, l2, hp⟩)
  obtain ⟨e8, z8⟩ := E8
  obtain ⟨rfl, N, n1, n2, n3, n4, n5, n6⟩ := NewArr.mv _ T5 s _ _ hh5.symm (Vm.Alike.refl _) rfl e8
  rw [hh5] at z8
  have hB1 := hB.keep X8.warmed.alike (n6 _ _ hB.1)
  have hne : s.heap.size ≠ a := (Nat.ne_of_lt (Array.getElem?_eq_some_iff.mp hB.1).1).symm
  have c9 : Steps p.tables e below (s₁.setTop (entryFrame m #[.ref a, .ref b, .int (Int32.ofNat o), .int (Int32.ofNat len), .null] 6)) (T8.setTop (mkF m 39 #[.val (.ref a), .val (.ref b), .val (.int (Int32.ofNat o)), .val (.int (Int32.ofNat len)), .val .null, .unset] [.ref s.heap.size])) := g8
  have c10 : Steps p.tables e below (s₁.setTop (entryFrame m #[.ref a, .ref b, .int (Int32.ofNat o), .int (Int32.ofNat len), .null] 6)) (T8.setTop (mkF m 45 #[.val (.ref a), .val (.ref b), .val (.int (Int32.ofNat o)), .val (.int (Int32.ofNat len)), .val .null, .val (.ref s.heap.size)] [.int (Int32.ofNat N.slots.size), .ref s.heap.size, .ref a])) := by
    have hc : Steps p.tables e below (s₁.setTop (entryFrame m #[.ref a, .ref b, .int (Int32.ofNat o), .int (Int32.ofNat len), .null] 6)) (T8.setTop (mkF m 45 #[.val (.ref a), .val (.ref b), .val (.int (Int32.ofNat o)), .val (.int (Int32.ofNat len)), .val .null, .val (.ref s.heap.size)] [.int (Int32.ofNat len), .ref s.heap.size, .ref a])) := c9.trans (by
      refine XS.astore X8.here hexec rfl (hb hbytes d39) rfl rfl rfl ?_
      refine XS.aloadN X8.here hexec rfl (hb hbytes d41) rfl rfl ?_
      refine XS.aload X8.here hexec rfl (hb hbytes d42) rfl rfl ?_
      refine XS.iloadN X8.here hexec rfl (hb hbytes d44) rfl ?_
      exact Steps.refl _)
    rw [n4]; exact hc
  obtain ⟨v11, T11, X11, E11, g11⟩ := X8.callS hexec (CodL.law l s.heap.size N) hown (wks W (staticW "java/lang/String" 47 CodL.yN)) (wk W CodL.tab) (W := 1) (Nat.le_of_ble_eq_true rfl) (Nat.le_of_ble_eq_true rfl) (Nat.le_refl _) (by show 0 + len + 0 ≤ len; omega) (g := (mkF m 45 #[.val (.ref a), .val (.ref b), .val (.int (Int32.ofNat o)), .val (.int (Int32.ofNat len)), .val .null, .val (.ref s.heap.size)] [.int (Int32.ofNat N.slots.size), .ref s.heap.size, .ref a])) rfl (by rw [hml]; rfl) c10 (argsL := [.ref s.heap.size, .int (Int32.ofNat N.slots.size)]) (rest := [.ref a]) rfl rfl (by show 2 * 0 + (1 + 0) ≤ _; decide) (hb hbytes d45) (⟨rfl, n1⟩)
  obtain ⟨rfl, q11⟩ := E11
  have hB11 := hB1.mv (X8.warmed.alike.symm.trans X11.warmed.alike) q11
  have c12 : Steps p.tables e below (s₁.setTop (entryFrame m #[.ref a, .ref b, .int (Int32.ofNat o), .int (Int32.ofNat len), .null] 6)) (T11.setTop (mkF m 48 #[.val (.ref a), .val (.ref b), .val (.int (Int32.ofNat o)), .val (.int (Int32.ofNat len)), .val .null, .val (.ref s.heap.size)] [.int 0, .ref a])) := g11
  obtain ⟨T13, X13, p13, bl13, sl13, st13⟩ := X11.finit hexec hown (wk W (.fieldLink "java/lang/String" 15 "java/lang/String" "coder" "B")) (Or.inr ⟨_, (wk W (.laysFinal "java/lang/String" "java/lang/String" "coder" "B"))⟩) (Or.inl ⟨rfl, hnm⟩) f2 (Or.inl rfl) hB11 (t := .byte) (by decide +kernel) rfl (g := (mkF m 48 #[.val (.ref a), .val (.ref b), .val (.int (Int32.ofNat o)), .val (.int (Int32.ofNat len)), .val .null, .val (.ref s.heap.size)] [.int 0, .ref a])) rfl (rest := []) rfl (hb hbytes d48)
  have c14 : Steps p.tables e below (s₁.setTop (entryFrame m #[.ref a, .ref b, .int (Int32.ofNat o), .int (Int32.ofNat len), .null] 6)) (T13.setTop (mkF m 54 #[.val (.ref a), .val (.ref b), .val (.int (Int32.ofNat o)), .val (.int (Int32.ofNat len)), .val .null, .val (.ref s.heap.size)] [.ref s.heap.size, .ref a])) := (c12.trans (st13 _ (Steps.refl _))).trans (by
    refine XS.aloadN X13.here hexec rfl (hb hbytes d51) rfl rfl ?_
    refine XS.aload X13.here hexec rfl (hb hbytes d52) rfl rfl ?_
    exact Steps.refl _)
  obtain ⟨T15, X15, p15, bl15, sl15, st15⟩ := X13.finit hexec hown (wk W (.fieldLink "java/lang/String" 9 "java/lang/String" "value" "[B")) (Or.inr ⟨_, (wk W (.laysFinal "java/lang/String" "java/lang/String" "value" "[B"))⟩) (Or.inl ⟨rfl, hnm⟩) f1 (Or.inl rfl) bl13 (t := (.array .byte)) (by decide +kernel) rfl (g := (mkF m 54 #[.val (.ref a), .val (.ref b), .val (.int (Int32.ofNat o)), .val (.int (Int32.ofNat len)), .val .null, .val (.ref s.heap.size)] [.ref s.heap.size, .ref a])) rfl (rest := []) rfl (hb hbytes d54)
  have c16 : Steps p.tables e below (s₁.setTop (entryFrame m #[.ref a, .ref b, .int (Int32.ofNat o), .int (Int32.ofNat len), .null] 6)) (T15.setTop (mkF m 57 #[.val (.ref a), .val (.ref b), .val (.int (Int32.ofNat o)), .val (.int (Int32.ofNat len)), .val .null, .val (.ref s.heap.size)] [])) := c14.trans (st15 _ (Steps.refl _))
  have ap := apart (Or.inr ⟨_, (wk W (.laysFinal "java/lang/String" "java/lang/String" "value" "[B"))⟩) (Or.inr ⟨_, (wk W (.laysFinal "java/lang/String" "java/lang/String" "coder" "B"))⟩) f1 f2 (t₁ := .array .byte) (t₂ := .byte) (by decide +kernel) (by decide +kernel) (by decide)
  have al := X8.warmed.alike.symm.trans X15.warmed.alike
  have n7 : T11.heap[s.heap.size]? = some N := by rw [q11]; exact n1.1
  exact ⟨T15, none, _, _, _, X15, by simp, rfl, by omega, (fun _ => rfl), ⟨rfl, _, N, bl15, ((Same.refl D _).set _ (by simp)).set _ (by simp), sl15, (Cell.slots_setSlot_ne _ ap).trans sl13, n1.keep al (p15.other hne (p13.other hne n7)), n2, by rw [al.findClass]; exact n3, n4, n5, fun y c h1 h2 => p15.other h1 (p13.other h1 (by rw [q11]; exact n6 y c h2)), by rw [p15.2.2, p13.2.2, q11]; exact z8⟩, fun fs hl => c16.trans (X15.returnOut hexec hret (hb hbytes d57) hl)⟩
end New4
namespace New1
def yN : MethodName := ⟨"java/lang/String", "<init>", "([C)V"⟩
abbrev yB : ByteArray := jdk_42_method_3_code
theorem d0 : decode yB 0 = .ok (.aload_n 0, 1) := by decide +kernel
theorem d1 : decode yB 1 = .ok (.aload_n 1, 1) := by decide +kernel
theorem d2 : decode yB 2 = .ok (.iconst 0, 1) := by decide +kernel
theorem d3 : decode yB 3 = .ok (.aload_n 1, 1) := by decide +kernel
theorem d4 : decode yB 4 = .ok (.arraylength, 1) := by decide +kernel
theorem d5 : decode yB 5 = .ok (.aconst_null, 1) := by decide +kernel
theorem d6 : decode yB 6 = .ok (.invokespecial 27, 3) := by decide +kernel
theorem d9 : decode yB 9 = .ok (.return_, 1) := by decide +kernel
def site : List Cond := [New4.tab] ++ initW "java/lang/String" 27 New4.yN
def tab : Cond := tabOf yN yB 2 none site
def P (a : Addr) (D : Cell) (fV fC : Field) (b : Addr) (A : Cell) (z : Int32) (args : Array Value) (s : State) : Prop := args = #[.ref a, .ref b] ∧ Blank "java/lang/String" a D s ∧ Found "java/lang/String" "value" "[B" fV s ∧ Found "java/lang/String" "coder" "B" fC s ∧ Ch b A s ∧ StaticIs s "java/lang/String" "COMPACT_STRINGS" "Z" (.int z) ∧ ¬ z = 0 ∧ 0 < A.slots.size ∧ A.slots.size ≤ 536870912 ∧ ∀ i, i < A.slots.size → ¬ 255 < cv A i
def E (a : Addr) (D : Cell) (fV fC : Field) (A : Cell) (r : Option Value) (s u : State) : Prop := Got a D fV fC A 0 A.slots.size r s u
/-- new String(chars), not empty, no char above 255: a Latin-1 String of their low bytes -/
theorem law (l : Launch) (a : Addr) (D : Cell) (fV fC : Field) (b : Addr) (A : Cell) (z : Int32) : Law l yN 2 1 3 52 yB 2 none site (P a D fV fC b A z) (E a D fV fC A) [⟨a, fC.slot⟩, ⟨a, fV.slot⟩] 1 A.slots.size := by
  refine Law.of_walk (plainFor_of_name (by decide +kernel)) (by decide +kernel) (by decide +kernel) (by decide) (fun _ _ h => by rw [h.1]; rfl) (fun _ U U' hal hh h => ⟨h.1, h.2.1.mv hal hh, h.2.2.1.al hal, h.2.2.2.1.al hal, h.2.2.2.2.1.mv hal hh, h.2.2.2.2.2.1.there hal hh, h.2.2.2.2.2.2⟩) (fun r U U' V V' h1 hal h2 h => Got.mv r U U' V V' h1 hal h2 h) ?_
  intro p e s m args below meth c s₁ X0 hexec hbytes hml hret hlk hnm hown hh0 W hP
  obtain ⟨rfl, hB, f1, f2, hA, s1, hz, l0, l2, hp⟩ := hP
  have c1 : Steps p.tables e below (s₁.setTop (entryFrame m #[.ref a, .ref b] 2)) (s₁.setTop (mkF m 0 #[.val (.ref a), .val (.ref b)] [])) := entry rfl
  have c2 : Steps p.tables e below (s₁.setTop (entryFrame m #[.ref a, .ref b] 2)) (s₁.setTop (mkF m 6 #[.val (.ref a), .val (.ref b)] [.null, .int (Int32.ofNat A.slots.size), .int 0, .ref b, .ref a])) := c1.trans (by
    refine XS.aloadN X0.here hexec rfl (hb hbytes d0) rfl rfl ?_
    refine XS.aloadN X0.here hexec rfl (hb hbytes d1) rfl rfl ?_
    refine iconstV X0.here hexec rfl 0 (hb hbytes d2) (by decide) ?_
    refine XS.aloadN X0.here hexec rfl (hb hbytes d3) rfl rfl ?_
    refine X0.alen hexec (hA.1.mv X0.warmed.alike hh0) rfl rfl (hb hbytes d4) ?_
    refine XS.aconstNull X0.here hexec rfl (hb hbytes d5) ?_
    exact Steps.refl _)
  obtain ⟨v3, T3, X3, E3, g3⟩ := X0.callN hexec (New4.law l a D fV fC b A z 0 A.slots.size) rfl hown (wks W (initW "java/lang/String" 27 New4.yN)) (W New4.tab (by simp only [site, List.mem_cons, List.mem_append, true_or, or_true])) (W := 0) (Nat.le_of_ble_eq_true rfl) (Nat.le_of_ble_eq_true rfl) (Nat.le_refl _) (by show 0 + A.slots.size ≤ A.slots.size; omega) (g := (mkF m 6 #[.val (.ref a), .val (.ref b)] [.null, .int (Int32.ofNat A.slots.size), .int (Int32.ofNat 0), .ref b, .ref a])) rfl (by rw [hml]; rfl) c2 (argsL := [.ref b, .int (Int32.ofNat 0), .int (Int32.ofNat A.slots.size), .null]) (rest := []) rfl rfl (by show 2 * 0 + 0 ≤ _; decide) (hb hbytes d6) (⟨rfl, hB.mv X0.warmed.alike hh0, f1.al X0.warmed.alike, f2.al X0.warmed.alike, hA.mv X0.warmed.alike hh0, s1.there X0.warmed.alike hh0, hz, l0, by omega, l2, fun i hi => by rw [Nat.zero_add]; exact hp i hi⟩)
  have e0 := Got.mv _ s₁ s _ _ hh0.symm (Vm.Alike.refl _) rfl E3
  obtain rfl := e0.1
  have c4 : Steps p.tables e below (s₁.setTop (entryFrame m #[.ref a, .ref b] 2)) (T3.setTop (mkF m 9 #[.val (.ref a), .val (.ref b)] [])) := g3
  exact ⟨T3, none, _, _, _, X3, by simp, rfl, by omega, (fun _ => rfl), e0, fun fs hl => c4.trans (X3.returnOut hexec hret (hb hbytes d9) hl)⟩
theorem pays {l : Launch} {R : Room} {p : Program} {e : Env} {below : List Frame} {s : State} {sargs : Array Value} {len W : Nat} (a : Addr) (D : Cell) (fV fC : Field) (b : Addr) (A : Cell) (z : Int32) (htab : tab.before sargs s = true) (hfr : 4 ≤ R.frames) (hlo : W + 65 ≤ R.locals) :
    Back l R p e below s sargs yN len W (fun A₁ a₁ => A₁.cells + 1 ≤ R.cells ∧ A₁.slots + A.slots.size ≤ R.slots ∧ P a D fV fC b A z a₁ A₁.U) (fun A₁ _ v₁ B₁ => E a D fV fC A v₁ A₁.U B₁.U ∧ B₁.locs = A₁.locs ++ [⟨a, fC.slot⟩, ⟨a, fV.slot⟩] ∧ B₁.cells = A₁.cells + 1 ∧ B₁.slots = A₁.slots + A.slots.size) :=
  (law l a D fV fC b A z).pays htab hfr (by omega)
end New1
end StrChars
namespace StrChars.Road
open Jvm Sem ClassFile Op Lib Jvm.Stand Jvm.Free Jvm.Free.XT
open Jvm.Lib.Cold (StaticIs)
abbrev ST : String := "java/lang/String"
/-- every table word that New1's law asks, flat -/
abbrev words : List Jvm.Cond := [.code New1.yN New1.yB 2 none, .initialized ST, .methodLink ST 27 New4.yN, .instanceMethod New4.yN,
  .code New4.yN New4.yB 6 none, .fieldLink ST 38 ST "COMPACT_STRINGS" "Z", .laysFinal ST ST "value" "[B", .fieldLink ST 9 ST "value" "[B", .laysFinal ST ST "coder" "B", .fieldLink ST 15 ST "coder" "B",
  .methodLink ST 1 Lib.objectInit, .instanceMethod Lib.objectInit, .code Lib.objectInit ⟨#[0xb1]⟩ 1 none, .methodLink ST 177 Cmp3.yN, .static Cmp3.yN, .methodLink ST 47 CodL.yN, .static CodL.yN,
  .code Cmp3.yN Cmp3.yB 6 (some (.array .byte)), .initialized U16, .arrayClass .byte, .methodLink U16 115 Cmp5.yN, .static Cmp5.yN, .code Cmp5.yN Cmp5.yB 7 (some .int), .code CodL.yN CodL.yB 2 (some .byte)]
theorem tab_of {a : Array Value} {s : State} (h : ∀ w ∈ words, w.before a s = true) : New1.tab.before a s = true := by
  have h5 : Cmp5.tab.before a s = true := unparts (wk h (.code Cmp5.yN Cmp5.yB 7 (some .int))) (wks h (.initialized Cmp5.yN.cls :: Cmp5.site))
  have hc : CodL.tab.before a s = true := unparts (wk h (.code CodL.yN CodL.yB 2 (some .byte))) (wks h (.initialized CodL.yN.cls :: CodL.site))
  have q5 : ∀ w ∈ Cmp5.tab :: words, w.before a s = true := fun w hw => (List.mem_cons.mp hw).elim (fun e => e ▸ h5) (h w)
  have h3 : Cmp3.tab.before a s = true := unparts (wk q5 (.code Cmp3.yN Cmp3.yB 6 (some (.array .byte)))) (wks q5 (.initialized Cmp3.yN.cls :: Cmp3.site))
  have q3 : ∀ w ∈ Cmp3.tab :: CodL.tab :: words, w.before a s = true := fun w hw => (List.mem_cons.mp hw).elim (fun e => e ▸ h3) fun hw => (List.mem_cons.mp hw).elim (fun e => e ▸ hc) (h w)
  have h4 : New4.tab.before a s = true := unparts (wk q3 (.code New4.yN New4.yB 6 none)) (wks q3 (.initialized New4.yN.cls :: New4.site))
  have q4 : ∀ w ∈ New4.tab :: words, w.before a s = true := fun w hw => (List.mem_cons.mp hw).elim (fun e => e ▸ h4) (h w)
  exact unparts (wk q4 (.code New1.yN New1.yB 2 none)) (wks q4 (.initialized New1.yN.cls :: New1.site))
/-- the words ride from the start Z to the walk's own state -/
theorem moved {Z s : State} {a0 args : Array Value} (hZ : Z.Warmed39 s.vm) (hw : ∀ d ∈ words, d.before a0 Z = true) : ∀ d ∈ words, d.before args s = true := fun d hd => by
  have q := hw d hd
  have t : ∀ d ∈ words, d = .arrayClass .byte ∨ (d.onTables && d.keepsFace) = true := by decide +kernel
  rcases t d hd with rfl | t
  · exact RoadKit.mvA hZ q
  · exact RoadKit.mv hZ q t
/-- WHAT COMES BACK, over the tables of the start Z: h the heap at the call, h' behind it -/
def Q (Z : State) (x : Addr) (A : Cell) (h : Heap) (v : Option Value) (h' : Heap) (L : List Loc) : Prop := v = none ∧ (∀ y ∈ L, y.base = x) ∧ RoadKit.Keep h h' [x] ∧ h'.size = h.size + 1 ∧ RoadKit.Exa Z h' x ST ∧ RoadKit.Fld Z h' x ST "value" "[B" (.ref h.size) ∧ RoadKit.Fld Z h' x ST "coder" "B" (.int 0) ∧
  (∃ V : Cell, RoadKit.Arr Z h' h.size V .byte ∧ V.vm = .none ∧ Z.vm.findClass "[B" = some V.cls ∧ V.slots.size = A.slots.size ∧ ∀ j, j < A.slots.size → V.slots[j]? = some (.int (lo8 (cv A j)))) ∧
  ∀ (O n d : String) (w : Value), RoadKit.Fld Z h x O n d w → RoadKit.slotOf Z O n d ≠ RoadKit.slotOf Z ST "value" "[B" → RoadKit.slotOf Z O n d ≠ RoadKit.slotOf Z ST "coder" "B" → RoadKit.Fld Z h' x O n d w
/-- **new String(chars) AT A CALL, IN THE ROAD'S FORM**: for specialBack behind newO: x the fresh String, b the char[] with the cell A -/
theorem back {p : Program} {l : Launch} {e : Env} {R : Room} {s : State} {args : Array Value} {below : List Frame} {len W : Nat} {Z : State} {a0 : Array Value} {h : Heap} (hZ : Z.Warmed39 s.vm) (hw : ∀ d ∈ words, d.before a0 Z = true) {kI : Nat} (wi : (Jvm.Cond.instantiable ST kI).before a0 Z = true)
    {x b : Addr} {A : Cell} {z : Int32} {v0 c0 : Value} (E : RoadKit.Exa Z h x ST) (V : RoadKit.Fld Z h x ST "value" "[B" v0) (C : RoadKit.Fld Z h x ST "coder" "B" c0) (K : RoadKit.Arr Z h b A .char) (hty : Typed .char A) (S : RoadKit.Sta Z h ST "COMPACT_STRINGS" "Z" (.int z)) (hz : ¬ z = 0)
    (l0 : 0 < A.slots.size) (l2 : A.slots.size ≤ 536870912) (hp : ∀ i, i < A.slots.size → ¬ 255 < cv A i) (hfr : 4 ≤ R.frames) (hlo : W + 65 ≤ R.locals) :
    Back l R p e below s args New1.yN len W (fun P a => a = #[.ref x, .ref b] ∧ P.U.heap = h ∧ P.cells + 1 ≤ R.cells ∧ P.slots + A.slots.size ≤ R.slots)
      (fun P _ v B => ∃ L, Q Z x A h v B.U.heap L ∧ B.locs = P.locs ++ L ∧ B.cells = P.cells + 1 ∧ B.slots = P.slots + A.slots.size) := by
  intro m meth c P g ig mk a X hg hsize hdg hW hn hp'
  obtain ⟨rfl, rfl, r1, r2⟩ := hp'
  have al : Z.vm.Alike P.U.vm := hZ.alike.trans X.warmed.alike
  obtain ⟨D, cfV, kV, iV, fV, hD, gV, stV, knV, obV, asV, slV⟩ := id V
  obtain ⟨D', cfC, kC, iC, fC, hD', gC, stC, -, -, asC, slC⟩ := id C
  cases hD.symm.trans hD'
  obtain ⟨D2, kD, e1, e2, e3, e4, e5⟩ := id E
  cases hD.symm.trans e1
  obtain ⟨c2, k2, i1, i2, i3, -⟩ := Cond.instantiable_spec wi
  cases e2.symm.trans i1
  cases e3.symm.trans i2
  obtain ⟨kU, u1, u2⟩ := al.2.2 _ _ e3
  have hB : Blank ST x D P.U := ⟨hD, ⟨knV, fun q hq => by rw [hq] at obV; cases obV⟩, by rw [al.findClass]; exact e2, kU, u1, by rw [u2]; exact i3, by rw [u2]; exact e5 i3⟩
  have F1 : Found ST "value" "[B" fV P.U := ⟨SBG.found_only al ⟨cfV, kV, iV, gV⟩, stV⟩
  have F2 : Found ST "coder" "B" fC P.U := ⟨SBG.found_only al ⟨cfC, kC, iC, gC⟩, stC⟩
  have hA : Ch b A P.U := ⟨⟨K.1, State.isArrayOf_alike al K.2.1, K.2.2, by omega⟩, hty⟩
  have hS : StaticIs P.U ST "COMPACT_STRINGS" "Z" (.int z) := by
    obtain ⟨cfS, iS, kS, fS, st, cS, t1, t2, t3, t4, t5, t6, t7⟩ := S
    exact StaticIs.there (s := { Z with heap := P.U.heap }) ⟨cfS, iS, kS, fS, st, cS, t1, t2, t3, t4, t5, (fun q => by rw [q] at t6; cases t6), t7⟩ al rfl
  obtain ⟨v, B, X', ⟨⟨hv, E', V', q1, q2, q3, q4, q5, q6, q7, q8, q9, q10, q11⟩, hl, hc, hs⟩, st⟩ := New1.pays x D fV fC b A z (tab_of (moved hZ hw)) hfr hlo m meth c P g ig mk _ X hg hsize hdg hW hn ⟨r1, r2, rfl, hB, F1, F2, hA, hS, hz, l0, l2, hp⟩
  have al' : Z.vm.Alike B.U.vm := hZ.alike.trans X'.warmed.alike
  have hsz : E'.slots.size = D.slots.size := by
    obtain ⟨-, -, -, kB, w1, w2, w3⟩ := q1
    obtain ⟨kB', y1, y2⟩ := al'.2.2 _ _ e3
    rw [q2.2.1] at w1
    cases w1.symm.trans y1
    rw [w3, e5 i3, y2]
  refine ⟨v, B, X', ⟨_, ⟨hv, ?_, ⟨by omega, fun y cy hy hn' => q10 y cy (by simpa using hn') hy, fun y cy hy => ?_⟩, q11, ⟨E', _, q1.1, by rw [q2.2.1]; exact e2, by rw [q2.2.1]; exact e3, by rw [q2.1]; exact obV, fun _ => by rw [hsz]; exact e5 i3⟩,
    ⟨E', cfV, kV, iV, fV, q1.1, gV, stV, by rw [q2.1]; exact knV, by rw [q2.1]; exact obV, by rw [q2.2.1]; exact asV, q3⟩, ⟨E', cfC, kC, iC, fC, q1.1, gC, stC, by rw [q2.1]; exact knV, by rw [q2.1]; exact obV, by rw [q2.2.1]; exact asC, q4⟩,
    ⟨V', ⟨q5.1, State.isArrayOf_alike al'.symm q5.2.1, q5.2.2.1⟩, q6, by rw [← al'.findClass]; exact q7, q8, fun j hj => by have := q9 j hj; rwa [Nat.zero_add] at this⟩, fun O n d w F n1 n2 => ?_⟩, hl, hc, hs⟩, st⟩
  · intro y hy
    simp only [List.mem_cons, List.not_mem_nil, or_false] at hy
    rcases hy with rfl | rfl <;> rfl
  · by_cases q : y = x
    · subst q
      cases hD.symm.trans hy
      exact ⟨E', q1.1, q2.2.1, q2.1, hsz⟩
    · exact ⟨cy, q10 y cy q hy, rfl, rfl, rfl⟩
  · obtain ⟨D3, cf, k, i, f, g1, g2, g3, g4, g5, g6, g7⟩ := F
    cases hD.symm.trans g1
    simp only [RoadKit.slotOf, g2, gV, gC, Option.map_some, Option.getD_some] at n1 n2
    exact ⟨E', cf, k, i, f, q1.1, g2, g3, by rw [q2.1]; exact g4, by rw [q2.1]; exact g5, by rw [q2.2.1]; exact g6, by rw [q2.2.2 f.slot (by simp [n1, n2])]; exact g7⟩
end StrChars.Road
namespace StrChars.Road
open Jvm Sem ClassFile Op Lib Jvm.Stand Jvm.Free Jvm.Free.XT
/-- WHAT COMES BACK, the byte[] as a list of values -/
def QA (Z : State) (x : Addr) (zn : Int32) (cs : List Int32) (h : Heap) (v : Option Value) (h' : Heap) (L : List Loc) : Prop := v = none ∧ (∀ y ∈ L, y.base = x) ∧ RoadKit.Keep h h' [x] ∧ h'.size = h.size + 1 ∧ RoadKit.Exa Z h' x ST ∧ RoadKit.Fld Z h' x ST "value" "[B" (.ref h.size) ∧ RoadKit.Fld Z h' x ST "coder" "B" (.int 0) ∧
  (∃ kb, Z.vm.findClass "[B" = some kb ∧ RoadKit.Arv Z h' h.size kb .byte zn (cs.map fun c => .int (lo8 c)) (.int 0)) ∧
  ∀ (O n d : String) (w : Value), RoadKit.Fld Z h x O n d w → RoadKit.slotOf Z O n d ≠ RoadKit.slotOf Z ST "value" "[B" → RoadKit.slotOf Z O n d ≠ RoadKit.slotOf Z ST "coder" "B" → RoadKit.Fld Z h' x O n d w
/-- **new String(chars) AT A CALL, THE ARRAYS AS LISTS**: the char[] at b holds cs, not empty, no char above 255 -/
theorem backArv {p : Program} {l : Launch} {e : Env} {R : Room} {s : State} {args : Array Value} {below : List Frame} {len W : Nat} {Z : State} {a0 : Array Value} {h : Heap} (hZ : Z.Warmed39 s.vm) (hw : ∀ d ∈ words, d.before a0 Z = true) {kI : Nat} (wi : (Jvm.Cond.instantiable ST kI).before a0 Z = true)
    {x b : Addr} {k : ClassId} {zn z : Int32} {cs : List Int32} {dv v0 c0 : Value} (E : RoadKit.Exa Z h x ST) (V : RoadKit.Fld Z h x ST "value" "[B" v0) (C : RoadKit.Fld Z h x ST "coder" "B" c0) (K : RoadKit.Arv Z h b k .char zn (cs.map Value.int) dv) (S : RoadKit.Sta Z h ST "COMPACT_STRINGS" "Z" (.int z)) (hz : ¬ z = 0)
    (hlen : zn.toNatClampNeg = cs.length) (h0 : 0 < cs.length) (hbig : cs.length ≤ 536870912) (hall : ∀ c ∈ cs, ¬ 255 < c) (hfr : 4 ≤ R.frames) (hlo : W + 65 ≤ R.locals) :
    Back l R p e below s args New1.yN len W (fun P a => a = #[.ref x, .ref b] ∧ P.U.heap = h ∧ P.cells + 1 ≤ R.cells ∧ P.slots + cs.length ≤ R.slots)
      (fun P _ v B => ∃ L, QA Z x zn cs h v B.U.heap L ∧ B.locs = P.locs ++ L ∧ B.cells = P.cells + 1 ∧ B.slots = P.slots + cs.length) := by
  obtain ⟨A, K1, K2, K3, K4, K5, K6⟩ := K
  have e : A.slots.size = cs.length := K3.trans hlen
  have hat : ∀ (i : Nat) (hi : i < cs.length), A.slots[i]? = some (.int cs[i]) := fun i hi => by rw [K5 i (by omega)]; simp [List.getD_eq_getElem?_getD, hi]
  have hcv : ∀ (i : Nat) (hi : i < cs.length), cv A i = cs[i] := fun i hi => by unfold cv; rw [hat i hi]
  have hty : Typed .char A := fun i v hv => by
    have hi : i < A.slots.size := (Array.getElem?_eq_some_iff.mp hv).1
    have q := K5 i hi
    rw [hv] at q
    rw [Option.some.inj q]
    exact K6 i hi
  refine Back.mono (back hZ hw wi E V C K1 hty S hz (by omega) (by omega) (fun i hi => by rw [hcv i (by omega)]; exact hall _ (List.getElem_mem _)) hfr hlo) (fun P a hp => ⟨hp.1, hp.2.1, hp.2.2.1, by rw [e]; exact hp.2.2.2⟩) (fun P a v B hp hq => ?_)
  obtain ⟨L, ⟨q1, q2, q3, q4, q5, q6, q7, ⟨V', v1, v2, v3, v4, v5⟩, q9⟩, hl, hc, hs⟩ := hq
  refine ⟨L, ⟨q1, q2, q3, q4, q5, q6, q7, ⟨V'.cls, v3, V', v1, rfl, by rw [v4, e, hlen], K4, fun i hi => ?_, fun i hi => ?_⟩, q9⟩, hl, hc, by rw [hs, e]⟩
  · have hi' : i < cs.length := by omega
    rw [v5 i (by omega), hcv i hi']; simp [List.getD_eq_getElem?_getD, hi']
  · have hi' : i < cs.length := by omega
    simp only [List.getD_eq_getElem?_getD, List.getElem?_map, List.getElem?_eq_getElem hi', Option.map_some, Option.getD_some]
    exact fits_lo8 _
end StrChars.Road
namespace StrChars.Road
open Jvm Sem ClassFile Op Lib Jvm.Stand Jvm.Free Jvm.Free.XT
/-- WHAT COMES BACK, in the writer's own shape -/
def QV (Z : State) (x : Addr) (N : Int32) (bs : List Int32) (h : Heap) (n0 : Nat) (v : Option Value) (h' : Heap) (L : List Loc) : Prop := v = none ∧ RoadKit.Fr n0 L ∧ RoadKit.Keep h h' [x] ∧ RoadKit.Exa Z h' x ST ∧ RoadKit.Fld Z h' x ST "coder" "B" (.int 0) ∧
  ∃ (t : Addr) (kb : ClassId), n0 ≤ t ∧ h.size ≤ t ∧ ¬ t = x ∧ RoadKit.Fld Z h' x ST "value" "[B" (.ref t) ∧ RoadKit.Arv Z h' t kb .byte N (bs.map Value.int) (.int 0)
/-- **new String(chars) AT A CALL, FOR THE WRITER**: a char[] of n known ints, each 0 to 255 -/
theorem backV {p : Program} {l : Launch} {e : Env} {R : Room} {s : State} {args : Array Value} {below : List Frame} {len W : Nat} {Z : State} {a0 : Array Value} {h : Heap} (hZ : Z.Warmed39 s.vm) (hw : ∀ d ∈ words, d.before a0 Z = true) {kI : Nat} (wi : (Jvm.Cond.instantiable ST kI).before a0 Z = true)
    {x b : Addr} {kC : ClassId} {cs bs : List Int32} {d v0 c0 : Value} {z N : Int32} {n n0 : Nat} (hx0 : n0 ≤ x) (hh0 : n0 ≤ h.size) (E : RoadKit.Exa Z h x ST) (V : RoadKit.Fld Z h x ST "value" "[B" v0) (C : RoadKit.Fld Z h x ST "coder" "B" c0) (K : RoadKit.Arv Z h b kC .char N (cs.map Value.int) d) (S : RoadKit.Sta Z h ST "COMPACT_STRINGS" "Z" (.int z)) (hz : ¬ z = 0)
    (hn : cs.length = n) (hN : N = Int32.ofNat n) (l0 : 0 < n) (l2 : n ≤ 4000) (hp : ∀ c ∈ cs, ¬ c < 0 ∧ ¬ (255 : Int32) < c) (hb : bs = cs.map (fun c => c.toInt8.toInt32)) (hfr : 4 ≤ R.frames) (hlo : W + 65 ≤ R.locals) :
    Back l R p e below s args (⟨"java/lang/String", "<init>", "([C)V"⟩ : MethodName) len W (fun P a => a = #[.ref x, .ref b] ∧ P.U.heap = h ∧ P.cells + 1 ≤ R.cells ∧ P.slots + n ≤ R.slots)
      (fun P _ v B => ∃ L, QV Z x N bs h n0 v B.U.heap L ∧ B.locs = P.locs ++ L ∧ B.cells = P.cells + 1 ∧ B.slots = P.slots + n) := by
  subst hn hN hb
  refine Back.mono (backArv hZ hw wi E V C K S hz (n32 (by omega)) l0 (by omega) (fun c hc => (hp c hc).2) hfr hlo) (fun P a hp => hp) (fun P a v B hp hq => ?_)
  obtain ⟨L, ⟨q1, q2, q3, q4, q5, q6, q7, ⟨kb, v1, v2⟩, q9⟩, hl, hc, hs⟩ := hq
  exact ⟨L, ⟨q1, fun y hy => by rw [q2 y hy]; exact hx0, q3, q5, q7, h.size, kb, hh0, Nat.le_refl _, Nat.ne_of_gt E.lt, q6, by rw [List.map_map]; exact v2⟩, hl, hc, hs⟩
end StrChars.Road
end Jvm.Pilot.@@N@@
namespace Jvm.Pilot.@@N@@
open Jvm Jvm.ClassFile Sem Op Lib Jvm.Free Jvm.Stand Jvm.LawKit Jvm.RoadKit Bundle Jvm.Pilot.@@N@@.Jvm.D
theorem own_nar {n : String} {v : Value} (h : v.isRef = true) : narrow (.object n) v = v := by rcases ref_cases h with rfl | ⟨_, rfl⟩ <;> rfl
theorem own_fit {n : String} {v : Value} (h : v.isRef = true) : fits (.object n) v = true := by rcases ref_cases h with rfl | ⟨_, rfl⟩ <;> rfl
theorem own_no {Z : State} {a0 : Array Value} {C S K : String} {n : Nat} (w : (Jvm.Cond.superclass C S).before a0 Z = true) (w0 : (Jvm.Cond.noSuperclass S).before a0 Z = true) (wi : (Jvm.Cond.instantiable K n).before a0 Z = true) (h1 : S ≠ K := by decide) (h2 : C ≠ K := by decide) : ∃ c t, Z.vm.findClass C = some c ∧ Z.vm.findClass K = some t ∧ Z.vm.assignable c t = false := by
  obtain ⟨t, k', g1, g2, g3, g4, -⟩ := Cond.instantiable_spec wi
  obtain ⟨o, ko, o1, o2, o3, -, -⟩ := Cond.noSuperclass_spec w0
  obtain ⟨c, h0⟩ := found_sup w
  obtain ⟨p, k, kp, p1, p2, p3, p4, p5, -, p7⟩ := Cond.superclass_spec h0 w
  cases o1.symm.trans p1
  have ne := ids_ne h0 g1 h2
  have neo := ids_ne o1 g1 h1
  have gi : k'.isInterface = false := (Bool.or_eq_false_iff.mp g4).1
  have sub : ∀ fuel, Z.vm.isSubclassAux fuel c t = false := fun fuel => by
    cases fuel with
    | zero => rfl
    | succ f =>
      have q : Z.vm.isSubclassAux f o t = false := by
        cases f with
        | zero => rfl
        | succ f => simp [Vm.isSubclassAux, neo, o2, o3]
      simp [Vm.isSubclassAux, ne, p2, p4, q]
  refine ⟨c, t, h0, g1, ?_⟩
  show Z.vm.assignableAux (255 + 1) c t = false
  simp [Vm.assignableAux, ne, p2, g2, p5, g3, gi, Vm.isSubclass, sub]

theorem d7_0 : decode method_2_code 0 = .ok (.iload_n 0, 1) := by decide +kernel
theorem d7_1 : decode method_2_code 1 = .ok (.ifCond .ne 5, 3) := by decide +kernel
theorem d7_4 : decode method_2_code 4 = .ok (.aload_n 1, 1) := by decide +kernel
theorem d7_5 : decode method_2_code 5 = .ok (.areturn, 1) := by decide +kernel
theorem d7_6 : decode method_2_code 6 = .ok (.iload_n 0, 1) := by decide +kernel
theorem d7_7 : decode method_2_code 7 = .ok (.iconst 1, 1) := by decide +kernel
theorem d7_8 : decode method_2_code 8 = .ok (.if_icmp .ne 5, 3) := by decide +kernel
theorem d7_11 : decode method_2_code 11 = .ok (.aload_n 2, 1) := by decide +kernel
theorem d7_12 : decode method_2_code 12 = .ok (.areturn, 1) := by decide +kernel
theorem d7_13 : decode method_2_code 13 = .ok (.iload_n 0, 1) := by decide +kernel
theorem d7_14 : decode method_2_code 14 = .ok (.iconst 2, 1) := by decide +kernel
theorem d7_15 : decode method_2_code 15 = .ok (.if_icmp .ne 5, 3) := by decide +kernel
theorem d7_18 : decode method_2_code 18 = .ok (.aload_n 3, 1) := by decide +kernel
theorem d7_19 : decode method_2_code 19 = .ok (.areturn, 1) := by decide +kernel
theorem d7_20 : decode method_2_code 20 = .ok (.aconst_null, 1) := by decide +kernel
theorem d7_21 : decode method_2_code 21 = .ok (.areturn, 1) := by decide +kernel
theorem pn_0 : plainName "com/example/honeyguide/honeyguide/document/IdentityPairEqualsPinLaw" = true := by first | (simp [plainName, overriddenIn]; done) | decide +kernel
theorem ef_7 (m : MethodId) (x0 : Int32) (x1 : Addr) (x2 : Addr) (x3 : Addr)  : entryFrame m #[(.int x0), (.ref x1), (.ref x2), (.ref x3)] 4 = mkF m 0 #[.val (.int x0), .val (.ref x1), .val (.ref x2), .val (.ref x3)] [] := by first | (simp [entryFrame, mkF, argsToLocals, Value.category]; done) | rfl
def own_pk_15 (p1 : Int32) (a2 : Addr) (a3 : Addr) (a4 : Addr) : Value := if p1 = (2 : Int32) then (.ref a4) else .null
def own_pk_8 (p1 : Int32) (a2 : Addr) (a3 : Addr) (a4 : Addr) : Value := if p1 = (1 : Int32) then (.ref a3) else (own_pk_15 p1 a2 a3 a4)
def own_pk_1 (p1 : Int32) (a2 : Addr) (a3 : Addr) (a4 : Addr) : Value := if p1 = (0 : Int32) then (.ref a2) else (own_pk_8 p1 a2 a3 a4)
set_option maxRecDepth 65536 in
set_option maxHeartbeats 40000000 in
theorem rm7 (l : Launch) (Z : State) (a0 : Array Value) (hw : ∀ d ∈ tables_1, d.before a0 Z = true) (ws : List Jvm.Cond) (p1 : Int32) (a2 : Addr) (a3 : Addr) (a4 : Addr) (h0 : Heap) (n0 : Nat) (Z0 : n0 ≤ h0.size) :
    MetFree l (⟨"com/example/honeyguide/honeyguide/document/IdentityPairEqualsPinLaw", "pick", "(ILjava/lang/Object;Ljava/lang/Object;Ljava/lang/Object;)Ljava/lang/Object;"⟩ : MethodName) (head1 (Jvm.Cond.code (⟨"com/example/honeyguide/honeyguide/document/IdentityPairEqualsPinLaw", "pick", "(ILjava/lang/Object;Ljava/lang/Object;Ljava/lang/Object;)Ljava/lang/Object;"⟩ : MethodName) method_2_code 4 (some (.object "java/lang/Object")) :: ws) ({ frames := 0, cells := 0, slots := 0, locals := 0 } : Room)) (fun a U => a = #[(.int p1), (.ref a2), (.ref a3), (.ref a4)] ∧ Z.Warmed39 U.vm ∧ U.heap = h0) (fun _ _ _ _ _ => True) (fun _ U o U' => ∃ v L, o = .returned v ∧ (own_P h0 n0 (own_pk_1 p1 a2 a3 a4)) v U'.heap L ∧ FrameEnd U o U' L ({ frames := 0, cells := 0, slots := 0, locals := 0 } : Room).cells ({ frames := 0, cells := 0, slots := 0, locals := 0 } : Room).slots) := by
  refine MetFree.of_bodySF (plainFor_of_name pn_0) hisR ?_
  intro p e s m args below meth c s₁ Bd hml0 hP hK
  obtain ⟨rfl, hZ, hh⟩ := hP
  have hx := Bd.exec
  have hby := Bd.bytes
  have hml : c.maxLocals = 4 := hml0
  have hown : s.vm.findClass "com/example/honeyguide/honeyguide/document/IdentityPairEqualsPinLaw" = some m.cls := findClass_of_methodNamed Bd.named
  have hnm := (name_of_methodNamed Bd.named Bd.method).1
  have X0 : Stand p l e ({ frames := 0, cells := 0, slots := 0, locals := 0 } : Room) s m #[(.int p1), (.ref a2), (.ref a3), (.ref a4)] below meth c s₁ [] 0 0 := Stand.of_body Bd
  have e0 : s₁.heap = h0 := by rw [← hh, Bd.state]; rfl
  have N0 := Fr.nil n0
  show own_Fin p e below (own_A s ({ frames := 0, cells := 0, slots := 0, locals := 0 } : Room).cells ({ frames := 0, cells := 0, slots := 0, locals := 0 } : Room).slots (own_P h0 n0 (own_pk_1 p1 a2 a3 a4))) _
  refine own_go (fun t k => castTop (ef_7 m (p1) (a2) (a3) (a4)) k) ?_
  show own_Fin p e below _ (s₁.setTop (mkF m 0 #[.val (.int p1), .val (.ref a2), .val (.ref a3), .val (.ref a4)] []))
  refine own_go (fun t k => XS.iloadN X0.here hx rfl (hb hby d7_0) rfl  k) ?_
  show own_Fin p e below _ (s₁.setTop (mkF m 1 #[.val (.int p1), .val (.ref a2), .val (.ref a3), .val (.ref a4)] [(.int p1)]))
  by_cases hc1 : p1 = (0 : Int32)
  · skip
    rw [(show (own_pk_1 p1 a2 a3 a4) = (.ref a2) from if_pos hc1)]
    refine own_go (fun t k => XS.ifNo X0.here hx rfl (hb hby d7_1) rfl ((if0 _ _).trans (teq hc1).2) (XS.aloadN X0.here hx rfl (hb hby d7_4) rfl rfl  k)) ?_
    show own_Fin p e below _ (s₁.setTop (mkF m 5 #[.val (.int p1), .val (.ref a2), .val (.ref a3), .val (.ref a4)] [(.ref a2)]))
    exact own_out X0 (fun h => by rw [Bd.returns] at h; cases h) Bd.notSynchronized (fun fs hr => retOut X0 hx Bd.returns rfl (Or.inr (Or.inr (Or.inr (Or.inr ⟨rfl, rfl, rfl⟩)))) (hb hby d7_5) hr) ⟨rfl, N0, e0⟩ (by decide) (by decide)
  · skip
    rw [(show (own_pk_1 p1 a2 a3 a4) = (own_pk_8 p1 a2 a3 a4) from if_neg hc1)]
    refine own_go (fun t k => XS.ifYes X0.here hx rfl (pc0 := 1) (pc' := 6) rfl (hb hby d7_1) rfl ((if0 _ _).trans (feq hc1).2) (by decide) (by decide) (XS.iloadN X0.here hx rfl (hb hby d7_6) rfl  (XS.iconst X0.here hx rfl (hb hby d7_7) k))) ?_
    show own_Fin p e below _ (s₁.setTop (mkF m 8 #[.val (.int p1), .val (.ref a2), .val (.ref a3), .val (.ref a4)] [(.int (1 : Int32)), (.int p1)]))
    by_cases hc2 : p1 = (1 : Int32)
    · skip
      rw [(show (own_pk_8 p1 a2 a3 a4) = (.ref a3) from if_pos hc2)]
      refine own_go (fun t k => XS.icmpNo X0.here hx rfl (hb hby d7_8) rfl (teq hc2).2 (XS.aloadN X0.here hx rfl (hb hby d7_11) rfl rfl  k)) ?_
      show own_Fin p e below _ (s₁.setTop (mkF m 12 #[.val (.int p1), .val (.ref a2), .val (.ref a3), .val (.ref a4)] [(.ref a3)]))
      exact own_out X0 (fun h => by rw [Bd.returns] at h; cases h) Bd.notSynchronized (fun fs hr => retOut X0 hx Bd.returns rfl (Or.inr (Or.inr (Or.inr (Or.inr ⟨rfl, rfl, rfl⟩)))) (hb hby d7_12) hr) ⟨rfl, N0, e0⟩ (by decide) (by decide)
    · skip
      rw [(show (own_pk_8 p1 a2 a3 a4) = (own_pk_15 p1 a2 a3 a4) from if_neg hc2)]
      refine own_go (fun t k => XS.icmpYes X0.here hx rfl (pc0 := 8) (pc' := 13) rfl (hb hby d7_8) rfl (feq hc2).2 (by decide) (by decide) (XS.iloadN X0.here hx rfl (hb hby d7_13) rfl  (XS.iconst X0.here hx rfl (hb hby d7_14) k))) ?_
      show own_Fin p e below _ (s₁.setTop (mkF m 15 #[.val (.int p1), .val (.ref a2), .val (.ref a3), .val (.ref a4)] [(.int (2 : Int32)), (.int p1)]))
      by_cases hc3 : p1 = (2 : Int32)
      · skip
        rw [(show (own_pk_15 p1 a2 a3 a4) = (.ref a4) from if_pos hc3)]
        refine own_go (fun t k => XS.icmpNo X0.here hx rfl (hb hby d7_15) rfl (teq hc3).2 (XS.aloadN X0.here hx rfl (hb hby d7_18) rfl rfl  k)) ?_
        show own_Fin p e below _ (s₁.setTop (mkF m 19 #[.val (.int p1), .val (.ref a2), .val (.ref a3), .val (.ref a4)] [(.ref a4)]))
        exact own_out X0 (fun h => by rw [Bd.returns] at h; cases h) Bd.notSynchronized (fun fs hr => retOut X0 hx Bd.returns rfl (Or.inr (Or.inr (Or.inr (Or.inr ⟨rfl, rfl, rfl⟩)))) (hb hby d7_19) hr) ⟨rfl, N0, e0⟩ (by decide) (by decide)
      · skip
        rw [(show (own_pk_15 p1 a2 a3 a4) = .null from if_neg hc3)]
        refine own_go (fun t k => XS.icmpYes X0.here hx rfl (pc0 := 15) (pc' := 20) rfl (hb hby d7_15) rfl (feq hc3).2 (by decide) (by decide) (XS.aconstNull X0.here hx rfl (hb hby d7_20) k)) ?_
        show own_Fin p e below _ (s₁.setTop (mkF m 21 #[.val (.int p1), .val (.ref a2), .val (.ref a3), .val (.ref a4)] [.null]))
        exact own_out X0 (fun h => by rw [Bd.returns] at h; cases h) Bd.notSynchronized (fun fs hr => retOut X0 hx Bd.returns rfl (Or.inr (Or.inr (Or.inr (Or.inr ⟨rfl, rfl, rfl⟩)))) (hb hby d7_21) hr) ⟨rfl, N0, e0⟩ (by decide) (by decide)
theorem d8_0 : decode prog_6_method_1_code 0 = .ok (.aload_n 0, 1) := by decide +kernel
theorem d8_1 : decode prog_6_method_1_code 1 = .ok (.invokespecial 1, 3) := by decide +kernel
theorem d8_4 : decode prog_6_method_1_code 4 = .ok (.aload_n 0, 1) := by decide +kernel
theorem d8_5 : decode prog_6_method_1_code 5 = .ok (.aload_n 1, 1) := by decide +kernel
theorem d8_6 : decode prog_6_method_1_code 6 = .ok (.putfield 7, 3) := by decide +kernel
theorem d8_9 : decode prog_6_method_1_code 9 = .ok (.aload_n 0, 1) := by decide +kernel
theorem d8_10 : decode prog_6_method_1_code 10 = .ok (.aload_n 2, 1) := by decide +kernel
theorem d8_11 : decode prog_6_method_1_code 11 = .ok (.putfield 13, 3) := by decide +kernel
theorem d8_14 : decode prog_6_method_1_code 14 = .ok (.return_, 1) := by decide +kernel
theorem pn_1 : plainName "com/example/honeyguide/honeyguide/document/IdentityPair" = true := by first | (simp [plainName, overriddenIn]; done) | decide +kernel
theorem ef_8 (m : MethodId) (x0 : Addr) (x1 : Value) (x2 : Value) (g1 : x1.isRef = true) (g2 : x2.isRef = true) : entryFrame m #[(.ref x0), x1, x2] 3 = mkF m 0 #[.val (.ref x0), .val x1, .val x2] [] := by rcases ref_cases g1 with rfl | ⟨_, rfl⟩ <;> rcases ref_cases g2 with rfl | ⟨_, rfl⟩ <;> first | (simp [entryFrame, mkF, argsToLocals, Value.category]; done) | rfl
def own_q8 (Z : State) (a1 : Addr) (r2 : Value) (r3 : Value) (h0 : Heap) (n0 : Nat) (v : Option Value) (h : Heap) (L : List Loc) : Prop := v = none ∧ Fr n0 L ∧ Keep h0 h [a1] ∧ Exa Z h a1 "com/example/honeyguide/honeyguide/document/IdentityPair" ∧ Fld Z h a1 "com/example/honeyguide/honeyguide/document/IdentityPair" "first" "Ljava/lang/Object;" r2 ∧ Fld Z h a1 "com/example/honeyguide/honeyguide/document/IdentityPair" "second" "Ljava/lang/Object;" r3
set_option maxRecDepth 65536 in
set_option maxHeartbeats 40000000 in
theorem rm8 (l : Launch) (Z : State) (a0 : Array Value) (hw : ∀ d ∈ tables_1, d.before a0 Z = true) (ws : List Jvm.Cond) (a1 : Addr) (r2 : Value) (r3 : Value) (h0 : Heap) (n0 : Nat) (Z0 : n0 ≤ h0.size) (F_first : Fld Z h0 a1 "com/example/honeyguide/honeyguide/document/IdentityPair" "first" "Ljava/lang/Object;" .null) (F_second : Fld Z h0 a1 "com/example/honeyguide/honeyguide/document/IdentityPair" "second" "Ljava/lang/Object;" .null) (E_a1 : Exa Z h0 a1 "com/example/honeyguide/honeyguide/document/IdentityPair") (g_a1 : n0 ≤ a1) (hr2 : r2.isRef = true) (hr3 : r3.isRef = true) :
    MetFree l (⟨"com/example/honeyguide/honeyguide/document/IdentityPair", "<init>", "(Ljava/lang/Object;Ljava/lang/Object;)V"⟩ : MethodName) (head1 (Jvm.Cond.code (⟨"com/example/honeyguide/honeyguide/document/IdentityPair", "<init>", "(Ljava/lang/Object;Ljava/lang/Object;)V"⟩ : MethodName) prog_6_method_1_code 3 none :: ws) ({ frames := 1, cells := 0, slots := 0, locals := 12 } : Room)) (fun a U => a = #[(.ref a1), r2, r3] ∧ Z.Warmed39 U.vm ∧ U.heap = h0) (fun _ _ _ _ _ => True) (fun _ U o U' => ∃ v L, o = .returned v ∧ (own_q8 Z a1 r2 r3 h0 n0) v U'.heap L ∧ FrameEnd U o U' L ({ frames := 1, cells := 0, slots := 0, locals := 12 } : Room).cells ({ frames := 1, cells := 0, slots := 0, locals := 12 } : Room).slots) := by
  refine MetFree.of_bodySF (plainFor_of_name pn_1) hisR ?_
  intro p e s m args below meth c s₁ Bd hml0 hP hK
  obtain ⟨rfl, hZ, hh⟩ := hP
  have hx := Bd.exec
  have hby := Bd.bytes
  have hml : c.maxLocals = 3 := hml0
  have hown : s.vm.findClass "com/example/honeyguide/honeyguide/document/IdentityPair" = some m.cls := findClass_of_methodNamed Bd.named
  have hnm := (name_of_methodNamed Bd.named Bd.method).1
  have X0 : Stand p l e ({ frames := 1, cells := 0, slots := 0, locals := 12 } : Room) s m #[(.ref a1), r2, r3] below meth c s₁ [] 0 0 := Stand.of_body Bd
  have e0 : s₁.heap = h0 := by rw [← hh, Bd.state]; rfl
  have N0 := Fr.nil n0
  have Kz := Keep.refl h0 [a1]
  have hw_12 := hw _ (List.mem_of_getElem? (i := 12) rfl)
  have hw_13 := hw _ (List.mem_of_getElem? (i := 13) rfl)
  have hw_31 := hw _ (List.mem_of_getElem? (i := 31) rfl)
  have hw_40 := hw _ (List.mem_of_getElem? (i := 40) rfl)
  have hw_41 := hw _ (List.mem_of_getElem? (i := 41) rfl)
  have hw_42 := hw _ (List.mem_of_getElem? (i := 42) rfl)
  have hw_43 := hw _ (List.mem_of_getElem? (i := 43) rfl)
  have hw_44 := hw _ (List.mem_of_getElem? (i := 44) rfl)
  show own_Fin p e below (own_A s ({ frames := 1, cells := 0, slots := 0, locals := 12 } : Room).cells ({ frames := 1, cells := 0, slots := 0, locals := 12 } : Room).slots (own_q8 Z a1 r2 r3 h0 n0)) _
  refine own_go (fun t k => castTop (ef_8 m (a1) (r2) (r3) hr2 hr3) k) ?_
  show own_Fin p e below _ (s₁.setTop (mkF m 0 #[.val (.ref a1), .val r2, .val r3] []))
  refine own_go (fun t k => XS.aloadN X0.here hx rfl (hb hby d8_0) rfl rfl  k) ?_
  show own_Fin p e below _ (s₁.setTop (mkF m 1 #[.val (.ref a1), .val r2, .val r3] [(.ref a1)]))
  obtain ⟨T1, X1, e1, st1⟩ := initO X0 hx hZ hown hw_40 hw_12 hw_13 e0 (g := (mkF m 1 #[.val (.ref a1), .val r2, .val r3] [(.ref a1)])) rfl (by rw [hml]; rfl) rfl (hb hby d8_1) (by decide) (W := 0) (by show 2 * 0 + _ ≤ _; exact Nat.le_of_eq rfl) (by decide)
  refine own_go st1 ?_
  show own_Fin p e below _ (T1.setTop (mkF m 4 #[.val (.ref a1), .val r2, .val r3] []))
  refine own_go (fun t k => XS.aloadN X1.here hx rfl (hb hby d8_4) rfl rfl  (XS.aloadN X1.here hx rfl (hb hby d8_5) rfl hr2  k)) ?_
  show own_Fin p e below _ (T1.setTop (mkF m 6 #[.val (.ref a1), .val r2, .val r3] [r2, (.ref a1)]))
  obtain ⟨T2, h2, X2, e2, W2, st2⟩ := putF X1 hx hZ hown (host := "") (Or.inl hw_41) Via.refl e1 F_first E_a1 (Or.inr ⟨hw_42, rfl, hnm⟩) hw_31 (ty := (.object "java/lang/Object")) (by decide) (own_nar hr2) (own_fit hr2) (g := (mkF m 6 #[.val (.ref a1), .val r2, .val r3] [r2, (.ref a1)])) rfl rfl (hb hby d8_6)
  have f4 := F_second.other W2 (Or.inr (slot_ne (Or.inr hw_44) (Or.inr hw_42) (by decide) (t := (.object "java/lang/Object")) (t' := (.object "java/lang/Object")) (by decide) (by decide)))
  have f5 := E_a1.wr W2
  have f6 := F_first.same W2
  have Zh7 : n0 ≤ h2.size := Nat.le_trans Z0 (Nat.le_of_eq W2.size.symm)
  have N2 := Fr.snoc X2 N0 g_a1
  have K8 := Kz.wr W2 (Or.inl (List.mem_of_getElem? (i := 0) rfl))
  refine own_go st2 ?_
  show own_Fin p e below _ (T2.setTop (mkF m 9 #[.val (.ref a1), .val r2, .val r3] []))
  refine own_go (fun t k => XS.aloadN X2.here hx rfl (hb hby d8_9) rfl rfl  (XS.aloadN X2.here hx rfl (hb hby d8_10) rfl hr3  k)) ?_
  show own_Fin p e below _ (T2.setTop (mkF m 11 #[.val (.ref a1), .val r2, .val r3] [r3, (.ref a1)]))
  obtain ⟨T9, h9, X9, e9, W9, st9⟩ := putF X2 hx hZ hown (host := "") (Or.inl hw_43) Via.refl e2 f4 f5 (Or.inr ⟨hw_44, rfl, hnm⟩) hw_31 (ty := (.object "java/lang/Object")) (by decide) (own_nar hr3) (own_fit hr3) (g := (mkF m 11 #[.val (.ref a1), .val r2, .val r3] [r3, (.ref a1)])) rfl rfl (hb hby d8_11)
  have f10 := f6.other W9 (Or.inr (slot_ne (Or.inr hw_42) (Or.inr hw_44) (by decide) (t := (.object "java/lang/Object")) (t' := (.object "java/lang/Object")) (by decide) (by decide)))
  have f12 := f5.wr W9
  have f13 := f4.same W9
  have Zh14 : n0 ≤ h9.size := Nat.le_trans Zh7 (Nat.le_of_eq W9.size.symm)
  have N9 := Fr.snoc X9 N2 g_a1
  have K15 := K8.wr W9 (Or.inl (List.mem_of_getElem? (i := 0) rfl))
  refine own_go st9 ?_
  show own_Fin p e below _ (T9.setTop (mkF m 14 #[.val (.ref a1), .val r2, .val r3] []))
  exact own_out X9 (fun _ => rfl) Bd.notSynchronized (fun fs hr => X9.returnOut hx Bd.returns (hb hby d8_14) hr) (by rw [e9]; exact ⟨rfl, N9, K15, f12, f10, f13⟩) (by decide) (by decide)
theorem d9_0 : decode prog_6_method_4_code 0 = .ok (.aload_n 1, 1) := by decide +kernel
theorem d9_1 : decode prog_6_method_4_code 1 = .ok (.instanceof 8, 3) := by decide +kernel
theorem d9_4 : decode prog_6_method_4_code 4 = .ok (.ifCond .eq 34, 3) := by decide +kernel
theorem d9_7 : decode prog_6_method_4_code 7 = .ok (.aload_n 1, 1) := by decide +kernel
theorem d9_8 : decode prog_6_method_4_code 8 = .ok (.checkcast 8, 3) := by decide +kernel
theorem d9_11 : decode prog_6_method_4_code 11 = .ok (.astore_n 2, 1) := by decide +kernel
theorem d9_12 : decode prog_6_method_4_code 12 = .ok (.aload_n 0, 1) := by decide +kernel
theorem d9_13 : decode prog_6_method_4_code 13 = .ok (.getfield 7, 3) := by decide +kernel
theorem d9_16 : decode prog_6_method_4_code 16 = .ok (.aload_n 2, 1) := by decide +kernel
theorem d9_17 : decode prog_6_method_4_code 17 = .ok (.getfield 7, 3) := by decide +kernel
theorem d9_20 : decode prog_6_method_4_code 20 = .ok (.if_acmp .ne 18, 3) := by decide +kernel
theorem d9_23 : decode prog_6_method_4_code 23 = .ok (.aload_n 0, 1) := by decide +kernel
theorem d9_24 : decode prog_6_method_4_code 24 = .ok (.getfield 13, 3) := by decide +kernel
theorem d9_27 : decode prog_6_method_4_code 27 = .ok (.aload_n 2, 1) := by decide +kernel
theorem d9_28 : decode prog_6_method_4_code 28 = .ok (.getfield 13, 3) := by decide +kernel
theorem d9_31 : decode prog_6_method_4_code 31 = .ok (.if_acmp .ne 7, 3) := by decide +kernel
theorem d9_34 : decode prog_6_method_4_code 34 = .ok (.iconst 1, 1) := by decide +kernel
theorem d9_35 : decode prog_6_method_4_code 35 = .ok (.goto 4, 3) := by decide +kernel
theorem d9_38 : decode prog_6_method_4_code 38 = .ok (.iconst 0, 1) := by decide +kernel
theorem d9_39 : decode prog_6_method_4_code 39 = .ok (.ireturn, 1) := by decide +kernel
theorem ef_9p (m : MethodId) (x0 : Addr) (x1 : Addr)  : entryFrame m #[(.ref x0), (.ref x1)] 3 = mkF m 0 #[.val (.ref x0), .val (.ref x1), .unset] [] := by first | (simp [entryFrame, mkF, argsToLocals, Value.category]; done) | rfl
def own_eq_31 (a1 : Addr) (a2 : Addr) (r1 : Value) (r2 : Value) (r3 : Value) (r4 : Value) : Int32 := if r2 = r4 then (1 : Int32) else (0 : Int32)
def own_eq_20 (a1 : Addr) (a2 : Addr) (r1 : Value) (r2 : Value) (r3 : Value) (r4 : Value) : Int32 := if r1 = r3 then (own_eq_31 a1 a2 r1 r2 r3 r4) else (0 : Int32)
set_option maxRecDepth 65536 in
set_option maxHeartbeats 40000000 in
theorem rm9p (l : Launch) (Z : State) (a0 : Array Value) (hw : ∀ d ∈ tables_1, d.before a0 Z = true) (ws : List Jvm.Cond) (a1 : Addr) (a2 : Addr) (r1 : Value) (r2 : Value) (r3 : Value) (r4 : Value) (h0 : Heap) (n0 : Nat) (Z0 : n0 ≤ h0.size) (F1_a1 : Fld Z h0 a1 "com/example/honeyguide/honeyguide/document/IdentityPair" "first" "Ljava/lang/Object;" r1) (F2_a1 : Fld Z h0 a1 "com/example/honeyguide/honeyguide/document/IdentityPair" "second" "Ljava/lang/Object;" r2) (F1_a2 : Fld Z h0 a2 "com/example/honeyguide/honeyguide/document/IdentityPair" "first" "Ljava/lang/Object;" r3) (F2_a2 : Fld Z h0 a2 "com/example/honeyguide/honeyguide/document/IdentityPair" "second" "Ljava/lang/Object;" r4) (E_a2 : Exa Z h0 a2 "com/example/honeyguide/honeyguide/document/IdentityPair") (hr1 : r1.isRef = true) (hr2 : r2.isRef = true) (hr3 : r3.isRef = true) (hr4 : r4.isRef = true) :
    MetFree l (⟨"com/example/honeyguide/honeyguide/document/IdentityPair", "equals", "(Ljava/lang/Object;)Z"⟩ : MethodName) (head1 (Jvm.Cond.code (⟨"com/example/honeyguide/honeyguide/document/IdentityPair", "equals", "(Ljava/lang/Object;)Z"⟩ : MethodName) prog_6_method_4_code 3 (some .boolean) :: ws) ({ frames := 0, cells := 0, slots := 0, locals := 0 } : Room)) (fun a U => a = #[(.ref a1), (.ref a2)] ∧ Z.Warmed39 U.vm ∧ U.heap = h0) (fun _ _ _ _ _ => True) (fun _ U o U' => ∃ v L, o = .returned v ∧ (own_P h0 n0 (.int (own_eq_20 a1 a2 r1 r2 r3 r4))) v U'.heap L ∧ FrameEnd U o U' L ({ frames := 0, cells := 0, slots := 0, locals := 0 } : Room).cells ({ frames := 0, cells := 0, slots := 0, locals := 0 } : Room).slots) := by
  refine MetFree.of_bodySF (plainFor_of_name pn_1) hisR ?_
  intro p e s m args below meth c s₁ Bd hml0 hP hK
  obtain ⟨rfl, hZ, hh⟩ := hP
  have hx := Bd.exec
  have hby := Bd.bytes
  have hml : c.maxLocals = 3 := hml0
  have hown : s.vm.findClass "com/example/honeyguide/honeyguide/document/IdentityPair" = some m.cls := findClass_of_methodNamed Bd.named
  have hnm := (name_of_methodNamed Bd.named Bd.method).1
  have X0 : Stand p l e ({ frames := 0, cells := 0, slots := 0, locals := 0 } : Room) s m #[(.ref a1), (.ref a2)] below meth c s₁ [] 0 0 := Stand.of_body Bd
  have e0 : s₁.heap = h0 := by rw [← hh, Bd.state]; rfl
  have N0 := Fr.nil n0
  have hw_41 := hw _ (List.mem_of_getElem? (i := 41) rfl)
  have hw_43 := hw _ (List.mem_of_getElem? (i := 43) rfl)
  have hw_50 := hw _ (List.mem_of_getElem? (i := 50) rfl)
  show own_Fin p e below (own_A s ({ frames := 0, cells := 0, slots := 0, locals := 0 } : Room).cells ({ frames := 0, cells := 0, slots := 0, locals := 0 } : Room).slots (own_P h0 n0 (.int (own_eq_20 a1 a2 r1 r2 r3 r4)))) _
  refine own_go (fun t k => castTop (ef_9p m (a1) (a2)) k) ?_
  show own_Fin p e below _ (s₁.setTop (mkF m 0 #[.val (.ref a1), .val (.ref a2), .unset] []))
  refine own_go (fun t k => XS.aloadN X0.here hx rfl (hb hby d9_0) rfl rfl  k) ?_
  show own_Fin p e below _ (s₁.setTop (mkF m 1 #[.val (.ref a1), .val (.ref a2), .unset] [(.ref a2)]))
  obtain ⟨T1, X1, e1, st1⟩ := instY X0 hx hZ hown hw_50 e0 (Ins.self E_a2) (g := (mkF m 1 #[.val (.ref a1), .val (.ref a2), .unset] [(.ref a2)])) rfl rfl (hb hby d9_1)
  refine own_go st1 ?_
  show own_Fin p e below _ (T1.setTop (mkF m 4 #[.val (.ref a1), .val (.ref a2), .unset] [(.int (1 : Int32))]))
  refine own_go (fun t k => XS.ifNo X1.here hx rfl (hb hby d9_4) rfl ((if0 _ _).trans (feq (by decide : ¬ ((1 : Int32) = (0 : Int32)))).1) (XS.aloadN X1.here hx rfl (hb hby d9_7) rfl rfl  k)) ?_
  show own_Fin p e below _ (T1.setTop (mkF m 8 #[.val (.ref a1), .val (.ref a2), .unset] [(.ref a2)]))
  obtain ⟨T2, X2, e2, st2⟩ := castY X1 hx hZ hown hw_50 e1 (Ins.self E_a2) (g := (mkF m 8 #[.val (.ref a1), .val (.ref a2), .unset] [(.ref a2)])) rfl rfl (hb hby d9_8)
  refine own_go st2 ?_
  show own_Fin p e below _ (T2.setTop (mkF m 11 #[.val (.ref a1), .val (.ref a2), .unset] [(.ref a2)]))
  refine own_go (fun t k => XS.astoreN X2.here hx rfl (hb hby d9_11) rfl rfl (l' := #[.val (.ref a1), .val (.ref a2), .val (.ref a2)]) rfl (XS.aloadN X2.here hx rfl (hb hby d9_12) rfl rfl  k)) ?_
  show own_Fin p e below _ (T2.setTop (mkF m 13 #[.val (.ref a1), .val (.ref a2), .val (.ref a2)] [(.ref a1)]))
  obtain ⟨T3, X3, e3, st3⟩ := getF X2 hx hZ hown (host := "") (Or.inl hw_41) Via.refl e2 F1_a1 (g := (mkF m 13 #[.val (.ref a1), .val (.ref a2), .val (.ref a2)] [(.ref a1)])) rfl rfl (hb hby d9_13)
  refine own_go st3 ?_
  show own_Fin p e below _ (T3.setTop (mkF m 16 #[.val (.ref a1), .val (.ref a2), .val (.ref a2)] [r1]))
  refine own_go (fun t k => XS.aloadN X3.here hx rfl (hb hby d9_16) rfl rfl  k) ?_
  show own_Fin p e below _ (T3.setTop (mkF m 17 #[.val (.ref a1), .val (.ref a2), .val (.ref a2)] [(.ref a2), r1]))
  obtain ⟨T4, X4, e4, st4⟩ := getF X3 hx hZ hown (host := "") (Or.inl hw_41) Via.refl e3 F1_a2 (g := (mkF m 17 #[.val (.ref a1), .val (.ref a2), .val (.ref a2)] [(.ref a2), r1])) rfl rfl (hb hby d9_17)
  refine own_go st4 ?_
  show own_Fin p e below _ (T4.setTop (mkF m 20 #[.val (.ref a1), .val (.ref a2), .val (.ref a2)] [r3, r1]))
  by_cases hc5 : r1 = r3
  · skip
    rw [(show (own_eq_20 a1 a2 r1 r2 r3 r4) = (own_eq_31 a1 a2 r1 r2 r3 r4) from if_pos hc5)]
    refine own_go (fun t k => Jvm.RoadKit.acmp (g := (mkF m 20 #[.val (.ref a1), .val (.ref a2), .val (.ref a2)] [r3, r1])) X4 hx rfl hr1 hr3 (pc0 := 20) (pc' := 23) (same := true) rfl (hb hby d9_20) rfl (decide_eq_true hc5) (by decide) (by decide) (XS.aloadN X4.here hx rfl (hb hby d9_23) rfl rfl  k)) ?_
    show own_Fin p e below _ (T4.setTop (mkF m 24 #[.val (.ref a1), .val (.ref a2), .val (.ref a2)] [(.ref a1)]))
    obtain ⟨T6, X6, e6, st6⟩ := getF X4 hx hZ hown (host := "") (Or.inl hw_43) Via.refl e4 F2_a1 (g := (mkF m 24 #[.val (.ref a1), .val (.ref a2), .val (.ref a2)] [(.ref a1)])) rfl rfl (hb hby d9_24)
    refine own_go st6 ?_
    show own_Fin p e below _ (T6.setTop (mkF m 27 #[.val (.ref a1), .val (.ref a2), .val (.ref a2)] [r2]))
    refine own_go (fun t k => XS.aloadN X6.here hx rfl (hb hby d9_27) rfl rfl  k) ?_
    show own_Fin p e below _ (T6.setTop (mkF m 28 #[.val (.ref a1), .val (.ref a2), .val (.ref a2)] [(.ref a2), r2]))
    obtain ⟨T7, X7, e7, st7⟩ := getF X6 hx hZ hown (host := "") (Or.inl hw_43) Via.refl e6 F2_a2 (g := (mkF m 28 #[.val (.ref a1), .val (.ref a2), .val (.ref a2)] [(.ref a2), r2])) rfl rfl (hb hby d9_28)
    refine own_go st7 ?_
    show own_Fin p e below _ (T7.setTop (mkF m 31 #[.val (.ref a1), .val (.ref a2), .val (.ref a2)] [r4, r2]))
    by_cases hc8 : r2 = r4
    · skip
      rw [(show (own_eq_31 a1 a2 r1 r2 r3 r4) = (1 : Int32) from if_pos hc8)]
      refine own_go (fun t k => Jvm.RoadKit.acmp (g := (mkF m 31 #[.val (.ref a1), .val (.ref a2), .val (.ref a2)] [r4, r2])) X7 hx rfl hr2 hr4 (pc0 := 31) (pc' := 34) (same := true) rfl (hb hby d9_31) rfl (decide_eq_true hc8) (by decide) (by decide) (XS.iconst X7.here hx rfl (hb hby d9_34) (XS.goto X7.here hx rfl (pc0 := 35) (pc' := 39) rfl (hb hby d9_35) (by decide) (by decide) k))) ?_
      show own_Fin p e below _ (T7.setTop (mkF m 39 #[.val (.ref a1), .val (.ref a2), .val (.ref a2)] [(.int (1 : Int32))]))
      exact own_out X7 (fun h => by rw [Bd.returns] at h; cases h) Bd.notSynchronized (fun fs hr => retN X7 hx (t := .boolean) Bd.returns (by simp) (hb hby d9_39) hr) ⟨rfl, N0, e7⟩ (by decide) (by decide)
    · skip
      rw [(show (own_eq_31 a1 a2 r1 r2 r3 r4) = (0 : Int32) from if_neg hc8)]
      refine own_go (fun t k => Jvm.RoadKit.acmp (g := (mkF m 31 #[.val (.ref a1), .val (.ref a2), .val (.ref a2)] [r4, r2])) X7 hx rfl hr2 hr4 (pc0 := 31) (pc' := 38) (same := false) rfl (hb hby d9_31) rfl (decide_eq_false hc8) (by decide) (by decide) (XS.iconst X7.here hx rfl (hb hby d9_38) k)) ?_
      show own_Fin p e below _ (T7.setTop (mkF m 39 #[.val (.ref a1), .val (.ref a2), .val (.ref a2)] [(.int (0 : Int32))]))
      exact own_out X7 (fun h => by rw [Bd.returns] at h; cases h) Bd.notSynchronized (fun fs hr => retN X7 hx (t := .boolean) Bd.returns (by simp) (hb hby d9_39) hr) ⟨rfl, N0, e7⟩ (by decide) (by decide)
  · skip
    rw [(show (own_eq_20 a1 a2 r1 r2 r3 r4) = (0 : Int32) from if_neg hc5)]
    refine own_go (fun t k => Jvm.RoadKit.acmp (g := (mkF m 20 #[.val (.ref a1), .val (.ref a2), .val (.ref a2)] [r3, r1])) X4 hx rfl hr1 hr3 (pc0 := 20) (pc' := 38) (same := false) rfl (hb hby d9_20) rfl (decide_eq_false hc5) (by decide) (by decide) (XS.iconst X4.here hx rfl (hb hby d9_38) k)) ?_
    show own_Fin p e below _ (T4.setTop (mkF m 39 #[.val (.ref a1), .val (.ref a2), .val (.ref a2)] [(.int (0 : Int32))]))
    exact own_out X4 (fun h => by rw [Bd.returns] at h; cases h) Bd.notSynchronized (fun fs hr => retN X4 hx (t := .boolean) Bd.returns (by simp) (hb hby d9_39) hr) ⟨rfl, N0, e4⟩ (by decide) (by decide)
theorem ef_9s (m : MethodId) (x0 : Addr) (x1 : Addr)  : entryFrame m #[(.ref x0), (.ref x1)] 3 = mkF m 0 #[.val (.ref x0), .val (.ref x1), .unset] [] := by first | (simp [entryFrame, mkF, argsToLocals, Value.category]; done) | rfl
set_option maxRecDepth 65536 in
set_option maxHeartbeats 40000000 in
theorem rm9s (l : Launch) (Z : State) (a0 : Array Value) (hw : ∀ d ∈ tables_1, d.before a0 Z = true) (ws : List Jvm.Cond) (a1 : Addr) (a2 : Addr) (h0 : Heap) (n0 : Nat) (Z0 : n0 ≤ h0.size) (E_a2 : Exa Z h0 a2 "java/lang/String") :
    MetFree l (⟨"com/example/honeyguide/honeyguide/document/IdentityPair", "equals", "(Ljava/lang/Object;)Z"⟩ : MethodName) (head1 (Jvm.Cond.code (⟨"com/example/honeyguide/honeyguide/document/IdentityPair", "equals", "(Ljava/lang/Object;)Z"⟩ : MethodName) prog_6_method_4_code 3 (some .boolean) :: ws) ({ frames := 0, cells := 0, slots := 0, locals := 0 } : Room)) (fun a U => a = #[(.ref a1), (.ref a2)] ∧ Z.Warmed39 U.vm ∧ U.heap = h0) (fun _ _ _ _ _ => True) (fun _ U o U' => ∃ v L, o = .returned v ∧ (own_P h0 n0 (.int (0 : Int32))) v U'.heap L ∧ FrameEnd U o U' L ({ frames := 0, cells := 0, slots := 0, locals := 0 } : Room).cells ({ frames := 0, cells := 0, slots := 0, locals := 0 } : Room).slots) := by
  refine MetFree.of_bodySF (plainFor_of_name pn_1) hisR ?_
  intro p e s m args below meth c s₁ Bd hml0 hP hK
  obtain ⟨rfl, hZ, hh⟩ := hP
  have hx := Bd.exec
  have hby := Bd.bytes
  have hml : c.maxLocals = 3 := hml0
  have hown : s.vm.findClass "com/example/honeyguide/honeyguide/document/IdentityPair" = some m.cls := findClass_of_methodNamed Bd.named
  have hnm := (name_of_methodNamed Bd.named Bd.method).1
  have X0 : Stand p l e ({ frames := 0, cells := 0, slots := 0, locals := 0 } : Room) s m #[(.ref a1), (.ref a2)] below meth c s₁ [] 0 0 := Stand.of_body Bd
  have e0 : s₁.heap = h0 := by rw [← hh, Bd.state]; rfl
  have N0 := Fr.nil n0
  have hw_31 := hw _ (List.mem_of_getElem? (i := 31) rfl)
  have hw_50 := hw _ (List.mem_of_getElem? (i := 50) rfl)
  have hw_52 := hw _ (List.mem_of_getElem? (i := 52) rfl)
  have hw_53 := hw _ (List.mem_of_getElem? (i := 53) rfl)
  show own_Fin p e below (own_A s ({ frames := 0, cells := 0, slots := 0, locals := 0 } : Room).cells ({ frames := 0, cells := 0, slots := 0, locals := 0 } : Room).slots (own_P h0 n0 (.int (0 : Int32)))) _
  refine own_go (fun t k => castTop (ef_9s m (a1) (a2)) k) ?_
  show own_Fin p e below _ (s₁.setTop (mkF m 0 #[.val (.ref a1), .val (.ref a2), .unset] []))
  refine own_go (fun t k => XS.aloadN X0.here hx rfl (hb hby d9_0) rfl rfl  k) ?_
  show own_Fin p e below _ (s₁.setTop (mkF m 1 #[.val (.ref a1), .val (.ref a2), .unset] [(.ref a2)]))
  obtain ⟨T1, X1, e1, st1⟩ := instNo X0 hx hZ hown hw_50 e0 E_a2 (own_no hw_52 hw_53 hw_31) (g := (mkF m 1 #[.val (.ref a1), .val (.ref a2), .unset] [(.ref a2)])) rfl rfl (hb hby d9_1)
  refine own_go st1 ?_
  show own_Fin p e below _ (T1.setTop (mkF m 4 #[.val (.ref a1), .val (.ref a2), .unset] [(.int (0 : Int32))]))
  refine own_go (fun t k => XS.ifYes X1.here hx rfl (pc0 := 4) (pc' := 38) rfl (hb hby d9_4) rfl ((if0 _ _).trans (teq (by decide : (0 : Int32) = (0 : Int32))).1) (by decide) (by decide) (XS.iconst X1.here hx rfl (hb hby d9_38) k)) ?_
  show own_Fin p e below _ (T1.setTop (mkF m 39 #[.val (.ref a1), .val (.ref a2), .unset] [(.int (0 : Int32))]))
  exact own_out X1 (fun h => by rw [Bd.returns] at h; cases h) Bd.notSynchronized (fun fs hr => retN X1 hx (t := .boolean) Bd.returns (by simp) (hb hby d9_39) hr) ⟨rfl, N0, e1⟩ (by decide) (by decide)
theorem ef_9n (m : MethodId) (x0 : Addr)  : entryFrame m #[(.ref x0), .null] 3 = mkF m 0 #[.val (.ref x0), .val .null, .unset] [] := by first | (simp [entryFrame, mkF, argsToLocals, Value.category]; done) | rfl
set_option maxRecDepth 65536 in
set_option maxHeartbeats 40000000 in
theorem rm9n (l : Launch) (Z : State) (a0 : Array Value) (hw : ∀ d ∈ tables_1, d.before a0 Z = true) (ws : List Jvm.Cond) (a1 : Addr) (h0 : Heap) (n0 : Nat) (Z0 : n0 ≤ h0.size) :
    MetFree l (⟨"com/example/honeyguide/honeyguide/document/IdentityPair", "equals", "(Ljava/lang/Object;)Z"⟩ : MethodName) (head1 (Jvm.Cond.code (⟨"com/example/honeyguide/honeyguide/document/IdentityPair", "equals", "(Ljava/lang/Object;)Z"⟩ : MethodName) prog_6_method_4_code 3 (some .boolean) :: ws) ({ frames := 0, cells := 0, slots := 0, locals := 0 } : Room)) (fun a U => a = #[(.ref a1), .null] ∧ Z.Warmed39 U.vm ∧ U.heap = h0) (fun _ _ _ _ _ => True) (fun _ U o U' => ∃ v L, o = .returned v ∧ (own_P h0 n0 (.int (0 : Int32))) v U'.heap L ∧ FrameEnd U o U' L ({ frames := 0, cells := 0, slots := 0, locals := 0 } : Room).cells ({ frames := 0, cells := 0, slots := 0, locals := 0 } : Room).slots) := by
  refine MetFree.of_bodySF (plainFor_of_name pn_1) hisR ?_
  intro p e s m args below meth c s₁ Bd hml0 hP hK
  obtain ⟨rfl, hZ, hh⟩ := hP
  have hx := Bd.exec
  have hby := Bd.bytes
  have hml : c.maxLocals = 3 := hml0
  have hown : s.vm.findClass "com/example/honeyguide/honeyguide/document/IdentityPair" = some m.cls := findClass_of_methodNamed Bd.named
  have hnm := (name_of_methodNamed Bd.named Bd.method).1
  have X0 : Stand p l e ({ frames := 0, cells := 0, slots := 0, locals := 0 } : Room) s m #[(.ref a1), .null] below meth c s₁ [] 0 0 := Stand.of_body Bd
  have e0 : s₁.heap = h0 := by rw [← hh, Bd.state]; rfl
  have N0 := Fr.nil n0
  show own_Fin p e below (own_A s ({ frames := 0, cells := 0, slots := 0, locals := 0 } : Room).cells ({ frames := 0, cells := 0, slots := 0, locals := 0 } : Room).slots (own_P h0 n0 (.int (0 : Int32)))) _
  refine own_go (fun t k => castTop (ef_9n m (a1)) k) ?_
  show own_Fin p e below _ (s₁.setTop (mkF m 0 #[.val (.ref a1), .val .null, .unset] []))
  refine own_go (fun t k => XS.aloadN X0.here hx rfl (hb hby d9_0) rfl rfl  k) ?_
  show own_Fin p e below _ (s₁.setTop (mkF m 1 #[.val (.ref a1), .val .null, .unset] [.null]))
  refine own_go (fun t k => X0.instanceofNull hx (g := (mkF m 1 #[.val (.ref a1), .val .null, .unset] [.null])) rfl rfl (hb hby d9_1) _ k) ?_
  show own_Fin p e below _ (s₁.setTop (mkF m 4 #[.val (.ref a1), .val .null, .unset] [(.int (0 : Int32))]))
  refine own_go (fun t k => XS.ifYes X0.here hx rfl (pc0 := 4) (pc' := 38) rfl (hb hby d9_4) rfl ((if0 _ _).trans (teq (by decide : (0 : Int32) = (0 : Int32))).1) (by decide) (by decide) (XS.iconst X0.here hx rfl (hb hby d9_38) k)) ?_
  show own_Fin p e below _ (s₁.setTop (mkF m 39 #[.val (.ref a1), .val .null, .unset] [(.int (0 : Int32))]))
  exact own_out X0 (fun h => by rw [Bd.returns] at h; cases h) Bd.notSynchronized (fun fs hr => retN X0 hx (t := .boolean) Bd.returns (by simp) (hb hby d9_39) hr) ⟨rfl, N0, e0⟩ (by decide) (by decide)
theorem own_ch (x : Int32) : ¬ nar .char ((x &&& (255 : Int32)).toUInt32.toUInt16.toUInt32.toInt32) < 0 ∧ ¬ (255 : Int32) < nar .char ((x &&& (255 : Int32)).toUInt32.toUInt16.toUInt32.toInt32) := by
  have e : nar .char ((x &&& (255 : Int32)).toUInt32.toUInt16.toUInt32.toInt32) = x &&& 255 := by
    rw [i2c_mask]
    show (x &&& 255).toUInt32.toUInt16.toUInt32.toInt32 = _
    rw [i2c_mask]
  rw [e]
  have a := c_mask x 255 8 (by decide) (by decide)
  have e0 : (0 : Int32).toInt = 0 := rfl
  have e1 : (255 : Int32).toInt = 255 := rfl
  simp only [Int32.lt_iff_toInt_lt]
  omega
theorem own_m3 (x : Int32) : 0 ≤ (x &&& (3 : Int32)).toInt ∧ (x &&& (3 : Int32)).toInt < 4 := by
  have a := c_mask x 3 2 (by decide) (by decide)
  omega
theorem own_pkR (k : Int32) (a b c : Addr) : (own_pk_1 k a b c).isRef = true := by
  unfold own_pk_1 own_pk_8 own_pk_15
  repeat' split
  all_goals rfl
theorem own_pkC (k : Int32) (a b c : Addr) : (own_pk_1 k a b c).category = 1 := by rcases ref_cases (own_pkR k a b c) with q | ⟨_, q⟩ <;> rw [q] <;> rfl
theorem own_pki {k : Int32} (h : 0 ≤ k.toInt ∧ k.toInt < 4) : k = (0 : Int32) ∨ k = (1 : Int32) ∨ k = (2 : Int32) ∨ k = (3 : Int32) := by
  have e0 : (0 : Int32).toInt = 0 := rfl
  have e1 : (1 : Int32).toInt = 1 := rfl
  have e2 : (2 : Int32).toInt = 2 := rfl
  have e3 : (3 : Int32).toInt = 3 := rfl
  simp only [← Int32.toInt_inj]
  omega
theorem own_pkn {i k : Int32} {a b c : Addr} (hi : 0 ≤ i.toInt ∧ i.toInt < 4) (hk : 0 ≤ k.toInt ∧ k.toInt < 4) (ab : a ≠ b) (ac : a ≠ c) (bc : b ≠ c) (h : ¬ i = k) : ¬ own_pk_1 i a b c = own_pk_1 k a b c := by
  have v0 : own_pk_1 0 a b c = .ref a := rfl
  have v1 : own_pk_1 1 a b c = .ref b := rfl
  have v2 : own_pk_1 2 a b c = .ref c := rfl
  have v3 : own_pk_1 3 a b c = .null := rfl
  rcases own_pki hi with rfl | rfl | rfl | rfl <;> rcases own_pki hk with rfl | rfl | rfl | rfl <;> simp only [v0, v1, v2, v3] <;> first | exact absurd rfl h | (intro q; cases q; first | exact ab rfl | exact ac rfl | exact bc rfl) | nofun
theorem own_s (x y : Addr) (r1 r2 : Value) : own_eq_20 x y r1 r2 r1 r2 = (1 : Int32) := by
  rw [(show own_eq_20 x y r1 r2 r1 r2 = own_eq_31 x y r1 r2 r1 r2 from if_pos rfl)]; exact if_pos rfl
theorem own_y {x y : Addr} {i j k l : Int32} {a b c : Addr} (h1 : i = k) (h2 : j = l) : own_eq_20 x y (own_pk_1 i a b c) (own_pk_1 j a b c) (own_pk_1 k a b c) (own_pk_1 l a b c) = (1 : Int32) := by
  subst h1 h2; exact own_s _ _ _ _
theorem own_n1 {x y : Addr} {i k : Int32} {r2 r4 : Value} {a b c : Addr} (hi : 0 ≤ i.toInt ∧ i.toInt < 4) (hk : 0 ≤ k.toInt ∧ k.toInt < 4) (ab : a ≠ b) (ac : a ≠ c) (bc : b ≠ c) (h : ¬ i = k) : own_eq_20 x y (own_pk_1 i a b c) r2 (own_pk_1 k a b c) r4 = (0 : Int32) := if_neg (own_pkn hi hk ab ac bc h)
theorem own_n2 {x y : Addr} {j l : Int32} {r1 r3 : Value} {a b c : Addr} (hi : 0 ≤ j.toInt ∧ j.toInt < 4) (hk : 0 ≤ l.toInt ∧ l.toInt < 4) (ab : a ≠ b) (ac : a ≠ c) (bc : b ≠ c) (h : ¬ j = l) : own_eq_20 x y r1 (own_pk_1 j a b c) r3 (own_pk_1 l a b c) = (0 : Int32) := by
  by_cases q : r1 = r3
  · rw [(show own_eq_20 x y r1 (own_pk_1 j a b c) r3 (own_pk_1 l a b c) = own_eq_31 x y r1 (own_pk_1 j a b c) r3 (own_pk_1 l a b c) from if_pos q)]; exact if_neg (own_pkn hi hk ab ac bc h)
  · exact if_neg q

theorem pd_0 : parseMethodDescriptor "([C)V" = some ⟨[(.array .char)], none⟩ := by decide +kernel
theorem pd_1 : parseMethodDescriptor "(ILjava/lang/Object;Ljava/lang/Object;Ljava/lang/Object;)Ljava/lang/Object;" = some ⟨[.int, (.object "java/lang/Object"), (.object "java/lang/Object"), (.object "java/lang/Object")], some (.object "java/lang/Object")⟩ := by decide +kernel
theorem pd_2 : parseMethodDescriptor "(Ljava/lang/Object;Ljava/lang/Object;)V" = some ⟨[(.object "java/lang/Object"), (.object "java/lang/Object")], none⟩ := by decide +kernel
theorem pd_3 : parseMethodDescriptor "(Ljava/lang/Object;)Z" = some ⟨[(.object "java/lang/Object")], some .boolean⟩ := by decide +kernel
theorem ef_0 (m : MethodId) (x0 : Int32) (x1 : Int32)  : entryFrame m #[(.int x0), (.int x1)] maxLocals = mkF m 0 #[.val (.int x0), .val (.int x1), .unset, .unset, .unset, .unset, .unset, .unset, .unset, .unset, .unset, .unset, .unset, .unset, .unset, .unset, .unset] [] := by first | (simp [entryFrame, mkF, argsToLocals, Value.category, maxLocals]; done) | rfl
def own_q0 (Z : State) (p1 : Int32) (p2 : Int32) (G1 : Int32) (h0 : Heap) (n0 : Nat) (v : Option Value) (h : Heap) (L : List Loc) : Prop := v = some (.int (1 : Int32)) ∧ Fr n0 L
set_option maxRecDepth 65536 in
set_option maxHeartbeats 40000000 in
theorem rm0 (l : Launch) (Z : State) (a0 : Array Value) (hw : ∀ d ∈ tables_1, d.before a0 Z = true) (ws : List Jvm.Cond) (p1 : Int32) (p2 : Int32) (G1 : Int32) (h0 : Heap) (n0 : Nat) (Z0 : n0 ≤ h0.size) (S_c : Sta Z Z.heap "java/lang/String" "COMPACT_STRINGS" "Z" (.int G1)) (hG : ¬ G1 = (0 : Int32)) (X00 : Old Z n0 h0) (hws : ∀ d ∈ StrChars.Road.words, d.before a0 Z = true) :
    MetFree l x (head1 (Jvm.Cond.code x code maxLocals ret :: ws) room_1) (fun a U => a = #[(.int p1), (.int p2)] ∧ Z.Warmed39 U.vm ∧ U.heap = h0) (fun _ _ _ _ _ => True) (fun _ U o U' => ∃ v L, o = .returned v ∧ (own_q0 Z p1 p2 G1 h0 n0) v U'.heap L ∧ FrameEnd U o U' L room_1.cells room_1.slots) := by
  refine MetFree.of_bodySF (plainFor_of_name pn_0) hisR ?_
  intro p e s m args below meth c s₁ Bd hml0 hP hK
  obtain ⟨rfl, hZ, hh⟩ := hP
  have hx := Bd.exec
  have hby := Bd.bytes
  have hml : c.maxLocals = 17 := hml0
  have hown : s.vm.findClass "com/example/honeyguide/honeyguide/document/IdentityPairEqualsPinLaw" = some m.cls := findClass_of_methodNamed Bd.named
  have hnm := (name_of_methodNamed Bd.named Bd.method).1
  have X0 : Stand p l e room_1 s m #[(.int p1), (.int p2)] below meth c s₁ [] 0 0 := Stand.of_body Bd
  have e0 : s₁.heap = h0 := by rw [← hh, Bd.state]; rfl
  have N0 := Fr.nil n0
  have hw_0 := hw _ (List.mem_of_getElem? (i := 0) rfl)
  have hw_1 := hw _ (List.mem_of_getElem? (i := 1) rfl)
  have hw_2 := hw _ (List.mem_of_getElem? (i := 2) rfl)
  have hw_3 := hw _ (List.mem_of_getElem? (i := 3) rfl)
  have hw_4 := hw _ (List.mem_of_getElem? (i := 4) rfl)
  have hw_5 := hw _ (List.mem_of_getElem? (i := 5) rfl)
  have hw_6 := hw _ (List.mem_of_getElem? (i := 6) rfl)
  have hw_27 := hw _ (List.mem_of_getElem? (i := 27) rfl)
  have hw_29 := hw _ (List.mem_of_getElem? (i := 29) rfl)
  have hw_30 := hw _ (List.mem_of_getElem? (i := 30) rfl)
  have hw_31 := hw _ (List.mem_of_getElem? (i := 31) rfl)
  have hw_32 := hw _ (List.mem_of_getElem? (i := 32) rfl)
  have hw_33 := hw _ (List.mem_of_getElem? (i := 33) rfl)
  have hw_34 := hw _ (List.mem_of_getElem? (i := 34) rfl)
  have hw_35 := hw _ (List.mem_of_getElem? (i := 35) rfl)
  have hw_36 := hw _ (List.mem_of_getElem? (i := 36) rfl)
  have hw_37 := hw _ (List.mem_of_getElem? (i := 37) rfl)
  have hw_38 := hw _ (List.mem_of_getElem? (i := 38) rfl)
  have hw_39 := hw _ (List.mem_of_getElem? (i := 39) rfl)
  have hw_42 := hw _ (List.mem_of_getElem? (i := 42) rfl)
  have hw_44 := hw _ (List.mem_of_getElem? (i := 44) rfl)
  have hw_45 := hw _ (List.mem_of_getElem? (i := 45) rfl)
  have hw_46 := hw _ (List.mem_of_getElem? (i := 46) rfl)
  have hw_47 := hw _ (List.mem_of_getElem? (i := 47) rfl)
  have hw_48 := hw _ (List.mem_of_getElem? (i := 48) rfl)
  have hw_49 := hw _ (List.mem_of_getElem? (i := 49) rfl)
  show own_Fin p e below (own_A s room_1.cells room_1.slots (own_q0 Z p1 p2 G1 h0 n0)) _
  refine own_go (fun t k => castTop (ef_0 m (p1) (p2)) k) ?_
  show own_Fin p e below _ (s₁.setTop (mkF m 0 #[.val (.int p1), .val (.int p2), .unset, .unset, .unset, .unset, .unset, .unset, .unset, .unset, .unset, .unset, .unset, .unset, .unset, .unset, .unset] []))
  refine own_go (fun t k => XS.iconst X0.here hx rfl (hb hby at_0) k) ?_
  show own_Fin p e below _ (s₁.setTop (mkF m 1 #[.val (.int p1), .val (.int p2), .unset, .unset, .unset, .unset, .unset, .unset, .unset, .unset, .unset, .unset, .unset, .unset, .unset, .unset, .unset] [(.int (1 : Int32))]))
  obtain ⟨T1, h1, k1, X1, e1, E1, A1, st1⟩ := newP (aty := .char) X0 hx hZ hw_0 e0 (g := (mkF m 1 #[.val (.int p1), .val (.int p2), .unset, .unset, .unset, .unset, .unset, .unset, .unset, .unset, .unset, .unset, .unset, .unset, .unset, .unset, .unset] [(.int (1 : Int32))])) rfl (hb hby at_1) rfl (by decide) (cap := 1) (by decide) (by decide) (by decide) (by decide)
  obtain ⟨b1, g1⟩ : ∃ z, z = h0.size := ⟨_, rfl⟩
  rw [← g1] at A1 st1
  have g_b1 : n0 ≤ b1 := Nat.le_trans Z0 (Nat.le_of_eq g1.symm)
  have f2 := X00.ext E1
  have Zh3 : n0 ≤ h1.size := Nat.le_trans Z0 E1.1
  have V1 : Arv Z h1 b1 k1 .char (1 : Int32) [(.int (0 : Int32))] (.int (0 : Int32)) := (Arv.new A1 (by decide)).pad (pad_rep [] (.int (0 : Int32)) 1)
  refine own_go st1 ?_
  show own_Fin p e below _ (T1.setTop (mkF m 3 #[.val (.int p1), .val (.int p2), .unset, .unset, .unset, .unset, .unset, .unset, .unset, .unset, .unset, .unset, .unset, .unset, .unset, .unset, .unset] [(.ref b1)]))
  refine own_go (fun t k => XS.dup X1.here hx rfl (hb hby at_3) rfl rfl (XS.iconst X1.here hx rfl (hb hby at_4) (XS.iloadN X1.here hx rfl (hb hby at_5) rfl  (XS.sipush X1.here hx rfl (hb hby at_6) k)))) ?_
  show own_Fin p e below _ (T1.setTop (mkF m 9 #[.val (.int p1), .val (.int p2), .unset, .unset, .unset, .unset, .unset, .unset, .unset, .unset, .unset, .unset, .unset, .unset, .unset, .unset, .unset] [(.int (255 : Int32)), (.int p2), (.int (0 : Int32)), (.ref b1), (.ref b1)]))
  refine own_go (fun t k => XS.iand X1.here hx rfl (hb hby at_9) rfl (XS.i2c X1.here hx rfl (hb hby at_10) rfl k)) ?_
  show own_Fin p e below _ (T1.setTop (mkF m 11 #[.val (.int p1), .val (.int p2), .unset, .unset, .unset, .unset, .unset, .unset, .unset, .unset, .unset, .unset, .unset, .unset, .unset, .unset, .unset] [(.int ((p2 &&& (255 : Int32)).toUInt32.toUInt16.toUInt32.toInt32)), (.int (0 : Int32)), (.ref b1), (.ref b1)]))
  obtain ⟨cl4, Ar4, q4, S4, M4, H4, G4⟩ := (id V1)
  have hin4 : ¬ ((0 : Int32) < 0 ∨ cl4.slots.size ≤ ((0 : Int32)).toNatClampNeg) := inb_of S4 ⟨by decide, by decide⟩
  obtain ⟨T4, h4, X4, e4, W4, st4⟩ := stC X1 hx hZ e1 Ar4 (j := (0 : Int32)) hin4 (g := (mkF m 11 #[.val (.int p1), .val (.int p2), .unset, .unset, .unset, .unset, .unset, .unset, .unset, .unset, .unset, .unset, .unset, .unset, .unset, .unset, .unset] [(.int ((p2 &&& (255 : Int32)).toUInt32.toUInt16.toUInt32.toInt32)), (.int (0 : Int32)), (.ref b1), (.ref b1)])) rfl rfl (hb hby at_11)
  have f5 := f2.wr W4 g_b1
  have V4 := Arv.set Ar4 q4 S4 M4 H4 G4 (fits_nar_char _) W4 0 rfl (Nat.le_of_ble_eq_true rfl)
  have f7 : Arv Z h4 b1 k1 .char (1 : Int32) [(.int (nar .char ((p2 &&& (255 : Int32)).toUInt32.toUInt16.toUInt32.toInt32)))] (.int (0 : Int32)) := V4
  have Zh8 : n0 ≤ h4.size := Nat.le_trans Zh3 (Nat.le_of_eq W4.size.symm)
  have N4 := Fr.snoc X4 N0 g_b1
  refine own_go st4 ?_
  show own_Fin p e below _ (T4.setTop (mkF m 12 #[.val (.int p1), .val (.int p2), .unset, .unset, .unset, .unset, .unset, .unset, .unset, .unset, .unset, .unset, .unset, .unset, .unset, .unset, .unset] [(.ref b1)]))
  refine own_go (fun t k => XS.astoreN X4.here hx rfl (hb hby at_12) rfl rfl (l' := #[.val (.int p1), .val (.int p2), .val (.ref b1), .unset, .unset, .unset, .unset, .unset, .unset, .unset, .unset, .unset, .unset, .unset, .unset, .unset, .unset]) rfl (XS.iconst X4.here hx rfl (hb hby at_13) k)) ?_
  show own_Fin p e below _ (T4.setTop (mkF m 14 #[.val (.int p1), .val (.int p2), .val (.ref b1), .unset, .unset, .unset, .unset, .unset, .unset, .unset, .unset, .unset, .unset, .unset, .unset, .unset, .unset] [(.int (1 : Int32))]))
  obtain ⟨T9, h9, k9, X9, e9, E9, A9, st9⟩ := newP (aty := .char) X4 hx hZ hw_0 e4 (g := (mkF m 14 #[.val (.int p1), .val (.int p2), .val (.ref b1), .unset, .unset, .unset, .unset, .unset, .unset, .unset, .unset, .unset, .unset, .unset, .unset, .unset, .unset] [(.int (1 : Int32))])) rfl (hb hby at_14) rfl (by decide) (cap := 1) (by decide) (by decide) (by decide) (by decide)
  obtain ⟨b9, g9⟩ : ∃ z, z = h4.size := ⟨_, rfl⟩
  rw [← g9] at A9 st9
  have g_b9 : n0 ≤ b9 := Nat.le_trans Zh8 (Nat.le_of_eq g9.symm)
  have ne10 : b1 ≠ b9 := Nat.ne_of_lt (Nat.lt_of_lt_of_le f7.lt (Nat.le_of_eq g9.symm))
  have f11 := f5.ext E9
  have f12 := f7.ext E9
  have Zh13 : n0 ≤ h9.size := Nat.le_trans Zh8 E9.1
  have V9 : Arv Z h9 b9 k9 .char (1 : Int32) [(.int (0 : Int32))] (.int (0 : Int32)) := (Arv.new A9 (by decide)).pad (pad_rep [] (.int (0 : Int32)) 1)
  refine own_go st9 ?_
  show own_Fin p e below _ (T9.setTop (mkF m 16 #[.val (.int p1), .val (.int p2), .val (.ref b1), .unset, .unset, .unset, .unset, .unset, .unset, .unset, .unset, .unset, .unset, .unset, .unset, .unset, .unset] [(.ref b9)]))
  refine own_go (fun t k => XS.dup X9.here hx rfl (hb hby at_16) rfl rfl (XS.iconst X9.here hx rfl (hb hby at_17) (XS.iloadN X9.here hx rfl (hb hby at_18) rfl  (XS.sipush X9.here hx rfl (hb hby at_19) k)))) ?_
  show own_Fin p e below _ (T9.setTop (mkF m 22 #[.val (.int p1), .val (.int p2), .val (.ref b1), .unset, .unset, .unset, .unset, .unset, .unset, .unset, .unset, .unset, .unset, .unset, .unset, .unset, .unset] [(.int (255 : Int32)), (.int p2), (.int (0 : Int32)), (.ref b9), (.ref b9)]))
  refine own_go (fun t k => XS.iand X9.here hx rfl (hb hby at_22) rfl (XS.i2c X9.here hx rfl (hb hby at_23) rfl k)) ?_
  show own_Fin p e below _ (T9.setTop (mkF m 24 #[.val (.int p1), .val (.int p2), .val (.ref b1), .unset, .unset, .unset, .unset, .unset, .unset, .unset, .unset, .unset, .unset, .unset, .unset, .unset, .unset] [(.int ((p2 &&& (255 : Int32)).toUInt32.toUInt16.toUInt32.toInt32)), (.int (0 : Int32)), (.ref b9), (.ref b9)]))
  obtain ⟨cl14, Ar14, q14, S14, M14, H14, G14⟩ := (id V9)
  have hin14 : ¬ ((0 : Int32) < 0 ∨ cl14.slots.size ≤ ((0 : Int32)).toNatClampNeg) := inb_of S14 ⟨by decide, by decide⟩
  obtain ⟨T14, h14, X14, e14, W14, st14⟩ := stC X9 hx hZ e9 Ar14 (j := (0 : Int32)) hin14 (g := (mkF m 24 #[.val (.int p1), .val (.int p2), .val (.ref b1), .unset, .unset, .unset, .unset, .unset, .unset, .unset, .unset, .unset, .unset, .unset, .unset, .unset, .unset] [(.int ((p2 &&& (255 : Int32)).toUInt32.toUInt16.toUInt32.toInt32)), (.int (0 : Int32)), (.ref b9), (.ref b9)])) rfl rfl (hb hby at_24)
  have f15 := f11.wr W14 g_b9
  have f16 := f12.other W14 ne10
  have V14 := Arv.set Ar14 q14 S14 M14 H14 G14 (fits_nar_char _) W14 0 rfl (Nat.le_of_ble_eq_true rfl)
  have f18 : Arv Z h14 b9 k9 .char (1 : Int32) [(.int (nar .char ((p2 &&& (255 : Int32)).toUInt32.toUInt16.toUInt32.toInt32)))] (.int (0 : Int32)) := V14
  have Zh19 : n0 ≤ h14.size := Nat.le_trans Zh13 (Nat.le_of_eq W14.size.symm)
  have N14 := Fr.snoc X14 N4 g_b9
  refine own_go st14 ?_
  show own_Fin p e below _ (T14.setTop (mkF m 25 #[.val (.int p1), .val (.int p2), .val (.ref b1), .unset, .unset, .unset, .unset, .unset, .unset, .unset, .unset, .unset, .unset, .unset, .unset, .unset, .unset] [(.ref b9)]))
  refine own_go (fun t k => XS.astoreN X14.here hx rfl (hb hby at_25) rfl rfl (l' := #[.val (.int p1), .val (.int p2), .val (.ref b1), .val (.ref b9), .unset, .unset, .unset, .unset, .unset, .unset, .unset, .unset, .unset, .unset, .unset, .unset, .unset]) rfl (XS.iconst X14.here hx rfl (hb hby at_26) k)) ?_
  show own_Fin p e below _ (T14.setTop (mkF m 27 #[.val (.int p1), .val (.int p2), .val (.ref b1), .val (.ref b9), .unset, .unset, .unset, .unset, .unset, .unset, .unset, .unset, .unset, .unset, .unset, .unset, .unset] [(.int (1 : Int32))]))
  obtain ⟨T20, h20, k20, X20, e20, E20, A20, st20⟩ := newP (aty := .char) X14 hx hZ hw_0 e14 (g := (mkF m 27 #[.val (.int p1), .val (.int p2), .val (.ref b1), .val (.ref b9), .unset, .unset, .unset, .unset, .unset, .unset, .unset, .unset, .unset, .unset, .unset, .unset, .unset] [(.int (1 : Int32))])) rfl (hb hby at_27) rfl (by decide) (cap := 1) (by decide) (by decide) (by decide) (by decide)
  obtain ⟨b20, g20⟩ : ∃ z, z = h14.size := ⟨_, rfl⟩
  rw [← g20] at A20 st20
  have g_b20 : n0 ≤ b20 := Nat.le_trans Zh19 (Nat.le_of_eq g20.symm)
  have ne21 : b1 ≠ b20 := Nat.ne_of_lt (Nat.lt_of_lt_of_le f16.lt (Nat.le_of_eq g20.symm))
  have ne22 : b9 ≠ b20 := Nat.ne_of_lt (Nat.lt_of_lt_of_le f18.lt (Nat.le_of_eq g20.symm))
  have f23 := f15.ext E20
  have f24 := f16.ext E20
  have f25 := f18.ext E20
  have Zh26 : n0 ≤ h20.size := Nat.le_trans Zh19 E20.1
  have V20 : Arv Z h20 b20 k20 .char (1 : Int32) [(.int (0 : Int32))] (.int (0 : Int32)) := (Arv.new A20 (by decide)).pad (pad_rep [] (.int (0 : Int32)) 1)
  refine own_go st20 ?_
  show own_Fin p e below _ (T20.setTop (mkF m 29 #[.val (.int p1), .val (.int p2), .val (.ref b1), .val (.ref b9), .unset, .unset, .unset, .unset, .unset, .unset, .unset, .unset, .unset, .unset, .unset, .unset, .unset] [(.ref b20)]))
  refine own_go (fun t k => XS.dup X20.here hx rfl (hb hby at_29) rfl rfl (XS.iconst X20.here hx rfl (hb hby at_30) (XS.iloadN X20.here hx rfl (hb hby at_31) rfl  (XS.bipush X20.here hx rfl (hb hby at_32) k)))) ?_
  show own_Fin p e below _ (T20.setTop (mkF m 34 #[.val (.int p1), .val (.int p2), .val (.ref b1), .val (.ref b9), .unset, .unset, .unset, .unset, .unset, .unset, .unset, .unset, .unset, .unset, .unset, .unset, .unset] [(.int (8 : Int32)), (.int p2), (.int (0 : Int32)), (.ref b20), (.ref b20)]))
  refine own_go (fun t k => XS.iushr X20.here hx rfl (hb hby at_34) rfl (XS.sipush X20.here hx rfl (hb hby at_35) (XS.iand X20.here hx rfl (hb hby at_38) rfl (XS.i2c X20.here hx rfl (hb hby at_39) rfl k)))) ?_
  show own_Fin p e below _ (T20.setTop (mkF m 40 #[.val (.int p1), .val (.int p2), .val (.ref b1), .val (.ref b9), .unset, .unset, .unset, .unset, .unset, .unset, .unset, .unset, .unset, .unset, .unset, .unset, .unset] [(.int ((((p2.toUInt32 >>> ((8 : Int32) &&& 31).toUInt32).toInt32) &&& (255 : Int32)).toUInt32.toUInt16.toUInt32.toInt32)), (.int (0 : Int32)), (.ref b20), (.ref b20)]))
  obtain ⟨cl27, Ar27, q27, S27, M27, H27, G27⟩ := (id V20)
  have hin27 : ¬ ((0 : Int32) < 0 ∨ cl27.slots.size ≤ ((0 : Int32)).toNatClampNeg) := inb_of S27 ⟨by decide, by decide⟩
  obtain ⟨T27, h27, X27, e27, W27, st27⟩ := stC X20 hx hZ e20 Ar27 (j := (0 : Int32)) hin27 (g := (mkF m 40 #[.val (.int p1), .val (.int p2), .val (.ref b1), .val (.ref b9), .unset, .unset, .unset, .unset, .unset, .unset, .unset, .unset, .unset, .unset, .unset, .unset, .unset] [(.int ((((p2.toUInt32 >>> ((8 : Int32) &&& 31).toUInt32).toInt32) &&& (255 : Int32)).toUInt32.toUInt16.toUInt32.toInt32)), (.int (0 : Int32)), (.ref b20), (.ref b20)])) rfl rfl (hb hby at_40)
  have f28 := f23.wr W27 g_b20
  have f29 := f24.other W27 ne21
  have f30 := f25.other W27 ne22
  have V27 := Arv.set Ar27 q27 S27 M27 H27 G27 (fits_nar_char _) W27 0 rfl (Nat.le_of_ble_eq_true rfl)
  have f32 : Arv Z h27 b20 k20 .char (1 : Int32) [(.int (nar .char ((((p2.toUInt32 >>> ((8 : Int32) &&& 31).toUInt32).toInt32) &&& (255 : Int32)).toUInt32.toUInt16.toUInt32.toInt32)))] (.int (0 : Int32)) := V27
  have Zh33 : n0 ≤ h27.size := Nat.le_trans Zh26 (Nat.le_of_eq W27.size.symm)
  have N27 := Fr.snoc X27 N14 g_b20
  refine own_go st27 ?_
  show own_Fin p e below _ (T27.setTop (mkF m 41 #[.val (.int p1), .val (.int p2), .val (.ref b1), .val (.ref b9), .unset, .unset, .unset, .unset, .unset, .unset, .unset, .unset, .unset, .unset, .unset, .unset, .unset] [(.ref b20)]))
  refine own_go (fun t k => XS.astore X27.here hx rfl (hb hby at_41) rfl rfl (l' := #[.val (.int p1), .val (.int p2), .val (.ref b1), .val (.ref b9), .val (.ref b20), .unset, .unset, .unset, .unset, .unset, .unset, .unset, .unset, .unset, .unset, .unset, .unset]) rfl k) ?_
  show own_Fin p e below _ (T27.setTop (mkF m 43 #[.val (.int p1), .val (.int p2), .val (.ref b1), .val (.ref b9), .val (.ref b20), .unset, .unset, .unset, .unset, .unset, .unset, .unset, .unset, .unset, .unset, .unset, .unset] []))
  obtain ⟨T34, h34, X34, e34, E34, A34, D34, -, st34⟩ := newO X27 hx hZ hown hw_1 hw_2 hw_3 e27 (g := (mkF m 43 #[.val (.int p1), .val (.int p2), .val (.ref b1), .val (.ref b9), .val (.ref b20), .unset, .unset, .unset, .unset, .unset, .unset, .unset, .unset, .unset, .unset, .unset, .unset] [])) rfl (hb hby at_43) (by decide) (by decide)
  obtain ⟨b34, g34⟩ : ∃ z, z = h27.size := ⟨_, rfl⟩
  rw [← g34] at A34 D34 st34
  have g_b34 : n0 ≤ b34 := Nat.le_trans Zh33 (Nat.le_of_eq g34.symm)
  have ne35 : b1 ≠ b34 := Nat.ne_of_lt (Nat.lt_of_lt_of_le f29.lt (Nat.le_of_eq g34.symm))
  have ne36 : b9 ≠ b34 := Nat.ne_of_lt (Nat.lt_of_lt_of_le f30.lt (Nat.le_of_eq g34.symm))
  have ne37 : b20 ≠ b34 := Nat.ne_of_lt (Nat.lt_of_lt_of_le f32.lt (Nat.le_of_eq g34.symm))
  have f38 := f28.ext E34
  have f39 := f29.ext E34
  have f40 := f30.ext E34
  have f41 := f32.ext E34
  have Zh42 : n0 ≤ h34.size := Nat.le_trans Zh33 E34.1
  have f43 : Fld Z h34 b34 "java/lang/String" "coder" "B" (.int (0 : Int32)) := D34 (Or.inr hw_27) (ty := .byte) (by decide)
  have f44 : Fld Z h34 b34 "java/lang/String" "value" "[B" .null := D34 (Or.inr hw_29) (ty := (.array .byte)) (by decide)
  refine own_go st34 ?_
  show own_Fin p e below _ (T34.setTop (mkF m 46 #[.val (.int p1), .val (.int p2), .val (.ref b1), .val (.ref b9), .val (.ref b20), .unset, .unset, .unset, .unset, .unset, .unset, .unset, .unset, .unset, .unset, .unset, .unset] [(.ref b34)]))
  refine own_go (fun t k => XS.dup X34.here hx rfl (hb hby at_46) rfl rfl (XS.aloadN X34.here hx rfl (hb hby at_47) rfl rfl  k)) ?_
  show own_Fin p e below _ (T34.setTop (mkF m 48 #[.val (.int p1), .val (.int p2), .val (.ref b1), .val (.ref b9), .val (.ref b20), .unset, .unset, .unset, .unset, .unset, .unset, .unset, .unset, .unset, .unset, .unset, .unset] [(.ref b1), (.ref b34), (.ref b34)]))
  have hp45 : ∀ c ∈ ([(nar .char ((p2 &&& (255 : Int32)).toUInt32.toUInt16.toUInt32.toInt32))] : List Int32), ¬ c < 0 ∧ ¬ (255 : Int32) < c := fun c hc => by cases List.mem_singleton.mp hc; exact own_ch _
  obtain ⟨_, _, ⟨T45, L45, k45, n45⟩, -, X45, ⟨Lc45, hQ45, l45, y45, z45⟩, st45⟩ := X34.specialBack hx (y := (⟨"java/lang/String", "<init>", "([C)V"⟩ : MethodName)) rfl hown (mvT hZ hw_4) (mvT hZ hw_5) (mvT hZ hw_6) (by decide) (StrChars.Road.backV (W := 1) hZ hws (kI := 4) hw_2 (cs := ([(nar .char ((p2 &&& (255 : Int32)).toUInt32.toUInt16.toUInt32.toInt32))] : List Int32)) (bs := ([(nar .char ((p2 &&& (255 : Int32)).toUInt32.toUInt16.toUInt32.toInt32))] : List Int32).map (fun c => c.toInt8.toInt32)) (n := 1) g_b34 Zh42 A34 f44 f43 f39 (S_c.ext f38.2) hG rfl rfl (by decide) (by decide) hp45 rfl (by decide) (by decide)) (g := (mkF m 48 #[.val (.int p1), .val (.int p2), .val (.ref b1), .val (.ref b9), .val (.ref b20), .unset, .unset, .unset, .unset, .unset, .unset, .unset, .unset, .unset, .unset, .unset, .unset] [(.ref b1), (.ref b34), (.ref b34)])) rfl (by rw [hml]; rfl) (Steps.refl _) (a := b34) (argsL := [(.ref b1)]) (rest := [(.ref b34)]) (lenOf pd_0 rfl) rfl (by show 2 * 0 + _ ≤ _; exact Nat.le_of_eq rfl) (hb hby at_48) (fun _ _ => ⟨rfl, e34, (by decide : 4 + 1 ≤ _), (by decide : 7 + 1 ≤ _)⟩)
  dsimp only [Pt.U, Pt.locs, Pt.cells, Pt.slots] at X45 l45 y45 z45 st45 hQ45
  subst l45 y45 z45
  obtain ⟨rfl, N45q, K45, xe45, xc45, t45, kb45, tu45, tv45, tw45, xv45, xa45⟩ := hQ45
  have N45 := Fr.app N27 N45q
  have f46 := f38.keep K45 (allS g_b34 all0)
  have f47 := f39.keep K45 (ninS ne35 nin0)
  have f48 := f40.keep K45 (ninS ne36 nin0)
  have f49 := f41.keep K45 (ninS ne37 nin0)
  have Zh52 : n0 ≤ T45.heap.size := Nat.le_trans Zh42 K45.1
  refine own_go (fun t k => st45.trans k) ?_
  show own_Fin p e below _ (T45.setTop (mkF m 51 #[.val (.int p1), .val (.int p2), .val (.ref b1), .val (.ref b9), .val (.ref b20), .unset, .unset, .unset, .unset, .unset, .unset, .unset, .unset, .unset, .unset, .unset, .unset] [(.ref b34)]))
  refine own_go (fun t k => XS.astore X45.here hx rfl (hb hby at_51) rfl rfl (l' := #[.val (.int p1), .val (.int p2), .val (.ref b1), .val (.ref b9), .val (.ref b20), .val (.ref b34), .unset, .unset, .unset, .unset, .unset, .unset, .unset, .unset, .unset, .unset, .unset]) rfl k) ?_
  show own_Fin p e below _ (T45.setTop (mkF m 53 #[.val (.int p1), .val (.int p2), .val (.ref b1), .val (.ref b9), .val (.ref b20), .val (.ref b34), .unset, .unset, .unset, .unset, .unset, .unset, .unset, .unset, .unset, .unset, .unset] []))
  obtain ⟨T53, h53, X53, e53, E53, A53, D53, -, st53⟩ := newO X45 hx hZ hown hw_1 hw_2 hw_3 rfl (g := (mkF m 53 #[.val (.int p1), .val (.int p2), .val (.ref b1), .val (.ref b9), .val (.ref b20), .val (.ref b34), .unset, .unset, .unset, .unset, .unset, .unset, .unset, .unset, .unset, .unset, .unset] [])) rfl (hb hby at_53) (by decide) (by decide)
  obtain ⟨b53, g53⟩ : ∃ z, z = T45.heap.size := ⟨_, rfl⟩
  rw [← g53] at A53 D53 st53
  have g_b53 : n0 ≤ b53 := Nat.le_trans Zh52 (Nat.le_of_eq g53.symm)
  have ne54 : b1 ≠ b53 := Nat.ne_of_lt (Nat.lt_of_lt_of_le f47.lt (Nat.le_of_eq g53.symm))
  have ne55 : b9 ≠ b53 := Nat.ne_of_lt (Nat.lt_of_lt_of_le f48.lt (Nat.le_of_eq g53.symm))
  have ne56 : b20 ≠ b53 := Nat.ne_of_lt (Nat.lt_of_lt_of_le f49.lt (Nat.le_of_eq g53.symm))
  have ne57 : b34 ≠ b53 := Nat.ne_of_lt (Nat.lt_of_lt_of_le xe45.lt (Nat.le_of_eq g53.symm))
  have f58 := f46.ext E53
  have f59 := f47.ext E53
  have f60 := f48.ext E53
  have f61 := f49.ext E53
  have f62 := xe45.ext E53
  have Zh63 : n0 ≤ h53.size := Nat.le_trans Zh52 E53.1
  have f64 : Fld Z h53 b53 "java/lang/String" "coder" "B" (.int (0 : Int32)) := D53 (Or.inr hw_27) (ty := .byte) (by decide)
  have f65 : Fld Z h53 b53 "java/lang/String" "value" "[B" .null := D53 (Or.inr hw_29) (ty := (.array .byte)) (by decide)
  refine own_go st53 ?_
  show own_Fin p e below _ (T53.setTop (mkF m 56 #[.val (.int p1), .val (.int p2), .val (.ref b1), .val (.ref b9), .val (.ref b20), .val (.ref b34), .unset, .unset, .unset, .unset, .unset, .unset, .unset, .unset, .unset, .unset, .unset] [(.ref b53)]))
  refine own_go (fun t k => XS.dup X53.here hx rfl (hb hby at_56) rfl rfl (XS.aloadN X53.here hx rfl (hb hby at_57) rfl rfl  k)) ?_
  show own_Fin p e below _ (T53.setTop (mkF m 58 #[.val (.int p1), .val (.int p2), .val (.ref b1), .val (.ref b9), .val (.ref b20), .val (.ref b34), .unset, .unset, .unset, .unset, .unset, .unset, .unset, .unset, .unset, .unset, .unset] [(.ref b9), (.ref b53), (.ref b53)]))
  have hp66 : ∀ c ∈ ([(nar .char ((p2 &&& (255 : Int32)).toUInt32.toUInt16.toUInt32.toInt32))] : List Int32), ¬ c < 0 ∧ ¬ (255 : Int32) < c := fun c hc => by cases List.mem_singleton.mp hc; exact own_ch _
  obtain ⟨_, _, ⟨T66, L66, k66, n66⟩, -, X66, ⟨Lc66, hQ66, l66, y66, z66⟩, st66⟩ := X53.specialBack hx (y := (⟨"java/lang/String", "<init>", "([C)V"⟩ : MethodName)) rfl hown (mvT hZ hw_4) (mvT hZ hw_5) (mvT hZ hw_6) (by decide) (StrChars.Road.backV (W := 1) hZ hws (kI := 4) hw_2 (cs := ([(nar .char ((p2 &&& (255 : Int32)).toUInt32.toUInt16.toUInt32.toInt32))] : List Int32)) (bs := ([(nar .char ((p2 &&& (255 : Int32)).toUInt32.toUInt16.toUInt32.toInt32))] : List Int32).map (fun c => c.toInt8.toInt32)) (n := 1) g_b53 Zh63 A53 f65 f64 f60 (S_c.ext f58.2) hG rfl rfl (by decide) (by decide) hp66 rfl (by decide) (by decide)) (g := (mkF m 58 #[.val (.int p1), .val (.int p2), .val (.ref b1), .val (.ref b9), .val (.ref b20), .val (.ref b34), .unset, .unset, .unset, .unset, .unset, .unset, .unset, .unset, .unset, .unset, .unset] [(.ref b9), (.ref b53), (.ref b53)])) rfl (by rw [hml]; rfl) (Steps.refl _) (a := b53) (argsL := [(.ref b9)]) (rest := [(.ref b53)]) (lenOf pd_0 rfl) rfl (by show 2 * 0 + _ ≤ _; exact Nat.le_of_eq rfl) (hb hby at_58) (fun _ _ => ⟨rfl, e53, (by decide : 6 + 1 ≤ _), (by decide : 12 + 1 ≤ _)⟩)
  dsimp only [Pt.U, Pt.locs, Pt.cells, Pt.slots] at X66 l66 y66 z66 st66 hQ66
  subst l66 y66 z66
  obtain ⟨rfl, N66q, K66, xe66, xc66, t66, kb66, tu66, tv66, tw66, xv66, xa66⟩ := hQ66
  have N66 := Fr.app N45 N66q
  have f67 := f58.keep K66 (allS g_b53 all0)
  have f68 := f59.keep K66 (ninS ne54 nin0)
  have f69 := f60.keep K66 (ninS ne55 nin0)
  have f70 := f61.keep K66 (ninS ne56 nin0)
  have f71 := f62.keep K66
  have Zh74 : n0 ≤ T66.heap.size := Nat.le_trans Zh63 K66.1
  refine own_go (fun t k => st66.trans k) ?_
  show own_Fin p e below _ (T66.setTop (mkF m 61 #[.val (.int p1), .val (.int p2), .val (.ref b1), .val (.ref b9), .val (.ref b20), .val (.ref b34), .unset, .unset, .unset, .unset, .unset, .unset, .unset, .unset, .unset, .unset, .unset] [(.ref b53)]))
  refine own_go (fun t k => XS.astore X66.here hx rfl (hb hby at_61) rfl rfl (l' := #[.val (.int p1), .val (.int p2), .val (.ref b1), .val (.ref b9), .val (.ref b20), .val (.ref b34), .val (.ref b53), .unset, .unset, .unset, .unset, .unset, .unset, .unset, .unset, .unset, .unset]) rfl k) ?_
  show own_Fin p e below _ (T66.setTop (mkF m 63 #[.val (.int p1), .val (.int p2), .val (.ref b1), .val (.ref b9), .val (.ref b20), .val (.ref b34), .val (.ref b53), .unset, .unset, .unset, .unset, .unset, .unset, .unset, .unset, .unset, .unset] []))
  obtain ⟨T75, h75, X75, e75, E75, A75, D75, -, st75⟩ := newO X66 hx hZ hown hw_1 hw_2 hw_3 rfl (g := (mkF m 63 #[.val (.int p1), .val (.int p2), .val (.ref b1), .val (.ref b9), .val (.ref b20), .val (.ref b34), .val (.ref b53), .unset, .unset, .unset, .unset, .unset, .unset, .unset, .unset, .unset, .unset] [])) rfl (hb hby at_63) (by decide) (by decide)
  obtain ⟨b75, g75⟩ : ∃ z, z = T66.heap.size := ⟨_, rfl⟩
  rw [← g75] at A75 D75 st75
  have g_b75 : n0 ≤ b75 := Nat.le_trans Zh74 (Nat.le_of_eq g75.symm)
  have ne76 : b1 ≠ b75 := Nat.ne_of_lt (Nat.lt_of_lt_of_le f68.lt (Nat.le_of_eq g75.symm))
  have ne77 : b9 ≠ b75 := Nat.ne_of_lt (Nat.lt_of_lt_of_le f69.lt (Nat.le_of_eq g75.symm))
  have ne78 : b20 ≠ b75 := Nat.ne_of_lt (Nat.lt_of_lt_of_le f70.lt (Nat.le_of_eq g75.symm))
  have ne79 : b34 ≠ b75 := Nat.ne_of_lt (Nat.lt_of_lt_of_le f71.lt (Nat.le_of_eq g75.symm))
  have ne80 : b53 ≠ b75 := Nat.ne_of_lt (Nat.lt_of_lt_of_le xe66.lt (Nat.le_of_eq g75.symm))
  have f81 := f67.ext E75
  have f82 := f68.ext E75
  have f83 := f69.ext E75
  have f84 := f70.ext E75
  have f85 := f71.ext E75
  have f86 := xe66.ext E75
  have Zh87 : n0 ≤ h75.size := Nat.le_trans Zh74 E75.1
  have f88 : Fld Z h75 b75 "java/lang/String" "coder" "B" (.int (0 : Int32)) := D75 (Or.inr hw_27) (ty := .byte) (by decide)
  have f89 : Fld Z h75 b75 "java/lang/String" "value" "[B" .null := D75 (Or.inr hw_29) (ty := (.array .byte)) (by decide)
  refine own_go st75 ?_
  show own_Fin p e below _ (T75.setTop (mkF m 66 #[.val (.int p1), .val (.int p2), .val (.ref b1), .val (.ref b9), .val (.ref b20), .val (.ref b34), .val (.ref b53), .unset, .unset, .unset, .unset, .unset, .unset, .unset, .unset, .unset, .unset] [(.ref b75)]))
  refine own_go (fun t k => XS.dup X75.here hx rfl (hb hby at_66) rfl rfl (XS.aload X75.here hx rfl (hb hby at_67) rfl rfl  k)) ?_
  show own_Fin p e below _ (T75.setTop (mkF m 69 #[.val (.int p1), .val (.int p2), .val (.ref b1), .val (.ref b9), .val (.ref b20), .val (.ref b34), .val (.ref b53), .unset, .unset, .unset, .unset, .unset, .unset, .unset, .unset, .unset, .unset] [(.ref b20), (.ref b75), (.ref b75)]))
  have hp90 : ∀ c ∈ ([(nar .char ((((p2.toUInt32 >>> ((8 : Int32) &&& 31).toUInt32).toInt32) &&& (255 : Int32)).toUInt32.toUInt16.toUInt32.toInt32))] : List Int32), ¬ c < 0 ∧ ¬ (255 : Int32) < c := fun c hc => by cases List.mem_singleton.mp hc; exact own_ch _
  obtain ⟨_, _, ⟨T90, L90, k90, n90⟩, -, X90, ⟨Lc90, hQ90, l90, y90, z90⟩, st90⟩ := X75.specialBack hx (y := (⟨"java/lang/String", "<init>", "([C)V"⟩ : MethodName)) rfl hown (mvT hZ hw_4) (mvT hZ hw_5) (mvT hZ hw_6) (by decide) (StrChars.Road.backV (W := 1) hZ hws (kI := 4) hw_2 (cs := ([(nar .char ((((p2.toUInt32 >>> ((8 : Int32) &&& 31).toUInt32).toInt32) &&& (255 : Int32)).toUInt32.toUInt16.toUInt32.toInt32))] : List Int32)) (bs := ([(nar .char ((((p2.toUInt32 >>> ((8 : Int32) &&& 31).toUInt32).toInt32) &&& (255 : Int32)).toUInt32.toUInt16.toUInt32.toInt32))] : List Int32).map (fun c => c.toInt8.toInt32)) (n := 1) g_b75 Zh87 A75 f89 f88 f84 (S_c.ext f81.2) hG rfl rfl (by decide) (by decide) hp90 rfl (by decide) (by decide)) (g := (mkF m 69 #[.val (.int p1), .val (.int p2), .val (.ref b1), .val (.ref b9), .val (.ref b20), .val (.ref b34), .val (.ref b53), .unset, .unset, .unset, .unset, .unset, .unset, .unset, .unset, .unset, .unset] [(.ref b20), (.ref b75), (.ref b75)])) rfl (by rw [hml]; rfl) (Steps.refl _) (a := b75) (argsL := [(.ref b20)]) (rest := [(.ref b75)]) (lenOf pd_0 rfl) rfl (by show 2 * 0 + _ ≤ _; exact Nat.le_of_eq rfl) (hb hby at_69) (fun _ _ => ⟨rfl, e75, (by decide : 8 + 1 ≤ _), (by decide : 17 + 1 ≤ _)⟩)
  dsimp only [Pt.U, Pt.locs, Pt.cells, Pt.slots] at X90 l90 y90 z90 st90 hQ90
  subst l90 y90 z90
  obtain ⟨rfl, N90q, K90, xe90, xc90, t90, kb90, tu90, tv90, tw90, xv90, xa90⟩ := hQ90
  have N90 := Fr.app N66 N90q
  have f91 := f81.keep K90 (allS g_b75 all0)
  have f92 := f82.keep K90 (ninS ne76 nin0)
  have f93 := f83.keep K90 (ninS ne77 nin0)
  have f94 := f84.keep K90 (ninS ne78 nin0)
  have f95 := f85.keep K90
  have f96 := f86.keep K90
  have Zh99 : n0 ≤ T90.heap.size := Nat.le_trans Zh87 K90.1
  refine own_go (fun t k => st90.trans k) ?_
  show own_Fin p e below _ (T90.setTop (mkF m 72 #[.val (.int p1), .val (.int p2), .val (.ref b1), .val (.ref b9), .val (.ref b20), .val (.ref b34), .val (.ref b53), .unset, .unset, .unset, .unset, .unset, .unset, .unset, .unset, .unset, .unset] [(.ref b75)]))
  refine own_go (fun t k => XS.astore X90.here hx rfl (hb hby at_72) rfl rfl (l' := #[.val (.int p1), .val (.int p2), .val (.ref b1), .val (.ref b9), .val (.ref b20), .val (.ref b34), .val (.ref b53), .val (.ref b75), .unset, .unset, .unset, .unset, .unset, .unset, .unset, .unset, .unset]) rfl (XS.iloadN X90.here hx rfl (hb hby at_74) rfl  (XS.iconst X90.here hx rfl (hb hby at_75) (XS.iand X90.here hx rfl (hb hby at_76) rfl k)))) ?_
  show own_Fin p e below _ (T90.setTop (mkF m 77 #[.val (.int p1), .val (.int p2), .val (.ref b1), .val (.ref b9), .val (.ref b20), .val (.ref b34), .val (.ref b53), .val (.ref b75), .unset, .unset, .unset, .unset, .unset, .unset, .unset, .unset, .unset] [(.int (p1 &&& (3 : Int32)))]))
  obtain ⟨ii, h_ii⟩ : ∃ z : Int32, z = (p1 &&& (3 : Int32)) := ⟨_, rfl⟩
  rw [← h_ii]
  show own_Fin p e below _ (T90.setTop (mkF m 77 #[.val (.int p1), .val (.int p2), .val (.ref b1), .val (.ref b9), .val (.ref b20), .val (.ref b34), .val (.ref b53), .val (.ref b75), .unset, .unset, .unset, .unset, .unset, .unset, .unset, .unset, .unset] [(.int ii)]))
  have r_ii : 0 ≤ ii.toInt ∧ ii.toInt < 4 := by rw [h_ii]; exact own_m3 _
  refine own_go (fun t k => XS.istore X90.here hx rfl (hb hby at_77) rfl (l' := #[.val (.int p1), .val (.int p2), .val (.ref b1), .val (.ref b9), .val (.ref b20), .val (.ref b34), .val (.ref b53), .val (.ref b75), .val (.int ii), .unset, .unset, .unset, .unset, .unset, .unset, .unset, .unset]) rfl (XS.iloadN X90.here hx rfl (hb hby at_79) rfl  (XS.iconst X90.here hx rfl (hb hby at_80) (XS.iushr X90.here hx rfl (hb hby at_81) rfl k)))) ?_
  show own_Fin p e below _ (T90.setTop (mkF m 82 #[.val (.int p1), .val (.int p2), .val (.ref b1), .val (.ref b9), .val (.ref b20), .val (.ref b34), .val (.ref b53), .val (.ref b75), .val (.int ii), .unset, .unset, .unset, .unset, .unset, .unset, .unset, .unset] [(.int ((p1.toUInt32 >>> ((2 : Int32) &&& 31).toUInt32).toInt32))]))
  refine own_go (fun t k => XS.iconst X90.here hx rfl (hb hby at_82) (XS.iand X90.here hx rfl (hb hby at_83) rfl k)) ?_
  show own_Fin p e below _ (T90.setTop (mkF m 84 #[.val (.int p1), .val (.int p2), .val (.ref b1), .val (.ref b9), .val (.ref b20), .val (.ref b34), .val (.ref b53), .val (.ref b75), .val (.int ii), .unset, .unset, .unset, .unset, .unset, .unset, .unset, .unset] [(.int (((p1.toUInt32 >>> ((2 : Int32) &&& 31).toUInt32).toInt32) &&& (3 : Int32)))]))
  obtain ⟨jj, h_jj⟩ : ∃ z : Int32, z = (((p1.toUInt32 >>> ((2 : Int32) &&& 31).toUInt32).toInt32) &&& (3 : Int32)) := ⟨_, rfl⟩
  rw [← h_jj]
  show own_Fin p e below _ (T90.setTop (mkF m 84 #[.val (.int p1), .val (.int p2), .val (.ref b1), .val (.ref b9), .val (.ref b20), .val (.ref b34), .val (.ref b53), .val (.ref b75), .val (.int ii), .unset, .unset, .unset, .unset, .unset, .unset, .unset, .unset] [(.int jj)]))
  have r_jj : 0 ≤ jj.toInt ∧ jj.toInt < 4 := by rw [h_jj]; exact own_m3 _
  refine own_go (fun t k => XS.istore X90.here hx rfl (hb hby at_84) rfl (l' := #[.val (.int p1), .val (.int p2), .val (.ref b1), .val (.ref b9), .val (.ref b20), .val (.ref b34), .val (.ref b53), .val (.ref b75), .val (.int ii), .val (.int jj), .unset, .unset, .unset, .unset, .unset, .unset, .unset]) rfl (XS.iloadN X90.here hx rfl (hb hby at_86) rfl  (XS.iconst X90.here hx rfl (hb hby at_87) (XS.iushr X90.here hx rfl (hb hby at_88) rfl k)))) ?_
  show own_Fin p e below _ (T90.setTop (mkF m 89 #[.val (.int p1), .val (.int p2), .val (.ref b1), .val (.ref b9), .val (.ref b20), .val (.ref b34), .val (.ref b53), .val (.ref b75), .val (.int ii), .val (.int jj), .unset, .unset, .unset, .unset, .unset, .unset, .unset] [(.int ((p1.toUInt32 >>> ((4 : Int32) &&& 31).toUInt32).toInt32))]))
  refine own_go (fun t k => XS.iconst X90.here hx rfl (hb hby at_89) (XS.iand X90.here hx rfl (hb hby at_90) rfl k)) ?_
  show own_Fin p e below _ (T90.setTop (mkF m 91 #[.val (.int p1), .val (.int p2), .val (.ref b1), .val (.ref b9), .val (.ref b20), .val (.ref b34), .val (.ref b53), .val (.ref b75), .val (.int ii), .val (.int jj), .unset, .unset, .unset, .unset, .unset, .unset, .unset] [(.int (((p1.toUInt32 >>> ((4 : Int32) &&& 31).toUInt32).toInt32) &&& (3 : Int32)))]))
  obtain ⟨kk, h_kk⟩ : ∃ z : Int32, z = (((p1.toUInt32 >>> ((4 : Int32) &&& 31).toUInt32).toInt32) &&& (3 : Int32)) := ⟨_, rfl⟩
  rw [← h_kk]
  show own_Fin p e below _ (T90.setTop (mkF m 91 #[.val (.int p1), .val (.int p2), .val (.ref b1), .val (.ref b9), .val (.ref b20), .val (.ref b34), .val (.ref b53), .val (.ref b75), .val (.int ii), .val (.int jj), .unset, .unset, .unset, .unset, .unset, .unset, .unset] [(.int kk)]))
  have r_kk : 0 ≤ kk.toInt ∧ kk.toInt < 4 := by rw [h_kk]; exact own_m3 _
  refine own_go (fun t k => XS.istore X90.here hx rfl (hb hby at_91) rfl (l' := #[.val (.int p1), .val (.int p2), .val (.ref b1), .val (.ref b9), .val (.ref b20), .val (.ref b34), .val (.ref b53), .val (.ref b75), .val (.int ii), .val (.int jj), .val (.int kk), .unset, .unset, .unset, .unset, .unset, .unset]) rfl (XS.iloadN X90.here hx rfl (hb hby at_93) rfl  (XS.bipush X90.here hx rfl (hb hby at_94) (XS.iushr X90.here hx rfl (hb hby at_96) rfl k)))) ?_
  show own_Fin p e below _ (T90.setTop (mkF m 97 #[.val (.int p1), .val (.int p2), .val (.ref b1), .val (.ref b9), .val (.ref b20), .val (.ref b34), .val (.ref b53), .val (.ref b75), .val (.int ii), .val (.int jj), .val (.int kk), .unset, .unset, .unset, .unset, .unset, .unset] [(.int ((p1.toUInt32 >>> ((6 : Int32) &&& 31).toUInt32).toInt32))]))
  refine own_go (fun t k => XS.iconst X90.here hx rfl (hb hby at_97) (XS.iand X90.here hx rfl (hb hby at_98) rfl k)) ?_
  show own_Fin p e below _ (T90.setTop (mkF m 99 #[.val (.int p1), .val (.int p2), .val (.ref b1), .val (.ref b9), .val (.ref b20), .val (.ref b34), .val (.ref b53), .val (.ref b75), .val (.int ii), .val (.int jj), .val (.int kk), .unset, .unset, .unset, .unset, .unset, .unset] [(.int (((p1.toUInt32 >>> ((6 : Int32) &&& 31).toUInt32).toInt32) &&& (3 : Int32)))]))
  obtain ⟨ll, h_ll⟩ : ∃ z : Int32, z = (((p1.toUInt32 >>> ((6 : Int32) &&& 31).toUInt32).toInt32) &&& (3 : Int32)) := ⟨_, rfl⟩
  rw [← h_ll]
  show own_Fin p e below _ (T90.setTop (mkF m 99 #[.val (.int p1), .val (.int p2), .val (.ref b1), .val (.ref b9), .val (.ref b20), .val (.ref b34), .val (.ref b53), .val (.ref b75), .val (.int ii), .val (.int jj), .val (.int kk), .unset, .unset, .unset, .unset, .unset, .unset] [(.int ll)]))
  have r_ll : 0 ≤ ll.toInt ∧ ll.toInt < 4 := by rw [h_ll]; exact own_m3 _
  refine own_go (fun t k => XS.istore X90.here hx rfl (hb hby at_99) rfl (l' := #[.val (.int p1), .val (.int p2), .val (.ref b1), .val (.ref b9), .val (.ref b20), .val (.ref b34), .val (.ref b53), .val (.ref b75), .val (.int ii), .val (.int jj), .val (.int kk), .val (.int ll), .unset, .unset, .unset, .unset, .unset]) rfl (XS.iloadN X90.here hx rfl (hb hby at_101) rfl  (XS.bipush X90.here hx rfl (hb hby at_102) (XS.iushr X90.here hx rfl (hb hby at_104) rfl k)))) ?_
  show own_Fin p e below _ (T90.setTop (mkF m 105 #[.val (.int p1), .val (.int p2), .val (.ref b1), .val (.ref b9), .val (.ref b20), .val (.ref b34), .val (.ref b53), .val (.ref b75), .val (.int ii), .val (.int jj), .val (.int kk), .val (.int ll), .unset, .unset, .unset, .unset, .unset] [(.int ((p1.toUInt32 >>> ((8 : Int32) &&& 31).toUInt32).toInt32))]))
  refine own_go (fun t k => XS.iconst X90.here hx rfl (hb hby at_105) (XS.iand X90.here hx rfl (hb hby at_106) rfl k)) ?_
  show own_Fin p e below _ (T90.setTop (mkF m 107 #[.val (.int p1), .val (.int p2), .val (.ref b1), .val (.ref b9), .val (.ref b20), .val (.ref b34), .val (.ref b53), .val (.ref b75), .val (.int ii), .val (.int jj), .val (.int kk), .val (.int ll), .unset, .unset, .unset, .unset, .unset] [(.int (((p1.toUInt32 >>> ((8 : Int32) &&& 31).toUInt32).toInt32) &&& (3 : Int32)))]))
  obtain ⟨kd, h_kd⟩ : ∃ z : Int32, z = (((p1.toUInt32 >>> ((8 : Int32) &&& 31).toUInt32).toInt32) &&& (3 : Int32)) := ⟨_, rfl⟩
  rw [← h_kd]
  show own_Fin p e below _ (T90.setTop (mkF m 107 #[.val (.int p1), .val (.int p2), .val (.ref b1), .val (.ref b9), .val (.ref b20), .val (.ref b34), .val (.ref b53), .val (.ref b75), .val (.int ii), .val (.int jj), .val (.int kk), .val (.int ll), .unset, .unset, .unset, .unset, .unset] [(.int kd)]))
  refine own_go (fun t k => XS.istore X90.here hx rfl (hb hby at_107) rfl (l' := #[.val (.int p1), .val (.int p2), .val (.ref b1), .val (.ref b9), .val (.ref b20), .val (.ref b34), .val (.ref b53), .val (.ref b75), .val (.int ii), .val (.int jj), .val (.int kk), .val (.int ll), .val (.int kd), .unset, .unset, .unset, .unset]) rfl k) ?_
  show own_Fin p e below _ (T90.setTop (mkF m 109 #[.val (.int p1), .val (.int p2), .val (.ref b1), .val (.ref b9), .val (.ref b20), .val (.ref b34), .val (.ref b53), .val (.ref b75), .val (.int ii), .val (.int jj), .val (.int kk), .val (.int ll), .val (.int kd), .unset, .unset, .unset, .unset] []))
  obtain ⟨T100, h100, X100, e100, E100, A100, D100, -, st100⟩ := newO X90 hx hZ hown hw_30 hw_31 hw_32 rfl (g := (mkF m 109 #[.val (.int p1), .val (.int p2), .val (.ref b1), .val (.ref b9), .val (.ref b20), .val (.ref b34), .val (.ref b53), .val (.ref b75), .val (.int ii), .val (.int jj), .val (.int kk), .val (.int ll), .val (.int kd), .unset, .unset, .unset, .unset] [])) rfl (hb hby at_109) (by decide) (by decide)
  obtain ⟨b100, g100⟩ : ∃ z, z = T90.heap.size := ⟨_, rfl⟩
  rw [← g100] at A100 D100 st100
  have g_b100 : n0 ≤ b100 := Nat.le_trans Zh99 (Nat.le_of_eq g100.symm)
  have ne101 : b1 ≠ b100 := Nat.ne_of_lt (Nat.lt_of_lt_of_le f92.lt (Nat.le_of_eq g100.symm))
  have ne102 : b9 ≠ b100 := Nat.ne_of_lt (Nat.lt_of_lt_of_le f93.lt (Nat.le_of_eq g100.symm))
  have ne103 : b20 ≠ b100 := Nat.ne_of_lt (Nat.lt_of_lt_of_le f94.lt (Nat.le_of_eq g100.symm))
  have ne104 : b34 ≠ b100 := Nat.ne_of_lt (Nat.lt_of_lt_of_le f95.lt (Nat.le_of_eq g100.symm))
  have ne105 : b53 ≠ b100 := Nat.ne_of_lt (Nat.lt_of_lt_of_le f96.lt (Nat.le_of_eq g100.symm))
  have ne106 : b75 ≠ b100 := Nat.ne_of_lt (Nat.lt_of_lt_of_le xe90.lt (Nat.le_of_eq g100.symm))
  have f107 := f91.ext E100
  have f108 := f92.ext E100
  have f109 := f93.ext E100
  have f110 := f94.ext E100
  have f111 := f95.ext E100
  have f112 := f96.ext E100
  have f113 := xe90.ext E100
  have Zh114 : n0 ≤ h100.size := Nat.le_trans Zh99 E100.1
  have f115 : Fld Z h100 b100 "com/example/honeyguide/honeyguide/document/IdentityPair" "first" "Ljava/lang/Object;" .null := D100 (Or.inr hw_42) (ty := (.object "java/lang/Object")) (by decide)
  have f116 : Fld Z h100 b100 "com/example/honeyguide/honeyguide/document/IdentityPair" "second" "Ljava/lang/Object;" .null := D100 (Or.inr hw_44) (ty := (.object "java/lang/Object")) (by decide)
  refine own_go st100 ?_
  show own_Fin p e below _ (T100.setTop (mkF m 112 #[.val (.int p1), .val (.int p2), .val (.ref b1), .val (.ref b9), .val (.ref b20), .val (.ref b34), .val (.ref b53), .val (.ref b75), .val (.int ii), .val (.int jj), .val (.int kk), .val (.int ll), .val (.int kd), .unset, .unset, .unset, .unset] [(.ref b100)]))
  refine own_go (fun t k => XS.dup X100.here hx rfl (hb hby at_112) rfl rfl (XS.iload X100.here hx rfl (hb hby at_113) rfl  (XS.aload X100.here hx rfl (hb hby at_115) rfl rfl  (XS.aload X100.here hx rfl (hb hby at_117) rfl rfl  k)))) ?_
  show own_Fin p e below _ (T100.setTop (mkF m 119 #[.val (.int p1), .val (.int p2), .val (.ref b1), .val (.ref b9), .val (.ref b20), .val (.ref b34), .val (.ref b53), .val (.ref b75), .val (.int ii), .val (.int jj), .val (.int kk), .val (.int ll), .val (.int kd), .unset, .unset, .unset, .unset] [(.ref b53), (.ref b34), (.int ii), (.ref b100), (.ref b100)]))
  refine own_go (fun t k => XS.aload X100.here hx rfl (hb hby at_119) rfl rfl  k) ?_
  show own_Fin p e below _ (T100.setTop (mkF m 121 #[.val (.int p1), .val (.int p2), .val (.ref b1), .val (.ref b9), .val (.ref b20), .val (.ref b34), .val (.ref b53), .val (.ref b75), .val (.int ii), .val (.int jj), .val (.int kk), .val (.int ll), .val (.int kd), .unset, .unset, .unset, .unset] [(.ref b75), (.ref b53), (.ref b34), (.int ii), (.ref b100), (.ref b100)]))
  obtain ⟨_, _, ⟨T117, L117, k117, n117⟩, -, X117, ⟨Lc117, hQ117, l117, y117, z117⟩, st117⟩ := Jvm.LawKit.callS X100 hx (y := (⟨"com/example/honeyguide/honeyguide/document/IdentityPairEqualsPinLaw", "pick", "(ILjava/lang/Object;Ljava/lang/Object;Ljava/lang/Object;)Ljava/lang/Object;"⟩ : MethodName)) hown (mvT hZ hw_33) (mvT hZ hw_34) (mvT hZ hw_35) (mvT hZ hw_36) (by decide) (backOf (W := 2) (rm7 l Z a0 hw [] (ii) (b34) (b53) (b75)  h100 n0 Zh114 ) hZ hw_36 hw_35 (by decide) (by decide)) (g := (mkF m 121 #[.val (.int p1), .val (.int p2), .val (.ref b1), .val (.ref b9), .val (.ref b20), .val (.ref b34), .val (.ref b53), .val (.ref b75), .val (.int ii), .val (.int jj), .val (.int kk), .val (.int ll), .val (.int kd), .unset, .unset, .unset, .unset] [(.ref b75), (.ref b53), (.ref b34), (.int ii), (.ref b100), (.ref b100)])) rfl (by rw [hml]; rfl) (argsL := [(.int ii), (.ref b34), (.ref b53), (.ref b75)]) (rest := [(.ref b100), (.ref b100)]) (lenOf pd_1 rfl) rfl (by show 2 * 0 + _ ≤ _; exact Nat.le_of_eq rfl) (hb hby at_121) (fun _ _ => ⟨rfl, e100, (by decide : 10 + 0 ≤ _), (by decide : 20 + 0 ≤ _)⟩)
  dsimp only [Pt.U, Pt.locs, Pt.cells, Pt.slots] at X117 l117 y117 z117 st117 hQ117
  subst l117 y117 z117
  obtain ⟨rfl, N117q, e117⟩ := hQ117
  have N117 := Fr.app N90 N117q
  refine own_go st117 ?_
  show own_Fin p e below _ (T117.setTop (mkF m 124 #[.val (.int p1), .val (.int p2), .val (.ref b1), .val (.ref b9), .val (.ref b20), .val (.ref b34), .val (.ref b53), .val (.ref b75), .val (.int ii), .val (.int jj), .val (.int kk), .val (.int ll), .val (.int kd), .unset, .unset, .unset, .unset] [(own_pk_1 ii b34 b53 b75), (.ref b100), (.ref b100)]))
  refine own_go (fun t k => XS.iload X117.here hx rfl (hb hby at_124) rfl  (XS.aload X117.here hx rfl (hb hby at_126) rfl rfl  (XS.aload X117.here hx rfl (hb hby at_128) rfl rfl  (XS.aload X117.here hx rfl (hb hby at_130) rfl rfl  k)))) ?_
  show own_Fin p e below _ (T117.setTop (mkF m 132 #[.val (.int p1), .val (.int p2), .val (.ref b1), .val (.ref b9), .val (.ref b20), .val (.ref b34), .val (.ref b53), .val (.ref b75), .val (.int ii), .val (.int jj), .val (.int kk), .val (.int ll), .val (.int kd), .unset, .unset, .unset, .unset] [(.ref b75), (.ref b53), (.ref b34), (.int jj), (own_pk_1 ii b34 b53 b75), (.ref b100), (.ref b100)]))
  obtain ⟨_, _, ⟨T118, L118, k118, n118⟩, -, X118, ⟨Lc118, hQ118, l118, y118, z118⟩, st118⟩ := Jvm.LawKit.callS X117 hx (y := (⟨"com/example/honeyguide/honeyguide/document/IdentityPairEqualsPinLaw", "pick", "(ILjava/lang/Object;Ljava/lang/Object;Ljava/lang/Object;)Ljava/lang/Object;"⟩ : MethodName)) hown (mvT hZ hw_33) (mvT hZ hw_34) (mvT hZ hw_35) (mvT hZ hw_36) (by decide) (backOf (W := 3) (rm7 l Z a0 hw [] (jj) (b34) (b53) (b75)  h100 n0 Zh114 ) hZ hw_36 hw_35 (by decide) (by decide)) (g := (mkF m 132 #[.val (.int p1), .val (.int p2), .val (.ref b1), .val (.ref b9), .val (.ref b20), .val (.ref b34), .val (.ref b53), .val (.ref b75), .val (.int ii), .val (.int jj), .val (.int kk), .val (.int ll), .val (.int kd), .unset, .unset, .unset, .unset] [(.ref b75), (.ref b53), (.ref b34), (.int jj), (own_pk_1 ii b34 b53 b75), (.ref b100), (.ref b100)])) rfl (by rw [hml]; rfl) (argsL := [(.int jj), (.ref b34), (.ref b53), (.ref b75)]) (rest := [(own_pk_1 ii b34 b53 b75), (.ref b100), (.ref b100)]) (lenOf pd_1 rfl) rfl (by show 2 * 0 + _ ≤ _; simp only [List.map_cons, own_pkC]; exact Nat.le_of_eq rfl) (hb hby at_132) (fun _ _ => ⟨rfl, e117, (by decide : 10 + 0 ≤ _), (by decide : 20 + 0 ≤ _)⟩)
  dsimp only [Pt.U, Pt.locs, Pt.cells, Pt.slots] at X118 l118 y118 z118 st118 hQ118
  subst l118 y118 z118
  obtain ⟨rfl, N118q, e118⟩ := hQ118
  have N118 := Fr.app N117 N118q
  refine own_go st118 ?_
  show own_Fin p e below _ (T118.setTop (mkF m 135 #[.val (.int p1), .val (.int p2), .val (.ref b1), .val (.ref b9), .val (.ref b20), .val (.ref b34), .val (.ref b53), .val (.ref b75), .val (.int ii), .val (.int jj), .val (.int kk), .val (.int ll), .val (.int kd), .unset, .unset, .unset, .unset] [(own_pk_1 jj b34 b53 b75), (own_pk_1 ii b34 b53 b75), (.ref b100), (.ref b100)]))
  obtain ⟨_, _, ⟨T119, L119, k119, n119⟩, -, X119, ⟨Lc119, hQ119, l119, y119, z119⟩, st119⟩ := X118.specialBack hx (y := (⟨"com/example/honeyguide/honeyguide/document/IdentityPair", "<init>", "(Ljava/lang/Object;Ljava/lang/Object;)V"⟩ : MethodName)) rfl hown (mvT hZ hw_37) (mvT hZ hw_38) (mvT hZ hw_39) (by decide) (backOf (W := 1) (rm8 l Z a0 hw [] (b100) ((own_pk_1 ii b34 b53 b75)) ((own_pk_1 jj b34 b53 b75))  h100 n0 Zh114 f115 f116 A100 g_b100 (own_pkR _ _ _ _) (own_pkR _ _ _ _)) hZ hw_39 hw_32 (by decide) (by decide)) (g := (mkF m 135 #[.val (.int p1), .val (.int p2), .val (.ref b1), .val (.ref b9), .val (.ref b20), .val (.ref b34), .val (.ref b53), .val (.ref b75), .val (.int ii), .val (.int jj), .val (.int kk), .val (.int ll), .val (.int kd), .unset, .unset, .unset, .unset] [(own_pk_1 jj b34 b53 b75), (own_pk_1 ii b34 b53 b75), (.ref b100), (.ref b100)])) rfl (by rw [hml]; rfl) (Steps.refl _) (a := b100) (argsL := [(own_pk_1 ii b34 b53 b75), (own_pk_1 jj b34 b53 b75)]) (rest := [(.ref b100)]) (lenOf pd_2 rfl) rfl (by show 2 * 0 + _ ≤ _; exact Nat.le_of_eq rfl) (hb hby at_135) (fun _ _ => ⟨rfl, e118, (by decide : 10 + 0 ≤ _), (by decide : 20 + 0 ≤ _)⟩)
  dsimp only [Pt.U, Pt.locs, Pt.cells, Pt.slots] at X119 l119 y119 z119 st119 hQ119
  subst l119 y119 z119
  obtain ⟨rfl, N119q, K119, xe119, x1119, x2119⟩ := hQ119
  have N119 := Fr.app N118 N119q
  have f120 := f107.keep K119 (allS g_b100 all0)
  have f121 := f108.keep K119 (ninS ne101 nin0)
  have f122 := f109.keep K119 (ninS ne102 nin0)
  have f123 := f110.keep K119 (ninS ne103 nin0)
  have f124 := f111.keep K119
  have f125 := f112.keep K119
  have f126 := f113.keep K119
  have Zh129 : n0 ≤ T119.heap.size := Nat.le_trans Zh114 K119.1
  refine own_go (fun t k => st119.trans k) ?_
  show own_Fin p e below _ (T119.setTop (mkF m 138 #[.val (.int p1), .val (.int p2), .val (.ref b1), .val (.ref b9), .val (.ref b20), .val (.ref b34), .val (.ref b53), .val (.ref b75), .val (.int ii), .val (.int jj), .val (.int kk), .val (.int ll), .val (.int kd), .unset, .unset, .unset, .unset] [(.ref b100)]))
  refine own_go (fun t k => XS.astore X119.here hx rfl (hb hby at_138) rfl rfl (l' := #[.val (.int p1), .val (.int p2), .val (.ref b1), .val (.ref b9), .val (.ref b20), .val (.ref b34), .val (.ref b53), .val (.ref b75), .val (.int ii), .val (.int jj), .val (.int kk), .val (.int ll), .val (.int kd), .val (.ref b100), .unset, .unset, .unset]) rfl k) ?_
  show own_Fin p e below _ (T119.setTop (mkF m 140 #[.val (.int p1), .val (.int p2), .val (.ref b1), .val (.ref b9), .val (.ref b20), .val (.ref b34), .val (.ref b53), .val (.ref b75), .val (.int ii), .val (.int jj), .val (.int kk), .val (.int ll), .val (.int kd), .val (.ref b100), .unset, .unset, .unset] []))
  obtain ⟨T130, h130, X130, e130, E130, A130, D130, -, st130⟩ := newO X119 hx hZ hown hw_30 hw_31 hw_32 rfl (g := (mkF m 140 #[.val (.int p1), .val (.int p2), .val (.ref b1), .val (.ref b9), .val (.ref b20), .val (.ref b34), .val (.ref b53), .val (.ref b75), .val (.int ii), .val (.int jj), .val (.int kk), .val (.int ll), .val (.int kd), .val (.ref b100), .unset, .unset, .unset] [])) rfl (hb hby at_140) (by decide) (by decide)
  obtain ⟨b130, g130⟩ : ∃ z, z = T119.heap.size := ⟨_, rfl⟩
  rw [← g130] at A130 D130 st130
  have g_b130 : n0 ≤ b130 := Nat.le_trans Zh129 (Nat.le_of_eq g130.symm)
  have ne131 : b1 ≠ b130 := Nat.ne_of_lt (Nat.lt_of_lt_of_le f121.lt (Nat.le_of_eq g130.symm))
  have ne132 : b9 ≠ b130 := Nat.ne_of_lt (Nat.lt_of_lt_of_le f122.lt (Nat.le_of_eq g130.symm))
  have ne133 : b20 ≠ b130 := Nat.ne_of_lt (Nat.lt_of_lt_of_le f123.lt (Nat.le_of_eq g130.symm))
  have ne134 : b34 ≠ b130 := Nat.ne_of_lt (Nat.lt_of_lt_of_le f124.lt (Nat.le_of_eq g130.symm))
  have ne135 : b53 ≠ b130 := Nat.ne_of_lt (Nat.lt_of_lt_of_le f125.lt (Nat.le_of_eq g130.symm))
  have ne136 : b75 ≠ b130 := Nat.ne_of_lt (Nat.lt_of_lt_of_le f126.lt (Nat.le_of_eq g130.symm))
  have ne137 : b100 ≠ b130 := Nat.ne_of_lt (Nat.lt_of_lt_of_le xe119.lt (Nat.le_of_eq g130.symm))
  have f138 := f120.ext E130
  have f139 := f121.ext E130
  have f140 := f122.ext E130
  have f141 := f123.ext E130
  have f142 := f124.ext E130
  have f143 := f125.ext E130
  have f144 := f126.ext E130
  have f145 := xe119.ext E130
  have f146 := x1119.ext E130
  have f147 := x2119.ext E130
  have Zh148 : n0 ≤ h130.size := Nat.le_trans Zh129 E130.1
  have f149 : Fld Z h130 b130 "com/example/honeyguide/honeyguide/document/IdentityPair" "first" "Ljava/lang/Object;" .null := D130 (Or.inr hw_42) (ty := (.object "java/lang/Object")) (by decide)
  have f150 : Fld Z h130 b130 "com/example/honeyguide/honeyguide/document/IdentityPair" "second" "Ljava/lang/Object;" .null := D130 (Or.inr hw_44) (ty := (.object "java/lang/Object")) (by decide)
  refine own_go st130 ?_
  show own_Fin p e below _ (T130.setTop (mkF m 143 #[.val (.int p1), .val (.int p2), .val (.ref b1), .val (.ref b9), .val (.ref b20), .val (.ref b34), .val (.ref b53), .val (.ref b75), .val (.int ii), .val (.int jj), .val (.int kk), .val (.int ll), .val (.int kd), .val (.ref b100), .unset, .unset, .unset] [(.ref b130)]))
  refine own_go (fun t k => XS.dup X130.here hx rfl (hb hby at_143) rfl rfl (XS.iload X130.here hx rfl (hb hby at_144) rfl  (XS.aload X130.here hx rfl (hb hby at_146) rfl rfl  (XS.aload X130.here hx rfl (hb hby at_148) rfl rfl  k)))) ?_
  show own_Fin p e below _ (T130.setTop (mkF m 150 #[.val (.int p1), .val (.int p2), .val (.ref b1), .val (.ref b9), .val (.ref b20), .val (.ref b34), .val (.ref b53), .val (.ref b75), .val (.int ii), .val (.int jj), .val (.int kk), .val (.int ll), .val (.int kd), .val (.ref b100), .unset, .unset, .unset] [(.ref b53), (.ref b34), (.int kk), (.ref b130), (.ref b130)]))
  refine own_go (fun t k => XS.aload X130.here hx rfl (hb hby at_150) rfl rfl  k) ?_
  show own_Fin p e below _ (T130.setTop (mkF m 152 #[.val (.int p1), .val (.int p2), .val (.ref b1), .val (.ref b9), .val (.ref b20), .val (.ref b34), .val (.ref b53), .val (.ref b75), .val (.int ii), .val (.int jj), .val (.int kk), .val (.int ll), .val (.int kd), .val (.ref b100), .unset, .unset, .unset] [(.ref b75), (.ref b53), (.ref b34), (.int kk), (.ref b130), (.ref b130)]))
  obtain ⟨_, _, ⟨T151, L151, k151, n151⟩, -, X151, ⟨Lc151, hQ151, l151, y151, z151⟩, st151⟩ := Jvm.LawKit.callS X130 hx (y := (⟨"com/example/honeyguide/honeyguide/document/IdentityPairEqualsPinLaw", "pick", "(ILjava/lang/Object;Ljava/lang/Object;Ljava/lang/Object;)Ljava/lang/Object;"⟩ : MethodName)) hown (mvT hZ hw_33) (mvT hZ hw_34) (mvT hZ hw_35) (mvT hZ hw_36) (by decide) (backOf (W := 2) (rm7 l Z a0 hw [] (kk) (b34) (b53) (b75)  h130 n0 Zh148 ) hZ hw_36 hw_35 (by decide) (by decide)) (g := (mkF m 152 #[.val (.int p1), .val (.int p2), .val (.ref b1), .val (.ref b9), .val (.ref b20), .val (.ref b34), .val (.ref b53), .val (.ref b75), .val (.int ii), .val (.int jj), .val (.int kk), .val (.int ll), .val (.int kd), .val (.ref b100), .unset, .unset, .unset] [(.ref b75), (.ref b53), (.ref b34), (.int kk), (.ref b130), (.ref b130)])) rfl (by rw [hml]; rfl) (argsL := [(.int kk), (.ref b34), (.ref b53), (.ref b75)]) (rest := [(.ref b130), (.ref b130)]) (lenOf pd_1 rfl) rfl (by show 2 * 0 + _ ≤ _; exact Nat.le_of_eq rfl) (hb hby at_152) (fun _ _ => ⟨rfl, e130, (by decide : 11 + 0 ≤ _), (by decide : 22 + 0 ≤ _)⟩)
  dsimp only [Pt.U, Pt.locs, Pt.cells, Pt.slots] at X151 l151 y151 z151 st151 hQ151
  subst l151 y151 z151
  obtain ⟨rfl, N151q, e151⟩ := hQ151
  have N151 := Fr.app N119 N151q
  refine own_go st151 ?_
  show own_Fin p e below _ (T151.setTop (mkF m 155 #[.val (.int p1), .val (.int p2), .val (.ref b1), .val (.ref b9), .val (.ref b20), .val (.ref b34), .val (.ref b53), .val (.ref b75), .val (.int ii), .val (.int jj), .val (.int kk), .val (.int ll), .val (.int kd), .val (.ref b100), .unset, .unset, .unset] [(own_pk_1 kk b34 b53 b75), (.ref b130), (.ref b130)]))
  refine own_go (fun t k => XS.iload X151.here hx rfl (hb hby at_155) rfl  (XS.aload X151.here hx rfl (hb hby at_157) rfl rfl  (XS.aload X151.here hx rfl (hb hby at_159) rfl rfl  (XS.aload X151.here hx rfl (hb hby at_161) rfl rfl  k)))) ?_
  show own_Fin p e below _ (T151.setTop (mkF m 163 #[.val (.int p1), .val (.int p2), .val (.ref b1), .val (.ref b9), .val (.ref b20), .val (.ref b34), .val (.ref b53), .val (.ref b75), .val (.int ii), .val (.int jj), .val (.int kk), .val (.int ll), .val (.int kd), .val (.ref b100), .unset, .unset, .unset] [(.ref b75), (.ref b53), (.ref b34), (.int ll), (own_pk_1 kk b34 b53 b75), (.ref b130), (.ref b130)]))
  obtain ⟨_, _, ⟨T152, L152, k152, n152⟩, -, X152, ⟨Lc152, hQ152, l152, y152, z152⟩, st152⟩ := Jvm.LawKit.callS X151 hx (y := (⟨"com/example/honeyguide/honeyguide/document/IdentityPairEqualsPinLaw", "pick", "(ILjava/lang/Object;Ljava/lang/Object;Ljava/lang/Object;)Ljava/lang/Object;"⟩ : MethodName)) hown (mvT hZ hw_33) (mvT hZ hw_34) (mvT hZ hw_35) (mvT hZ hw_36) (by decide) (backOf (W := 3) (rm7 l Z a0 hw [] (ll) (b34) (b53) (b75)  h130 n0 Zh148 ) hZ hw_36 hw_35 (by decide) (by decide)) (g := (mkF m 163 #[.val (.int p1), .val (.int p2), .val (.ref b1), .val (.ref b9), .val (.ref b20), .val (.ref b34), .val (.ref b53), .val (.ref b75), .val (.int ii), .val (.int jj), .val (.int kk), .val (.int ll), .val (.int kd), .val (.ref b100), .unset, .unset, .unset] [(.ref b75), (.ref b53), (.ref b34), (.int ll), (own_pk_1 kk b34 b53 b75), (.ref b130), (.ref b130)])) rfl (by rw [hml]; rfl) (argsL := [(.int ll), (.ref b34), (.ref b53), (.ref b75)]) (rest := [(own_pk_1 kk b34 b53 b75), (.ref b130), (.ref b130)]) (lenOf pd_1 rfl) rfl (by show 2 * 0 + _ ≤ _; simp only [List.map_cons, own_pkC]; exact Nat.le_of_eq rfl) (hb hby at_163) (fun _ _ => ⟨rfl, e151, (by decide : 11 + 0 ≤ _), (by decide : 22 + 0 ≤ _)⟩)
  dsimp only [Pt.U, Pt.locs, Pt.cells, Pt.slots] at X152 l152 y152 z152 st152 hQ152
  subst l152 y152 z152
  obtain ⟨rfl, N152q, e152⟩ := hQ152
  have N152 := Fr.app N151 N152q
  refine own_go st152 ?_
  show own_Fin p e below _ (T152.setTop (mkF m 166 #[.val (.int p1), .val (.int p2), .val (.ref b1), .val (.ref b9), .val (.ref b20), .val (.ref b34), .val (.ref b53), .val (.ref b75), .val (.int ii), .val (.int jj), .val (.int kk), .val (.int ll), .val (.int kd), .val (.ref b100), .unset, .unset, .unset] [(own_pk_1 ll b34 b53 b75), (own_pk_1 kk b34 b53 b75), (.ref b130), (.ref b130)]))
  obtain ⟨_, _, ⟨T153, L153, k153, n153⟩, -, X153, ⟨Lc153, hQ153, l153, y153, z153⟩, st153⟩ := X152.specialBack hx (y := (⟨"com/example/honeyguide/honeyguide/document/IdentityPair", "<init>", "(Ljava/lang/Object;Ljava/lang/Object;)V"⟩ : MethodName)) rfl hown (mvT hZ hw_37) (mvT hZ hw_38) (mvT hZ hw_39) (by decide) (backOf (W := 1) (rm8 l Z a0 hw [] (b130) ((own_pk_1 kk b34 b53 b75)) ((own_pk_1 ll b34 b53 b75))  h130 n0 Zh148 f149 f150 A130 g_b130 (own_pkR _ _ _ _) (own_pkR _ _ _ _)) hZ hw_39 hw_32 (by decide) (by decide)) (g := (mkF m 166 #[.val (.int p1), .val (.int p2), .val (.ref b1), .val (.ref b9), .val (.ref b20), .val (.ref b34), .val (.ref b53), .val (.ref b75), .val (.int ii), .val (.int jj), .val (.int kk), .val (.int ll), .val (.int kd), .val (.ref b100), .unset, .unset, .unset] [(own_pk_1 ll b34 b53 b75), (own_pk_1 kk b34 b53 b75), (.ref b130), (.ref b130)])) rfl (by rw [hml]; rfl) (Steps.refl _) (a := b130) (argsL := [(own_pk_1 kk b34 b53 b75), (own_pk_1 ll b34 b53 b75)]) (rest := [(.ref b130)]) (lenOf pd_2 rfl) rfl (by show 2 * 0 + _ ≤ _; exact Nat.le_of_eq rfl) (hb hby at_166) (fun _ _ => ⟨rfl, e152, (by decide : 11 + 0 ≤ _), (by decide : 22 + 0 ≤ _)⟩)
  dsimp only [Pt.U, Pt.locs, Pt.cells, Pt.slots] at X153 l153 y153 z153 st153 hQ153
  subst l153 y153 z153
  obtain ⟨rfl, N153q, K153, xe153, x1153, x2153⟩ := hQ153
  have N153 := Fr.app N152 N153q
  have f154 := f138.keep K153 (allS g_b130 all0)
  have f155 := f139.keep K153 (ninS ne131 nin0)
  have f156 := f140.keep K153 (ninS ne132 nin0)
  have f157 := f141.keep K153 (ninS ne133 nin0)
  have f158 := f142.keep K153
  have f159 := f143.keep K153
  have f160 := f144.keep K153
  have f161 := f145.keep K153
  have f162 := f146.keep K153 (ninS ne137 nin0)
  have f163 := f147.keep K153 (ninS ne137 nin0)
  have Zh166 : n0 ≤ T153.heap.size := Nat.le_trans Zh148 K153.1
  refine own_go (fun t k => st153.trans k) ?_
  show own_Fin p e below _ (T153.setTop (mkF m 169 #[.val (.int p1), .val (.int p2), .val (.ref b1), .val (.ref b9), .val (.ref b20), .val (.ref b34), .val (.ref b53), .val (.ref b75), .val (.int ii), .val (.int jj), .val (.int kk), .val (.int ll), .val (.int kd), .val (.ref b100), .unset, .unset, .unset] [(.ref b130)]))
  refine own_go (fun t k => XS.astore X153.here hx rfl (hb hby at_169) rfl rfl (l' := #[.val (.int p1), .val (.int p2), .val (.ref b1), .val (.ref b9), .val (.ref b20), .val (.ref b34), .val (.ref b53), .val (.ref b75), .val (.int ii), .val (.int jj), .val (.int kk), .val (.int ll), .val (.int kd), .val (.ref b100), .val (.ref b130), .unset, .unset]) rfl (XS.iload X153.here hx rfl (hb hby at_171) rfl  k)) ?_
  show own_Fin p e below _ (T153.setTop (mkF m 173 #[.val (.int p1), .val (.int p2), .val (.ref b1), .val (.ref b9), .val (.ref b20), .val (.ref b34), .val (.ref b53), .val (.ref b75), .val (.int ii), .val (.int jj), .val (.int kk), .val (.int ll), .val (.int kd), .val (.ref b100), .val (.ref b130), .unset, .unset] [(.int kd)]))
  by_cases hc167 : kd = (0 : Int32)
  · skip
    refine own_go (fun t k => XS.ifNo X153.here hx rfl (hb hby at_173) rfl ((if0 _ _).trans (teq hc167).2) (XS.aload X153.here hx rfl (hb hby at_176) rfl rfl  (XS.astore X153.here hx rfl (hb hby at_178) rfl rfl (l' := #[.val (.int p1), .val (.int p2), .val (.ref b1), .val (.ref b9), .val (.ref b20), .val (.ref b34), .val (.ref b53), .val (.ref b75), .val (.int ii), .val (.int jj), .val (.int kk), .val (.int ll), .val (.int kd), .val (.ref b100), .val (.ref b130), .val (.ref b130), .unset]) rfl (XS.iload X153.here hx rfl (hb hby at_180) rfl  k)))) ?_
    show own_Fin p e below _ (T153.setTop (mkF m 182 #[.val (.int p1), .val (.int p2), .val (.ref b1), .val (.ref b9), .val (.ref b20), .val (.ref b34), .val (.ref b53), .val (.ref b75), .val (.int ii), .val (.int jj), .val (.int kk), .val (.int ll), .val (.int kd), .val (.ref b100), .val (.ref b130), .val (.ref b130), .unset] [(.int ii)]))
    refine own_go (fun t k => XS.iload X153.here hx rfl (hb hby at_182) rfl  k) ?_
    show own_Fin p e below _ (T153.setTop (mkF m 184 #[.val (.int p1), .val (.int p2), .val (.ref b1), .val (.ref b9), .val (.ref b20), .val (.ref b34), .val (.ref b53), .val (.ref b75), .val (.int ii), .val (.int jj), .val (.int kk), .val (.int ll), .val (.int kd), .val (.ref b100), .val (.ref b130), .val (.ref b130), .unset] [(.int kk), (.int ii)]))
    by_cases hc168 : ii = kk
    · skip
      refine own_go (fun t k => XS.icmpNo X153.here hx rfl (hb hby at_184) rfl (teq hc168).2 (XS.iload X153.here hx rfl (hb hby at_187) rfl  (XS.iload X153.here hx rfl (hb hby at_189) rfl  k))) ?_
      show own_Fin p e below _ (T153.setTop (mkF m 191 #[.val (.int p1), .val (.int p2), .val (.ref b1), .val (.ref b9), .val (.ref b20), .val (.ref b34), .val (.ref b53), .val (.ref b75), .val (.int ii), .val (.int jj), .val (.int kk), .val (.int ll), .val (.int kd), .val (.ref b100), .val (.ref b130), .val (.ref b130), .unset] [(.int ll), (.int jj)]))
      by_cases hc169 : jj = ll
      · skip
        refine own_go (fun t k => XS.icmpNo X153.here hx rfl (hb hby at_191) rfl (teq hc169).2 (XS.iconst X153.here hx rfl (hb hby at_194) (XS.goto X153.here hx rfl (pc0 := 195) (pc' := 199) rfl (hb hby at_195) (by decide) (by decide) (XS.istore X153.here hx rfl (hb hby at_199) rfl (l' := #[.val (.int p1), .val (.int p2), .val (.ref b1), .val (.ref b9), .val (.ref b20), .val (.ref b34), .val (.ref b53), .val (.ref b75), .val (.int ii), .val (.int jj), .val (.int kk), .val (.int ll), .val (.int kd), .val (.ref b100), .val (.ref b130), .val (.ref b130), .val (.int (1 : Int32))]) rfl k)))) ?_
        show own_Fin p e below _ (T153.setTop (mkF m 201 #[.val (.int p1), .val (.int p2), .val (.ref b1), .val (.ref b9), .val (.ref b20), .val (.ref b34), .val (.ref b53), .val (.ref b75), .val (.int ii), .val (.int jj), .val (.int kk), .val (.int ll), .val (.int kd), .val (.ref b100), .val (.ref b130), .val (.ref b130), .val (.int (1 : Int32))] []))
        refine own_go (fun t k => XS.goto X153.here hx rfl (pc0 := 201) (pc' := 242) rfl (hb hby at_201) (by decide) (by decide) (XS.aload X153.here hx rfl (hb hby at_242) rfl rfl  (XS.aload X153.here hx rfl (hb hby at_244) rfl rfl  k))) ?_
        show own_Fin p e below _ (T153.setTop (mkF m 246 #[.val (.int p1), .val (.int p2), .val (.ref b1), .val (.ref b9), .val (.ref b20), .val (.ref b34), .val (.ref b53), .val (.ref b75), .val (.int ii), .val (.int jj), .val (.int kk), .val (.int ll), .val (.int kd), .val (.ref b100), .val (.ref b130), .val (.ref b130), .val (.int (1 : Int32))] [(.ref b130), (.ref b100)]))
        obtain ⟨cq170, kq170, q170a, q170b, q170c⟩ := isOf hZ rfl f161
        obtain ⟨_, _, ⟨T170, L170, k170, n170⟩, -, X170, ⟨Lc170, hQ170, l170, y170, z170⟩, st170⟩ := X153.virtualBack hx (y := (⟨"com/example/honeyguide/honeyguide/document/IdentityPair", "equals", "(Ljava/lang/Object;)Z"⟩ : MethodName)) (z := (⟨"com/example/honeyguide/honeyguide/document/IdentityPair", "equals", "(Ljava/lang/Object;)Z"⟩ : MethodName)) hown (mvT hZ hw_45) (mvT hZ hw_46) (notFace_of_selects (args := #[]) (mvT hZ hw_48)) (mvT hZ hw_48) (mvT hZ hw_47) (by decide) (backOf (W := 0) (rm9p l Z a0 hw [] (b100) (b130) (own_pk_1 ii b34 b53 b75) (own_pk_1 jj b34 b53 b75) (own_pk_1 kk b34 b53 b75) (own_pk_1 ll b34 b53 b75) T153.heap n0 Zh166 f162 f163 x1153 x2153 xe153 (own_pkR _ _ _ _) (own_pkR _ _ _ _) (own_pkR _ _ _ _) (own_pkR _ _ _ _)) hZ hw_49 hw_32 (by decide) (by decide)) q170a q170c (g := (mkF m 246 #[.val (.int p1), .val (.int p2), .val (.ref b1), .val (.ref b9), .val (.ref b20), .val (.ref b34), .val (.ref b53), .val (.ref b75), .val (.int ii), .val (.int jj), .val (.int kk), .val (.int ll), .val (.int kd), .val (.ref b100), .val (.ref b130), .val (.ref b130), .val (.int (1 : Int32))] [(.ref b130), (.ref b100)])) rfl (by rw [hml]; rfl) (Steps.refl _) (argsL := [(.ref b130)]) (rest := []) (lenOf pd_3 rfl) rfl (by show 2 * 0 + _ ≤ _; exact Nat.le_of_eq rfl) (hb hby at_246) (fun _ _ => ⟨rfl, rfl, (by decide : 11 + 0 ≤ _), (by decide : 22 + 0 ≤ _)⟩)
        dsimp only [Pt.U, Pt.locs, Pt.cells, Pt.slots] at X170 l170 y170 z170 st170 hQ170
        subst l170 y170 z170
        obtain ⟨rfl, N170q, e170⟩ := hQ170
        have N170 := Fr.app N153 N170q
        refine own_go (fun t k => st170.trans k) ?_
        show own_Fin p e below _ (T170.setTop (mkF m 249 #[.val (.int p1), .val (.int p2), .val (.ref b1), .val (.ref b9), .val (.ref b20), .val (.ref b34), .val (.ref b53), .val (.ref b75), .val (.int ii), .val (.int jj), .val (.int kk), .val (.int ll), .val (.int kd), .val (.ref b100), .val (.ref b130), .val (.ref b130), .val (.int (1 : Int32))] [(.int (own_eq_20 b100 b130 (own_pk_1 ii b34 b53 b75) (own_pk_1 jj b34 b53 b75) (own_pk_1 kk b34 b53 b75) (own_pk_1 ll b34 b53 b75)))]))
        refine own_go (fun t k => XS.iload X170.here hx rfl (hb hby at_249) rfl  k) ?_
        show own_Fin p e below _ (T170.setTop (mkF m 251 #[.val (.int p1), .val (.int p2), .val (.ref b1), .val (.ref b9), .val (.ref b20), .val (.ref b34), .val (.ref b53), .val (.ref b75), .val (.int ii), .val (.int jj), .val (.int kk), .val (.int ll), .val (.int kd), .val (.ref b100), .val (.ref b130), .val (.ref b130), .val (.int (1 : Int32))] [(.int (1 : Int32)), (.int (own_eq_20 b100 b130 (own_pk_1 ii b34 b53 b75) (own_pk_1 jj b34 b53 b75) (own_pk_1 kk b34 b53 b75) (own_pk_1 ll b34 b53 b75)))]))
        refine own_go (fun t k => XS.icmpNo X170.here hx rfl (hb hby at_251) rfl (teq (own_y hc168 hc169)).2 (XS.iconst X170.here hx rfl (hb hby at_254) (XS.goto X170.here hx rfl (pc0 := 255) (pc' := 259) rfl (hb hby at_255) (by decide) (by decide) k))) ?_
        show own_Fin p e below _ (T170.setTop (mkF m 259 #[.val (.int p1), .val (.int p2), .val (.ref b1), .val (.ref b9), .val (.ref b20), .val (.ref b34), .val (.ref b53), .val (.ref b75), .val (.int ii), .val (.int jj), .val (.int kk), .val (.int ll), .val (.int kd), .val (.ref b100), .val (.ref b130), .val (.ref b130), .val (.int (1 : Int32))] [(.int (1 : Int32))]))
        exact own_out X170 (fun h => by rw [Bd.returns] at h; cases h) Bd.notSynchronized (fun fs hr => retN X170 hx (t := .boolean) Bd.returns (by simp) (hb hby at_259) hr) ⟨rfl, N170⟩ (by decide) (by decide)
      · skip
        refine own_go (fun t k => XS.icmpYes X153.here hx rfl (pc0 := 191) (pc' := 198) rfl (hb hby at_191) rfl (feq hc169).2 (by decide) (by decide) (XS.iconst X153.here hx rfl (hb hby at_198) (XS.istore X153.here hx rfl (hb hby at_199) rfl (l' := #[.val (.int p1), .val (.int p2), .val (.ref b1), .val (.ref b9), .val (.ref b20), .val (.ref b34), .val (.ref b53), .val (.ref b75), .val (.int ii), .val (.int jj), .val (.int kk), .val (.int ll), .val (.int kd), .val (.ref b100), .val (.ref b130), .val (.ref b130), .val (.int (0 : Int32))]) rfl (XS.goto X153.here hx rfl (pc0 := 201) (pc' := 242) rfl (hb hby at_201) (by decide) (by decide) k)))) ?_
        show own_Fin p e below _ (T153.setTop (mkF m 242 #[.val (.int p1), .val (.int p2), .val (.ref b1), .val (.ref b9), .val (.ref b20), .val (.ref b34), .val (.ref b53), .val (.ref b75), .val (.int ii), .val (.int jj), .val (.int kk), .val (.int ll), .val (.int kd), .val (.ref b100), .val (.ref b130), .val (.ref b130), .val (.int (0 : Int32))] []))
        refine own_go (fun t k => XS.aload X153.here hx rfl (hb hby at_242) rfl rfl  (XS.aload X153.here hx rfl (hb hby at_244) rfl rfl  k)) ?_
        show own_Fin p e below _ (T153.setTop (mkF m 246 #[.val (.int p1), .val (.int p2), .val (.ref b1), .val (.ref b9), .val (.ref b20), .val (.ref b34), .val (.ref b53), .val (.ref b75), .val (.int ii), .val (.int jj), .val (.int kk), .val (.int ll), .val (.int kd), .val (.ref b100), .val (.ref b130), .val (.ref b130), .val (.int (0 : Int32))] [(.ref b130), (.ref b100)]))
        obtain ⟨cq171, kq171, q171a, q171b, q171c⟩ := isOf hZ rfl f161
        obtain ⟨_, _, ⟨T171, L171, k171, n171⟩, -, X171, ⟨Lc171, hQ171, l171, y171, z171⟩, st171⟩ := X153.virtualBack hx (y := (⟨"com/example/honeyguide/honeyguide/document/IdentityPair", "equals", "(Ljava/lang/Object;)Z"⟩ : MethodName)) (z := (⟨"com/example/honeyguide/honeyguide/document/IdentityPair", "equals", "(Ljava/lang/Object;)Z"⟩ : MethodName)) hown (mvT hZ hw_45) (mvT hZ hw_46) (notFace_of_selects (args := #[]) (mvT hZ hw_48)) (mvT hZ hw_48) (mvT hZ hw_47) (by decide) (backOf (W := 0) (rm9p l Z a0 hw [] (b100) (b130) (own_pk_1 ii b34 b53 b75) (own_pk_1 jj b34 b53 b75) (own_pk_1 kk b34 b53 b75) (own_pk_1 ll b34 b53 b75) T153.heap n0 Zh166 f162 f163 x1153 x2153 xe153 (own_pkR _ _ _ _) (own_pkR _ _ _ _) (own_pkR _ _ _ _) (own_pkR _ _ _ _)) hZ hw_49 hw_32 (by decide) (by decide)) q171a q171c (g := (mkF m 246 #[.val (.int p1), .val (.int p2), .val (.ref b1), .val (.ref b9), .val (.ref b20), .val (.ref b34), .val (.ref b53), .val (.ref b75), .val (.int ii), .val (.int jj), .val (.int kk), .val (.int ll), .val (.int kd), .val (.ref b100), .val (.ref b130), .val (.ref b130), .val (.int (0 : Int32))] [(.ref b130), (.ref b100)])) rfl (by rw [hml]; rfl) (Steps.refl _) (argsL := [(.ref b130)]) (rest := []) (lenOf pd_3 rfl) rfl (by show 2 * 0 + _ ≤ _; exact Nat.le_of_eq rfl) (hb hby at_246) (fun _ _ => ⟨rfl, rfl, (by decide : 11 + 0 ≤ _), (by decide : 22 + 0 ≤ _)⟩)
        dsimp only [Pt.U, Pt.locs, Pt.cells, Pt.slots] at X171 l171 y171 z171 st171 hQ171
        subst l171 y171 z171
        obtain ⟨rfl, N171q, e171⟩ := hQ171
        have N171 := Fr.app N153 N171q
        refine own_go (fun t k => st171.trans k) ?_
        show own_Fin p e below _ (T171.setTop (mkF m 249 #[.val (.int p1), .val (.int p2), .val (.ref b1), .val (.ref b9), .val (.ref b20), .val (.ref b34), .val (.ref b53), .val (.ref b75), .val (.int ii), .val (.int jj), .val (.int kk), .val (.int ll), .val (.int kd), .val (.ref b100), .val (.ref b130), .val (.ref b130), .val (.int (0 : Int32))] [(.int (own_eq_20 b100 b130 (own_pk_1 ii b34 b53 b75) (own_pk_1 jj b34 b53 b75) (own_pk_1 kk b34 b53 b75) (own_pk_1 ll b34 b53 b75)))]))
        refine own_go (fun t k => XS.iload X171.here hx rfl (hb hby at_249) rfl  k) ?_
        show own_Fin p e below _ (T171.setTop (mkF m 251 #[.val (.int p1), .val (.int p2), .val (.ref b1), .val (.ref b9), .val (.ref b20), .val (.ref b34), .val (.ref b53), .val (.ref b75), .val (.int ii), .val (.int jj), .val (.int kk), .val (.int ll), .val (.int kd), .val (.ref b100), .val (.ref b130), .val (.ref b130), .val (.int (0 : Int32))] [(.int (0 : Int32)), (.int (own_eq_20 b100 b130 (own_pk_1 ii b34 b53 b75) (own_pk_1 jj b34 b53 b75) (own_pk_1 kk b34 b53 b75) (own_pk_1 ll b34 b53 b75)))]))
        refine own_go (fun t k => XS.icmpNo X171.here hx rfl (hb hby at_251) rfl (teq (own_n2 r_jj r_ll ne57 ne79 ne80 hc169)).2 (XS.iconst X171.here hx rfl (hb hby at_254) (XS.goto X171.here hx rfl (pc0 := 255) (pc' := 259) rfl (hb hby at_255) (by decide) (by decide) k))) ?_
        show own_Fin p e below _ (T171.setTop (mkF m 259 #[.val (.int p1), .val (.int p2), .val (.ref b1), .val (.ref b9), .val (.ref b20), .val (.ref b34), .val (.ref b53), .val (.ref b75), .val (.int ii), .val (.int jj), .val (.int kk), .val (.int ll), .val (.int kd), .val (.ref b100), .val (.ref b130), .val (.ref b130), .val (.int (0 : Int32))] [(.int (1 : Int32))]))
        exact own_out X171 (fun h => by rw [Bd.returns] at h; cases h) Bd.notSynchronized (fun fs hr => retN X171 hx (t := .boolean) Bd.returns (by simp) (hb hby at_259) hr) ⟨rfl, N171⟩ (by decide) (by decide)
    · skip
      refine own_go (fun t k => XS.icmpYes X153.here hx rfl (pc0 := 184) (pc' := 198) rfl (hb hby at_184) rfl (feq hc168).2 (by decide) (by decide) (XS.iconst X153.here hx rfl (hb hby at_198) (XS.istore X153.here hx rfl (hb hby at_199) rfl (l' := #[.val (.int p1), .val (.int p2), .val (.ref b1), .val (.ref b9), .val (.ref b20), .val (.ref b34), .val (.ref b53), .val (.ref b75), .val (.int ii), .val (.int jj), .val (.int kk), .val (.int ll), .val (.int kd), .val (.ref b100), .val (.ref b130), .val (.ref b130), .val (.int (0 : Int32))]) rfl (XS.goto X153.here hx rfl (pc0 := 201) (pc' := 242) rfl (hb hby at_201) (by decide) (by decide) k)))) ?_
      show own_Fin p e below _ (T153.setTop (mkF m 242 #[.val (.int p1), .val (.int p2), .val (.ref b1), .val (.ref b9), .val (.ref b20), .val (.ref b34), .val (.ref b53), .val (.ref b75), .val (.int ii), .val (.int jj), .val (.int kk), .val (.int ll), .val (.int kd), .val (.ref b100), .val (.ref b130), .val (.ref b130), .val (.int (0 : Int32))] []))
      refine own_go (fun t k => XS.aload X153.here hx rfl (hb hby at_242) rfl rfl  (XS.aload X153.here hx rfl (hb hby at_244) rfl rfl  k)) ?_
      show own_Fin p e below _ (T153.setTop (mkF m 246 #[.val (.int p1), .val (.int p2), .val (.ref b1), .val (.ref b9), .val (.ref b20), .val (.ref b34), .val (.ref b53), .val (.ref b75), .val (.int ii), .val (.int jj), .val (.int kk), .val (.int ll), .val (.int kd), .val (.ref b100), .val (.ref b130), .val (.ref b130), .val (.int (0 : Int32))] [(.ref b130), (.ref b100)]))
      obtain ⟨cq172, kq172, q172a, q172b, q172c⟩ := isOf hZ rfl f161
      obtain ⟨_, _, ⟨T172, L172, k172, n172⟩, -, X172, ⟨Lc172, hQ172, l172, y172, z172⟩, st172⟩ := X153.virtualBack hx (y := (⟨"com/example/honeyguide/honeyguide/document/IdentityPair", "equals", "(Ljava/lang/Object;)Z"⟩ : MethodName)) (z := (⟨"com/example/honeyguide/honeyguide/document/IdentityPair", "equals", "(Ljava/lang/Object;)Z"⟩ : MethodName)) hown (mvT hZ hw_45) (mvT hZ hw_46) (notFace_of_selects (args := #[]) (mvT hZ hw_48)) (mvT hZ hw_48) (mvT hZ hw_47) (by decide) (backOf (W := 0) (rm9p l Z a0 hw [] (b100) (b130) (own_pk_1 ii b34 b53 b75) (own_pk_1 jj b34 b53 b75) (own_pk_1 kk b34 b53 b75) (own_pk_1 ll b34 b53 b75) T153.heap n0 Zh166 f162 f163 x1153 x2153 xe153 (own_pkR _ _ _ _) (own_pkR _ _ _ _) (own_pkR _ _ _ _) (own_pkR _ _ _ _)) hZ hw_49 hw_32 (by decide) (by decide)) q172a q172c (g := (mkF m 246 #[.val (.int p1), .val (.int p2), .val (.ref b1), .val (.ref b9), .val (.ref b20), .val (.ref b34), .val (.ref b53), .val (.ref b75), .val (.int ii), .val (.int jj), .val (.int kk), .val (.int ll), .val (.int kd), .val (.ref b100), .val (.ref b130), .val (.ref b130), .val (.int (0 : Int32))] [(.ref b130), (.ref b100)])) rfl (by rw [hml]; rfl) (Steps.refl _) (argsL := [(.ref b130)]) (rest := []) (lenOf pd_3 rfl) rfl (by show 2 * 0 + _ ≤ _; exact Nat.le_of_eq rfl) (hb hby at_246) (fun _ _ => ⟨rfl, rfl, (by decide : 11 + 0 ≤ _), (by decide : 22 + 0 ≤ _)⟩)
      dsimp only [Pt.U, Pt.locs, Pt.cells, Pt.slots] at X172 l172 y172 z172 st172 hQ172
      subst l172 y172 z172
      obtain ⟨rfl, N172q, e172⟩ := hQ172
      have N172 := Fr.app N153 N172q
      refine own_go (fun t k => st172.trans k) ?_
      show own_Fin p e below _ (T172.setTop (mkF m 249 #[.val (.int p1), .val (.int p2), .val (.ref b1), .val (.ref b9), .val (.ref b20), .val (.ref b34), .val (.ref b53), .val (.ref b75), .val (.int ii), .val (.int jj), .val (.int kk), .val (.int ll), .val (.int kd), .val (.ref b100), .val (.ref b130), .val (.ref b130), .val (.int (0 : Int32))] [(.int (own_eq_20 b100 b130 (own_pk_1 ii b34 b53 b75) (own_pk_1 jj b34 b53 b75) (own_pk_1 kk b34 b53 b75) (own_pk_1 ll b34 b53 b75)))]))
      refine own_go (fun t k => XS.iload X172.here hx rfl (hb hby at_249) rfl  k) ?_
      show own_Fin p e below _ (T172.setTop (mkF m 251 #[.val (.int p1), .val (.int p2), .val (.ref b1), .val (.ref b9), .val (.ref b20), .val (.ref b34), .val (.ref b53), .val (.ref b75), .val (.int ii), .val (.int jj), .val (.int kk), .val (.int ll), .val (.int kd), .val (.ref b100), .val (.ref b130), .val (.ref b130), .val (.int (0 : Int32))] [(.int (0 : Int32)), (.int (own_eq_20 b100 b130 (own_pk_1 ii b34 b53 b75) (own_pk_1 jj b34 b53 b75) (own_pk_1 kk b34 b53 b75) (own_pk_1 ll b34 b53 b75)))]))
      refine own_go (fun t k => XS.icmpNo X172.here hx rfl (hb hby at_251) rfl (teq (own_n1 r_ii r_kk ne57 ne79 ne80 hc168)).2 (XS.iconst X172.here hx rfl (hb hby at_254) (XS.goto X172.here hx rfl (pc0 := 255) (pc' := 259) rfl (hb hby at_255) (by decide) (by decide) k))) ?_
      show own_Fin p e below _ (T172.setTop (mkF m 259 #[.val (.int p1), .val (.int p2), .val (.ref b1), .val (.ref b9), .val (.ref b20), .val (.ref b34), .val (.ref b53), .val (.ref b75), .val (.int ii), .val (.int jj), .val (.int kk), .val (.int ll), .val (.int kd), .val (.ref b100), .val (.ref b130), .val (.ref b130), .val (.int (0 : Int32))] [(.int (1 : Int32))]))
      exact own_out X172 (fun h => by rw [Bd.returns] at h; cases h) Bd.notSynchronized (fun fs hr => retN X172 hx (t := .boolean) Bd.returns (by simp) (hb hby at_259) hr) ⟨rfl, N172⟩ (by decide) (by decide)
  · skip
    refine own_go (fun t k => XS.ifYes X153.here hx rfl (pc0 := 173) (pc' := 204) rfl (hb hby at_173) rfl ((if0 _ _).trans (feq hc167).2) (by decide) (by decide) (XS.iload X153.here hx rfl (hb hby at_204) rfl  (XS.iconst X153.here hx rfl (hb hby at_206) k))) ?_
    show own_Fin p e below _ (T153.setTop (mkF m 207 #[.val (.int p1), .val (.int p2), .val (.ref b1), .val (.ref b9), .val (.ref b20), .val (.ref b34), .val (.ref b53), .val (.ref b75), .val (.int ii), .val (.int jj), .val (.int kk), .val (.int ll), .val (.int kd), .val (.ref b100), .val (.ref b130), .unset, .unset] [(.int (1 : Int32)), (.int kd)]))
    by_cases hc173 : kd = (1 : Int32)
    · skip
      refine own_go (fun t k => XS.icmpNo X153.here hx rfl (hb hby at_207) rfl (teq hc173).2 (XS.aload X153.here hx rfl (hb hby at_210) rfl rfl  (XS.astore X153.here hx rfl (hb hby at_212) rfl rfl (l' := #[.val (.int p1), .val (.int p2), .val (.ref b1), .val (.ref b9), .val (.ref b20), .val (.ref b34), .val (.ref b53), .val (.ref b75), .val (.int ii), .val (.int jj), .val (.int kk), .val (.int ll), .val (.int kd), .val (.ref b100), .val (.ref b130), .val (.ref b100), .unset]) rfl (XS.iconst X153.here hx rfl (hb hby at_214) k)))) ?_
      show own_Fin p e below _ (T153.setTop (mkF m 215 #[.val (.int p1), .val (.int p2), .val (.ref b1), .val (.ref b9), .val (.ref b20), .val (.ref b34), .val (.ref b53), .val (.ref b75), .val (.int ii), .val (.int jj), .val (.int kk), .val (.int ll), .val (.int kd), .val (.ref b100), .val (.ref b130), .val (.ref b100), .unset] [(.int (1 : Int32))]))
      refine own_go (fun t k => XS.istore X153.here hx rfl (hb hby at_215) rfl (l' := #[.val (.int p1), .val (.int p2), .val (.ref b1), .val (.ref b9), .val (.ref b20), .val (.ref b34), .val (.ref b53), .val (.ref b75), .val (.int ii), .val (.int jj), .val (.int kk), .val (.int ll), .val (.int kd), .val (.ref b100), .val (.ref b130), .val (.ref b100), .val (.int (1 : Int32))]) rfl (XS.goto X153.here hx rfl (pc0 := 217) (pc' := 242) rfl (hb hby at_217) (by decide) (by decide) (XS.aload X153.here hx rfl (hb hby at_242) rfl rfl  (XS.aload X153.here hx rfl (hb hby at_244) rfl rfl  k)))) ?_
      show own_Fin p e below _ (T153.setTop (mkF m 246 #[.val (.int p1), .val (.int p2), .val (.ref b1), .val (.ref b9), .val (.ref b20), .val (.ref b34), .val (.ref b53), .val (.ref b75), .val (.int ii), .val (.int jj), .val (.int kk), .val (.int ll), .val (.int kd), .val (.ref b100), .val (.ref b130), .val (.ref b100), .val (.int (1 : Int32))] [(.ref b100), (.ref b100)]))
      obtain ⟨cq174, kq174, q174a, q174b, q174c⟩ := isOf hZ rfl f161
      obtain ⟨_, _, ⟨T174, L174, k174, n174⟩, -, X174, ⟨Lc174, hQ174, l174, y174, z174⟩, st174⟩ := X153.virtualBack hx (y := (⟨"com/example/honeyguide/honeyguide/document/IdentityPair", "equals", "(Ljava/lang/Object;)Z"⟩ : MethodName)) (z := (⟨"com/example/honeyguide/honeyguide/document/IdentityPair", "equals", "(Ljava/lang/Object;)Z"⟩ : MethodName)) hown (mvT hZ hw_45) (mvT hZ hw_46) (notFace_of_selects (args := #[]) (mvT hZ hw_48)) (mvT hZ hw_48) (mvT hZ hw_47) (by decide) (backOf (W := 0) (rm9p l Z a0 hw [] (b100) (b100) (own_pk_1 ii b34 b53 b75) (own_pk_1 jj b34 b53 b75) (own_pk_1 ii b34 b53 b75) (own_pk_1 jj b34 b53 b75) T153.heap n0 Zh166 f162 f163 f162 f163 f161 (own_pkR _ _ _ _) (own_pkR _ _ _ _) (own_pkR _ _ _ _) (own_pkR _ _ _ _)) hZ hw_49 hw_32 (by decide) (by decide)) q174a q174c (g := (mkF m 246 #[.val (.int p1), .val (.int p2), .val (.ref b1), .val (.ref b9), .val (.ref b20), .val (.ref b34), .val (.ref b53), .val (.ref b75), .val (.int ii), .val (.int jj), .val (.int kk), .val (.int ll), .val (.int kd), .val (.ref b100), .val (.ref b130), .val (.ref b100), .val (.int (1 : Int32))] [(.ref b100), (.ref b100)])) rfl (by rw [hml]; rfl) (Steps.refl _) (argsL := [(.ref b100)]) (rest := []) (lenOf pd_3 rfl) rfl (by show 2 * 0 + _ ≤ _; exact Nat.le_of_eq rfl) (hb hby at_246) (fun _ _ => ⟨rfl, rfl, (by decide : 11 + 0 ≤ _), (by decide : 22 + 0 ≤ _)⟩)
      dsimp only [Pt.U, Pt.locs, Pt.cells, Pt.slots] at X174 l174 y174 z174 st174 hQ174
      subst l174 y174 z174
      obtain ⟨rfl, N174q, e174⟩ := hQ174
      have N174 := Fr.app N153 N174q
      refine own_go (fun t k => st174.trans k) ?_
      show own_Fin p e below _ (T174.setTop (mkF m 249 #[.val (.int p1), .val (.int p2), .val (.ref b1), .val (.ref b9), .val (.ref b20), .val (.ref b34), .val (.ref b53), .val (.ref b75), .val (.int ii), .val (.int jj), .val (.int kk), .val (.int ll), .val (.int kd), .val (.ref b100), .val (.ref b130), .val (.ref b100), .val (.int (1 : Int32))] [(.int (own_eq_20 b100 b100 (own_pk_1 ii b34 b53 b75) (own_pk_1 jj b34 b53 b75) (own_pk_1 ii b34 b53 b75) (own_pk_1 jj b34 b53 b75)))]))
      refine own_go (fun t k => XS.iload X174.here hx rfl (hb hby at_249) rfl  k) ?_
      show own_Fin p e below _ (T174.setTop (mkF m 251 #[.val (.int p1), .val (.int p2), .val (.ref b1), .val (.ref b9), .val (.ref b20), .val (.ref b34), .val (.ref b53), .val (.ref b75), .val (.int ii), .val (.int jj), .val (.int kk), .val (.int ll), .val (.int kd), .val (.ref b100), .val (.ref b130), .val (.ref b100), .val (.int (1 : Int32))] [(.int (1 : Int32)), (.int (own_eq_20 b100 b100 (own_pk_1 ii b34 b53 b75) (own_pk_1 jj b34 b53 b75) (own_pk_1 ii b34 b53 b75) (own_pk_1 jj b34 b53 b75)))]))
      refine own_go (fun t k => XS.icmpNo X174.here hx rfl (hb hby at_251) rfl (teq (own_s _ _ _ _)).2 (XS.iconst X174.here hx rfl (hb hby at_254) (XS.goto X174.here hx rfl (pc0 := 255) (pc' := 259) rfl (hb hby at_255) (by decide) (by decide) k))) ?_
      show own_Fin p e below _ (T174.setTop (mkF m 259 #[.val (.int p1), .val (.int p2), .val (.ref b1), .val (.ref b9), .val (.ref b20), .val (.ref b34), .val (.ref b53), .val (.ref b75), .val (.int ii), .val (.int jj), .val (.int kk), .val (.int ll), .val (.int kd), .val (.ref b100), .val (.ref b130), .val (.ref b100), .val (.int (1 : Int32))] [(.int (1 : Int32))]))
      exact own_out X174 (fun h => by rw [Bd.returns] at h; cases h) Bd.notSynchronized (fun fs hr => retN X174 hx (t := .boolean) Bd.returns (by simp) (hb hby at_259) hr) ⟨rfl, N174⟩ (by decide) (by decide)
    · skip
      refine own_go (fun t k => XS.icmpYes X153.here hx rfl (pc0 := 207) (pc' := 220) rfl (hb hby at_207) rfl (feq hc173).2 (by decide) (by decide) (XS.iload X153.here hx rfl (hb hby at_220) rfl  (XS.iconst X153.here hx rfl (hb hby at_222) k))) ?_
      show own_Fin p e below _ (T153.setTop (mkF m 223 #[.val (.int p1), .val (.int p2), .val (.ref b1), .val (.ref b9), .val (.ref b20), .val (.ref b34), .val (.ref b53), .val (.ref b75), .val (.int ii), .val (.int jj), .val (.int kk), .val (.int ll), .val (.int kd), .val (.ref b100), .val (.ref b130), .unset, .unset] [(.int (2 : Int32)), (.int kd)]))
      by_cases hc175 : kd = (2 : Int32)
      · skip
        refine own_go (fun t k => XS.icmpNo X153.here hx rfl (hb hby at_223) rfl (teq hc175).2 (XS.aload X153.here hx rfl (hb hby at_226) rfl rfl  (XS.astore X153.here hx rfl (hb hby at_228) rfl rfl (l' := #[.val (.int p1), .val (.int p2), .val (.ref b1), .val (.ref b9), .val (.ref b20), .val (.ref b34), .val (.ref b53), .val (.ref b75), .val (.int ii), .val (.int jj), .val (.int kk), .val (.int ll), .val (.int kd), .val (.ref b100), .val (.ref b130), .val (.ref b34), .unset]) rfl (XS.iconst X153.here hx rfl (hb hby at_230) k)))) ?_
        show own_Fin p e below _ (T153.setTop (mkF m 231 #[.val (.int p1), .val (.int p2), .val (.ref b1), .val (.ref b9), .val (.ref b20), .val (.ref b34), .val (.ref b53), .val (.ref b75), .val (.int ii), .val (.int jj), .val (.int kk), .val (.int ll), .val (.int kd), .val (.ref b100), .val (.ref b130), .val (.ref b34), .unset] [(.int (0 : Int32))]))
        refine own_go (fun t k => XS.istore X153.here hx rfl (hb hby at_231) rfl (l' := #[.val (.int p1), .val (.int p2), .val (.ref b1), .val (.ref b9), .val (.ref b20), .val (.ref b34), .val (.ref b53), .val (.ref b75), .val (.int ii), .val (.int jj), .val (.int kk), .val (.int ll), .val (.int kd), .val (.ref b100), .val (.ref b130), .val (.ref b34), .val (.int (0 : Int32))]) rfl (XS.goto X153.here hx rfl (pc0 := 233) (pc' := 242) rfl (hb hby at_233) (by decide) (by decide) (XS.aload X153.here hx rfl (hb hby at_242) rfl rfl  (XS.aload X153.here hx rfl (hb hby at_244) rfl rfl  k)))) ?_
        show own_Fin p e below _ (T153.setTop (mkF m 246 #[.val (.int p1), .val (.int p2), .val (.ref b1), .val (.ref b9), .val (.ref b20), .val (.ref b34), .val (.ref b53), .val (.ref b75), .val (.int ii), .val (.int jj), .val (.int kk), .val (.int ll), .val (.int kd), .val (.ref b100), .val (.ref b130), .val (.ref b34), .val (.int (0 : Int32))] [(.ref b34), (.ref b100)]))
        obtain ⟨cq176, kq176, q176a, q176b, q176c⟩ := isOf hZ rfl f161
        obtain ⟨_, _, ⟨T176, L176, k176, n176⟩, -, X176, ⟨Lc176, hQ176, l176, y176, z176⟩, st176⟩ := X153.virtualBack hx (y := (⟨"com/example/honeyguide/honeyguide/document/IdentityPair", "equals", "(Ljava/lang/Object;)Z"⟩ : MethodName)) (z := (⟨"com/example/honeyguide/honeyguide/document/IdentityPair", "equals", "(Ljava/lang/Object;)Z"⟩ : MethodName)) hown (mvT hZ hw_45) (mvT hZ hw_46) (notFace_of_selects (args := #[]) (mvT hZ hw_48)) (mvT hZ hw_48) (mvT hZ hw_47) (by decide) (backOf (W := 0) (rm9s l Z a0 hw [] (b100) (b34)  T153.heap n0 Zh166 f158) hZ hw_49 hw_32 (by decide) (by decide)) q176a q176c (g := (mkF m 246 #[.val (.int p1), .val (.int p2), .val (.ref b1), .val (.ref b9), .val (.ref b20), .val (.ref b34), .val (.ref b53), .val (.ref b75), .val (.int ii), .val (.int jj), .val (.int kk), .val (.int ll), .val (.int kd), .val (.ref b100), .val (.ref b130), .val (.ref b34), .val (.int (0 : Int32))] [(.ref b34), (.ref b100)])) rfl (by rw [hml]; rfl) (Steps.refl _) (argsL := [(.ref b34)]) (rest := []) (lenOf pd_3 rfl) rfl (by show 2 * 0 + _ ≤ _; exact Nat.le_of_eq rfl) (hb hby at_246) (fun _ _ => ⟨rfl, rfl, (by decide : 11 + 0 ≤ _), (by decide : 22 + 0 ≤ _)⟩)
        dsimp only [Pt.U, Pt.locs, Pt.cells, Pt.slots] at X176 l176 y176 z176 st176 hQ176
        subst l176 y176 z176
        obtain ⟨rfl, N176q, e176⟩ := hQ176
        have N176 := Fr.app N153 N176q
        refine own_go (fun t k => st176.trans k) ?_
        show own_Fin p e below _ (T176.setTop (mkF m 249 #[.val (.int p1), .val (.int p2), .val (.ref b1), .val (.ref b9), .val (.ref b20), .val (.ref b34), .val (.ref b53), .val (.ref b75), .val (.int ii), .val (.int jj), .val (.int kk), .val (.int ll), .val (.int kd), .val (.ref b100), .val (.ref b130), .val (.ref b34), .val (.int (0 : Int32))] [(.int (0 : Int32))]))
        refine own_go (fun t k => XS.iload X176.here hx rfl (hb hby at_249) rfl  k) ?_
        show own_Fin p e below _ (T176.setTop (mkF m 251 #[.val (.int p1), .val (.int p2), .val (.ref b1), .val (.ref b9), .val (.ref b20), .val (.ref b34), .val (.ref b53), .val (.ref b75), .val (.int ii), .val (.int jj), .val (.int kk), .val (.int ll), .val (.int kd), .val (.ref b100), .val (.ref b130), .val (.ref b34), .val (.int (0 : Int32))] [(.int (0 : Int32)), (.int (0 : Int32))]))
        refine own_go (fun t k => XS.icmpNo X176.here hx rfl (hb hby at_251) rfl (teq (by decide : (0 : Int32) = (0 : Int32))).2 (XS.iconst X176.here hx rfl (hb hby at_254) (XS.goto X176.here hx rfl (pc0 := 255) (pc' := 259) rfl (hb hby at_255) (by decide) (by decide) k))) ?_
        show own_Fin p e below _ (T176.setTop (mkF m 259 #[.val (.int p1), .val (.int p2), .val (.ref b1), .val (.ref b9), .val (.ref b20), .val (.ref b34), .val (.ref b53), .val (.ref b75), .val (.int ii), .val (.int jj), .val (.int kk), .val (.int ll), .val (.int kd), .val (.ref b100), .val (.ref b130), .val (.ref b34), .val (.int (0 : Int32))] [(.int (1 : Int32))]))
        exact own_out X176 (fun h => by rw [Bd.returns] at h; cases h) Bd.notSynchronized (fun fs hr => retN X176 hx (t := .boolean) Bd.returns (by simp) (hb hby at_259) hr) ⟨rfl, N176⟩ (by decide) (by decide)
      · skip
        refine own_go (fun t k => XS.icmpYes X153.here hx rfl (pc0 := 223) (pc' := 236) rfl (hb hby at_223) rfl (feq hc175).2 (by decide) (by decide) (XS.aconstNull X153.here hx rfl (hb hby at_236) (XS.astore X153.here hx rfl (hb hby at_237) rfl rfl (l' := #[.val (.int p1), .val (.int p2), .val (.ref b1), .val (.ref b9), .val (.ref b20), .val (.ref b34), .val (.ref b53), .val (.ref b75), .val (.int ii), .val (.int jj), .val (.int kk), .val (.int ll), .val (.int kd), .val (.ref b100), .val (.ref b130), .val .null, .unset]) rfl (XS.iconst X153.here hx rfl (hb hby at_239) k)))) ?_
        show own_Fin p e below _ (T153.setTop (mkF m 240 #[.val (.int p1), .val (.int p2), .val (.ref b1), .val (.ref b9), .val (.ref b20), .val (.ref b34), .val (.ref b53), .val (.ref b75), .val (.int ii), .val (.int jj), .val (.int kk), .val (.int ll), .val (.int kd), .val (.ref b100), .val (.ref b130), .val .null, .unset] [(.int (0 : Int32))]))
        refine own_go (fun t k => XS.istore X153.here hx rfl (hb hby at_240) rfl (l' := #[.val (.int p1), .val (.int p2), .val (.ref b1), .val (.ref b9), .val (.ref b20), .val (.ref b34), .val (.ref b53), .val (.ref b75), .val (.int ii), .val (.int jj), .val (.int kk), .val (.int ll), .val (.int kd), .val (.ref b100), .val (.ref b130), .val .null, .val (.int (0 : Int32))]) rfl (XS.aload X153.here hx rfl (hb hby at_242) rfl rfl  (XS.aload X153.here hx rfl (hb hby at_244) rfl rfl  k))) ?_
        show own_Fin p e below _ (T153.setTop (mkF m 246 #[.val (.int p1), .val (.int p2), .val (.ref b1), .val (.ref b9), .val (.ref b20), .val (.ref b34), .val (.ref b53), .val (.ref b75), .val (.int ii), .val (.int jj), .val (.int kk), .val (.int ll), .val (.int kd), .val (.ref b100), .val (.ref b130), .val .null, .val (.int (0 : Int32))] [.null, (.ref b100)]))
        obtain ⟨cq177, kq177, q177a, q177b, q177c⟩ := isOf hZ rfl f161
        obtain ⟨_, _, ⟨T177, L177, k177, n177⟩, -, X177, ⟨Lc177, hQ177, l177, y177, z177⟩, st177⟩ := X153.virtualBack hx (y := (⟨"com/example/honeyguide/honeyguide/document/IdentityPair", "equals", "(Ljava/lang/Object;)Z"⟩ : MethodName)) (z := (⟨"com/example/honeyguide/honeyguide/document/IdentityPair", "equals", "(Ljava/lang/Object;)Z"⟩ : MethodName)) hown (mvT hZ hw_45) (mvT hZ hw_46) (notFace_of_selects (args := #[]) (mvT hZ hw_48)) (mvT hZ hw_48) (mvT hZ hw_47) (by decide) (backOf (W := 0) (rm9n l Z a0 hw [] (b100)  T153.heap n0 Zh166 ) hZ hw_49 hw_32 (by decide) (by decide)) q177a q177c (g := (mkF m 246 #[.val (.int p1), .val (.int p2), .val (.ref b1), .val (.ref b9), .val (.ref b20), .val (.ref b34), .val (.ref b53), .val (.ref b75), .val (.int ii), .val (.int jj), .val (.int kk), .val (.int ll), .val (.int kd), .val (.ref b100), .val (.ref b130), .val .null, .val (.int (0 : Int32))] [.null, (.ref b100)])) rfl (by rw [hml]; rfl) (Steps.refl _) (argsL := [.null]) (rest := []) (lenOf pd_3 rfl) rfl (by show 2 * 0 + _ ≤ _; exact Nat.le_of_eq rfl) (hb hby at_246) (fun _ _ => ⟨rfl, rfl, (by decide : 11 + 0 ≤ _), (by decide : 22 + 0 ≤ _)⟩)
        dsimp only [Pt.U, Pt.locs, Pt.cells, Pt.slots] at X177 l177 y177 z177 st177 hQ177
        subst l177 y177 z177
        obtain ⟨rfl, N177q, e177⟩ := hQ177
        have N177 := Fr.app N153 N177q
        refine own_go (fun t k => st177.trans k) ?_
        show own_Fin p e below _ (T177.setTop (mkF m 249 #[.val (.int p1), .val (.int p2), .val (.ref b1), .val (.ref b9), .val (.ref b20), .val (.ref b34), .val (.ref b53), .val (.ref b75), .val (.int ii), .val (.int jj), .val (.int kk), .val (.int ll), .val (.int kd), .val (.ref b100), .val (.ref b130), .val .null, .val (.int (0 : Int32))] [(.int (0 : Int32))]))
        refine own_go (fun t k => XS.iload X177.here hx rfl (hb hby at_249) rfl  k) ?_
        show own_Fin p e below _ (T177.setTop (mkF m 251 #[.val (.int p1), .val (.int p2), .val (.ref b1), .val (.ref b9), .val (.ref b20), .val (.ref b34), .val (.ref b53), .val (.ref b75), .val (.int ii), .val (.int jj), .val (.int kk), .val (.int ll), .val (.int kd), .val (.ref b100), .val (.ref b130), .val .null, .val (.int (0 : Int32))] [(.int (0 : Int32)), (.int (0 : Int32))]))
        refine own_go (fun t k => XS.icmpNo X177.here hx rfl (hb hby at_251) rfl (teq (by decide : (0 : Int32) = (0 : Int32))).2 (XS.iconst X177.here hx rfl (hb hby at_254) (XS.goto X177.here hx rfl (pc0 := 255) (pc' := 259) rfl (hb hby at_255) (by decide) (by decide) k))) ?_
        show own_Fin p e below _ (T177.setTop (mkF m 259 #[.val (.int p1), .val (.int p2), .val (.ref b1), .val (.ref b9), .val (.ref b20), .val (.ref b34), .val (.ref b53), .val (.ref b75), .val (.int ii), .val (.int jj), .val (.int kk), .val (.int ll), .val (.int kd), .val (.ref b100), .val (.ref b130), .val .null, .val (.int (0 : Int32))] [(.int (1 : Int32))]))
        exact own_out X177 (fun h => by rw [Bd.returns] at h; cases h) Bd.notSynchronized (fun fs hr => retN X177 hx (t := .boolean) Bd.returns (by simp) (hb hby at_259) hr) ⟨rfl, N177⟩ (by decide) (by decide)
set_option maxRecDepth 65536 in
set_option maxHeartbeats 40000000 in
theorem comes_1 {Post : Tables → Env → Array Value → State → Outcome → State → Prop} (hpost : ∀ tb e args s v u, (limb_1_1.after args s (.returned v) u = true ∧ limb_1_2.after args s (.returned v) u = true ∧ True) → FrameEnd s (.returned v) u (Jvm.fieldLocs frame_1_writes args s ++ Jvm.arrayLocs frame_1_arrays args s ++ Jvm.staticLocs frame_1_statics s) 32 128 → Post tb e args s (.returned v) u) :
    ArmFor flags0 classFile x code maxLocals ret World_1 tables_1 room_1 Calls_1 rest_1 Pre_1 Post := by
  intro l hfl _ _ p e ha hc hk s m args below hf hA hF happ hP
  obtain ⟨hcalls, hrest, hpre⟩ := hP
  obtain ⟨-, -, -, hnamed, -, -, -, hat⟩ := (Spec.applies_iff hf).mp happ
  obtain ⟨hg, hn⟩ := and_e (Cond.before_iff.mp (show (Jvm.Cond.and given_1 narrow_1).before args s = true from hpre))
  obtain ⟨g0, r0⟩ := and_e hg
  obtain ⟨g1, r1⟩ := and_e r0
  obtain ⟨w0, w1, rfl⟩ : ∃ w0 w1 : Value, args = #[w0, w1] := by
    have hs : args.size = 2 := by simpa [Cond.value, given_1] using g0
    obtain ⟨L⟩ := args
    match L, hs with
    | [w0, w1], _ => exact ⟨w0, w1, rfl⟩
  have hw := fun d (hd : d ∈ tables_1) => atoms_spec (ws := Jvm.Cond.code x code maxLocals ret :: tables_1) hat d (List.mem_cons_of_mem _ hd)
  have hfit : Fit s := fun {y c} hc i hi => by
    obtain ⟨ha, rfl⟩ := Array.getElem?_eq_some_iff.mp hc
    have q := List.all_eq_true.mp ((Array.all_eq_true_iff_forall_mem.mp hF) _ (Array.getElem_mem ha)) i (List.mem_range.mpr hi)
    simpa [Array.getElem?_eq_getElem hi] using q
  obtain ⟨i0, ei0⟩ := is_v g1
  obtain rfl : w0 = (.int i0) := Option.some.inj ei0
  obtain ⟨i1, ei1⟩ := is_v r1
  obtain rfl : w1 = (.int i1) := Option.some.inj ei1
  obtain ⟨hsets, hown0⟩ := atoms_of _ (rest_1_c_eq ▸ (show rest_1_c.before _ s = true from hrest))
  have nG := not_v (Cond.before_iff.mp (hsets _ (List.mem_of_getElem? (i := 2) rfl)))
  obtain ⟨G1, eG⟩ := is_v (Cond.before_iff.mp (hsets _ (List.mem_of_getElem? (i := 1) rfl)))
  have S_c : Sta s s.heap "java/lang/String" "COMPACT_STRINGS" "Z" (.int G1) := Sta.start eG (Or.inl (hsets _ (List.mem_of_getElem? (i := 0) rfl)))
  have hG : ¬ (G1 = (0 : Int32)) := gotF (Cond.eq_ints eG (Term.int_eval (0))) nG
  have hws : ∀ d ∈ StrChars.Road.words, d.before _ s = true := fun d hd => hw d ((by decide +kernel : ∀ d ∈ StrChars.Road.words, d ∈ tables_1) d hd)
  obtain ⟨n, o, h1, h2, h3, _, L, rfl, ⟨rfl, N⟩, hq⟩ := rm0 l s _ hw tables_1 i0 i1 G1 s.heap s.heap.size (Nat.le_refl _) S_c hG (Old.start s) hws p e ha hc hk s m _ below hf ((Spec.applies_iff_loose hf).mp happ).1 ⟨rfl, State.Warmed39.refl s, rfl⟩ trivial
  refine ⟨n, _, h1, h2, h3, hpost _ _ _ _ _ _ ⟨Cond.after_iff.mpr rfl, Cond.after_iff.mpr (eq_i res_at (Term.int_eval (1)) rfl), trivial⟩ ⟨hq.1, hq.2.1, (hq.2.2.sift fun y hy => Or.inr (N y hy)).mono (by decide) (by decide)⟩⟩
theorem main_1_1 : Claimed_1_1 := comes_1 fun _ _ _ _ _ _ h hF => ⟨h.1, hF⟩
theorem main_1_2 : Claimed_1_2 := comes_1 fun _ _ _ _ _ _ h hF => ⟨h.2.1, hF⟩
end Jvm.Pilot.@@N@@
namespace Jvm.Pilot.@@N@@
open Jvm Jvm.ClassFile Sem Op Lib Jvm.Free Jvm.Stand Jvm.Pilot.@@N@@.Jvm.D
/-! MADE BY PROGRAM (witnessworld.py) out of the Statement's table words and the real class files: 20 classes; the members and pool entries that the words name. The judged class is class 1, her method 2. -/
namespace start1
open Jvm.ClassFile
def u (s : String) : CpInfo := .utf8 (stringToUtf16 s)
/-- a pool by its gaps: so many unusable entries, then the entry; so many at the end -/
def gap : Nat → List CpInfo → List CpInfo
  | 0, r => r
  | n + 1, r => .unusable :: gap n r
def poolList (es : List (Nat × CpInfo)) (last : Nat) : List CpInfo := es.foldr (fun e r => gap e.1 (e.2 :: r)) (gap last [])
def pool (es : List (Nat × CpInfo)) (last : Nat) : Array CpInfo := ⟨poolList es last⟩
def fileOf (pool : Array CpInfo) (this : Nat) (attrs : Array Attribute := #[]) (ms : Array MethodInfo := #[]) (fl : Nat := 33) (sup : Nat := 0) (ifs : Array Nat := #[]) (fds : Array FieldInfo := #[]) : ClassFile where
  minorVersion := 0
  majorVersion := 65
  constantPool := pool
  accessFlags := fl
  thisClass := this
  superClass := sup
  interfaces := ifs
  fields := fds
  methods := ms
  attributes := attrs
def plain (name : String) (sup : Option ClassId) : Class where
  name := name
  kind := .ordinary
  loader := none
  accessFlags := 33
  super := sup
  interfaces := #[]
  cf := none
  fields := #[]
  methods := #[]
  instanceTypes := #[]
  staticTypes := #[]
  resolved := #[]
  callSites := []
  init := .initialized
  statics := none
  mirror := none

def pool0 : Array CpInfo := pool [(5, u "<init>"), (0, u "()V"), (1, .class_ 10), (1, u "java/lang/Object")] 113

def k0c0 : Code := { maxStack := 0, maxLocals := 1, code := object_method_1_code, exceptionTable := #[], attributes := #[] }
def k0m0 : Method := { name := "<init>", desc := "()V", sig := { parameters := [], returnType := none }, accessFlags := 1, code := some k0c0 }
/-- java/lang/Object -/
def k0 : Class := { plain "java/lang/Object" none with
  accessFlags := 33
  interfaces := #[]
  cf := some (fileOf pool0 8 #[] #[{ accessFlags := 1, nameIndex := 5, descriptorIndex := 6, attributes := #[] }] 33 0 #[] #[])
  fields := #[]
  methods := #[k0m0]
  instanceTypes := #[]
  staticTypes := #[]
  resolved := Array.replicate 124 none
  statics := none }

def pool1 : Array CpInfo := pool [(2, .class_ 4), (1, u "java/lang/Object"), (0, u "<init>"), (0, u "()V"), (0, .class_ 8), (0, u "java/lang/String"), (0, .methodref 7 10), (0, .nameAndType 5 11), (0, u "([C)V"), (0, .class_ 13), (0, u "com/example/honeyguide/honeyguide/document/IdentityPair"), (0, .methodref 15 16), (0, .class_ 17), (0, .nameAndType 18 19), (0, u "com/example/honeyguide/honeyguide/document/IdentityPairEqualsPinLaw"), (0, u "pick"), (0, u "(ILjava/lang/Object;Ljava/lang/Object;Ljava/lang/Object;)Ljava/lang/Object;"), (0, .methodref 12 21), (0, .nameAndType 5 22), (0, u "(Ljava/lang/Object;Ljava/lang/Object;)V"), (0, .methodref 12 24), (0, .nameAndType 25 26), (0, u "equals"), (0, u "(Ljava/lang/Object;)Z"), (3, u "law"), (0, u "(II)Z")] 4

def k1m0 : Method := { name := "<init>", desc := "()V", sig := { parameters := [], returnType := none }, accessFlags := 1, code := none }
def k1c1 : Code := { maxStack := 2, maxLocals := 4, code := method_2_code, exceptionTable := #[], attributes := #[] }
def k1m1 : Method := { name := "pick", desc := "(ILjava/lang/Object;Ljava/lang/Object;Ljava/lang/Object;)Ljava/lang/Object;", sig := { parameters := [.int, (.object "java/lang/Object"), (.object "java/lang/Object"), (.object "java/lang/Object")], returnType := some (.object "java/lang/Object") }, accessFlags := 10, code := some k1c1 }
def k1c2 : Code := { maxStack := 7, maxLocals := 17, code := code, exceptionTable := #[], attributes := #[] }
def k1m2 : Method := { name := "law", desc := "(II)Z", sig := { parameters := [.int, .int], returnType := some .boolean }, accessFlags := 9, code := some k1c2 }
/-- com/example/honeyguide/honeyguide/document/IdentityPairEqualsPinLaw -/
def k1 : Class := { plain "com/example/honeyguide/honeyguide/document/IdentityPairEqualsPinLaw" (some 0) with
  accessFlags := 49
  interfaces := #[]
  cf := some (fileOf pool1 15 #[] #[{ accessFlags := 1, nameIndex := 5, descriptorIndex := 6, attributes := #[] }, { accessFlags := 10, nameIndex := 18, descriptorIndex := 19, attributes := #[] }, { accessFlags := 9, nameIndex := 30, descriptorIndex := 31, attributes := #[] }] 49 2 #[] #[])
  fields := #[]
  methods := #[k1m0, k1m1, k1m2]
  instanceTypes := #[]
  staticTypes := #[]
  resolved := Array.replicate 36 none
  statics := none }

def pool2 : Array CpInfo := pool [(1, .class_ 2), (0, u "java/io/Serializable"), (0, .class_ 4), (0, u "java/lang/Object")] 2

/-- java/io/Serializable -/
def k2 : Class := { plain "java/io/Serializable" (some 0) with
  accessFlags := 1537
  interfaces := #[]
  cf := some (fileOf pool2 1 #[] #[] 1537 3 #[] #[])
  fields := #[]
  methods := #[]
  instanceTypes := #[]
  staticTypes := #[]
  resolved := Array.replicate 7 none
  statics := none }

def pool3 : Array CpInfo := pool [(1, .class_ 2), (0, u "java/lang/Comparable"), (0, .class_ 4), (0, u "java/lang/Object")] 7

/-- java/lang/Comparable -/
def k3 : Class := { plain "java/lang/Comparable" (some 0) with
  accessFlags := 1537
  interfaces := #[]
  cf := some (fileOf pool3 1 #[] #[] 1537 3 #[] #[])
  fields := #[]
  methods := #[]
  instanceTypes := #[]
  staticTypes := #[]
  resolved := Array.replicate 12 none
  statics := none }

def pool4 : Array CpInfo := pool [(2, .class_ 4), (1, u "java/lang/CharSequence"), (42, .class_ 48), (0, u "java/lang/CharSequence$1CodePointIterator"), (10, .class_ 60), (0, u "java/lang/CharSequence$1CharIterator"), (5, .class_ 67), (0, u "java/lang/Object")] 63

/-- java/lang/CharSequence -/
def k4 : Class := { plain "java/lang/CharSequence" (some 0) with
  accessFlags := 1537
  interfaces := #[]
  cf := some (fileOf pool4 2 #[.nestMembers #[47, 59]] #[] 1537 66 #[] #[])
  fields := #[]
  methods := #[]
  instanceTypes := #[]
  staticTypes := #[]
  resolved := Array.replicate 131 none
  statics := none }

def pool5 : Array CpInfo := pool [(1, .class_ 2), (0, u "java/lang/constant/Constable"), (0, .class_ 4), (0, u "java/lang/Object")] 6

/-- java/lang/constant/Constable -/
def k5 : Class := { plain "java/lang/constant/Constable" (some 0) with
  accessFlags := 1537
  interfaces := #[]
  cf := some (fileOf pool5 1 #[] #[] 1537 3 #[] #[])
  fields := #[]
  methods := #[]
  instanceTypes := #[]
  staticTypes := #[]
  resolved := Array.replicate 11 none
  statics := none }

def pool6 : Array CpInfo := pool [(1, .class_ 2), (0, u "java/lang/constant/ConstantDesc"), (0, .class_ 4), (0, u "java/lang/Object")] 32

/-- java/lang/constant/ConstantDesc -/
def k6 : Class := { plain "java/lang/constant/ConstantDesc" (some 0) with
  accessFlags := 1537
  interfaces := #[]
  cf := some (fileOf pool6 1 #[] #[] 1537 3 #[] #[])
  fields := #[]
  methods := #[]
  instanceTypes := #[]
  staticTypes := #[]
  resolved := Array.replicate 37 none
  statics := none }

def pool7 : Array CpInfo := pool [(1, .methodref 2 3), (0, .class_ 4), (0, .nameAndType 5 6), (0, u "java/lang/Object"), (0, u "<init>"), (0, u "()V"), (2, .fieldref 10 11), (0, .class_ 12), (0, .nameAndType 13 14), (0, u "java/lang/String"), (0, u "value"), (0, u "[B"), (0, .fieldref 10 16), (0, .nameAndType 17 18), (0, u "coder"), (0, u "B"), (2, u "hash"), (0, u "I"), (2, u "hashIsZero"), (0, u "Z"), (0, .methodref 10 28), (0, .nameAndType 5 29), (0, u "([CIILjava/lang/Void;)V"), (8, .fieldref 10 39), (0, .nameAndType 40 26), (0, u "COMPACT_STRINGS"), (1, .class_ 44), (1, u "java/lang/StringUTF16"), (0, u "compress"), (1, .methodref 42 48), (0, .nameAndType 49 50), (0, u "coderFromArrayLen"), (0, u "([BI)B"), (126, .methodref 42 178), (0, .nameAndType 45 179), (0, u "([CII)[B"), (395, .class_ 576), (0, u "java/lang/CharSequence"), (22, u "CASE_INSENSITIVE_ORDER"), (0, u "Ljava/util/Comparator;"), (409, u "([C)V"), (90, u "serialPersistentFields"), (0, u "[Ljava/io/ObjectStreamField;"), (0, .class_ 1104), (0, u "java/lang/String$CaseInsensitiveComparator"), (1, .class_ 1107), (0, u "java/io/Serializable"), (0, .class_ 1109), (0, u "java/lang/Comparable"), (0, .class_ 1111), (0, u "java/lang/constant/Constable"), (0, .class_ 1113), (0, u "java/lang/constant/ConstantDesc"), (2, u "serialVersionUID"), (0, u "J"), (3, u "REPL"), (0, u "C"), (2, u "LATIN1"), (1, u "UTF16")] 323

def k7m0 : Method := { name := "<init>", desc := "()V", sig := { parameters := [], returnType := none }, accessFlags := 1, code := none }
def k7c1 : Code := { maxStack := 5, maxLocals := 2, code := jdk_42_method_3_code, exceptionTable := #[], attributes := #[] }
def k7m1 : Method := { name := "<init>", desc := "([C)V", sig := { parameters := [(.array .char)], returnType := none }, accessFlags := 1, code := some k7c1 }
def k7c2 : Code := { maxStack := 4, maxLocals := 6, code := jdk_42_method_149_code, exceptionTable := #[], attributes := #[] }
def k7m2 : Method := { name := "<init>", desc := "([CIILjava/lang/Void;)V", sig := { parameters := [(.array .char), .int, .int, (.object "java/lang/Void")], returnType := none }, accessFlags := 2, code := some k7c2 }
/-- java/lang/String -/
def k7 : Class := { plain "java/lang/String" (some 0) with
  accessFlags := 49
  interfaces := #[2, 3, 4, 5, 6]
  cf := some (fileOf pool7 10 #[.nestMembers #[1103]] #[{ accessFlags := 1, nameIndex := 5, descriptorIndex := 6, attributes := #[] }, { accessFlags := 1, nameIndex := 5, descriptorIndex := 1010, attributes := #[] }, { accessFlags := 2, nameIndex := 5, descriptorIndex := 29, attributes := #[] }] 49 2 #[1106, 1108, 575, 1110, 1112] #[{ accessFlags := 18, nameIndex := 13, descriptorIndex := 14, attributes := #[] }, { accessFlags := 18, nameIndex := 17, descriptorIndex := 18, attributes := #[] }, { accessFlags := 2, nameIndex := 21, descriptorIndex := 22, attributes := #[] }, { accessFlags := 2, nameIndex := 25, descriptorIndex := 26, attributes := #[] }, { accessFlags := 26, nameIndex := 1116, descriptorIndex := 1117, attributes := #[] }, { accessFlags := 24, nameIndex := 40, descriptorIndex := 26, attributes := #[] }, { accessFlags := 26, nameIndex := 1101, descriptorIndex := 1102, attributes := #[] }, { accessFlags := 26, nameIndex := 1121, descriptorIndex := 1122, attributes := #[] }, { accessFlags := 25, nameIndex := 599, descriptorIndex := 600, attributes := #[] }, { accessFlags := 24, nameIndex := 1125, descriptorIndex := 18, attributes := #[] }, { accessFlags := 24, nameIndex := 1127, descriptorIndex := 18, attributes := #[] }])
  fields := #[{ name := "value", type := (.array .byte), accessFlags := 18, slot := 0, constantValue := 0 }, { name := "coder", type := .byte, accessFlags := 18, slot := 1, constantValue := 0 }, { name := "hash", type := .int, accessFlags := 2, slot := 2, constantValue := 0 }, { name := "hashIsZero", type := .boolean, accessFlags := 2, slot := 3, constantValue := 0 }, { name := "serialVersionUID", type := .long, accessFlags := 26, slot := 0, constantValue := 0 }, { name := "COMPACT_STRINGS", type := .boolean, accessFlags := 24, slot := 1, constantValue := 0 }, { name := "serialPersistentFields", type := (.array (.object "java/io/ObjectStreamField")), accessFlags := 26, slot := 2, constantValue := 0 }, { name := "REPL", type := .char, accessFlags := 26, slot := 3, constantValue := 0 }, { name := "CASE_INSENSITIVE_ORDER", type := (.object "java/util/Comparator"), accessFlags := 25, slot := 4, constantValue := 0 }, { name := "LATIN1", type := .byte, accessFlags := 24, slot := 5, constantValue := 0 }, { name := "UTF16", type := .byte, accessFlags := 24, slot := 6, constantValue := 0 }]
  methods := #[k7m0, k7m1, k7m2]
  instanceTypes := #[(.array .byte), .byte, .int, .boolean]
  staticTypes := #[.long, .boolean, (.array (.object "java/io/ObjectStreamField")), .char, (.object "java/util/Comparator"), .byte, .byte]
  resolved := Array.replicate 1451 none
  statics := some 0 }

def pool8 : Array CpInfo := pool [(6, .class_ 8), (1, u "java/lang/Object"), (0, u "<init>"), (0, u "()V"), (1, .class_ 14), (1, u "java/lang/StringUTF16"), (31, u "$assertionsDisabled"), (0, u "Z"), (13, u "HI_BYTE_SHIFT"), (0, u "I"), (2, u "LO_BYTE_SHIFT"), (49, .methodref 12 116), (0, .nameAndType 117 118), (0, u "compress"), (0, u "([CI[BII)I"), (3, u "([CII)[B"), (138, u "coderFromArrayLen"), (0, u "([BI)B"), (106, .class_ 371), (1, u "java/lang/StringUTF16$LinesSpliterator"), (58, u "MAX_LENGTH"), (196, .class_ 628), (0, u "java/lang/StringUTF16$CodePointsSpliterator"), (0, .class_ 630), (0, u "java/lang/StringUTF16$CharsSpliterator")] 4

def k8m0 : Method := { name := "<init>", desc := "()V", sig := { parameters := [], returnType := none }, accessFlags := 0, code := none }
def k8c1 : Code := { maxStack := 2, maxLocals := 2, code := jdk_52_method_15_code, exceptionTable := #[], attributes := #[] }
def k8m1 : Method := { name := "coderFromArrayLen", desc := "([BI)B", sig := { parameters := [(.array .byte), .int], returnType := some .byte }, accessFlags := 8, code := some k8c1 }
def k8c2 : Code := { maxStack := 5, maxLocals := 6, code := jdk_52_method_16_code, exceptionTable := #[], attributes := #[] }
def k8m2 : Method := { name := "compress", desc := "([CII)[B", sig := { parameters := [(.array .char), .int, .int], returnType := some (.array .byte) }, accessFlags := 9, code := some k8c2 }
def k8c3 : Code := { maxStack := 3, maxLocals := 7, code := jdk_52_method_21_code, exceptionTable := #[], attributes := #[] }
def k8m3 : Method := { name := "compress", desc := "([CI[BII)I", sig := { parameters := [(.array .char), .int, (.array .byte), .int, .int], returnType := some .int }, accessFlags := 9, code := some k8c3 }
/-- java/lang/StringUTF16 -/
def k8 : Class := { plain "java/lang/StringUTF16" (some 0) with
  accessFlags := 48
  interfaces := #[]
  cf := some (fileOf pool8 12 #[.nestMembers #[627, 629, 369]] #[{ accessFlags := 0, nameIndex := 9, descriptorIndex := 10, attributes := #[] }, { accessFlags := 8, nameIndex := 261, descriptorIndex := 262, attributes := #[] }, { accessFlags := 9, nameIndex := 117, descriptorIndex := 122, attributes := #[] }, { accessFlags := 9, nameIndex := 117, descriptorIndex := 118, attributes := #[] }] 48 6 #[] #[{ accessFlags := 26, nameIndex := 61, descriptorIndex := 62, attributes := #[] }, { accessFlags := 26, nameIndex := 65, descriptorIndex := 62, attributes := #[] }, { accessFlags := 24, nameIndex := 430, descriptorIndex := 62, attributes := #[] }, { accessFlags := 4120, nameIndex := 46, descriptorIndex := 47, attributes := #[] }])
  fields := #[{ name := "HI_BYTE_SHIFT", type := .int, accessFlags := 26, slot := 0, constantValue := 0 }, { name := "LO_BYTE_SHIFT", type := .int, accessFlags := 26, slot := 1, constantValue := 0 }, { name := "MAX_LENGTH", type := .int, accessFlags := 24, slot := 2, constantValue := 0 }, { name := "$assertionsDisabled", type := .boolean, accessFlags := 4120, slot := 3, constantValue := 0 }]
  methods := #[k8m0, k8m1, k8m2, k8m3]
  instanceTypes := #[]
  staticTypes := #[.int, .int, .int, .boolean]
  resolved := Array.replicate 635 none
  statics := none }

def pool9 : Array CpInfo := pool [(1, .methodref 2 3), (0, .class_ 4), (0, .nameAndType 5 6), (0, u "java/lang/Object"), (0, u "<init>"), (0, u "()V"), (0, .fieldref 8 9), (0, .class_ 10), (0, .nameAndType 11 12), (0, u "com/example/honeyguide/honeyguide/document/IdentityPair"), (0, u "first"), (0, u "Ljava/lang/Object;"), (0, .fieldref 8 14), (0, .nameAndType 15 12), (0, u "second"), (21, u "(Ljava/lang/Object;Ljava/lang/Object;)V"), (8, u "equals"), (0, u "(Ljava/lang/Object;)Z")] 6

def k9c0 : Code := { maxStack := 2, maxLocals := 3, code := prog_6_method_1_code, exceptionTable := #[], attributes := #[] }
def k9m0 : Method := { name := "<init>", desc := "(Ljava/lang/Object;Ljava/lang/Object;)V", sig := { parameters := [(.object "java/lang/Object"), (.object "java/lang/Object")], returnType := none }, accessFlags := 1, code := some k9c0 }
def k9c1 : Code := { maxStack := 2, maxLocals := 3, code := prog_6_method_4_code, exceptionTable := #[], attributes := #[] }
def k9m1 : Method := { name := "equals", desc := "(Ljava/lang/Object;)Z", sig := { parameters := [(.object "java/lang/Object")], returnType := some .boolean }, accessFlags := 1, code := some k9c1 }
/-- com/example/honeyguide/honeyguide/document/IdentityPair -/
def k9 : Class := { plain "com/example/honeyguide/honeyguide/document/IdentityPair" (some 0) with
  accessFlags := 33
  interfaces := #[]
  cf := some (fileOf pool9 8 #[] #[{ accessFlags := 1, nameIndex := 5, descriptorIndex := 37, attributes := #[] }, { accessFlags := 1, nameIndex := 46, descriptorIndex := 47, attributes := #[] }] 33 2 #[] #[{ accessFlags := 18, nameIndex := 11, descriptorIndex := 12, attributes := #[] }, { accessFlags := 18, nameIndex := 15, descriptorIndex := 12, attributes := #[] }])
  fields := #[{ name := "first", type := (.object "java/lang/Object"), accessFlags := 18, slot := 0, constantValue := 0 }, { name := "second", type := (.object "java/lang/Object"), accessFlags := 18, slot := 1, constantValue := 0 }]
  methods := #[k9m0, k9m1]
  instanceTypes := #[(.object "java/lang/Object"), (.object "java/lang/Object")]
  staticTypes := #[]
  resolved := Array.replicate 54 none
  statics := none }

def pool10 : Array CpInfo := pool [(4, .class_ 6), (1, u "java/lang/Object"), (0, u "<init>"), (0, u "()V"), (5, .class_ 16), (1, u "java/lang/StringLatin1"), (104, u "$assertionsDisabled"), (0, u "Z"), (98, .class_ 223), (1, u "java/lang/StringLatin1$LinesSpliterator"), (166, .class_ 391), (0, u "java/lang/StringLatin1$CharsSpliterator")] 3

def k10m0 : Method := { name := "<init>", desc := "()V", sig := { parameters := [], returnType := none }, accessFlags := 0, code := none }
/-- java/lang/StringLatin1 -/
def k10 : Class := { plain "java/lang/StringLatin1" (some 0) with
  accessFlags := 48
  interfaces := #[]
  cf := some (fileOf pool10 14 #[.nestMembers #[390, 221]] #[{ accessFlags := 0, nameIndex := 7, descriptorIndex := 8, attributes := #[] }] 48 4 #[] #[{ accessFlags := 4120, nameIndex := 121, descriptorIndex := 122, attributes := #[] }])
  fields := #[{ name := "$assertionsDisabled", type := .boolean, accessFlags := 4120, slot := 0, constantValue := 0 }]
  methods := #[k10m0]
  instanceTypes := #[]
  staticTypes := #[.boolean]
  resolved := Array.replicate 395 none
  statics := none }

def pool11 : Array CpInfo := pool [(2, .class_ 4), (1, u "java/lang/Object"), (0, u "<init>"), (0, u "()V"), (17, .class_ 26), (1, u "jdk/internal/util/Preconditions"), (28, .class_ 56), (0, u "jdk/internal/util/Preconditions$4"), (57, .class_ 115), (0, u "jdk/internal/util/Preconditions$1"), (7, u "SIOOBE_FORMATTER"), (0, u "Ljava/util/function/BiFunction;"), (0, .class_ 126), (0, u "jdk/internal/util/Preconditions$2"), (3, u "AIOOBE_FORMATTER"), (0, .class_ 132), (0, u "jdk/internal/util/Preconditions$3"), (3, u "IOOBE_FORMATTER")] 57

def k11m0 : Method := { name := "<init>", desc := "()V", sig := { parameters := [], returnType := none }, accessFlags := 1, code := none }
/-- jdk/internal/util/Preconditions -/
def k11 : Class := { plain "jdk/internal/util/Preconditions" (some 0) with
  accessFlags := 33
  interfaces := #[]
  cf := some (fileOf pool11 24 #[.nestMembers #[55, 131, 125, 114]] #[{ accessFlags := 1, nameIndex := 5, descriptorIndex := 6, attributes := #[] }] 33 2 #[] #[{ accessFlags := 25, nameIndex := 123, descriptorIndex := 124, attributes := #[] }, { accessFlags := 25, nameIndex := 130, descriptorIndex := 124, attributes := #[] }, { accessFlags := 25, nameIndex := 136, descriptorIndex := 124, attributes := #[] }])
  fields := #[{ name := "SIOOBE_FORMATTER", type := (.object "java/util/function/BiFunction"), accessFlags := 25, slot := 0, constantValue := 0 }, { name := "AIOOBE_FORMATTER", type := (.object "java/util/function/BiFunction"), accessFlags := 25, slot := 1, constantValue := 0 }, { name := "IOOBE_FORMATTER", type := (.object "java/util/function/BiFunction"), accessFlags := 25, slot := 2, constantValue := 0 }]
  methods := #[k11m0]
  instanceTypes := #[]
  staticTypes := #[(.object "java/util/function/BiFunction"), (.object "java/util/function/BiFunction"), (.object "java/util/function/BiFunction")]
  resolved := Array.replicate 194 none
  statics := some 1 }

def pool12 : Array CpInfo := pool [(9, u "<init>"), (6, .class_ 18), (1, u "java/lang/Object"), (0, u "()V"), (1, .class_ 23), (1, u "jdk/internal/util/ArraysSupport"), (0, u "LOG2_ARRAY_LONG_INDEX_SCALE"), (0, u "I"), (2, u "U"), (0, u "Ljdk/internal/misc/Unsafe;"), (8, u "BIG_ENDIAN"), (0, u "Z"), (8, u "LOG2_BYTE_BIT_SIZE"), (4, u "LOG2_ARRAY_INT_INDEX_SCALE"), (54, u "JLA"), (0, u "Ljdk/internal/access/JavaLangAccess;"), (11, u "LOG2_ARRAY_BOOLEAN_INDEX_SCALE"), (9, u "LOG2_ARRAY_BYTE_INDEX_SCALE"), (5, u "LOG2_ARRAY_CHAR_INDEX_SCALE"), (5, u "LOG2_ARRAY_SHORT_INDEX_SCALE"), (18, u "LOG2_ARRAY_FLOAT_INDEX_SCALE"), (24, u "LOG2_ARRAY_DOUBLE_INDEX_SCALE"), (89, u "T_BOOLEAN"), (2, u "T_CHAR"), (1, u "T_FLOAT"), (1, u "T_DOUBLE"), (1, u "T_BYTE"), (1, u "T_SHORT"), (1, u "T_INT"), (1, u "T_LONG"), (1, u "SOFT_MAX_ARRAY_LENGTH")] 83

def k12m0 : Method := { name := "<init>", desc := "()V", sig := { parameters := [], returnType := none }, accessFlags := 2, code := none }
/-- jdk/internal/util/ArraysSupport -/
def k12 : Class := { plain "jdk/internal/util/ArraysSupport" (some 0) with
  accessFlags := 33
  interfaces := #[]
  cf := some (fileOf pool12 21 #[] #[{ accessFlags := 2, nameIndex := 9, descriptorIndex := 19, attributes := #[] }] 33 16 #[] #[{ accessFlags := 24, nameIndex := 28, descriptorIndex := 29, attributes := #[] }, { accessFlags := 26, nameIndex := 38, descriptorIndex := 39, attributes := #[] }, { accessFlags := 25, nameIndex := 121, descriptorIndex := 25, attributes := #[] }, { accessFlags := 25, nameIndex := 131, descriptorIndex := 25, attributes := #[] }, { accessFlags := 25, nameIndex := 137, descriptorIndex := 25, attributes := #[] }, { accessFlags := 25, nameIndex := 143, descriptorIndex := 25, attributes := #[] }, { accessFlags := 25, nameIndex := 53, descriptorIndex := 25, attributes := #[] }, { accessFlags := 25, nameIndex := 24, descriptorIndex := 25, attributes := #[] }, { accessFlags := 25, nameIndex := 162, descriptorIndex := 25, attributes := #[] }, { accessFlags := 25, nameIndex := 187, descriptorIndex := 25, attributes := #[] }, { accessFlags := 26, nameIndex := 48, descriptorIndex := 25, attributes := #[] }, { accessFlags := 25, nameIndex := 277, descriptorIndex := 25, attributes := #[] }, { accessFlags := 25, nameIndex := 280, descriptorIndex := 25, attributes := #[] }, { accessFlags := 25, nameIndex := 282, descriptorIndex := 25, attributes := #[] }, { accessFlags := 25, nameIndex := 284, descriptorIndex := 25, attributes := #[] }, { accessFlags := 25, nameIndex := 286, descriptorIndex := 25, attributes := #[] }, { accessFlags := 25, nameIndex := 288, descriptorIndex := 25, attributes := #[] }, { accessFlags := 25, nameIndex := 290, descriptorIndex := 25, attributes := #[] }, { accessFlags := 25, nameIndex := 292, descriptorIndex := 25, attributes := #[] }, { accessFlags := 26, nameIndex := 108, descriptorIndex := 109, attributes := #[] }, { accessFlags := 25, nameIndex := 294, descriptorIndex := 25, attributes := #[] }])
  fields := #[{ name := "U", type := (.object "jdk/internal/misc/Unsafe"), accessFlags := 24, slot := 0, constantValue := 0 }, { name := "BIG_ENDIAN", type := .boolean, accessFlags := 26, slot := 1, constantValue := 0 }, { name := "LOG2_ARRAY_BOOLEAN_INDEX_SCALE", type := .int, accessFlags := 25, slot := 2, constantValue := 0 }, { name := "LOG2_ARRAY_BYTE_INDEX_SCALE", type := .int, accessFlags := 25, slot := 3, constantValue := 0 }, { name := "LOG2_ARRAY_CHAR_INDEX_SCALE", type := .int, accessFlags := 25, slot := 4, constantValue := 0 }, { name := "LOG2_ARRAY_SHORT_INDEX_SCALE", type := .int, accessFlags := 25, slot := 5, constantValue := 0 }, { name := "LOG2_ARRAY_INT_INDEX_SCALE", type := .int, accessFlags := 25, slot := 6, constantValue := 0 }, { name := "LOG2_ARRAY_LONG_INDEX_SCALE", type := .int, accessFlags := 25, slot := 7, constantValue := 0 }, { name := "LOG2_ARRAY_FLOAT_INDEX_SCALE", type := .int, accessFlags := 25, slot := 8, constantValue := 0 }, { name := "LOG2_ARRAY_DOUBLE_INDEX_SCALE", type := .int, accessFlags := 25, slot := 9, constantValue := 0 }, { name := "LOG2_BYTE_BIT_SIZE", type := .int, accessFlags := 26, slot := 10, constantValue := 0 }, { name := "T_BOOLEAN", type := .int, accessFlags := 25, slot := 11, constantValue := 0 }, { name := "T_CHAR", type := .int, accessFlags := 25, slot := 12, constantValue := 0 }, { name := "T_FLOAT", type := .int, accessFlags := 25, slot := 13, constantValue := 0 }, { name := "T_DOUBLE", type := .int, accessFlags := 25, slot := 14, constantValue := 0 }, { name := "T_BYTE", type := .int, accessFlags := 25, slot := 15, constantValue := 0 }, { name := "T_SHORT", type := .int, accessFlags := 25, slot := 16, constantValue := 0 }, { name := "T_INT", type := .int, accessFlags := 25, slot := 17, constantValue := 0 }, { name := "T_LONG", type := .int, accessFlags := 25, slot := 18, constantValue := 0 }, { name := "JLA", type := (.object "jdk/internal/access/JavaLangAccess"), accessFlags := 26, slot := 19, constantValue := 0 }, { name := "SOFT_MAX_ARRAY_LENGTH", type := .int, accessFlags := 25, slot := 20, constantValue := 0 }]
  methods := #[k12m0]
  instanceTypes := #[]
  staticTypes := #[(.object "jdk/internal/misc/Unsafe"), .boolean, .int, .int, .int, .int, .int, .int, .int, .int, .int, .int, .int, .int, .int, .int, .int, .int, .int, (.object "jdk/internal/access/JavaLangAccess"), .int]
  resolved := Array.replicate 378 none
  statics := none }

def pool13 : Array CpInfo := pool [(1, u "java/lang/Cloneable"), (0, .class_ 1), (0, u "java/lang/Object"), (0, .class_ 3)] 3

/-- java/lang/Cloneable -/
def k13 : Class := { plain "java/lang/Cloneable" (some 0) with
  accessFlags := 1537
  interfaces := #[]
  cf := some (fileOf pool13 2 #[] #[] 1537 4 #[] #[])
  fields := #[]
  methods := #[]
  instanceTypes := #[]
  staticTypes := #[]
  resolved := Array.replicate 8 none
  statics := none }

/-- the primitive byte -/
def k14 : Class := { plain "byte" none with kind := .primitive 'B', accessFlags := 0x411 }
/-- [B -/
def k15 : Class := { plain "[B" (some 0) with kind := .array 14 .byte, interfaces := #[13, 2], accessFlags := 1041 }

/-- the primitive char -/
def k16 : Class := { plain "char" none with kind := .primitive 'C', accessFlags := 0x411 }
/-- [C -/
def k17 : Class := { plain "[C" (some 0) with kind := .array 16 .char, interfaces := #[13, 2], accessFlags := 1041 }

/-- the primitive int -/
def k18 : Class := { plain "int" none with kind := .primitive 'I', accessFlags := 0x411 }
/-- [I -/
def k19 : Class := { plain "[I" (some 0) with kind := .array 18 .int, interfaces := #[13, 2], accessFlags := 1041 }

def heap : Heap := #[{ cls := 7, slots := #[.long 0, .int 1, .null, .int 0, .null, .int 0, .int 0], vm := .statics 7 },
  { cls := 11, slots := #[.null, .null, .null], vm := .statics 11 }]
def classes : Array Class := #[k0, k1, k2, k3, k4, k5, k6, k7, k8, k9, k10, k11, k12, k13, k14, k15, k16, k17, k18, k19]
def interned : List (Array UInt16 × Addr) := []
def slotsUsed : Nat := 10
def theMethod : MethodId := ⟨1, 2⟩
def args0 : Array Value := #[.int 5, .int 6]
def aboutOver (below : List Frame) : State where
  vm := { classes := classes, interned := interned.toArray }
  heap := heap
  slotsUsed := slotsUsed
  threads := #[{ frames := .invoking theMethod args0 :: below }]
def below0 : List Frame := [.native { method := ⟨0, 0⟩, args := #[] }]
def about1 : State := aboutOver below0
def p0 : Program := .bare "" "" ""
def e0 : Env := launch0.env 0 0 0
theorem w_frames : about1.frames = Frame.invoking theMethod args0 :: below0 := rfl
set_option maxRecDepth 65536 in
theorem w_args : argsFit about1.vm theMethod args0 = true := by decide +kernel
set_option maxRecDepth 65536 in
theorem w_heap : heapFits about1 = true := by decide +kernel
set_option maxRecDepth 65536 in
theorem w_runnable : about1.curStatus? = some .runnable := by decide +kernel
set_option maxRecDepth 65536 in
theorem w_alone : about1.alone = true := by decide +kernel
set_option maxRecDepth 65536 in
theorem w_named : about1.methodNamed? x = some theMethod := by decide +kernel
set_option maxRecDepth 65536 in
theorem w_hears : about1.hears theMethod below0 = true := by decide +kernel
set_option maxRecDepth 65536 in
theorem w_ripe : about1.ripe theMethod args0 below0 = true := by decide +kernel
theorem w_running : about1.status = .running := rfl
set_option maxRecDepth 65536 in
theorem w_room : about1.hasRoom e0.platform room_1 = true :=
  launch0.hasRoom_least _ room_1 (by decide +kernel) (by decide +kernel) (by decide +kernel) (by decide +kernel) (by decide +kernel) (by decide +kernel)
theorem allAtoms_all (ts : List Jvm.Cond) (a : Array Jvm.Value) (st : Jvm.State) : (allAtoms ts).before a st = ts.all (fun c => c.before a st) := by
  induction ts with
  | nil => rfl
  | cons c t ih =>
    show (Jvm.Cond.and c (allAtoms t)).before a st = _
    rw [Jvm.Cond.before_and, ih, List.all_cons]
def words1 : List Jvm.Cond := Jvm.Cond.code x code maxLocals ret :: tables_1
/-- a 'code' word, met by the world's own term for the bytes: nothing is compared byte by byte -/
theorem code_word {y : MethodName} {bytes : ByteArray} {mx : Nat} {rt : Option FieldType} {a : Array Value} {s : State} {m : MethodId} {meth : Method} {c : Code} (h1 : s.methodNamed? y = some m) (h2 : s.vm.method? m = some meth) (h3 : meth.code = some c) (h4 : c.code = bytes)
    (h5 : (c.maxLocals == mx && c.exceptionTable.isEmpty && decide (c.maxStack ≤ mostOperands) && decide (meth.sig.returnType = rt) && !meth.locks && decide (parseMethodDescriptor y.desc = some meth.sig)) = true) : (Jvm.Cond.code y bytes mx rt).before a s = true := by
  simp only [Bool.and_eq_true, beq_iff_eq, Bool.not_eq_true', decide_eq_true_eq] at h5
  obtain ⟨⟨⟨⟨⟨g1, g2⟩, g3⟩, g4⟩, g5⟩, g6⟩ := h5
  simp [Cond.before, Cond.holds, Cond.value, h1, h2, h3, h4, g1, g2, g3, g4, g5, g6]
def isCode : Jvm.Cond → Bool
  | .code _ _ _ _ => true
  | _ => false
theorem all_split {L : List Jvm.Cond} {P : Jvm.Cond → Bool} (h1 : L.all (fun c => isCode c || P c) = true) (h2 : ∀ c ∈ L.filter isCode, P c = true) : L.all P = true := by
  refine List.all_eq_true.mpr fun c hc => ?_
  have h := List.all_eq_true.mp h1 c hc
  rcases Bool.eq_false_or_eq_true (isCode c) with hi | hi
  · exact h2 c (List.mem_filter.mpr ⟨hc, hi⟩)
  · simpa [hi] using h
set_option maxRecDepth 65536 in
theorem w_c0 : (Jvm.Cond.code x code maxLocals ret).before args0 about1 = true := code_word (m := ⟨1, 2⟩) (meth := k1m2) (c := k1c2) (by decide +kernel) rfl rfl rfl (by decide +kernel)
set_option maxRecDepth 65536 in
theorem w_c1 : (Jvm.Cond.code ({ cls := "java/lang/String", name := "<init>", desc := "([C)V" } : Jvm.MethodName) jdk_42_method_3_code (2 : Nat) (Option.none : Option Jvm.ClassFile.FieldType)).before args0 about1 = true := code_word (m := ⟨7, 1⟩) (meth := k7m1) (c := k7c1) (by decide +kernel) rfl rfl rfl (by decide +kernel)
set_option maxRecDepth 65536 in
theorem w_c2 : (Jvm.Cond.code ({ cls := "java/lang/String", name := "<init>", desc := "([CIILjava/lang/Void;)V" } : Jvm.MethodName) jdk_42_method_149_code (6 : Nat) (Option.none : Option Jvm.ClassFile.FieldType)).before args0 about1 = true := code_word (m := ⟨7, 2⟩) (meth := k7m2) (c := k7c2) (by decide +kernel) rfl rfl rfl (by decide +kernel)
set_option maxRecDepth 65536 in
theorem w_c3 : (Jvm.Cond.code ({ cls := "java/lang/Object", name := "<init>", desc := "()V" } : Jvm.MethodName) object_method_1_code (1 : Nat) (Option.none : Option Jvm.ClassFile.FieldType)).before args0 about1 = true := code_word (m := ⟨0, 0⟩) (meth := k0m0) (c := k0c0) (by decide +kernel) rfl rfl rfl (by decide +kernel)
set_option maxRecDepth 65536 in
theorem w_c4 : (Jvm.Cond.code ({ cls := "java/lang/StringUTF16", name := "compress", desc := "([CII)[B" } : Jvm.MethodName) jdk_52_method_16_code (6 : Nat) (Option.some (Jvm.ClassFile.FieldType.array Jvm.ClassFile.FieldType.byte))).before args0 about1 = true := code_word (m := ⟨8, 2⟩) (meth := k8m2) (c := k8c2) (by decide +kernel) rfl rfl rfl (by decide +kernel)
set_option maxRecDepth 65536 in
theorem w_c5 : (Jvm.Cond.code ({ cls := "java/lang/StringUTF16", name := "compress", desc := "([CI[BII)I" } : Jvm.MethodName) jdk_52_method_21_code (7 : Nat) (Option.some Jvm.ClassFile.FieldType.int)).before args0 about1 = true := code_word (m := ⟨8, 3⟩) (meth := k8m3) (c := k8c3) (by decide +kernel) rfl rfl rfl (by decide +kernel)
set_option maxRecDepth 65536 in
theorem w_c6 : (Jvm.Cond.code ({ cls := "java/lang/StringUTF16", name := "coderFromArrayLen", desc := "([BI)B" } : Jvm.MethodName) jdk_52_method_15_code (2 : Nat) (Option.some Jvm.ClassFile.FieldType.byte)).before args0 about1 = true := code_word (m := ⟨8, 1⟩) (meth := k8m1) (c := k8c1) (by decide +kernel) rfl rfl rfl (by decide +kernel)
set_option maxRecDepth 65536 in
theorem w_c7 : (Jvm.Cond.code ({ cls := "com/example/honeyguide/honeyguide/document/IdentityPairEqualsPinLaw", name := "pick", desc := "(ILjava/lang/Object;Ljava/lang/Object;Ljava/lang/Object;)Ljava/lang/Object;" } : Jvm.MethodName) method_2_code (4 : Nat) (Option.some (Jvm.ClassFile.FieldType.object "java/lang/Object"))).before args0 about1 = true := code_word (m := ⟨1, 1⟩) (meth := k1m1) (c := k1c1) (by decide +kernel) rfl rfl rfl (by decide +kernel)
set_option maxRecDepth 65536 in
theorem w_c8 : (Jvm.Cond.code ({ cls := "com/example/honeyguide/honeyguide/document/IdentityPair", name := "<init>", desc := "(Ljava/lang/Object;Ljava/lang/Object;)V" } : Jvm.MethodName) prog_6_method_1_code (3 : Nat) (Option.none : Option Jvm.ClassFile.FieldType)).before args0 about1 = true := code_word (m := ⟨9, 0⟩) (meth := k9m0) (c := k9c0) (by decide +kernel) rfl rfl rfl (by decide +kernel)
set_option maxRecDepth 65536 in
theorem w_c9 : (Jvm.Cond.code ({ cls := "com/example/honeyguide/honeyguide/document/IdentityPair", name := "equals", desc := "(Ljava/lang/Object;)Z" } : Jvm.MethodName) prog_6_method_4_code (3 : Nat) (Option.some Jvm.ClassFile.FieldType.boolean)).before args0 about1 = true := code_word (m := ⟨9, 1⟩) (meth := k9m1) (c := k9c1) (by decide +kernel) rfl rfl rfl (by decide +kernel)
def codes1 : List Jvm.Cond := [Jvm.Cond.code x code maxLocals ret, Jvm.Cond.code ({ cls := "java/lang/String", name := "<init>", desc := "([C)V" } : Jvm.MethodName) jdk_42_method_3_code (2 : Nat) (Option.none : Option Jvm.ClassFile.FieldType), Jvm.Cond.code ({ cls := "java/lang/String", name := "<init>", desc := "([CIILjava/lang/Void;)V" } : Jvm.MethodName) jdk_42_method_149_code (6 : Nat) (Option.none : Option Jvm.ClassFile.FieldType), Jvm.Cond.code ({ cls := "java/lang/Object", name := "<init>", desc := "()V" } : Jvm.MethodName) object_method_1_code (1 : Nat) (Option.none : Option Jvm.ClassFile.FieldType), Jvm.Cond.code ({ cls := "java/lang/StringUTF16", name := "compress", desc := "([CII)[B" } : Jvm.MethodName) jdk_52_method_16_code (6 : Nat) (Option.some (Jvm.ClassFile.FieldType.array Jvm.ClassFile.FieldType.byte)), Jvm.Cond.code ({ cls := "java/lang/StringUTF16", name := "compress", desc := "([CI[BII)I" } : Jvm.MethodName) jdk_52_method_21_code (7 : Nat) (Option.some Jvm.ClassFile.FieldType.int), Jvm.Cond.code ({ cls := "java/lang/StringUTF16", name := "coderFromArrayLen", desc := "([BI)B" } : Jvm.MethodName) jdk_52_method_15_code (2 : Nat) (Option.some Jvm.ClassFile.FieldType.byte), Jvm.Cond.code ({ cls := "com/example/honeyguide/honeyguide/document/IdentityPairEqualsPinLaw", name := "pick", desc := "(ILjava/lang/Object;Ljava/lang/Object;Ljava/lang/Object;)Ljava/lang/Object;" } : Jvm.MethodName) method_2_code (4 : Nat) (Option.some (Jvm.ClassFile.FieldType.object "java/lang/Object")), Jvm.Cond.code ({ cls := "com/example/honeyguide/honeyguide/document/IdentityPair", name := "<init>", desc := "(Ljava/lang/Object;Ljava/lang/Object;)V" } : Jvm.MethodName) prog_6_method_1_code (3 : Nat) (Option.none : Option Jvm.ClassFile.FieldType), Jvm.Cond.code ({ cls := "com/example/honeyguide/honeyguide/document/IdentityPair", name := "equals", desc := "(Ljava/lang/Object;)Z" } : Jvm.MethodName) prog_6_method_4_code (3 : Nat) (Option.some Jvm.ClassFile.FieldType.boolean)]
set_option maxRecDepth 65536 in
theorem codes_eq : words1.filter isCode = codes1 := rfl
theorem w_codes : ∀ c ∈ words1.filter isCode, c.before args0 about1 = true := by
  rw [codes_eq]
  intro c hc
  simp only [codes1, List.mem_cons, List.not_mem_nil, or_false] at hc
  rcases hc with rfl | rfl | rfl | rfl | rfl | rfl | rfl | rfl | rfl | rfl
  · exact w_c0
  · exact w_c1
  · exact w_c2
  · exact w_c3
  · exact w_c4
  · exact w_c5
  · exact w_c6
  · exact w_c7
  · exact w_c8
  · exact w_c9
set_option maxRecDepth 65536 in
theorem w_t1 : (words1.take 24).all (fun c => isCode c || c.before args0 about1) = true := by decide +kernel
set_option maxRecDepth 65536 in
theorem w_t2 : ((words1.drop 24).take 24).all (fun c => isCode c || c.before args0 about1) = true := by decide +kernel
set_option maxRecDepth 65536 in
theorem w_t3 : ((words1.drop 24).drop 24).all (fun c => isCode c || c.before args0 about1) = true := by decide +kernel
theorem w_tables : (allAtoms (Jvm.Cond.code x code maxLocals ret :: tables_1)).before args0 about1 = true := by
  rw [allAtoms_all]
  show words1.all (fun c => c.before args0 about1) = true
  refine all_split ?_ w_codes
  rw [← List.take_append_drop 24 words1, List.all_append, w_t1, ← List.take_append_drop 24 (words1.drop 24), List.all_append, w_t2, w_t3]
  rfl
set_option maxRecDepth 65536 in
theorem w_rest : rest_1_c.before args0 about1 = true := by decide +kernel
set_option maxRecDepth 65536 in
theorem w_case : (Jvm.Cond.and given_1 narrow_1).before args0 about1 = true := by decide +kernel
theorem w_applies : (headSpec (Jvm.Cond.code x code maxLocals ret :: tables_1) room_1).applies x e0.platform about1 = true :=
  (Spec.applies_iff w_frames).mpr ⟨w_running, w_runnable, w_alone, w_named, w_hears, w_ripe, w_room, w_tables⟩
theorem atStart : AtStart classFile x code maxLocals ret World_1 tables_1 room_1 Calls_1 rest_1 Pre_1 launch0 p0 e0 about1 theMethod args0 below0 :=
  ⟨lists_1, trivial, launch0.admits_env _ _ _, launch0.least_env, fairChoices_fair.cas, fairChoices_fair.clock, w_frames, w_args, w_heap, w_applies, trivial, w_rest, w_case⟩
end start1
theorem witness_1 : WitnessClaimed_1 := ⟨start1.p0, start1.e0, start1.about1, start1.theMethod, start1.args0, start1.below0, start1.atStart⟩
end Jvm.Pilot.@@N@@
