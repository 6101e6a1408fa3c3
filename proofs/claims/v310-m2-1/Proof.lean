import JvmDerived
import JvmDerived.Pilot.@@N@@Statement
import JvmDerived.Pilot.@@N@@Code
set_option linter.unusedVariables false
set_option linter.unusedSimpArgs false
namespace Jvm.Pilot.@@N@@
open Jvm Jvm.ClassFile Sem Op Lib Jvm.Free Jvm.Stand Jvm.LawKit Jvm.RoadKit Bundle Jvm.Pilot.@@N@@.Jvm.D
/-! what a body's walk owes, in the manner of a continuation -/
section Own
variable {p : Program} {l : Launch} {e : Env} {R : Room} {s : State} {m : MethodId} {args : Array Value} {below : List Frame} {meth : Method} {c : Code} {T T' : State} {locs : List Loc} {cells slots : Nat} {Q Q' : Option Value → Heap → List Loc → Prop}
abbrev OMet (l : Launch) (Z : State) (y : MethodName) (bytes : ByteArray) (maxL : Nat) (ret : Option FieldType) (ws : List Jvm.Cond) (rm : Room) (as : Array Value) (h0 : Heap) (Q : Option Value → Heap → List Loc → Prop) : Prop :=
  MetFree l y (head1 (Jvm.Cond.code y bytes maxL ret :: ws) rm) (fun a U => a = as ∧ Z.Warmed39 U.vm ∧ U.heap = h0) (fun _ _ _ _ _ => True) (fun _ U o U' => ∃ v L, o = .returned v ∧ Q v U'.heap L ∧ FrameEnd U o U' L rm.cells rm.slots)
def OG (p : Program) (e : Env) (R : Room) (s : State) (below : List Frame) (Q : Option Value → Heap → List Loc → Prop) (T : State) (g : JFrame) : Prop :=
  ∃ s₂ o, Steps p.tables e below (T.setTop g) s₂ ∧ s₂.status = .running ∧ Ended s₂ below o ∧ ∃ v L, o = .returned v ∧ Q v s₂.heap L ∧ FrameEnd s o s₂ L R.cells R.slots
theorem own_st {g g' : JFrame} (h : ∀ t, Steps p.tables e below (T'.setTop g') t → Steps p.tables e below (T.setTop g) t) (k : OG p e R s below Q T' g') : OG p e R s below Q T g := by
  obtain ⟨s₂, o, h1, h2⟩ := k
  exact ⟨s₂, o, h _ h1, h2⟩
theorem own_sp {g g' : JFrame} {t : State} (h : ∀ t, Steps p.tables e below (T'.setTop g') t → Steps p.tables e below (T.setTop g) t) (k : Steps p.tables e below (T'.setTop g') t) : Steps p.tables e below (T.setTop g) t := h _ k
theorem own_cast {g g' : JFrame} (q : g = g') (k : OG p e R s below Q T g') : OG p e R s below Q T g := q ▸ k
theorem own_irr {x : Int64} : ¬ x < x := Int64.lt_irrefl
theorem own_if0 {cd : ClassFile.Cond} {x : Int32} {b : Bool} (h : if_icmp.holds cd x 0 = b) : ifCond.holds cd x = b := by rw [if0]; exact h
theorem own_retZ (X : Stand p l e R s m args below meth c T locs cells slots) (hx : p.tables.exec = Jvm.exec) {t : FieldType} (hret : meth.sig.returnType = some t) (ht : t = .boolean ∨ t = .byte ∨ t = .char ∨ t = .short) (hlk : meth.locks = false) {pc : Nat} {Ls : Array Slot} {z : Int32} {rest : List Value}
    (hd : decode c.code pc = .ok (.ireturn, 1)) (hc : cells ≤ R.cells) (hs : slots ≤ R.slots) {w : Int32} (hn : nar t z = w) (hq : Q (some (.int w)) T.heap locs) : OG p e R s below Q T (mkF m pc Ls (.int z :: rest)) := by
  subst hn
  obtain ⟨fs, hr, hrun, hended, hW, hsame⟩ := X.leave (v := some (.int (nar t z))) (fun h => by rw [hret] at h; cases h) hlk
  exact ⟨_, _, retN X hx hret ht hd hr, hrun, hended, _, _, rfl, hq, ⟨_, rfl⟩, hW, hsame.mono hc hs⟩
theorem own_retV (X : Stand p l e R s m args below meth c T locs cells slots) (hx : p.tables.exec = Jvm.exec) {t : FieldType} {i : Instr} {w : Value} (hret : meth.sig.returnType = some t) (hn : narrow t w = w)
    (hi : (i = .ireturn ∧ (t = .int ∨ t = .boolean ∨ t = .byte ∨ t = .char ∨ t = .short) ∧ ∃ z, w = .int z) ∨ (i = .lreturn ∧ t = .long ∧ ∃ z, w = .long z) ∨ (i = .dreturn ∧ t = .double ∧ ∃ z, w = .double z) ∨ (i = .freturn ∧ t = .float ∧ ∃ z, w = .float z) ∨ (i = .areturn ∧ t.isReference = true ∧ w.isRef = true))
    (hlk : meth.locks = false) {pc : Nat} {Ls : Array Slot} {rest : List Value}
    (hd : decode c.code pc = .ok (i, 1)) (hc : cells ≤ R.cells) (hs : slots ≤ R.slots) (hq : Q (some w) T.heap locs) : OG p e R s below Q T (mkF m pc Ls (w :: rest)) := by
  obtain ⟨fs, hr, hrun, hended, hW, hsame⟩ := X.leave (v := some w) (fun h => by rw [hret] at h; cases h) hlk
  exact ⟨_, _, retOut X hx hret hn hi hd hr, hrun, hended, _, _, rfl, hq, ⟨_, rfl⟩, hW, hsame.mono hc hs⟩
theorem own_retI (X : Stand p l e R s m args below meth c T locs cells slots) (hx : p.tables.exec = Jvm.exec) (hret : meth.sig.returnType = some .int) (hlk : meth.locks = false) {pc : Nat} {Ls : Array Slot} {z : Int32} {rest : List Value}
    (hd : decode c.code pc = .ok (.ireturn, 1)) (hc : cells ≤ R.cells) (hs : slots ≤ R.slots) (hq : Q (some (.int z)) T.heap locs) : OG p e R s below Q T (mkF m pc Ls (.int z :: rest)) :=
  own_retV X hx hret rfl (Or.inl ⟨rfl, Or.inl rfl, _, rfl⟩) hlk hd hc hs hq
theorem own_retL (X : Stand p l e R s m args below meth c T locs cells slots) (hx : p.tables.exec = Jvm.exec) (hret : meth.sig.returnType = some .long) (hlk : meth.locks = false) {pc : Nat} {Ls : Array Slot} {z : Int64} {rest : List Value}
    (hd : decode c.code pc = .ok (.lreturn, 1)) (hc : cells ≤ R.cells) (hs : slots ≤ R.slots) (hq : Q (some (.long z)) T.heap locs) : OG p e R s below Q T (mkF m pc Ls (.long z :: rest)) :=
  own_retV X hx hret rfl (Or.inr (Or.inl ⟨rfl, rfl, _, rfl⟩)) hlk hd hc hs hq
theorem own_ret0 (X : Stand p l e R s m args below meth c T locs cells slots) (hx : p.tables.exec = Jvm.exec) (hret : meth.sig.returnType = none) (hlk : meth.locks = false) {pc : Nat} {Ls : Array Slot}
    (hd : decode c.code pc = .ok (.return_, 1)) (hc : cells ≤ R.cells) (hs : slots ≤ R.slots) (hq : Q none T.heap locs) : OG p e R s below Q T (mkF m pc Ls []) := by
  obtain ⟨fs, hr, hrun, hended, hW, hsame⟩ := X.leave (v := none) (fun _ => rfl) hlk
  exact ⟨_, _, X.returnOut hx hret hd hr, hrun, hended, _, _, rfl, hq, ⟨_, rfl⟩, hW, hsame.mono hc hs⟩
theorem own_enter {Z : State} {y : MethodName} {bytes : ByteArray} {maxL : Nat} {ret : Option FieldType} {ws : List Jvm.Cond} {rm : Room} {as : Array Value} {h0 : Heap} (hp : plainName y.cls = true)
    (body : ∀ (p : Program) (e : Env) (s : State) (m : MethodId) (below : List Frame) (meth : Method) (c : Code) (s₁ : State), p.tables.exec = Jvm.exec → c.code = bytes → c.maxLocals = maxL → s.vm.findClass y.cls = some m.cls → meth.sig.returnType = ret → meth.locks = false → meth.name = y.name → Z.Warmed39 s.vm →
      Stand p l e rm s m as below meth c s₁ [] 0 0 → s₁.heap = h0 → OG p e rm s below Q s₁ (entryFrame m as maxL)) : OMet l Z y bytes maxL ret ws rm as h0 Q := by
  refine MetFree.of_bodySF (plainFor_of_name hp) hisR ?_
  intro p e s m args below meth c s₁ Bd hml0 hP hK
  obtain ⟨rfl, hZ, hh⟩ := hP
  exact body p e s m below meth c s₁ Bd.exec Bd.bytes hml0 (findClass_of_methodNamed Bd.named) Bd.returns Bd.notSynchronized (name_of_methodNamed Bd.named Bd.method).1 hZ (Stand.of_body Bd) (by rw [← hh, Bd.state]; rfl)
end Own
theorem d1_0 : decode prog_24_method_3_code 0 = .ok (.iload_n 0, 1) := by decide +kernel
theorem d1_1 : decode prog_24_method_3_code 1 = .ok (.bipush 48, 2) := by decide +kernel
theorem d1_3 : decode prog_24_method_3_code 3 = .ok (.if_icmp .lt 13, 3) := by decide +kernel
theorem d1_6 : decode prog_24_method_3_code 6 = .ok (.iload_n 0, 1) := by decide +kernel
theorem d1_7 : decode prog_24_method_3_code 7 = .ok (.bipush 57, 2) := by decide +kernel
theorem d1_9 : decode prog_24_method_3_code 9 = .ok (.if_icmp .gt 7, 3) := by decide +kernel
theorem d1_12 : decode prog_24_method_3_code 12 = .ok (.iconst 1, 1) := by decide +kernel
theorem d1_13 : decode prog_24_method_3_code 13 = .ok (.goto 4, 3) := by decide +kernel
theorem d1_16 : decode prog_24_method_3_code 16 = .ok (.iconst 0, 1) := by decide +kernel
theorem d1_17 : decode prog_24_method_3_code 17 = .ok (.ireturn, 1) := by decide +kernel
theorem pn_com_example_vestbook_vestbook_Hundredths : plainName "com/example/vestbook/vestbook/Hundredths" = true := by first | (simp [plainName, overriddenIn]; done) | decide +kernel
def f1 (p1 : Int32) : Int32 := (if p1 < (48 : Int32) then (0 : Int32) else (if (57 : Int32) < p1 then (0 : Int32) else (1 : Int32)))
theorem ef_1 (m : MethodId) (p1 : Int32) : entryFrame m #[(.int p1)] 1 = (mkF m 0 #[.val (.int p1)] []) := by first | (simp [entryFrame, mkF, argsToLocals, Value.category]; done) | rfl
abbrev Q1 (p1 : Int32) (h0 : Heap) : Option Value → Heap → List Loc → Prop := (fun v h L => v = some (.int (f1 p1)) ∧ L = [] ∧ h = h0)
set_option maxRecDepth 65536 in
set_option maxHeartbeats 40000000 in
theorem rm1 (l : Launch) (Z : State) (a0 : Array Value) (hw : ∀ d ∈ tables_1, d.before a0 Z = true) (ws : List Jvm.Cond) (p1 : Int32) (h0 : Heap)  :
    OMet l Z (⟨"com/example/vestbook/vestbook/Hundredths", "isAsciiDigit", "(C)Z"⟩ : MethodName) prog_24_method_3_code 1 (some .boolean) ws ({ frames := 0, cells := 0, slots := 0, locals := 0 } : Room) #[(.int p1)] h0 (Q1 p1 h0) := by
  refine own_enter pn_com_example_vestbook_vestbook_Hundredths ?_
  intro p e s m below meth c s₁ hx hby hml0 hown hret hlk hnm hZ X0 e0
  have hml : c.maxLocals = 1 := hml0
  refine own_cast (ef_1 m p1) ?_
  show OG p e ({ frames := 0, cells := 0, slots := 0, locals := 0 } : Room) s below (fun v h L => v = some (.int (f1 p1)) ∧ L = [] ∧ h = h0) s₁ (mkF m 0 #[.val (.int p1)] [])
  refine own_st (fun t k => XS.iloadN X0.here hx rfl (hb hby d1_0) rfl k) ?_
  show OG p e _ s below _ s₁ (mkF m 1 #[.val (.int p1)] [(.int p1)])
  refine own_st (fun t k => XS.bipush X0.here hx rfl (hb hby d1_1) k) ?_
  show OG p e _ s below _ s₁ (mkF m 3 #[.val (.int p1)] [(.int (48 : Int32)), (.int p1)])
  by_cases c1 : p1 < (48 : Int32)
  · refine own_st (fun t k => XS.icmpYes X0.here hx rfl (pc0 := 3) (pc' := 16) rfl (hb hby d1_3) rfl (tlt c1).1 (by decide) (by decide) k) ?_
    show OG p e _ s below _ s₁ (mkF m 16 #[.val (.int p1)] [])
    refine own_st (fun t k => XS.iconst X0.here hx rfl (hb hby d1_16) k) ?_
    show OG p e _ s below _ s₁ (mkF m 17 #[.val (.int p1)] [(.int (0 : Int32))])
    exact own_retZ X0 hx (t := .boolean) hret (by simp) hlk (hb hby d1_17) (by decide) (by decide) (w := (0 : Int32)) rfl ⟨congrArg (fun z => some (Value.int z)) (show f1 p1 = (0 : Int32) from (by rw [f1, if_pos c1])).symm, rfl, e0⟩
  · refine own_st (fun t k => XS.icmpNo X0.here hx rfl (hb hby d1_3) rfl (flt c1).1 k) ?_
    show OG p e _ s below _ s₁ (mkF m 6 #[.val (.int p1)] [])
    refine own_st (fun t k => XS.iloadN X0.here hx rfl (hb hby d1_6) rfl k) ?_
    show OG p e _ s below _ s₁ (mkF m 7 #[.val (.int p1)] [(.int p1)])
    refine own_st (fun t k => XS.bipush X0.here hx rfl (hb hby d1_7) k) ?_
    show OG p e _ s below _ s₁ (mkF m 9 #[.val (.int p1)] [(.int (57 : Int32)), (.int p1)])
    by_cases c2 : (57 : Int32) < p1
    · refine own_st (fun t k => XS.icmpYes X0.here hx rfl (pc0 := 9) (pc' := 16) rfl (hb hby d1_9) rfl (tlt c2).2.2.1 (by decide) (by decide) k) ?_
      show OG p e _ s below _ s₁ (mkF m 16 #[.val (.int p1)] [])
      refine own_st (fun t k => XS.iconst X0.here hx rfl (hb hby d1_16) k) ?_
      show OG p e _ s below _ s₁ (mkF m 17 #[.val (.int p1)] [(.int (0 : Int32))])
      exact own_retZ X0 hx (t := .boolean) hret (by simp) hlk (hb hby d1_17) (by decide) (by decide) (w := (0 : Int32)) rfl ⟨congrArg (fun z => some (Value.int z)) (show f1 p1 = (0 : Int32) from (by rw [f1, if_neg c1, if_pos c2])).symm, rfl, e0⟩
    · refine own_st (fun t k => XS.icmpNo X0.here hx rfl (hb hby d1_9) rfl (flt c2).2.2.1 k) ?_
      show OG p e _ s below _ s₁ (mkF m 12 #[.val (.int p1)] [])
      refine own_st (fun t k => XS.iconst X0.here hx rfl (hb hby d1_12) k) ?_
      show OG p e _ s below _ s₁ (mkF m 13 #[.val (.int p1)] [(.int (1 : Int32))])
      refine own_st (fun t k => XS.goto X0.here hx rfl (pc0 := 13) (pc' := 17) rfl (hb hby d1_13) (by decide) (by decide) k) ?_
      show OG p e _ s below _ s₁ (mkF m 17 #[.val (.int p1)] [(.int (1 : Int32))])
      exact own_retZ X0 hx (t := .boolean) hret (by simp) hlk (hb hby d1_17) (by decide) (by decide) (w := (1 : Int32)) rfl ⟨congrArg (fun z => some (Value.int z)) (show f1 p1 = (1 : Int32) from (by rw [f1, if_neg c1, if_neg c2])).symm, rfl, e0⟩
theorem pd__C_Z : parseMethodDescriptor "(C)Z" = some ⟨[.char], some .boolean⟩ := by decide +kernel
theorem pn_com_example_vestbook_vestbook_HundredthsIsAsciiDigitPinLaw : plainName "com/example/vestbook/vestbook/HundredthsIsAsciiDigitPinLaw" = true := by first | (simp [plainName, overriddenIn]; done) | decide +kernel
def g0_1 (p1 : Int32) : Int32 := ((p1 &&& (65535 : Int32)).toUInt32.toUInt16.toUInt32.toInt32)
def g0_2 (p1 : Int32) : Int64 := ((((g0_1 p1) - (48 : Int32)).toInt64) &&& (4294967295 : Int64))
def g0_3 (p1 : Int32) : Int32 := (if (g0_2 p1) < (10 : Int64) then (1 : Int32) else (0 : Int32))
def g0_4 (p1 : Int32) : Int32 := (if (f1 (58 : Int32)) = (0 : Int32) then (1 : Int32) else (0 : Int32))
def f0 (p1 : Int32) : Int32 := (if (f1 (48 : Int32)) = (0 : Int32) then (0 : Int32) else (if (f1 (57 : Int32)) = (0 : Int32) then (0 : Int32) else (if (f1 (47 : Int32)) = (0 : Int32) then (if (g0_4 p1) = (0 : Int32) then (0 : Int32) else (if (f1 (g0_1 p1)) = (g0_3 p1) then (1 : Int32) else (0 : Int32))) else (0 : Int32))))
theorem ef_0 (m : MethodId) (p1 : Int32) : entryFrame m #[(.int p1)] 6 = (mkF m 0 #[.val (.int p1), .unset, .unset, .unset, .unset, .unset] []) := by first | (simp [entryFrame, mkF, argsToLocals, Value.category]; done) | rfl
abbrev Q0 (p1 : Int32) (h0 : Heap) : Option Value → Heap → List Loc → Prop := (fun v h L => v = some (.int (f0 p1)) ∧ L = [] ∧ h = h0)
set_option maxRecDepth 65536 in
set_option maxHeartbeats 40000000 in
theorem rm0 (l : Launch) (Z : State) (a0 : Array Value) (hw : ∀ d ∈ tables_1, d.before a0 Z = true) (ws : List Jvm.Cond) (p1 : Int32) (h0 : Heap)  :
    OMet l Z x code maxLocals ret ws room_1 #[(.int p1)] h0 (Q0 p1 h0) := by
  refine own_enter pn_com_example_vestbook_vestbook_HundredthsIsAsciiDigitPinLaw ?_
  intro p e s m below meth c s₁ hx hby hml0 hown hret hlk hnm hZ X0 e0
  have hml : c.maxLocals = 6 := hml0
  refine own_cast (ef_0 m p1) ?_
  show OG p e room_1 s below (fun v h L => v = some (.int (f0 p1)) ∧ L = [] ∧ h = h0) s₁ (mkF m 0 #[.val (.int p1), .unset, .unset, .unset, .unset, .unset] [])
  refine own_st (fun t k => XS.iloadN X0.here hx rfl (hb hby at_0) rfl k) ?_
  show OG p e _ s below _ s₁ (mkF m 1 #[.val (.int p1), .unset, .unset, .unset, .unset, .unset] [(.int p1)])
  refine own_st (fun t k => X0.ldcInt hx hown (mvT hZ (hw _ (List.mem_of_getElem? (i := 0) rfl))) (g := (mkF m 1 #[.val (.int p1), .unset, .unset, .unset, .unset, .unset] [(.int p1)])) rfl (hb hby at_1) _ k) ?_
  show OG p e _ s below _ s₁ (mkF m 3 #[.val (.int p1), .unset, .unset, .unset, .unset, .unset] [(.int (65535 : Int32)), (.int p1)])
  refine own_st (fun t k => XS.iand X0.here hx rfl (hb hby at_3) rfl k) ?_
  show OG p e _ s below _ s₁ (mkF m 4 #[.val (.int p1), .unset, .unset, .unset, .unset, .unset] [(.int (p1 &&& (65535 : Int32)))])
  refine own_st (fun t k => XS.i2c X0.here hx rfl (hb hby at_4) rfl k) ?_
  show OG p e _ s below _ s₁ (mkF m 5 #[.val (.int p1), .unset, .unset, .unset, .unset, .unset] [(.int ((p1 &&& (65535 : Int32)).toUInt32.toUInt16.toUInt32.toInt32))])
  refine own_st (fun t k => XS.istoreN X0.here hx rfl (hb hby at_5) rfl (l' := #[.val (.int p1), .val (.int (g0_1 p1)), .unset, .unset, .unset, .unset]) rfl k) ?_
  show OG p e _ s below _ s₁ (mkF m 6 #[.val (.int p1), .val (.int (g0_1 p1)), .unset, .unset, .unset, .unset] [])
  refine own_st (fun t k => XS.iloadN X0.here hx rfl (hb hby at_6) rfl k) ?_
  show OG p e _ s below _ s₁ (mkF m 7 #[.val (.int p1), .val (.int (g0_1 p1)), .unset, .unset, .unset, .unset] [(.int (g0_1 p1))])
  refine own_st (fun t k => XS.bipush X0.here hx rfl (hb hby at_7) k) ?_
  show OG p e _ s below _ s₁ (mkF m 9 #[.val (.int p1), .val (.int (g0_1 p1)), .unset, .unset, .unset, .unset] [(.int (48 : Int32)), (.int (g0_1 p1))])
  refine own_st (fun t k => XS.isub X0.here hx rfl (hb hby at_9) rfl k) ?_
  show OG p e _ s below _ s₁ (mkF m 10 #[.val (.int p1), .val (.int (g0_1 p1)), .unset, .unset, .unset, .unset] [(.int ((g0_1 p1) - (48 : Int32)))])
  refine own_st (fun t k => XS.i2l X0.here hx rfl (hb hby at_10) rfl k) ?_
  show OG p e _ s below _ s₁ (mkF m 11 #[.val (.int p1), .val (.int (g0_1 p1)), .unset, .unset, .unset, .unset] [(.long (((g0_1 p1) - (48 : Int32)).toInt64))])
  refine own_st (fun t k => X0.ldc2Long hx hown (mvT hZ (hw _ (List.mem_of_getElem? (i := 1) rfl))) (g := (mkF m 11 #[.val (.int p1), .val (.int (g0_1 p1)), .unset, .unset, .unset, .unset] [(.long (((g0_1 p1) - (48 : Int32)).toInt64))])) rfl (hb hby at_11) _ k) ?_
  show OG p e _ s below _ s₁ (mkF m 14 #[.val (.int p1), .val (.int (g0_1 p1)), .unset, .unset, .unset, .unset] [(.long (4294967295 : Int64)), (.long (((g0_1 p1) - (48 : Int32)).toInt64))])
  refine own_st (fun t k => XS.land X0.here hx rfl (hb hby at_14) rfl k) ?_
  show OG p e _ s below _ s₁ (mkF m 15 #[.val (.int p1), .val (.int (g0_1 p1)), .unset, .unset, .unset, .unset] [(.long ((((g0_1 p1) - (48 : Int32)).toInt64) &&& (4294967295 : Int64)))])
  refine own_st (fun t k => XS.lstoreN X0.here hx rfl (hb hby at_15) rfl (l' := #[.val (.int p1), .val (.int (g0_1 p1)), .val (.long (g0_2 p1)), .second, .unset, .unset]) rfl k) ?_
  show OG p e _ s below _ s₁ (mkF m 16 #[.val (.int p1), .val (.int (g0_1 p1)), .val (.long (g0_2 p1)), .second, .unset, .unset] [])
  refine own_st (fun t k => XS.lloadN X0.here hx rfl (hb hby at_16) rfl k) ?_
  show OG p e _ s below _ s₁ (mkF m 17 #[.val (.int p1), .val (.int (g0_1 p1)), .val (.long (g0_2 p1)), .second, .unset, .unset] [(.long (g0_2 p1))])
  refine own_st (fun t k => X0.ldc2Long hx hown (mvT hZ (hw _ (List.mem_of_getElem? (i := 2) rfl))) (g := (mkF m 17 #[.val (.int p1), .val (.int (g0_1 p1)), .val (.long (g0_2 p1)), .second, .unset, .unset] [(.long (g0_2 p1))])) rfl (hb hby at_17) _ k) ?_
  show OG p e _ s below _ s₁ (mkF m 20 #[.val (.int p1), .val (.int (g0_1 p1)), .val (.long (g0_2 p1)), .second, .unset, .unset] [(.long (10 : Int64)), (.long (g0_2 p1))])
  refine own_st (fun t k => XS.lcmp X0.here hx rfl (hb hby at_20) rfl k) ?_
  show OG p e _ s below _ s₁ (mkF m 21 #[.val (.int p1), .val (.int (g0_1 p1)), .val (.long (g0_2 p1)), .second, .unset, .unset] [(.int (lcmpW (g0_2 p1) (10 : Int64)))])
  refine own_st (T' := s₁) (g' := (mkF m 29 #[.val (.int p1), .val (.int (g0_1 p1)), .val (.long (g0_2 p1)), .second, .unset, .unset] [(.int (if (g0_2 p1) < (10 : Int64) then (1 : Int32) else (0 : Int32)))])) (fun t k => ?_) ?_
  · by_cases c1 : (g0_2 p1) < (10 : Int64)
    · rw [if_pos c1] at k
      refine XS.ifNo X0.here hx rfl (hb hby at_21) rfl (own_if0 (tlt ((lw_lt _ _).mpr c1)).2.1) ?_
      show Steps p.tables e below (s₁.setTop (mkF m 24 #[.val (.int p1), .val (.int (g0_1 p1)), .val (.long (g0_2 p1)), .second, .unset, .unset] [])) _
      refine XS.iconst X0.here hx rfl (hb hby at_24) ?_
      show Steps p.tables e below (s₁.setTop (mkF m 25 #[.val (.int p1), .val (.int (g0_1 p1)), .val (.long (g0_2 p1)), .second, .unset, .unset] [(.int (1 : Int32))])) _
      refine XS.goto X0.here hx rfl (pc0 := 25) (pc' := 29) rfl (hb hby at_25) (by decide) (by decide) ?_
      exact k
    · rw [if_neg c1] at k
      refine XS.ifYes X0.here hx rfl (pc0 := 21) (pc' := 28) rfl (hb hby at_21) rfl (own_if0 (flt (fun q => c1 ((lw_lt _ _).mp q))).2.1) (by decide) (by decide) ?_
      show Steps p.tables e below (s₁.setTop (mkF m 28 #[.val (.int p1), .val (.int (g0_1 p1)), .val (.long (g0_2 p1)), .second, .unset, .unset] [])) _
      refine XS.iconst X0.here hx rfl (hb hby at_28) ?_
      show Steps p.tables e below (s₁.setTop (mkF m 29 #[.val (.int p1), .val (.int (g0_1 p1)), .val (.long (g0_2 p1)), .second, .unset, .unset] [(.int (0 : Int32))])) _
      exact k
  show OG p e _ s below _ s₁ (mkF m 29 #[.val (.int p1), .val (.int (g0_1 p1)), .val (.long (g0_2 p1)), .second, .unset, .unset] [(.int (if (g0_2 p1) < (10 : Int64) then (1 : Int32) else (0 : Int32)))])
  refine own_st (fun t k => XS.istore X0.here hx rfl (hb hby at_29) rfl (l' := #[.val (.int p1), .val (.int (g0_1 p1)), .val (.long (g0_2 p1)), .second, .val (.int (g0_3 p1)), .unset]) rfl k) ?_
  show OG p e _ s below _ s₁ (mkF m 31 #[.val (.int p1), .val (.int (g0_1 p1)), .val (.long (g0_2 p1)), .second, .val (.int (g0_3 p1)), .unset] [])
  refine own_st (fun t k => XS.bipush X0.here hx rfl (hb hby at_31) k) ?_
  show OG p e _ s below _ s₁ (mkF m 33 #[.val (.int p1), .val (.int (g0_1 p1)), .val (.long (g0_2 p1)), .second, .val (.int (g0_3 p1)), .unset] [(.int (48 : Int32))])
  obtain ⟨_, _, ⟨T2, L2, k2, n2⟩, -, X2, ⟨Lc2, hQ2, l2, y2, z2⟩, st2⟩ := Jvm.LawKit.callS X0 hx (y := (⟨"com/example/vestbook/vestbook/Hundredths", "isAsciiDigit", "(C)Z"⟩ : MethodName)) hown (mvT hZ (hw _ (List.mem_of_getElem? (i := 3) rfl))) (mvT hZ (hw _ (List.mem_of_getElem? (i := 4) rfl))) (mvT hZ (hw _ (List.mem_of_getElem? (i := 5) rfl))) (mvT hZ (hw _ (List.mem_of_getElem? (i := 6) rfl))) (by decide) (backOf (W := 0) (rm := ({ frames := 0, cells := 0, slots := 0, locals := 0 } : Room)) (rm1 l Z a0 hw [] (48 : Int32) h0) hZ (hw _ (List.mem_of_getElem? (i := 6) rfl)) (hw _ (List.mem_of_getElem? (i := 5) rfl)) (by decide) (by decide)) (g := (mkF m 33 #[.val (.int p1), .val (.int (g0_1 p1)), .val (.long (g0_2 p1)), .second, .val (.int (g0_3 p1)), .unset] [(.int (48 : Int32))])) rfl (by rw [hml]; rfl) (argsL := [(.int (48 : Int32))]) (rest := []) (lenOf pd__C_Z rfl) rfl (by show 2 * 0 + _ ≤ _; exact Nat.le_of_eq rfl) (hb hby at_33) (fun _ _ => ⟨rfl, e0, (by decide : 0 + 0 ≤ _), (by decide : 0 + 0 ≤ _)⟩)
  dsimp only [Pt.U, Pt.locs, Pt.cells, Pt.slots] at X2 l2 y2 z2 st2 hQ2
  subst l2 y2 z2
  obtain ⟨rfl, rfl, e2⟩ := hQ2
  refine own_st st2 ?_
  show OG p e _ s below _ T2 (mkF m 36 #[.val (.int p1), .val (.int (g0_1 p1)), .val (.long (g0_2 p1)), .second, .val (.int (g0_3 p1)), .unset] [(.int (f1 (48 : Int32)))])
  by_cases c3 : (f1 (48 : Int32)) = (0 : Int32)
  · refine own_st (fun t k => XS.ifYes X2.here hx rfl (pc0 := 36) (pc' := 67) rfl (hb hby at_36) rfl (own_if0 (teq c3).1) (by decide) (by decide) k) ?_
    show OG p e _ s below _ T2 (mkF m 67 #[.val (.int p1), .val (.int (g0_1 p1)), .val (.long (g0_2 p1)), .second, .val (.int (g0_3 p1)), .unset] [])
    refine own_st (fun t k => XS.iconst X2.here hx rfl (hb hby at_67) k) ?_
    show OG p e _ s below _ T2 (mkF m 68 #[.val (.int p1), .val (.int (g0_1 p1)), .val (.long (g0_2 p1)), .second, .val (.int (g0_3 p1)), .unset] [(.int (0 : Int32))])
    refine own_st (fun t k => XS.istore X2.here hx rfl (hb hby at_68) rfl (l' := #[.val (.int p1), .val (.int (g0_1 p1)), .val (.long (g0_2 p1)), .second, .val (.int (g0_3 p1)), .val (.int (0 : Int32))]) rfl k) ?_
    show OG p e _ s below _ T2 (mkF m 70 #[.val (.int p1), .val (.int (g0_1 p1)), .val (.long (g0_2 p1)), .second, .val (.int (g0_3 p1)), .val (.int (0 : Int32))] [])
    refine own_st (fun t k => XS.iload X2.here hx rfl (hb hby at_70) rfl k) ?_
    show OG p e _ s below _ T2 (mkF m 72 #[.val (.int p1), .val (.int (g0_1 p1)), .val (.long (g0_2 p1)), .second, .val (.int (g0_3 p1)), .val (.int (0 : Int32))] [(.int (0 : Int32))])
    refine own_st (fun t k => XS.ifYes X2.here hx rfl (pc0 := 72) (pc' := 88) rfl (hb hby at_72) rfl (by decide) (by decide) (by decide) k) ?_
    show OG p e _ s below _ T2 (mkF m 88 #[.val (.int p1), .val (.int (g0_1 p1)), .val (.long (g0_2 p1)), .second, .val (.int (g0_3 p1)), .val (.int (0 : Int32))] [])
    refine own_st (fun t k => XS.iconst X2.here hx rfl (hb hby at_88) k) ?_
    show OG p e _ s below _ T2 (mkF m 89 #[.val (.int p1), .val (.int (g0_1 p1)), .val (.long (g0_2 p1)), .second, .val (.int (g0_3 p1)), .val (.int (0 : Int32))] [(.int (0 : Int32))])
    exact own_retZ X2 hx (t := .boolean) hret (by simp) hlk (hb hby at_89) (by decide) (by decide) (w := (0 : Int32)) rfl ⟨congrArg (fun z => some (Value.int z)) (show f0 p1 = (0 : Int32) from (by rw [f0, if_pos c3])).symm, rfl, e2⟩
  · refine own_st (fun t k => XS.ifNo X2.here hx rfl (hb hby at_36) rfl (own_if0 (feq c3).1) k) ?_
    show OG p e _ s below _ T2 (mkF m 39 #[.val (.int p1), .val (.int (g0_1 p1)), .val (.long (g0_2 p1)), .second, .val (.int (g0_3 p1)), .unset] [])
    refine own_st (fun t k => XS.bipush X2.here hx rfl (hb hby at_39) k) ?_
    show OG p e _ s below _ T2 (mkF m 41 #[.val (.int p1), .val (.int (g0_1 p1)), .val (.long (g0_2 p1)), .second, .val (.int (g0_3 p1)), .unset] [(.int (57 : Int32))])
    obtain ⟨_, _, ⟨T4, L4, k4, n4⟩, -, X4, ⟨Lc4, hQ4, l4, y4, z4⟩, st4⟩ := Jvm.LawKit.callS X2 hx (y := (⟨"com/example/vestbook/vestbook/Hundredths", "isAsciiDigit", "(C)Z"⟩ : MethodName)) hown (mvT hZ (hw _ (List.mem_of_getElem? (i := 3) rfl))) (mvT hZ (hw _ (List.mem_of_getElem? (i := 4) rfl))) (mvT hZ (hw _ (List.mem_of_getElem? (i := 5) rfl))) (mvT hZ (hw _ (List.mem_of_getElem? (i := 6) rfl))) (by decide) (backOf (W := 0) (rm := ({ frames := 0, cells := 0, slots := 0, locals := 0 } : Room)) (rm1 l Z a0 hw [] (57 : Int32) h0) hZ (hw _ (List.mem_of_getElem? (i := 6) rfl)) (hw _ (List.mem_of_getElem? (i := 5) rfl)) (by decide) (by decide)) (g := (mkF m 41 #[.val (.int p1), .val (.int (g0_1 p1)), .val (.long (g0_2 p1)), .second, .val (.int (g0_3 p1)), .unset] [(.int (57 : Int32))])) rfl (by rw [hml]; rfl) (argsL := [(.int (57 : Int32))]) (rest := []) (lenOf pd__C_Z rfl) rfl (by show 2 * 0 + _ ≤ _; exact Nat.le_of_eq rfl) (hb hby at_41) (fun _ _ => ⟨rfl, e2, (by decide : 0 + 0 ≤ _), (by decide : 0 + 0 ≤ _)⟩)
    dsimp only [Pt.U, Pt.locs, Pt.cells, Pt.slots] at X4 l4 y4 z4 st4 hQ4
    subst l4 y4 z4
    obtain ⟨rfl, rfl, e4⟩ := hQ4
    refine own_st st4 ?_
    show OG p e _ s below _ T4 (mkF m 44 #[.val (.int p1), .val (.int (g0_1 p1)), .val (.long (g0_2 p1)), .second, .val (.int (g0_3 p1)), .unset] [(.int (f1 (57 : Int32)))])
    by_cases c5 : (f1 (57 : Int32)) = (0 : Int32)
    · refine own_st (fun t k => XS.ifYes X4.here hx rfl (pc0 := 44) (pc' := 67) rfl (hb hby at_44) rfl (own_if0 (teq c5).1) (by decide) (by decide) k) ?_
      show OG p e _ s below _ T4 (mkF m 67 #[.val (.int p1), .val (.int (g0_1 p1)), .val (.long (g0_2 p1)), .second, .val (.int (g0_3 p1)), .unset] [])
      refine own_st (fun t k => XS.iconst X4.here hx rfl (hb hby at_67) k) ?_
      show OG p e _ s below _ T4 (mkF m 68 #[.val (.int p1), .val (.int (g0_1 p1)), .val (.long (g0_2 p1)), .second, .val (.int (g0_3 p1)), .unset] [(.int (0 : Int32))])
      refine own_st (fun t k => XS.istore X4.here hx rfl (hb hby at_68) rfl (l' := #[.val (.int p1), .val (.int (g0_1 p1)), .val (.long (g0_2 p1)), .second, .val (.int (g0_3 p1)), .val (.int (0 : Int32))]) rfl k) ?_
      show OG p e _ s below _ T4 (mkF m 70 #[.val (.int p1), .val (.int (g0_1 p1)), .val (.long (g0_2 p1)), .second, .val (.int (g0_3 p1)), .val (.int (0 : Int32))] [])
      refine own_st (fun t k => XS.iload X4.here hx rfl (hb hby at_70) rfl k) ?_
      show OG p e _ s below _ T4 (mkF m 72 #[.val (.int p1), .val (.int (g0_1 p1)), .val (.long (g0_2 p1)), .second, .val (.int (g0_3 p1)), .val (.int (0 : Int32))] [(.int (0 : Int32))])
      refine own_st (fun t k => XS.ifYes X4.here hx rfl (pc0 := 72) (pc' := 88) rfl (hb hby at_72) rfl (by decide) (by decide) (by decide) k) ?_
      show OG p e _ s below _ T4 (mkF m 88 #[.val (.int p1), .val (.int (g0_1 p1)), .val (.long (g0_2 p1)), .second, .val (.int (g0_3 p1)), .val (.int (0 : Int32))] [])
      refine own_st (fun t k => XS.iconst X4.here hx rfl (hb hby at_88) k) ?_
      show OG p e _ s below _ T4 (mkF m 89 #[.val (.int p1), .val (.int (g0_1 p1)), .val (.long (g0_2 p1)), .second, .val (.int (g0_3 p1)), .val (.int (0 : Int32))] [(.int (0 : Int32))])
      exact own_retZ X4 hx (t := .boolean) hret (by simp) hlk (hb hby at_89) (by decide) (by decide) (w := (0 : Int32)) rfl ⟨congrArg (fun z => some (Value.int z)) (show f0 p1 = (0 : Int32) from (by rw [f0, if_neg c3, if_pos c5])).symm, rfl, e4⟩
    · refine own_st (fun t k => XS.ifNo X4.here hx rfl (hb hby at_44) rfl (own_if0 (feq c5).1) k) ?_
      show OG p e _ s below _ T4 (mkF m 47 #[.val (.int p1), .val (.int (g0_1 p1)), .val (.long (g0_2 p1)), .second, .val (.int (g0_3 p1)), .unset] [])
      refine own_st (fun t k => XS.bipush X4.here hx rfl (hb hby at_47) k) ?_
      show OG p e _ s below _ T4 (mkF m 49 #[.val (.int p1), .val (.int (g0_1 p1)), .val (.long (g0_2 p1)), .second, .val (.int (g0_3 p1)), .unset] [(.int (47 : Int32))])
      obtain ⟨_, _, ⟨T6, L6, k6, n6⟩, -, X6, ⟨Lc6, hQ6, l6, y6, z6⟩, st6⟩ := Jvm.LawKit.callS X4 hx (y := (⟨"com/example/vestbook/vestbook/Hundredths", "isAsciiDigit", "(C)Z"⟩ : MethodName)) hown (mvT hZ (hw _ (List.mem_of_getElem? (i := 3) rfl))) (mvT hZ (hw _ (List.mem_of_getElem? (i := 4) rfl))) (mvT hZ (hw _ (List.mem_of_getElem? (i := 5) rfl))) (mvT hZ (hw _ (List.mem_of_getElem? (i := 6) rfl))) (by decide) (backOf (W := 0) (rm := ({ frames := 0, cells := 0, slots := 0, locals := 0 } : Room)) (rm1 l Z a0 hw [] (47 : Int32) h0) hZ (hw _ (List.mem_of_getElem? (i := 6) rfl)) (hw _ (List.mem_of_getElem? (i := 5) rfl)) (by decide) (by decide)) (g := (mkF m 49 #[.val (.int p1), .val (.int (g0_1 p1)), .val (.long (g0_2 p1)), .second, .val (.int (g0_3 p1)), .unset] [(.int (47 : Int32))])) rfl (by rw [hml]; rfl) (argsL := [(.int (47 : Int32))]) (rest := []) (lenOf pd__C_Z rfl) rfl (by show 2 * 0 + _ ≤ _; exact Nat.le_of_eq rfl) (hb hby at_49) (fun _ _ => ⟨rfl, e4, (by decide : 0 + 0 ≤ _), (by decide : 0 + 0 ≤ _)⟩)
      dsimp only [Pt.U, Pt.locs, Pt.cells, Pt.slots] at X6 l6 y6 z6 st6 hQ6
      subst l6 y6 z6
      obtain ⟨rfl, rfl, e6⟩ := hQ6
      refine own_st st6 ?_
      show OG p e _ s below _ T6 (mkF m 52 #[.val (.int p1), .val (.int (g0_1 p1)), .val (.long (g0_2 p1)), .second, .val (.int (g0_3 p1)), .unset] [(.int (f1 (47 : Int32)))])
      by_cases c7 : (f1 (47 : Int32)) = (0 : Int32)
      · refine own_st (fun t k => XS.ifNo X6.here hx rfl (hb hby at_52) rfl (own_if0 (teq c7).2) k) ?_
        show OG p e _ s below _ T6 (mkF m 55 #[.val (.int p1), .val (.int (g0_1 p1)), .val (.long (g0_2 p1)), .second, .val (.int (g0_3 p1)), .unset] [])
        refine own_st (fun t k => XS.bipush X6.here hx rfl (hb hby at_55) k) ?_
        show OG p e _ s below _ T6 (mkF m 57 #[.val (.int p1), .val (.int (g0_1 p1)), .val (.long (g0_2 p1)), .second, .val (.int (g0_3 p1)), .unset] [(.int (58 : Int32))])
        obtain ⟨_, _, ⟨T8, L8, k8, n8⟩, -, X8, ⟨Lc8, hQ8, l8, y8, z8⟩, st8⟩ := Jvm.LawKit.callS X6 hx (y := (⟨"com/example/vestbook/vestbook/Hundredths", "isAsciiDigit", "(C)Z"⟩ : MethodName)) hown (mvT hZ (hw _ (List.mem_of_getElem? (i := 3) rfl))) (mvT hZ (hw _ (List.mem_of_getElem? (i := 4) rfl))) (mvT hZ (hw _ (List.mem_of_getElem? (i := 5) rfl))) (mvT hZ (hw _ (List.mem_of_getElem? (i := 6) rfl))) (by decide) (backOf (W := 0) (rm := ({ frames := 0, cells := 0, slots := 0, locals := 0 } : Room)) (rm1 l Z a0 hw [] (58 : Int32) h0) hZ (hw _ (List.mem_of_getElem? (i := 6) rfl)) (hw _ (List.mem_of_getElem? (i := 5) rfl)) (by decide) (by decide)) (g := (mkF m 57 #[.val (.int p1), .val (.int (g0_1 p1)), .val (.long (g0_2 p1)), .second, .val (.int (g0_3 p1)), .unset] [(.int (58 : Int32))])) rfl (by rw [hml]; rfl) (argsL := [(.int (58 : Int32))]) (rest := []) (lenOf pd__C_Z rfl) rfl (by show 2 * 0 + _ ≤ _; exact Nat.le_of_eq rfl) (hb hby at_57) (fun _ _ => ⟨rfl, e6, (by decide : 0 + 0 ≤ _), (by decide : 0 + 0 ≤ _)⟩)
        dsimp only [Pt.U, Pt.locs, Pt.cells, Pt.slots] at X8 l8 y8 z8 st8 hQ8
        subst l8 y8 z8
        obtain ⟨rfl, rfl, e8⟩ := hQ8
        refine own_st st8 ?_
        show OG p e _ s below _ T8 (mkF m 60 #[.val (.int p1), .val (.int (g0_1 p1)), .val (.long (g0_2 p1)), .second, .val (.int (g0_3 p1)), .unset] [(.int (f1 (58 : Int32)))])
        refine own_st (T' := T8) (g' := (mkF m 68 #[.val (.int p1), .val (.int (g0_1 p1)), .val (.long (g0_2 p1)), .second, .val (.int (g0_3 p1)), .unset] [(.int (if (f1 (58 : Int32)) = (0 : Int32) then (1 : Int32) else (0 : Int32)))])) (fun t k => ?_) ?_
        · by_cases c9 : (f1 (58 : Int32)) = (0 : Int32)
          · rw [if_pos c9] at k
            refine XS.ifNo X8.here hx rfl (hb hby at_60) rfl (own_if0 (teq c9).2) ?_
            show Steps p.tables e below (T8.setTop (mkF m 63 #[.val (.int p1), .val (.int (g0_1 p1)), .val (.long (g0_2 p1)), .second, .val (.int (g0_3 p1)), .unset] [])) _
            refine XS.iconst X8.here hx rfl (hb hby at_63) ?_
            show Steps p.tables e below (T8.setTop (mkF m 64 #[.val (.int p1), .val (.int (g0_1 p1)), .val (.long (g0_2 p1)), .second, .val (.int (g0_3 p1)), .unset] [(.int (1 : Int32))])) _
            refine XS.goto X8.here hx rfl (pc0 := 64) (pc' := 68) rfl (hb hby at_64) (by decide) (by decide) ?_
            exact k
          · rw [if_neg c9] at k
            refine XS.ifYes X8.here hx rfl (pc0 := 60) (pc' := 67) rfl (hb hby at_60) rfl (own_if0 (feq c9).2) (by decide) (by decide) ?_
            show Steps p.tables e below (T8.setTop (mkF m 67 #[.val (.int p1), .val (.int (g0_1 p1)), .val (.long (g0_2 p1)), .second, .val (.int (g0_3 p1)), .unset] [])) _
            refine XS.iconst X8.here hx rfl (hb hby at_67) ?_
            show Steps p.tables e below (T8.setTop (mkF m 68 #[.val (.int p1), .val (.int (g0_1 p1)), .val (.long (g0_2 p1)), .second, .val (.int (g0_3 p1)), .unset] [(.int (0 : Int32))])) _
            exact k
        show OG p e _ s below _ T8 (mkF m 68 #[.val (.int p1), .val (.int (g0_1 p1)), .val (.long (g0_2 p1)), .second, .val (.int (g0_3 p1)), .unset] [(.int (if (f1 (58 : Int32)) = (0 : Int32) then (1 : Int32) else (0 : Int32)))])
        refine own_st (fun t k => XS.istore X8.here hx rfl (hb hby at_68) rfl (l' := #[.val (.int p1), .val (.int (g0_1 p1)), .val (.long (g0_2 p1)), .second, .val (.int (g0_3 p1)), .val (.int (g0_4 p1))]) rfl k) ?_
        show OG p e _ s below _ T8 (mkF m 70 #[.val (.int p1), .val (.int (g0_1 p1)), .val (.long (g0_2 p1)), .second, .val (.int (g0_3 p1)), .val (.int (g0_4 p1))] [])
        refine own_st (fun t k => XS.iload X8.here hx rfl (hb hby at_70) rfl k) ?_
        show OG p e _ s below _ T8 (mkF m 72 #[.val (.int p1), .val (.int (g0_1 p1)), .val (.long (g0_2 p1)), .second, .val (.int (g0_3 p1)), .val (.int (g0_4 p1))] [(.int (g0_4 p1))])
        by_cases c10 : (g0_4 p1) = (0 : Int32)
        · refine own_st (fun t k => XS.ifYes X8.here hx rfl (pc0 := 72) (pc' := 88) rfl (hb hby at_72) rfl (own_if0 (teq c10).1) (by decide) (by decide) k) ?_
          show OG p e _ s below _ T8 (mkF m 88 #[.val (.int p1), .val (.int (g0_1 p1)), .val (.long (g0_2 p1)), .second, .val (.int (g0_3 p1)), .val (.int (g0_4 p1))] [])
          refine own_st (fun t k => XS.iconst X8.here hx rfl (hb hby at_88) k) ?_
          show OG p e _ s below _ T8 (mkF m 89 #[.val (.int p1), .val (.int (g0_1 p1)), .val (.long (g0_2 p1)), .second, .val (.int (g0_3 p1)), .val (.int (g0_4 p1))] [(.int (0 : Int32))])
          exact own_retZ X8 hx (t := .boolean) hret (by simp) hlk (hb hby at_89) (by decide) (by decide) (w := (0 : Int32)) rfl ⟨congrArg (fun z => some (Value.int z)) (show f0 p1 = (0 : Int32) from (by rw [f0, if_neg c3, if_neg c5, if_pos c7, if_pos c10])).symm, rfl, e8⟩
        · refine own_st (fun t k => XS.ifNo X8.here hx rfl (hb hby at_72) rfl (own_if0 (feq c10).1) k) ?_
          show OG p e _ s below _ T8 (mkF m 75 #[.val (.int p1), .val (.int (g0_1 p1)), .val (.long (g0_2 p1)), .second, .val (.int (g0_3 p1)), .val (.int (g0_4 p1))] [])
          refine own_st (fun t k => XS.iloadN X8.here hx rfl (hb hby at_75) rfl k) ?_
          show OG p e _ s below _ T8 (mkF m 76 #[.val (.int p1), .val (.int (g0_1 p1)), .val (.long (g0_2 p1)), .second, .val (.int (g0_3 p1)), .val (.int (g0_4 p1))] [(.int (g0_1 p1))])
          obtain ⟨_, _, ⟨T11, L11, k11, n11⟩, -, X11, ⟨Lc11, hQ11, l11, y11, z11⟩, st11⟩ := Jvm.LawKit.callS X8 hx (y := (⟨"com/example/vestbook/vestbook/Hundredths", "isAsciiDigit", "(C)Z"⟩ : MethodName)) hown (mvT hZ (hw _ (List.mem_of_getElem? (i := 3) rfl))) (mvT hZ (hw _ (List.mem_of_getElem? (i := 4) rfl))) (mvT hZ (hw _ (List.mem_of_getElem? (i := 5) rfl))) (mvT hZ (hw _ (List.mem_of_getElem? (i := 6) rfl))) (by decide) (backOf (W := 0) (rm := ({ frames := 0, cells := 0, slots := 0, locals := 0 } : Room)) (rm1 l Z a0 hw [] (g0_1 p1) h0) hZ (hw _ (List.mem_of_getElem? (i := 6) rfl)) (hw _ (List.mem_of_getElem? (i := 5) rfl)) (by decide) (by decide)) (g := (mkF m 76 #[.val (.int p1), .val (.int (g0_1 p1)), .val (.long (g0_2 p1)), .second, .val (.int (g0_3 p1)), .val (.int (g0_4 p1))] [(.int (g0_1 p1))])) rfl (by rw [hml]; rfl) (argsL := [(.int (g0_1 p1))]) (rest := []) (lenOf pd__C_Z rfl) rfl (by show 2 * 0 + _ ≤ _; exact Nat.le_of_eq rfl) (hb hby at_76) (fun _ _ => ⟨rfl, e8, (by decide : 0 + 0 ≤ _), (by decide : 0 + 0 ≤ _)⟩)
          dsimp only [Pt.U, Pt.locs, Pt.cells, Pt.slots] at X11 l11 y11 z11 st11 hQ11
          subst l11 y11 z11
          obtain ⟨rfl, rfl, e11⟩ := hQ11
          refine own_st st11 ?_
          show OG p e _ s below _ T11 (mkF m 79 #[.val (.int p1), .val (.int (g0_1 p1)), .val (.long (g0_2 p1)), .second, .val (.int (g0_3 p1)), .val (.int (g0_4 p1))] [(.int (f1 (g0_1 p1)))])
          refine own_st (fun t k => XS.iload X11.here hx rfl (hb hby at_79) rfl k) ?_
          show OG p e _ s below _ T11 (mkF m 81 #[.val (.int p1), .val (.int (g0_1 p1)), .val (.long (g0_2 p1)), .second, .val (.int (g0_3 p1)), .val (.int (g0_4 p1))] [(.int (g0_3 p1)), (.int (f1 (g0_1 p1)))])
          by_cases c12 : (f1 (g0_1 p1)) = (g0_3 p1)
          · refine own_st (fun t k => XS.icmpNo X11.here hx rfl (hb hby at_81) rfl (teq c12).2 k) ?_
            show OG p e _ s below _ T11 (mkF m 84 #[.val (.int p1), .val (.int (g0_1 p1)), .val (.long (g0_2 p1)), .second, .val (.int (g0_3 p1)), .val (.int (g0_4 p1))] [])
            refine own_st (fun t k => XS.iconst X11.here hx rfl (hb hby at_84) k) ?_
            show OG p e _ s below _ T11 (mkF m 85 #[.val (.int p1), .val (.int (g0_1 p1)), .val (.long (g0_2 p1)), .second, .val (.int (g0_3 p1)), .val (.int (g0_4 p1))] [(.int (1 : Int32))])
            refine own_st (fun t k => XS.goto X11.here hx rfl (pc0 := 85) (pc' := 89) rfl (hb hby at_85) (by decide) (by decide) k) ?_
            show OG p e _ s below _ T11 (mkF m 89 #[.val (.int p1), .val (.int (g0_1 p1)), .val (.long (g0_2 p1)), .second, .val (.int (g0_3 p1)), .val (.int (g0_4 p1))] [(.int (1 : Int32))])
            exact own_retZ X11 hx (t := .boolean) hret (by simp) hlk (hb hby at_89) (by decide) (by decide) (w := (1 : Int32)) rfl ⟨congrArg (fun z => some (Value.int z)) (show f0 p1 = (1 : Int32) from (by rw [f0, if_neg c3, if_neg c5, if_pos c7, if_neg c10, if_pos c12])).symm, rfl, e11⟩
          · refine own_st (fun t k => XS.icmpYes X11.here hx rfl (pc0 := 81) (pc' := 88) rfl (hb hby at_81) rfl (feq c12).2 (by decide) (by decide) k) ?_
            show OG p e _ s below _ T11 (mkF m 88 #[.val (.int p1), .val (.int (g0_1 p1)), .val (.long (g0_2 p1)), .second, .val (.int (g0_3 p1)), .val (.int (g0_4 p1))] [])
            refine own_st (fun t k => XS.iconst X11.here hx rfl (hb hby at_88) k) ?_
            show OG p e _ s below _ T11 (mkF m 89 #[.val (.int p1), .val (.int (g0_1 p1)), .val (.long (g0_2 p1)), .second, .val (.int (g0_3 p1)), .val (.int (g0_4 p1))] [(.int (0 : Int32))])
            exact own_retZ X11 hx (t := .boolean) hret (by simp) hlk (hb hby at_89) (by decide) (by decide) (w := (0 : Int32)) rfl ⟨congrArg (fun z => some (Value.int z)) (show f0 p1 = (0 : Int32) from (by rw [f0, if_neg c3, if_neg c5, if_pos c7, if_neg c10, if_neg c12])).symm, rfl, e11⟩
      · refine own_st (fun t k => XS.ifYes X6.here hx rfl (pc0 := 52) (pc' := 67) rfl (hb hby at_52) rfl (own_if0 (feq c7).2) (by decide) (by decide) k) ?_
        show OG p e _ s below _ T6 (mkF m 67 #[.val (.int p1), .val (.int (g0_1 p1)), .val (.long (g0_2 p1)), .second, .val (.int (g0_3 p1)), .unset] [])
        refine own_st (fun t k => XS.iconst X6.here hx rfl (hb hby at_67) k) ?_
        show OG p e _ s below _ T6 (mkF m 68 #[.val (.int p1), .val (.int (g0_1 p1)), .val (.long (g0_2 p1)), .second, .val (.int (g0_3 p1)), .unset] [(.int (0 : Int32))])
        refine own_st (fun t k => XS.istore X6.here hx rfl (hb hby at_68) rfl (l' := #[.val (.int p1), .val (.int (g0_1 p1)), .val (.long (g0_2 p1)), .second, .val (.int (g0_3 p1)), .val (.int (0 : Int32))]) rfl k) ?_
        show OG p e _ s below _ T6 (mkF m 70 #[.val (.int p1), .val (.int (g0_1 p1)), .val (.long (g0_2 p1)), .second, .val (.int (g0_3 p1)), .val (.int (0 : Int32))] [])
        refine own_st (fun t k => XS.iload X6.here hx rfl (hb hby at_70) rfl k) ?_
        show OG p e _ s below _ T6 (mkF m 72 #[.val (.int p1), .val (.int (g0_1 p1)), .val (.long (g0_2 p1)), .second, .val (.int (g0_3 p1)), .val (.int (0 : Int32))] [(.int (0 : Int32))])
        refine own_st (fun t k => XS.ifYes X6.here hx rfl (pc0 := 72) (pc' := 88) rfl (hb hby at_72) rfl (by decide) (by decide) (by decide) k) ?_
        show OG p e _ s below _ T6 (mkF m 88 #[.val (.int p1), .val (.int (g0_1 p1)), .val (.long (g0_2 p1)), .second, .val (.int (g0_3 p1)), .val (.int (0 : Int32))] [])
        refine own_st (fun t k => XS.iconst X6.here hx rfl (hb hby at_88) k) ?_
        show OG p e _ s below _ T6 (mkF m 89 #[.val (.int p1), .val (.int (g0_1 p1)), .val (.long (g0_2 p1)), .second, .val (.int (g0_3 p1)), .val (.int (0 : Int32))] [(.int (0 : Int32))])
        exact own_retZ X6 hx (t := .boolean) hret (by simp) hlk (hb hby at_89) (by decide) (by decide) (w := (0 : Int32)) rfl ⟨congrArg (fun z => some (Value.int z)) (show f0 p1 = (0 : Int32) from (by rw [f0, if_neg c3, if_neg c5, if_neg c7])).symm, rfl, e6⟩
/-! the plain law -/
theorem own_same (c : Int32) (h0 : 0 ≤ c.toInt) (h1 : c.toInt < 65536) : f1 c = (if ((c - (48 : Int32)).toInt64 &&& (4294967295 : Int64)) < (10 : Int64) then (1 : Int32) else (0 : Int32)) := by
  have k48 : (48 : Int32).toInt = 48 := by decide
  have k57 : (57 : Int32).toInt = 57 := by decide
  have k10 : (10 : Int64).toInt = 10 := by decide
  have q1 := c_isub c 48
  have q2 := rng32 (c - 48)
  have a1 : (c - 48).toInt = c.toInt - 48 := by rw [k48] at q1; omega
  have a2 : ((c - (48 : Int32)).toInt64 &&& (4294967295 : Int64)).toInt = (c.toInt - 48) % 4294967296 := by
    rw [c_maskL _ _ 32 (by decide) (by decide), c_i2l, a1]; rfl
  simp only [f1, Int32.lt_iff_toInt_lt, Int64.lt_iff_toInt_lt, a2, k48, k57, k10]
  repeat' split
  all_goals first | rfl | (exfalso; omega)
theorem own_law (p1 : Int32) : f0 p1 = 1 := by
  have k1 : ¬ f1 48 = 0 := by decide
  have k2 : ¬ f1 57 = 0 := by decide
  have k3 : f1 47 = 0 := by decide
  have k4 : ¬ g0_4 p1 = 0 := by rw [g0_4, if_pos (by decide : f1 58 = 0)]; decide
  obtain ⟨-, h0, h1⟩ := c_i2c (p1 &&& 65535)
  have k5 : f1 (g0_1 p1) = g0_3 p1 := own_same (g0_1 p1) h0 h1
  rw [f0, if_neg k1, if_neg k2, if_pos k3, if_neg k4, if_pos k5]

theorem own_met (l : Launch) (Z : State) (a0 : Array Value) (hw : ∀ d ∈ tables_1, d.before a0 Z = true) (ws : List Jvm.Cond) (p1 : Int32) (h0 : Heap)  :
    OMet l Z x code maxLocals ret ws room_1 #[(.int p1)] h0 (fun v h L => v = some (.int 1) ∧ Fr h0.size L) := by
  intro p e ha hc hk s m args below hf happ hP hK
  obtain ⟨n, o, h1, h2, h3, v, L, ho, ⟨hv, hL, hh⟩, hq⟩ := rm0 l Z a0 hw ws p1 h0  p e ha hc hk s m args below hf happ hP hK
  rw [own_law] at hv
  exact ⟨n, o, h1, h2, h3, v, L, ho, ⟨hv, by subst hL; exact Fr.nil _⟩, hq⟩
set_option maxRecDepth 65536 in
set_option maxHeartbeats 40000000 in
theorem comes_1 {Post : Tables → Env → Array Value → State → Outcome → State → Prop} (hpost : ∀ tb e args s v u, (limb_1_1.after args s (.returned v) u = true ∧ limb_1_2.after args s (.returned v) u = true ∧ True) → FrameEnd s (.returned v) u (Jvm.fieldLocs frame_1_writes args s ++ Jvm.arrayLocs frame_1_arrays args s ++ Jvm.staticLocs frame_1_statics s) 0 0 → Post tb e args s (.returned v) u) :
    ArmFor flags0 classFile x code maxLocals ret World_1 tables_1 room_1 Calls_1 rest_1 Pre_1 Post := by
  intro l hfl _ _ p e ha hc hk s m args below hf hA hF happ hP
  obtain ⟨hcalls, hrest, hpre⟩ := hP
  obtain ⟨-, -, -, hnamed, -, -, -, hat⟩ := (Spec.applies_iff hf).mp happ
  obtain ⟨hg, hn⟩ := and_e (Cond.before_iff.mp (show (Jvm.Cond.and given_1 narrow_1).before args s = true from hpre))
  obtain ⟨h1, g0⟩ := and_e hg
  obtain ⟨w0, rfl⟩ : ∃ w0 : Value, args = #[w0] := by
    have hs : args.size = 1 := by simpa [Cond.value, given_1] using h1
    obtain ⟨L⟩ := args
    match L, hs with
    | [w0], _ => exact ⟨w0, rfl⟩
  have hw := fun d (hd : d ∈ tables_1) => atoms_spec (ws := Jvm.Cond.code x code maxLocals ret :: tables_1) hat d (List.mem_cons_of_mem _ hd)
  obtain ⟨i0, e0⟩ := is_v g0
  obtain rfl : w0 = (.int i0) := Option.some.inj e0
  obtain ⟨n, o, h1, h2, h3, _, L, rfl, ⟨rfl, N⟩, hq⟩ := own_met l s _ hw tables_1 i0 s.heap p e ha hc hk s m _ below hf ((Spec.applies_iff_loose hf).mp happ).1 ⟨rfl, State.Warmed39.refl s, rfl⟩ trivial
  refine ⟨n, _, h1, h2, h3, hpost _ _ _ _ _ _ ⟨Cond.after_iff.mpr rfl, Cond.after_iff.mpr (eq_i res_at (Term.int_eval (1)) rfl), trivial⟩ ⟨hq.1, hq.2.1, (hq.2.2.sift fun y hy => Or.inr (N y hy)).mono (by decide) (by decide)⟩⟩
theorem main_1_1 : Claimed_1_1 := comes_1 fun _ _ _ _ _ _ h hF => ⟨h.1, hF⟩
theorem main_1_2 : Claimed_1_2 := comes_1 fun _ _ _ _ _ _ h hF => ⟨h.2.1, hF⟩
end Jvm.Pilot.@@N@@
namespace Jvm.Pilot.@@N@@
open Jvm Jvm.ClassFile Sem Op Lib Jvm.Free Jvm.Stand Jvm.Pilot.@@N@@.Jvm.D
/-! MADE BY PROGRAM (witnessworld.py) out of the Statement's table words and the real class files: 9 classes; the members and pool entries that the words name. The judged class is class 1, her method 1. -/
namespace start1
open Jvm.ClassFile
def u (s : String) : CpInfo := .utf8 (stringToUtf16 s)
/-- a pool by its gaps: so many unusable entries, then the entry; so many at the end -/
def gap : Nat → List CpInfo → List CpInfo
  | 0, r => r
  | n + 1, r => .unusable :: gap n r
def poolList (es : List (Nat × CpInfo)) (last : Nat) : List CpInfo := es.foldr (fun e r => gap e.1 (e.2 :: r)) (gap last [])
def pool (es : List (Nat × CpInfo)) (last : Nat) : Array CpInfo := ⟨poolList es last⟩
def fileOf (pool : Array CpInfo) (this : Nat) (attrs : Array Attribute := #[]) (ms : Array MethodInfo := #[]) (fl : Nat := 33) (sup : Nat := 0) (ifs : Array Nat := #[]) (fds : Array FieldInfo := #[]) : ClassFile where
  minorVersion := 0
  majorVersion := 65
  constantPool := pool
  accessFlags := fl
  thisClass := this
  superClass := sup
  interfaces := ifs
  fields := fds
  methods := ms
  attributes := attrs
def plain (name : String) (sup : Option ClassId) : Class where
  name := name
  kind := .ordinary
  loader := none
  accessFlags := 33
  super := sup
  interfaces := #[]
  cf := none
  fields := #[]
  methods := #[]
  instanceTypes := #[]
  staticTypes := #[]
  resolved := #[]
  callSites := []
  init := .initialized
  statics := none
  mirror := none

def pool0 : Array CpInfo := pool [(5, u "<init>"), (0, u "()V"), (1, .class_ 10), (1, u "java/lang/Object")] 113

def k0m0 : Method := { name := "<init>", desc := "()V", sig := { parameters := [], returnType := none }, accessFlags := 1, code := none }
/-- java/lang/Object -/
def k0 : Class := { plain "java/lang/Object" none with
  accessFlags := 33
  interfaces := #[]
  cf := some (fileOf pool0 8 #[] #[{ accessFlags := 1, nameIndex := 5, descriptorIndex := 6, attributes := #[] }] 33 0 #[] #[])
  fields := #[]
  methods := #[k0m0]
  instanceTypes := #[]
  staticTypes := #[]
  resolved := Array.replicate 124 none
  statics := none }

def pool1 : Array CpInfo := pool [(2, .class_ 4), (1, u "java/lang/Object"), (0, u "<init>"), (0, u "()V"), (0, .integer 65535), (0, .long 4294967295), (1, .long 10), (1, .methodref 13 14), (0, .class_ 15), (0, .nameAndType 16 17), (0, u "com/example/vestbook/vestbook/Hundredths"), (0, u "isAsciiDigit"), (0, u "(C)Z"), (0, .class_ 19), (0, u "com/example/vestbook/vestbook/HundredthsIsAsciiDigitPinLaw"), (2, u "law"), (0, u "(I)Z")] 3

def k1m0 : Method := { name := "<init>", desc := "()V", sig := { parameters := [], returnType := none }, accessFlags := 2, code := none }
def k1c1 : Code := { maxStack := 4, maxLocals := 6, code := code, exceptionTable := #[], attributes := #[] }
def k1m1 : Method := { name := "law", desc := "(I)Z", sig := { parameters := [.int], returnType := some .boolean }, accessFlags := 9, code := some k1c1 }
/-- com/example/vestbook/vestbook/HundredthsIsAsciiDigitPinLaw -/
def k1 : Class := { plain "com/example/vestbook/vestbook/HundredthsIsAsciiDigitPinLaw" (some 0) with
  accessFlags := 49
  interfaces := #[]
  cf := some (fileOf pool1 18 #[] #[{ accessFlags := 2, nameIndex := 5, descriptorIndex := 6, attributes := #[] }, { accessFlags := 9, nameIndex := 22, descriptorIndex := 23, attributes := #[] }] 49 2 #[] #[])
  fields := #[]
  methods := #[k1m0, k1m1]
  instanceTypes := #[]
  staticTypes := #[]
  resolved := Array.replicate 27 none
  statics := none }

def pool2 : Array CpInfo := pool [(2, .class_ 4), (1, u "java/lang/Object"), (0, u "<init>"), (0, u "()V"), (16, .class_ 24), (0, u "com/example/vestbook/vestbook/Hundredths"), (11, u "isAsciiDigit"), (0, u "(C)Z"), (10, u "DECIMALS"), (0, u "I")] 9

def k2m0 : Method := { name := "<init>", desc := "()V", sig := { parameters := [], returnType := none }, accessFlags := 2, code := none }
def k2c1 : Code := { maxStack := 2, maxLocals := 1, code := prog_24_method_3_code, exceptionTable := #[], attributes := #[] }
def k2m1 : Method := { name := "isAsciiDigit", desc := "(C)Z", sig := { parameters := [.char], returnType := some .boolean }, accessFlags := 8, code := some k2c1 }
/-- com/example/vestbook/vestbook/Hundredths -/
def k2 : Class := { plain "com/example/vestbook/vestbook/Hundredths" (some 0) with
  accessFlags := 32
  interfaces := #[]
  cf := some (fileOf pool2 23 #[] #[{ accessFlags := 2, nameIndex := 5, descriptorIndex := 6, attributes := #[] }, { accessFlags := 8, nameIndex := 36, descriptorIndex := 37, attributes := #[] }] 32 2 #[] #[{ accessFlags := 26, nameIndex := 48, descriptorIndex := 49, attributes := #[] }])
  fields := #[{ name := "DECIMALS", type := .int, accessFlags := 26, slot := 0, constantValue := 0 }]
  methods := #[k2m0, k2m1]
  instanceTypes := #[]
  staticTypes := #[.int]
  resolved := Array.replicate 59 none
  statics := none }

def pool3 : Array CpInfo := pool [(1, u "java/lang/Cloneable"), (0, .class_ 1), (0, u "java/lang/Object"), (0, .class_ 3)] 3

/-- java/lang/Cloneable -/
def k3 : Class := { plain "java/lang/Cloneable" (some 0) with
  accessFlags := 1537
  interfaces := #[]
  cf := some (fileOf pool3 2 #[] #[] 1537 4 #[] #[])
  fields := #[]
  methods := #[]
  instanceTypes := #[]
  staticTypes := #[]
  resolved := Array.replicate 8 none
  statics := none }

def pool4 : Array CpInfo := pool [(1, u "java/io/Serializable"), (0, .class_ 1), (0, u "java/lang/Object"), (0, .class_ 3)] 3

/-- java/io/Serializable -/
def k4 : Class := { plain "java/io/Serializable" (some 0) with
  accessFlags := 1537
  interfaces := #[]
  cf := some (fileOf pool4 2 #[] #[] 1537 4 #[] #[])
  fields := #[]
  methods := #[]
  instanceTypes := #[]
  staticTypes := #[]
  resolved := Array.replicate 8 none
  statics := none }

/-- the primitive byte -/
def k5 : Class := { plain "byte" none with kind := .primitive 'B', accessFlags := 0x411 }
/-- [B -/
def k6 : Class := { plain "[B" (some 0) with kind := .array 5 .byte, interfaces := #[3, 4], accessFlags := 1041 }

/-- the primitive int -/
def k7 : Class := { plain "int" none with kind := .primitive 'I', accessFlags := 0x411 }
/-- [I -/
def k8 : Class := { plain "[I" (some 0) with kind := .array 7 .int, interfaces := #[3, 4], accessFlags := 1041 }

def heap : Heap := #[]
def classes : Array Class := #[k0, k1, k2, k3, k4, k5, k6, k7, k8]
def interned : List (Array UInt16 × Addr) := []
def slotsUsed : Nat := 0
def theMethod : MethodId := ⟨1, 1⟩
def args0 : Array Value := #[.int 5]
def aboutOver (below : List Frame) : State where
  vm := { classes := classes, interned := interned.toArray }
  heap := heap
  slotsUsed := slotsUsed
  threads := #[{ frames := .invoking theMethod args0 :: below }]
def below0 : List Frame := [.native { method := ⟨0, 0⟩, args := #[] }]
def about1 : State := aboutOver below0
def p0 : Program := .bare "" "" ""
def e0 : Env := launch0.env 0 0 0
theorem w_frames : about1.frames = Frame.invoking theMethod args0 :: below0 := rfl
set_option maxRecDepth 65536 in
theorem w_args : argsFit about1.vm theMethod args0 = true := by decide +kernel
set_option maxRecDepth 65536 in
theorem w_heap : heapFits about1 = true := by decide +kernel
set_option maxRecDepth 65536 in
theorem w_runnable : about1.curStatus? = some .runnable := by decide +kernel
set_option maxRecDepth 65536 in
theorem w_alone : about1.alone = true := by decide +kernel
set_option maxRecDepth 65536 in
theorem w_named : about1.methodNamed? x = some theMethod := by decide +kernel
set_option maxRecDepth 65536 in
theorem w_hears : about1.hears theMethod below0 = true := by decide +kernel
set_option maxRecDepth 65536 in
theorem w_ripe : about1.ripe theMethod args0 below0 = true := by decide +kernel
theorem w_running : about1.status = .running := rfl
set_option maxRecDepth 65536 in
theorem w_room : about1.hasRoom e0.platform room_1 = true :=
  launch0.hasRoom_least _ room_1 (by decide +kernel) (by decide +kernel) (by decide +kernel) (by decide +kernel) (by decide +kernel) (by decide +kernel)
theorem allAtoms_all (ts : List Jvm.Cond) (a : Array Jvm.Value) (st : Jvm.State) : (allAtoms ts).before a st = ts.all (fun c => c.before a st) := by
  induction ts with
  | nil => rfl
  | cons c t ih =>
    show (Jvm.Cond.and c (allAtoms t)).before a st = _
    rw [Jvm.Cond.before_and, ih, List.all_cons]
def words1 : List Jvm.Cond := Jvm.Cond.code x code maxLocals ret :: tables_1
/-- a 'code' word, met by the world's own term for the bytes: nothing is compared byte by byte -/
theorem code_word {y : MethodName} {bytes : ByteArray} {mx : Nat} {rt : Option FieldType} {a : Array Value} {s : State} {m : MethodId} {meth : Method} {c : Code} (h1 : s.methodNamed? y = some m) (h2 : s.vm.method? m = some meth) (h3 : meth.code = some c) (h4 : c.code = bytes)
    (h5 : (c.maxLocals == mx && c.exceptionTable.isEmpty && decide (c.maxStack ≤ mostOperands) && decide (meth.sig.returnType = rt) && !meth.locks && decide (parseMethodDescriptor y.desc = some meth.sig)) = true) : (Jvm.Cond.code y bytes mx rt).before a s = true := by
  simp only [Bool.and_eq_true, beq_iff_eq, Bool.not_eq_true', decide_eq_true_eq] at h5
  obtain ⟨⟨⟨⟨⟨g1, g2⟩, g3⟩, g4⟩, g5⟩, g6⟩ := h5
  simp [Cond.before, Cond.holds, Cond.value, h1, h2, h3, h4, g1, g2, g3, g4, g5, g6]
def isCode : Jvm.Cond → Bool
  | .code _ _ _ _ => true
  | _ => false
theorem all_split {L : List Jvm.Cond} {P : Jvm.Cond → Bool} (h1 : L.all (fun c => isCode c || P c) = true) (h2 : ∀ c ∈ L.filter isCode, P c = true) : L.all P = true := by
  refine List.all_eq_true.mpr fun c hc => ?_
  have h := List.all_eq_true.mp h1 c hc
  rcases Bool.eq_false_or_eq_true (isCode c) with hi | hi
  · exact h2 c (List.mem_filter.mpr ⟨hc, hi⟩)
  · simpa [hi] using h
set_option maxRecDepth 65536 in
theorem w_c0 : (Jvm.Cond.code x code maxLocals ret).before args0 about1 = true := code_word (m := ⟨1, 1⟩) (meth := k1m1) (c := k1c1) (by decide +kernel) rfl rfl rfl (by decide +kernel)
set_option maxRecDepth 65536 in
theorem w_c1 : (Jvm.Cond.code ({ cls := "com/example/vestbook/vestbook/Hundredths", name := "isAsciiDigit", desc := "(C)Z" } : Jvm.MethodName) prog_24_method_3_code (1 : Nat) (Option.some Jvm.ClassFile.FieldType.boolean)).before args0 about1 = true := code_word (m := ⟨2, 1⟩) (meth := k2m1) (c := k2c1) (by decide +kernel) rfl rfl rfl (by decide +kernel)
def codes1 : List Jvm.Cond := [Jvm.Cond.code x code maxLocals ret, Jvm.Cond.code ({ cls := "com/example/vestbook/vestbook/Hundredths", name := "isAsciiDigit", desc := "(C)Z" } : Jvm.MethodName) prog_24_method_3_code (1 : Nat) (Option.some Jvm.ClassFile.FieldType.boolean)]
set_option maxRecDepth 65536 in
theorem codes_eq : words1.filter isCode = codes1 := rfl
theorem w_codes : ∀ c ∈ words1.filter isCode, c.before args0 about1 = true := by
  rw [codes_eq]
  intro c hc
  simp only [codes1, List.mem_cons, List.not_mem_nil, or_false] at hc
  rcases hc with rfl | rfl
  · exact w_c0
  · exact w_c1
set_option maxRecDepth 65536 in
theorem w_t1 : words1.all (fun c => isCode c || c.before args0 about1) = true := by decide +kernel
theorem w_tables : (allAtoms (Jvm.Cond.code x code maxLocals ret :: tables_1)).before args0 about1 = true := by
  rw [allAtoms_all]
  show words1.all (fun c => c.before args0 about1) = true
  refine all_split ?_ w_codes
  rw [w_t1]
set_option maxRecDepth 65536 in
theorem w_case : (Jvm.Cond.and given_1 narrow_1).before args0 about1 = true := by decide +kernel
theorem w_applies : (headSpec (Jvm.Cond.code x code maxLocals ret :: tables_1) room_1).applies x e0.platform about1 = true :=
  (Spec.applies_iff w_frames).mpr ⟨w_running, w_runnable, w_alone, w_named, w_hears, w_ripe, w_room, w_tables⟩
theorem atStart : AtStart classFile x code maxLocals ret World_1 tables_1 room_1 Calls_1 rest_1 Pre_1 launch0 p0 e0 about1 theMethod args0 below0 :=
  ⟨lists_1, trivial, launch0.admits_env _ _ _, launch0.least_env, fairChoices_fair.cas, fairChoices_fair.clock, w_frames, w_args, w_heap, w_applies, trivial, trivial, w_case⟩
end start1
theorem witness_1 : WitnessClaimed_1 := ⟨start1.p0, start1.e0, start1.about1, start1.theMethod, start1.args0, start1.below0, start1.atStart⟩
end Jvm.Pilot.@@N@@
