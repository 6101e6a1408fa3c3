import JvmDerived
import JvmDerived.Pilot.@@N@@Statement
import JvmDerived.Pilot.@@N@@Code
set_option linter.unusedVariables false
set_option linter.unusedSimpArgs false
namespace Jvm.Pilot.@@N@@
open Jvm Jvm.ClassFile Sem Op Lib Jvm.Free Jvm.Stand Jvm.LawKit Jvm.RoadKit Bundle Jvm.Pilot.@@N@@.Jvm.D
/-! what a body's walk owes, in the manner of a continuation -/
section Own
variable {p : Program} {l : Launch} {e : Env} {R : Room} {s : State} {m : MethodId} {args : Array Value} {below : List Frame} {meth : Method} {c : Code} {T T' : State} {locs : List Loc} {cells slots : Nat} {Q Q' : Option Value → Heap → List Loc → Prop}
abbrev OMet (l : Launch) (Z : State) (y : MethodName) (bytes : ByteArray) (maxL : Nat) (ret : Option FieldType) (ws : List Jvm.Cond) (rm : Room) (as : Array Value) (h0 : Heap) (Q : Option Value → Heap → List Loc → Prop) : Prop :=
  MetFree l y (head1 (Jvm.Cond.code y bytes maxL ret :: ws) rm) (fun a U => a = as ∧ Z.Warmed39 U.vm ∧ U.heap = h0) (fun _ _ _ _ _ => True) (fun _ U o U' => ∃ v L, o = .returned v ∧ Q v U'.heap L ∧ FrameEnd U o U' L rm.cells rm.slots)
def OG (p : Program) (e : Env) (R : Room) (s : State) (below : List Frame) (Q : Option Value → Heap → List Loc → Prop) (T : State) (g : JFrame) : Prop :=
  ∃ s₂ o, Steps p.tables e below (T.setTop g) s₂ ∧ s₂.status = .running ∧ Ended s₂ below o ∧ ∃ v L, o = .returned v ∧ Q v s₂.heap L ∧ FrameEnd s o s₂ L R.cells R.slots
theorem own_st {g g' : JFrame} (h : ∀ t, Steps p.tables e below (T'.setTop g') t → Steps p.tables e below (T.setTop g) t) (k : OG p e R s below Q T' g') : OG p e R s below Q T g := by
  obtain ⟨s₂, o, h1, h2⟩ := k
  exact ⟨s₂, o, h _ h1, h2⟩
theorem own_sp {g g' : JFrame} {t : State} (h : ∀ t, Steps p.tables e below (T'.setTop g') t → Steps p.tables e below (T.setTop g) t) (k : Steps p.tables e below (T'.setTop g') t) : Steps p.tables e below (T.setTop g) t := h _ k
theorem own_cast {g g' : JFrame} (q : g = g') (k : OG p e R s below Q T g') : OG p e R s below Q T g := q ▸ k
theorem own_irr {x : Int64} : ¬ x < x := Int64.lt_irrefl
theorem own_if0 {cd : ClassFile.Cond} {x : Int32} {b : Bool} (h : if_icmp.holds cd x 0 = b) : ifCond.holds cd x = b := by rw [if0]; exact h
theorem own_retZ (X : Stand p l e R s m args below meth c T locs cells slots) (hx : p.tables.exec = Jvm.exec) {t : FieldType} (hret : meth.sig.returnType = some t) (ht : t = .boolean ∨ t = .byte ∨ t = .char ∨ t = .short) (hlk : meth.locks = false) {pc : Nat} {Ls : Array Slot} {z : Int32} {rest : List Value}
    (hd : decode c.code pc = .ok (.ireturn, 1)) (hc : cells ≤ R.cells) (hs : slots ≤ R.slots) {w : Int32} (hn : nar t z = w) (hq : Q (some (.int w)) T.heap locs) : OG p e R s below Q T (mkF m pc Ls (.int z :: rest)) := by
  subst hn
  obtain ⟨fs, hr, hrun, hended, hW, hsame⟩ := X.leave (v := some (.int (nar t z))) (fun h => by rw [hret] at h; cases h) hlk
  exact ⟨_, _, retN X hx hret ht hd hr, hrun, hended, _, _, rfl, hq, ⟨_, rfl⟩, hW, hsame.mono hc hs⟩
theorem own_retV (X : Stand p l e R s m args below meth c T locs cells slots) (hx : p.tables.exec = Jvm.exec) {t : FieldType} {i : Instr} {w : Value} (hret : meth.sig.returnType = some t) (hn : narrow t w = w)
    (hi : (i = .ireturn ∧ (t = .int ∨ t = .boolean ∨ t = .byte ∨ t = .char ∨ t = .short) ∧ ∃ z, w = .int z) ∨ (i = .lreturn ∧ t = .long ∧ ∃ z, w = .long z) ∨ (i = .dreturn ∧ t = .double ∧ ∃ z, w = .double z) ∨ (i = .freturn ∧ t = .float ∧ ∃ z, w = .float z) ∨ (i = .areturn ∧ t.isReference = true ∧ w.isRef = true))
    (hlk : meth.locks = false) {pc : Nat} {Ls : Array Slot} {rest : List Value}
    (hd : decode c.code pc = .ok (i, 1)) (hc : cells ≤ R.cells) (hs : slots ≤ R.slots) (hq : Q (some w) T.heap locs) : OG p e R s below Q T (mkF m pc Ls (w :: rest)) := by
  obtain ⟨fs, hr, hrun, hended, hW, hsame⟩ := X.leave (v := some w) (fun h => by rw [hret] at h; cases h) hlk
  exact ⟨_, _, retOut X hx hret hn hi hd hr, hrun, hended, _, _, rfl, hq, ⟨_, rfl⟩, hW, hsame.mono hc hs⟩
theorem own_retI (X : Stand p l e R s m args below meth c T locs cells slots) (hx : p.tables.exec = Jvm.exec) (hret : meth.sig.returnType = some .int) (hlk : meth.locks = false) {pc : Nat} {Ls : Array Slot} {z : Int32} {rest : List Value}
    (hd : decode c.code pc = .ok (.ireturn, 1)) (hc : cells ≤ R.cells) (hs : slots ≤ R.slots) (hq : Q (some (.int z)) T.heap locs) : OG p e R s below Q T (mkF m pc Ls (.int z :: rest)) :=
  own_retV X hx hret rfl (Or.inl ⟨rfl, Or.inl rfl, _, rfl⟩) hlk hd hc hs hq
theorem own_retL (X : Stand p l e R s m args below meth c T locs cells slots) (hx : p.tables.exec = Jvm.exec) (hret : meth.sig.returnType = some .long) (hlk : meth.locks = false) {pc : Nat} {Ls : Array Slot} {z : Int64} {rest : List Value}
    (hd : decode c.code pc = .ok (.lreturn, 1)) (hc : cells ≤ R.cells) (hs : slots ≤ R.slots) (hq : Q (some (.long z)) T.heap locs) : OG p e R s below Q T (mkF m pc Ls (.long z :: rest)) :=
  own_retV X hx hret rfl (Or.inr (Or.inl ⟨rfl, rfl, _, rfl⟩)) hlk hd hc hs hq
theorem own_ret0 (X : Stand p l e R s m args below meth c T locs cells slots) (hx : p.tables.exec = Jvm.exec) (hret : meth.sig.returnType = none) (hlk : meth.locks = false) {pc : Nat} {Ls : Array Slot}
    (hd : decode c.code pc = .ok (.return_, 1)) (hc : cells ≤ R.cells) (hs : slots ≤ R.slots) (hq : Q none T.heap locs) : OG p e R s below Q T (mkF m pc Ls []) := by
  obtain ⟨fs, hr, hrun, hended, hW, hsame⟩ := X.leave (v := none) (fun _ => rfl) hlk
  exact ⟨_, _, X.returnOut hx hret hd hr, hrun, hended, _, _, rfl, hq, ⟨_, rfl⟩, hW, hsame.mono hc hs⟩
theorem own_enter {Z : State} {y : MethodName} {bytes : ByteArray} {maxL : Nat} {ret : Option FieldType} {ws : List Jvm.Cond} {rm : Room} {as : Array Value} {h0 : Heap} (hp : plainFor y = true)
    (body : ∀ (p : Program) (e : Env) (s : State) (m : MethodId) (below : List Frame) (meth : Method) (c : Code) (s₁ : State), p.tables.exec = Jvm.exec → c.code = bytes → c.maxLocals = maxL → s.vm.findClass y.cls = some m.cls → meth.sig.returnType = ret → meth.locks = false → meth.name = y.name → Z.Warmed39 s.vm →
      Stand p l e rm s m as below meth c s₁ [] 0 0 → s₁.heap = h0 → OG p e rm s below Q s₁ (entryFrame m as maxL)) : OMet l Z y bytes maxL ret ws rm as h0 Q := by
  refine MetFree.of_bodySF hp hisR ?_
  intro p e s m args below meth c s₁ Bd hml0 hP hK
  obtain ⟨rfl, hZ, hh⟩ := hP
  exact body p e s m below meth c s₁ Bd.exec Bd.bytes hml0 (findClass_of_methodNamed Bd.named) Bd.returns Bd.notSynchronized (name_of_methodNamed Bd.named Bd.method).1 hZ (Stand.of_body Bd) (by rw [← hh, Bd.state]; rfl)
end Own
theorem d1_0 : decode prog_66_method_45_code 0 = .ok (.iload_n 0, 1) := by decide +kernel
theorem d1_1 : decode prog_66_method_45_code 1 = .ok (.bipush 48, 2) := by decide +kernel
theorem d1_3 : decode prog_66_method_45_code 3 = .ok (.if_icmp .lt 9, 3) := by decide +kernel
theorem d1_6 : decode prog_66_method_45_code 6 = .ok (.iload_n 0, 1) := by decide +kernel
theorem d1_7 : decode prog_66_method_45_code 7 = .ok (.bipush 57, 2) := by decide +kernel
theorem d1_9 : decode prog_66_method_45_code 9 = .ok (.if_icmp .le 15, 3) := by decide +kernel
theorem d1_12 : decode prog_66_method_45_code 12 = .ok (.iload_n 0, 1) := by decide +kernel
theorem d1_13 : decode prog_66_method_45_code 13 = .ok (.bipush 97, 2) := by decide +kernel
theorem d1_15 : decode prog_66_method_45_code 15 = .ok (.if_icmp .lt 13, 3) := by decide +kernel
theorem d1_18 : decode prog_66_method_45_code 18 = .ok (.iload_n 0, 1) := by decide +kernel
theorem d1_19 : decode prog_66_method_45_code 19 = .ok (.bipush 102, 2) := by decide +kernel
theorem d1_21 : decode prog_66_method_45_code 21 = .ok (.if_icmp .gt 7, 3) := by decide +kernel
theorem d1_24 : decode prog_66_method_45_code 24 = .ok (.iconst 1, 1) := by decide +kernel
theorem d1_25 : decode prog_66_method_45_code 25 = .ok (.goto 4, 3) := by decide +kernel
theorem d1_28 : decode prog_66_method_45_code 28 = .ok (.iconst 0, 1) := by decide +kernel
theorem d1_29 : decode prog_66_method_45_code 29 = .ok (.ireturn, 1) := by decide +kernel
theorem pn_1 : plainFor (⟨"com/example/partwise/partwise/RecordLog", "isLowercaseHex", "(C)Z"⟩ : MethodName) = true := by first | exact plainFor_of_name (by first | (simp [plainName, overriddenIn]; done) | decide +kernel) | decide +kernel
def f1_12 (p1 : Int32) : Int32 := (if p1 < (97 : Int32) then (0 : Int32) else (if (102 : Int32) < p1 then (0 : Int32) else (1 : Int32)))
def f1 (p1 : Int32) : Int32 := (if p1 < (48 : Int32) then f1_12 p1 else (if (57 : Int32) < p1 then f1_12 p1 else (1 : Int32)))
theorem ef_1 (m : MethodId) (p1 : Int32) : entryFrame m #[(.int p1)] 1 = (mkF m 0 #[.val (.int p1)] []) := by first | (simp [entryFrame, mkF, argsToLocals, Value.category]; done) | rfl
abbrev Q1 (p1 : Int32) (h0 : Heap) : Option Value → Heap → List Loc → Prop := (fun v h L => v = some (.int (f1 p1)) ∧ L = [] ∧ h = h0)
set_option maxRecDepth 65536 in
set_option maxHeartbeats 40000000 in
theorem rm1 (l : Launch) (Z : State) (a0 : Array Value) (hw : ∀ d ∈ tables_1, d.before a0 Z = true) (ws : List Jvm.Cond) (p1 : Int32) (h0 : Heap)  :
    OMet l Z (⟨"com/example/partwise/partwise/RecordLog", "isLowercaseHex", "(C)Z"⟩ : MethodName) prog_66_method_45_code 1 (some .boolean) ws ({ frames := 0, cells := 0, slots := 0, locals := 0 } : Room) #[(.int p1)] h0 (Q1 p1 h0) := by
  refine own_enter pn_1 ?_
  intro p e s m below meth c s₁ hx hby hml0 hown hret hlk hnm hZ X0 e0
  have hml : c.maxLocals = 1 := hml0
  refine own_cast (ef_1 m p1) ?_
  have J12 : OG p e ({ frames := 0, cells := 0, slots := 0, locals := 0 } : Room) s below (fun v h L => v = some (.int (f1_12 p1)) ∧ L = [] ∧ h = h0) s₁ (mkF m 12 #[.val (.int p1)] []) := by
    refine own_st (fun t k => XS.iloadN X0.here hx rfl (hb hby d1_12) rfl k) ?_
    show OG p e _ s below _ s₁ (mkF m 13 #[.val (.int p1)] [(.int p1)])
    refine own_st (fun t k => XS.bipush X0.here hx rfl (hb hby d1_13) k) ?_
    show OG p e _ s below _ s₁ (mkF m 15 #[.val (.int p1)] [(.int (97 : Int32)), (.int p1)])
    by_cases c1 : p1 < (97 : Int32)
    · refine own_st (fun t k => XS.icmpYes X0.here hx rfl (pc0 := 15) (pc' := 28) rfl (hb hby d1_15) rfl (tlt c1).1 (by decide) (by decide) k) ?_
      show OG p e _ s below _ s₁ (mkF m 28 #[.val (.int p1)] [])
      refine own_st (fun t k => XS.iconst X0.here hx rfl (hb hby d1_28) k) ?_
      show OG p e _ s below _ s₁ (mkF m 29 #[.val (.int p1)] [(.int (0 : Int32))])
      exact own_retZ X0 hx (t := .boolean) hret (by simp) hlk (hb hby d1_29) (by decide) (by decide) (w := (0 : Int32)) rfl ⟨congrArg (fun z => some (Value.int z)) (show f1_12 p1 = (0 : Int32) from (by rw [f1_12, if_pos c1])).symm, rfl, e0⟩
    · refine own_st (fun t k => XS.icmpNo X0.here hx rfl (hb hby d1_15) rfl (flt c1).1 k) ?_
      show OG p e _ s below _ s₁ (mkF m 18 #[.val (.int p1)] [])
      refine own_st (fun t k => XS.iloadN X0.here hx rfl (hb hby d1_18) rfl k) ?_
      show OG p e _ s below _ s₁ (mkF m 19 #[.val (.int p1)] [(.int p1)])
      refine own_st (fun t k => XS.bipush X0.here hx rfl (hb hby d1_19) k) ?_
      show OG p e _ s below _ s₁ (mkF m 21 #[.val (.int p1)] [(.int (102 : Int32)), (.int p1)])
      by_cases c2 : (102 : Int32) < p1
      · refine own_st (fun t k => XS.icmpYes X0.here hx rfl (pc0 := 21) (pc' := 28) rfl (hb hby d1_21) rfl (tlt c2).2.2.1 (by decide) (by decide) k) ?_
        show OG p e _ s below _ s₁ (mkF m 28 #[.val (.int p1)] [])
        refine own_st (fun t k => XS.iconst X0.here hx rfl (hb hby d1_28) k) ?_
        show OG p e _ s below _ s₁ (mkF m 29 #[.val (.int p1)] [(.int (0 : Int32))])
        exact own_retZ X0 hx (t := .boolean) hret (by simp) hlk (hb hby d1_29) (by decide) (by decide) (w := (0 : Int32)) rfl ⟨congrArg (fun z => some (Value.int z)) (show f1_12 p1 = (0 : Int32) from (by rw [f1_12, if_neg c1, if_pos c2])).symm, rfl, e0⟩
      · refine own_st (fun t k => XS.icmpNo X0.here hx rfl (hb hby d1_21) rfl (flt c2).2.2.1 k) ?_
        show OG p e _ s below _ s₁ (mkF m 24 #[.val (.int p1)] [])
        refine own_st (fun t k => XS.iconst X0.here hx rfl (hb hby d1_24) k) ?_
        show OG p e _ s below _ s₁ (mkF m 25 #[.val (.int p1)] [(.int (1 : Int32))])
        refine own_st (fun t k => XS.goto X0.here hx rfl (pc0 := 25) (pc' := 29) rfl (hb hby d1_25) (by decide) (by decide) k) ?_
        show OG p e _ s below _ s₁ (mkF m 29 #[.val (.int p1)] [(.int (1 : Int32))])
        exact own_retZ X0 hx (t := .boolean) hret (by simp) hlk (hb hby d1_29) (by decide) (by decide) (w := (1 : Int32)) rfl ⟨congrArg (fun z => some (Value.int z)) (show f1_12 p1 = (1 : Int32) from (by rw [f1_12, if_neg c1, if_neg c2])).symm, rfl, e0⟩
  show OG p e ({ frames := 0, cells := 0, slots := 0, locals := 0 } : Room) s below (fun v h L => v = some (.int (f1 p1)) ∧ L = [] ∧ h = h0) s₁ (mkF m 0 #[.val (.int p1)] [])
  refine own_st (fun t k => XS.iloadN X0.here hx rfl (hb hby d1_0) rfl k) ?_
  show OG p e _ s below _ s₁ (mkF m 1 #[.val (.int p1)] [(.int p1)])
  refine own_st (fun t k => XS.bipush X0.here hx rfl (hb hby d1_1) k) ?_
  show OG p e _ s below _ s₁ (mkF m 3 #[.val (.int p1)] [(.int (48 : Int32)), (.int p1)])
  by_cases c3 : p1 < (48 : Int32)
  · refine own_st (fun t k => XS.icmpYes X0.here hx rfl (pc0 := 3) (pc' := 12) rfl (hb hby d1_3) rfl (tlt c3).1 (by decide) (by decide) k) ?_
    show OG p e _ s below _ s₁ (mkF m 12 #[.val (.int p1)] [])
    rw [show f1 p1 = f1_12 p1 from (by rw [f1, if_pos c3])]
    exact J12
  · refine own_st (fun t k => XS.icmpNo X0.here hx rfl (hb hby d1_3) rfl (flt c3).1 k) ?_
    show OG p e _ s below _ s₁ (mkF m 6 #[.val (.int p1)] [])
    refine own_st (fun t k => XS.iloadN X0.here hx rfl (hb hby d1_6) rfl k) ?_
    show OG p e _ s below _ s₁ (mkF m 7 #[.val (.int p1)] [(.int p1)])
    refine own_st (fun t k => XS.bipush X0.here hx rfl (hb hby d1_7) k) ?_
    show OG p e _ s below _ s₁ (mkF m 9 #[.val (.int p1)] [(.int (57 : Int32)), (.int p1)])
    by_cases c4 : (57 : Int32) < p1
    · refine own_st (fun t k => XS.icmpNo X0.here hx rfl (hb hby d1_9) rfl (tlt c4).2.2.2 k) ?_
      show OG p e _ s below _ s₁ (mkF m 12 #[.val (.int p1)] [])
      rw [show f1 p1 = f1_12 p1 from (by rw [f1, if_neg c3, if_pos c4])]
      exact J12
    · refine own_st (fun t k => XS.icmpYes X0.here hx rfl (pc0 := 9) (pc' := 24) rfl (hb hby d1_9) rfl (flt c4).2.2.2 (by decide) (by decide) k) ?_
      show OG p e _ s below _ s₁ (mkF m 24 #[.val (.int p1)] [])
      refine own_st (fun t k => XS.iconst X0.here hx rfl (hb hby d1_24) k) ?_
      show OG p e _ s below _ s₁ (mkF m 25 #[.val (.int p1)] [(.int (1 : Int32))])
      refine own_st (fun t k => XS.goto X0.here hx rfl (pc0 := 25) (pc' := 29) rfl (hb hby d1_25) (by decide) (by decide) k) ?_
      show OG p e _ s below _ s₁ (mkF m 29 #[.val (.int p1)] [(.int (1 : Int32))])
      exact own_retZ X0 hx (t := .boolean) hret (by simp) hlk (hb hby d1_29) (by decide) (by decide) (w := (1 : Int32)) rfl ⟨congrArg (fun z => some (Value.int z)) (show f1 p1 = (1 : Int32) from (by rw [f1, if_neg c3, if_neg c4])).symm, rfl, e0⟩
theorem d3_0 : decode method_2_code 0 = .ok (.iload_n 0, 1) := by decide +kernel
theorem d3_1 : decode method_2_code 1 = .ok (.bipush 10, 2) := by decide +kernel
theorem d3_3 : decode method_2_code 3 = .ok (.if_icmp .ge 8, 3) := by decide +kernel
theorem d3_6 : decode method_2_code 6 = .ok (.bipush 48, 2) := by decide +kernel
theorem d3_8 : decode method_2_code 8 = .ok (.iload_n 0, 1) := by decide +kernel
theorem d3_9 : decode method_2_code 9 = .ok (.iadd, 1) := by decide +kernel
theorem d3_10 : decode method_2_code 10 = .ok (.ireturn, 1) := by decide +kernel
theorem d3_11 : decode method_2_code 11 = .ok (.bipush 97, 2) := by decide +kernel
theorem d3_13 : decode method_2_code 13 = .ok (.iload_n 0, 1) := by decide +kernel
theorem d3_14 : decode method_2_code 14 = .ok (.iadd, 1) := by decide +kernel
theorem d3_15 : decode method_2_code 15 = .ok (.bipush 10, 2) := by decide +kernel
theorem d3_17 : decode method_2_code 17 = .ok (.isub, 1) := by decide +kernel
theorem d3_18 : decode method_2_code 18 = .ok (.ireturn, 1) := by decide +kernel
theorem pn_3 : plainFor (⟨"com/example/partwise/partwise/RecordLogIsLowercaseHexPinLaw", "digitChar", "(I)I"⟩ : MethodName) = true := by first | exact plainFor_of_name (by first | (simp [plainName, overriddenIn]; done) | decide +kernel) | decide +kernel
def f3 (p1 : Int32) : Int32 := (if p1 < (10 : Int32) then ((48 : Int32) + p1) else (((97 : Int32) + p1) - (10 : Int32)))
theorem ef_3 (m : MethodId) (p1 : Int32) : entryFrame m #[(.int p1)] 1 = (mkF m 0 #[.val (.int p1)] []) := by first | (simp [entryFrame, mkF, argsToLocals, Value.category]; done) | rfl
abbrev Q3 (p1 : Int32) (h0 : Heap) : Option Value → Heap → List Loc → Prop := (fun v h L => v = some (.int (f3 p1)) ∧ L = [] ∧ h = h0)
set_option maxRecDepth 65536 in
set_option maxHeartbeats 40000000 in
theorem rm3 (l : Launch) (Z : State) (a0 : Array Value) (hw : ∀ d ∈ tables_1, d.before a0 Z = true) (ws : List Jvm.Cond) (p1 : Int32) (h0 : Heap)  :
    OMet l Z (⟨"com/example/partwise/partwise/RecordLogIsLowercaseHexPinLaw", "digitChar", "(I)I"⟩ : MethodName) method_2_code 1 (some .int) ws ({ frames := 0, cells := 0, slots := 0, locals := 0 } : Room) #[(.int p1)] h0 (Q3 p1 h0) := by
  refine own_enter pn_3 ?_
  intro p e s m below meth c s₁ hx hby hml0 hown hret hlk hnm hZ X0 e0
  have hml : c.maxLocals = 1 := hml0
  refine own_cast (ef_3 m p1) ?_
  show OG p e ({ frames := 0, cells := 0, slots := 0, locals := 0 } : Room) s below (fun v h L => v = some (.int (f3 p1)) ∧ L = [] ∧ h = h0) s₁ (mkF m 0 #[.val (.int p1)] [])
  refine own_st (fun t k => XS.iloadN X0.here hx rfl (hb hby d3_0) rfl k) ?_
  show OG p e _ s below _ s₁ (mkF m 1 #[.val (.int p1)] [(.int p1)])
  refine own_st (fun t k => XS.bipush X0.here hx rfl (hb hby d3_1) k) ?_
  show OG p e _ s below _ s₁ (mkF m 3 #[.val (.int p1)] [(.int (10 : Int32)), (.int p1)])
  by_cases c1 : p1 < (10 : Int32)
  · refine own_st (fun t k => XS.icmpNo X0.here hx rfl (hb hby d3_3) rfl (tlt c1).2.1 k) ?_
    show OG p e _ s below _ s₁ (mkF m 6 #[.val (.int p1)] [])
    refine own_st (fun t k => XS.bipush X0.here hx rfl (hb hby d3_6) k) ?_
    show OG p e _ s below _ s₁ (mkF m 8 #[.val (.int p1)] [(.int (48 : Int32))])
    refine own_st (fun t k => XS.iloadN X0.here hx rfl (hb hby d3_8) rfl k) ?_
    show OG p e _ s below _ s₁ (mkF m 9 #[.val (.int p1)] [(.int p1), (.int (48 : Int32))])
    refine own_st (fun t k => XS.iadd X0.here hx rfl (hb hby d3_9) rfl k) ?_
    show OG p e _ s below _ s₁ (mkF m 10 #[.val (.int p1)] [(.int ((48 : Int32) + p1))])
    exact own_retI X0 hx hret hlk (hb hby d3_10) (by decide) (by decide) ⟨congrArg (fun z => some (Value.int z)) (show f3 p1 = ((48 : Int32) + p1) from (by rw [f3, if_pos c1])).symm, rfl, e0⟩
  · refine own_st (fun t k => XS.icmpYes X0.here hx rfl (pc0 := 3) (pc' := 11) rfl (hb hby d3_3) rfl (flt c1).2.1 (by decide) (by decide) k) ?_
    show OG p e _ s below _ s₁ (mkF m 11 #[.val (.int p1)] [])
    refine own_st (fun t k => XS.bipush X0.here hx rfl (hb hby d3_11) k) ?_
    show OG p e _ s below _ s₁ (mkF m 13 #[.val (.int p1)] [(.int (97 : Int32))])
    refine own_st (fun t k => XS.iloadN X0.here hx rfl (hb hby d3_13) rfl k) ?_
    show OG p e _ s below _ s₁ (mkF m 14 #[.val (.int p1)] [(.int p1), (.int (97 : Int32))])
    refine own_st (fun t k => XS.iadd X0.here hx rfl (hb hby d3_14) rfl k) ?_
    show OG p e _ s below _ s₁ (mkF m 15 #[.val (.int p1)] [(.int ((97 : Int32) + p1))])
    refine own_st (fun t k => XS.bipush X0.here hx rfl (hb hby d3_15) k) ?_
    show OG p e _ s below _ s₁ (mkF m 17 #[.val (.int p1)] [(.int (10 : Int32)), (.int ((97 : Int32) + p1))])
    refine own_st (fun t k => XS.isub X0.here hx rfl (hb hby d3_17) rfl k) ?_
    show OG p e _ s below _ s₁ (mkF m 18 #[.val (.int p1)] [(.int (((97 : Int32) + p1) - (10 : Int32)))])
    exact own_retI X0 hx hret hlk (hb hby d3_18) (by decide) (by decide) ⟨congrArg (fun z => some (Value.int z)) (show f3 p1 = (((97 : Int32) + p1) - (10 : Int32)) from (by rw [f3, if_neg c1])).symm, rfl, e0⟩
theorem d2_0 : decode method_3_code 0 = .ok (.iload_n 0, 1) := by decide +kernel
theorem d2_1 : decode method_3_code 1 = .ok (.bipush 57, 2) := by decide +kernel
theorem d2_3 : decode method_3_code 3 = .ok (.if_icmp .gt 11, 3) := by decide +kernel
theorem d2_6 : decode method_3_code 6 = .ok (.iload_n 0, 1) := by decide +kernel
theorem d2_7 : decode method_3_code 7 = .ok (.bipush 48, 2) := by decide +kernel
theorem d2_9 : decode method_3_code 9 = .ok (.isub, 1) := by decide +kernel
theorem d2_10 : decode method_3_code 10 = .ok (.istore_n 1, 1) := by decide +kernel
theorem d2_11 : decode method_3_code 11 = .ok (.goto 11, 3) := by decide +kernel
theorem d2_14 : decode method_3_code 14 = .ok (.iload_n 0, 1) := by decide +kernel
theorem d2_15 : decode method_3_code 15 = .ok (.bipush 97, 2) := by decide +kernel
theorem d2_17 : decode method_3_code 17 = .ok (.isub, 1) := by decide +kernel
theorem d2_18 : decode method_3_code 18 = .ok (.bipush 10, 2) := by decide +kernel
theorem d2_20 : decode method_3_code 20 = .ok (.iadd, 1) := by decide +kernel
theorem d2_21 : decode method_3_code 21 = .ok (.istore_n 1, 1) := by decide +kernel
theorem d2_22 : decode method_3_code 22 = .ok (.iload_n 1, 1) := by decide +kernel
theorem d2_23 : decode method_3_code 23 = .ok (.ifCond .lt 9, 3) := by decide +kernel
theorem d2_26 : decode method_3_code 26 = .ok (.iload_n 1, 1) := by decide +kernel
theorem d2_27 : decode method_3_code 27 = .ok (.bipush 15, 2) := by decide +kernel
theorem d2_29 : decode method_3_code 29 = .ok (.if_icmp .le 5, 3) := by decide +kernel
theorem d2_32 : decode method_3_code 32 = .ok (.iconst 0, 1) := by decide +kernel
theorem d2_33 : decode method_3_code 33 = .ok (.ireturn, 1) := by decide +kernel
theorem d2_34 : decode method_3_code 34 = .ok (.iload_n 1, 1) := by decide +kernel
theorem d2_35 : decode method_3_code 35 = .ok (.invokestatic 7, 3) := by decide +kernel
theorem d2_38 : decode method_3_code 38 = .ok (.iload_n 0, 1) := by decide +kernel
theorem d2_39 : decode method_3_code 39 = .ok (.if_icmp .ne 7, 3) := by decide +kernel
theorem d2_42 : decode method_3_code 42 = .ok (.iconst 1, 1) := by decide +kernel
theorem d2_43 : decode method_3_code 43 = .ok (.goto 4, 3) := by decide +kernel
theorem d2_46 : decode method_3_code 46 = .ok (.iconst 0, 1) := by decide +kernel
theorem d2_47 : decode method_3_code 47 = .ok (.ireturn, 1) := by decide +kernel
theorem pd__I_I : parseMethodDescriptor "(I)I" = some ⟨[.int], some .int⟩ := by decide +kernel
theorem pn_2 : plainFor (⟨"com/example/partwise/partwise/RecordLogIsLowercaseHexPinLaw", "expected", "(C)Z"⟩ : MethodName) = true := by first | exact plainFor_of_name (by first | (simp [plainName, overriddenIn]; done) | decide +kernel) | decide +kernel
def f2 (p1 : Int32) : Int32 := (if (57 : Int32) < p1 then (if ((p1 - (97 : Int32)) + (10 : Int32)) < (0 : Int32) then (0 : Int32) else (if (15 : Int32) < ((p1 - (97 : Int32)) + (10 : Int32)) then (0 : Int32) else (if (f3 ((p1 - (97 : Int32)) + (10 : Int32))) = p1 then (1 : Int32) else (0 : Int32)))) else (if (p1 - (48 : Int32)) < (0 : Int32) then (0 : Int32) else (if (15 : Int32) < (p1 - (48 : Int32)) then (0 : Int32) else (if (f3 (p1 - (48 : Int32))) = p1 then (1 : Int32) else (0 : Int32)))))
theorem ef_2 (m : MethodId) (p1 : Int32) : entryFrame m #[(.int p1)] 2 = (mkF m 0 #[.val (.int p1), .unset] []) := by first | (simp [entryFrame, mkF, argsToLocals, Value.category]; done) | rfl
abbrev Q2 (p1 : Int32) (h0 : Heap) : Option Value → Heap → List Loc → Prop := (fun v h L => v = some (.int (f2 p1)) ∧ L = [] ∧ h = h0)
set_option maxRecDepth 65536 in
set_option maxHeartbeats 40000000 in
theorem rm2 (l : Launch) (Z : State) (a0 : Array Value) (hw : ∀ d ∈ tables_1, d.before a0 Z = true) (ws : List Jvm.Cond) (p1 : Int32) (h0 : Heap)  :
    OMet l Z (⟨"com/example/partwise/partwise/RecordLogIsLowercaseHexPinLaw", "expected", "(C)Z"⟩ : MethodName) method_3_code 2 (some .boolean) ws ({ frames := 1, cells := 0, slots := 0, locals := 12 } : Room) #[(.int p1)] h0 (Q2 p1 h0) := by
  refine own_enter pn_2 ?_
  intro p e s m below meth c s₁ hx hby hml0 hown hret hlk hnm hZ X0 e0
  have hml : c.maxLocals = 2 := hml0
  refine own_cast (ef_2 m p1) ?_
  show OG p e ({ frames := 1, cells := 0, slots := 0, locals := 12 } : Room) s below (fun v h L => v = some (.int (f2 p1)) ∧ L = [] ∧ h = h0) s₁ (mkF m 0 #[.val (.int p1), .unset] [])
  refine own_st (fun t k => XS.iloadN X0.here hx rfl (hb hby d2_0) rfl k) ?_
  show OG p e _ s below _ s₁ (mkF m 1 #[.val (.int p1), .unset] [(.int p1)])
  refine own_st (fun t k => XS.bipush X0.here hx rfl (hb hby d2_1) k) ?_
  show OG p e _ s below _ s₁ (mkF m 3 #[.val (.int p1), .unset] [(.int (57 : Int32)), (.int p1)])
  by_cases c1 : (57 : Int32) < p1
  · refine own_st (fun t k => XS.icmpYes X0.here hx rfl (pc0 := 3) (pc' := 14) rfl (hb hby d2_3) rfl (tlt c1).2.2.1 (by decide) (by decide) k) ?_
    show OG p e _ s below _ s₁ (mkF m 14 #[.val (.int p1), .unset] [])
    refine own_st (fun t k => XS.iloadN X0.here hx rfl (hb hby d2_14) rfl k) ?_
    show OG p e _ s below _ s₁ (mkF m 15 #[.val (.int p1), .unset] [(.int p1)])
    refine own_st (fun t k => XS.bipush X0.here hx rfl (hb hby d2_15) k) ?_
    show OG p e _ s below _ s₁ (mkF m 17 #[.val (.int p1), .unset] [(.int (97 : Int32)), (.int p1)])
    refine own_st (fun t k => XS.isub X0.here hx rfl (hb hby d2_17) rfl k) ?_
    show OG p e _ s below _ s₁ (mkF m 18 #[.val (.int p1), .unset] [(.int (p1 - (97 : Int32)))])
    refine own_st (fun t k => XS.bipush X0.here hx rfl (hb hby d2_18) k) ?_
    show OG p e _ s below _ s₁ (mkF m 20 #[.val (.int p1), .unset] [(.int (10 : Int32)), (.int (p1 - (97 : Int32)))])
    refine own_st (fun t k => XS.iadd X0.here hx rfl (hb hby d2_20) rfl k) ?_
    show OG p e _ s below _ s₁ (mkF m 21 #[.val (.int p1), .unset] [(.int ((p1 - (97 : Int32)) + (10 : Int32)))])
    refine own_st (fun t k => XS.istoreN X0.here hx rfl (hb hby d2_21) rfl (l' := #[.val (.int p1), .val (.int ((p1 - (97 : Int32)) + (10 : Int32)))]) rfl k) ?_
    show OG p e _ s below _ s₁ (mkF m 22 #[.val (.int p1), .val (.int ((p1 - (97 : Int32)) + (10 : Int32)))] [])
    refine own_st (fun t k => XS.iloadN X0.here hx rfl (hb hby d2_22) rfl k) ?_
    show OG p e _ s below _ s₁ (mkF m 23 #[.val (.int p1), .val (.int ((p1 - (97 : Int32)) + (10 : Int32)))] [(.int ((p1 - (97 : Int32)) + (10 : Int32)))])
    by_cases c2 : ((p1 - (97 : Int32)) + (10 : Int32)) < (0 : Int32)
    · refine own_st (fun t k => XS.ifYes X0.here hx rfl (pc0 := 23) (pc' := 32) rfl (hb hby d2_23) rfl (own_if0 (tlt c2).1) (by decide) (by decide) k) ?_
      show OG p e _ s below _ s₁ (mkF m 32 #[.val (.int p1), .val (.int ((p1 - (97 : Int32)) + (10 : Int32)))] [])
      refine own_st (fun t k => XS.iconst X0.here hx rfl (hb hby d2_32) k) ?_
      show OG p e _ s below _ s₁ (mkF m 33 #[.val (.int p1), .val (.int ((p1 - (97 : Int32)) + (10 : Int32)))] [(.int (0 : Int32))])
      exact own_retZ X0 hx (t := .boolean) hret (by simp) hlk (hb hby d2_33) (by decide) (by decide) (w := (0 : Int32)) rfl ⟨congrArg (fun z => some (Value.int z)) (show f2 p1 = (0 : Int32) from (by rw [f2, if_pos c1, if_pos c2])).symm, rfl, e0⟩
    · refine own_st (fun t k => XS.ifNo X0.here hx rfl (hb hby d2_23) rfl (own_if0 (flt c2).1) k) ?_
      show OG p e _ s below _ s₁ (mkF m 26 #[.val (.int p1), .val (.int ((p1 - (97 : Int32)) + (10 : Int32)))] [])
      refine own_st (fun t k => XS.iloadN X0.here hx rfl (hb hby d2_26) rfl k) ?_
      show OG p e _ s below _ s₁ (mkF m 27 #[.val (.int p1), .val (.int ((p1 - (97 : Int32)) + (10 : Int32)))] [(.int ((p1 - (97 : Int32)) + (10 : Int32)))])
      refine own_st (fun t k => XS.bipush X0.here hx rfl (hb hby d2_27) k) ?_
      show OG p e _ s below _ s₁ (mkF m 29 #[.val (.int p1), .val (.int ((p1 - (97 : Int32)) + (10 : Int32)))] [(.int (15 : Int32)), (.int ((p1 - (97 : Int32)) + (10 : Int32)))])
      by_cases c3 : (15 : Int32) < ((p1 - (97 : Int32)) + (10 : Int32))
      · refine own_st (fun t k => XS.icmpNo X0.here hx rfl (hb hby d2_29) rfl (tlt c3).2.2.2 k) ?_
        show OG p e _ s below _ s₁ (mkF m 32 #[.val (.int p1), .val (.int ((p1 - (97 : Int32)) + (10 : Int32)))] [])
        refine own_st (fun t k => XS.iconst X0.here hx rfl (hb hby d2_32) k) ?_
        show OG p e _ s below _ s₁ (mkF m 33 #[.val (.int p1), .val (.int ((p1 - (97 : Int32)) + (10 : Int32)))] [(.int (0 : Int32))])
        exact own_retZ X0 hx (t := .boolean) hret (by simp) hlk (hb hby d2_33) (by decide) (by decide) (w := (0 : Int32)) rfl ⟨congrArg (fun z => some (Value.int z)) (show f2 p1 = (0 : Int32) from (by rw [f2, if_pos c1, if_neg c2, if_pos c3])).symm, rfl, e0⟩
      · refine own_st (fun t k => XS.icmpYes X0.here hx rfl (pc0 := 29) (pc' := 34) rfl (hb hby d2_29) rfl (flt c3).2.2.2 (by decide) (by decide) k) ?_
        show OG p e _ s below _ s₁ (mkF m 34 #[.val (.int p1), .val (.int ((p1 - (97 : Int32)) + (10 : Int32)))] [])
        refine own_st (fun t k => XS.iloadN X0.here hx rfl (hb hby d2_34) rfl k) ?_
        show OG p e _ s below _ s₁ (mkF m 35 #[.val (.int p1), .val (.int ((p1 - (97 : Int32)) + (10 : Int32)))] [(.int ((p1 - (97 : Int32)) + (10 : Int32)))])
        obtain ⟨_, _, ⟨T4, L4, k4, n4⟩, -, X4, ⟨Lc4, hQ4, l4, y4, z4⟩, st4⟩ := Jvm.LawKit.callS X0 hx (y := (⟨"com/example/partwise/partwise/RecordLogIsLowercaseHexPinLaw", "digitChar", "(I)I"⟩ : MethodName)) hown (mvT hZ (hw _ (List.mem_of_getElem? (i := 9) rfl))) (mvT hZ (hw _ (List.mem_of_getElem? (i := 10) rfl))) (mvT hZ (hw _ (List.mem_of_getElem? (i := 6) rfl))) (mvT hZ (hw _ (List.mem_of_getElem? (i := 11) rfl))) (by decide) (backOf (W := 0) (rm := ({ frames := 0, cells := 0, slots := 0, locals := 0 } : Room)) (rm3 l Z a0 hw [] ((p1 - (97 : Int32)) + (10 : Int32)) h0) hZ (hw _ (List.mem_of_getElem? (i := 11) rfl)) (hw _ (List.mem_of_getElem? (i := 6) rfl)) (by decide) (by decide)) (g := (mkF m 35 #[.val (.int p1), .val (.int ((p1 - (97 : Int32)) + (10 : Int32)))] [(.int ((p1 - (97 : Int32)) + (10 : Int32)))])) rfl (by rw [hml]; rfl) (argsL := [(.int ((p1 - (97 : Int32)) + (10 : Int32)))]) (rest := []) (lenOf pd__I_I rfl) rfl (by show 2 * 0 + _ ≤ _; exact Nat.le_of_eq rfl) (hb hby d2_35) (fun _ _ => ⟨rfl, e0, (by decide : 0 + 0 ≤ _), (by decide : 0 + 0 ≤ _)⟩)
        dsimp only [Pt.U, Pt.locs, Pt.cells, Pt.slots] at X4 l4 y4 z4 st4 hQ4
        subst l4 y4 z4
        obtain ⟨rfl, rfl, e4⟩ := hQ4
        refine own_st st4 ?_
        show OG p e _ s below _ T4 (mkF m 38 #[.val (.int p1), .val (.int ((p1 - (97 : Int32)) + (10 : Int32)))] [(.int (f3 ((p1 - (97 : Int32)) + (10 : Int32))))])
        refine own_st (fun t k => XS.iloadN X4.here hx rfl (hb hby d2_38) rfl k) ?_
        show OG p e _ s below _ T4 (mkF m 39 #[.val (.int p1), .val (.int ((p1 - (97 : Int32)) + (10 : Int32)))] [(.int p1), (.int (f3 ((p1 - (97 : Int32)) + (10 : Int32))))])
        by_cases c5 : (f3 ((p1 - (97 : Int32)) + (10 : Int32))) = p1
        · refine own_st (fun t k => XS.icmpNo X4.here hx rfl (hb hby d2_39) rfl (teq c5).2 k) ?_
          show OG p e _ s below _ T4 (mkF m 42 #[.val (.int p1), .val (.int ((p1 - (97 : Int32)) + (10 : Int32)))] [])
          refine own_st (fun t k => XS.iconst X4.here hx rfl (hb hby d2_42) k) ?_
          show OG p e _ s below _ T4 (mkF m 43 #[.val (.int p1), .val (.int ((p1 - (97 : Int32)) + (10 : Int32)))] [(.int (1 : Int32))])
          refine own_st (fun t k => XS.goto X4.here hx rfl (pc0 := 43) (pc' := 47) rfl (hb hby d2_43) (by decide) (by decide) k) ?_
          show OG p e _ s below _ T4 (mkF m 47 #[.val (.int p1), .val (.int ((p1 - (97 : Int32)) + (10 : Int32)))] [(.int (1 : Int32))])
          exact own_retZ X4 hx (t := .boolean) hret (by simp) hlk (hb hby d2_47) (by decide) (by decide) (w := (1 : Int32)) rfl ⟨congrArg (fun z => some (Value.int z)) (show f2 p1 = (1 : Int32) from (by rw [f2, if_pos c1, if_neg c2, if_neg c3, if_pos c5])).symm, rfl, e4⟩
        · refine own_st (fun t k => XS.icmpYes X4.here hx rfl (pc0 := 39) (pc' := 46) rfl (hb hby d2_39) rfl (feq c5).2 (by decide) (by decide) k) ?_
          show OG p e _ s below _ T4 (mkF m 46 #[.val (.int p1), .val (.int ((p1 - (97 : Int32)) + (10 : Int32)))] [])
          refine own_st (fun t k => XS.iconst X4.here hx rfl (hb hby d2_46) k) ?_
          show OG p e _ s below _ T4 (mkF m 47 #[.val (.int p1), .val (.int ((p1 - (97 : Int32)) + (10 : Int32)))] [(.int (0 : Int32))])
          exact own_retZ X4 hx (t := .boolean) hret (by simp) hlk (hb hby d2_47) (by decide) (by decide) (w := (0 : Int32)) rfl ⟨congrArg (fun z => some (Value.int z)) (show f2 p1 = (0 : Int32) from (by rw [f2, if_pos c1, if_neg c2, if_neg c3, if_neg c5])).symm, rfl, e4⟩
  · refine own_st (fun t k => XS.icmpNo X0.here hx rfl (hb hby d2_3) rfl (flt c1).2.2.1 k) ?_
    show OG p e _ s below _ s₁ (mkF m 6 #[.val (.int p1), .unset] [])
    refine own_st (fun t k => XS.iloadN X0.here hx rfl (hb hby d2_6) rfl k) ?_
    show OG p e _ s below _ s₁ (mkF m 7 #[.val (.int p1), .unset] [(.int p1)])
    refine own_st (fun t k => XS.bipush X0.here hx rfl (hb hby d2_7) k) ?_
    show OG p e _ s below _ s₁ (mkF m 9 #[.val (.int p1), .unset] [(.int (48 : Int32)), (.int p1)])
    refine own_st (fun t k => XS.isub X0.here hx rfl (hb hby d2_9) rfl k) ?_
    show OG p e _ s below _ s₁ (mkF m 10 #[.val (.int p1), .unset] [(.int (p1 - (48 : Int32)))])
    refine own_st (fun t k => XS.istoreN X0.here hx rfl (hb hby d2_10) rfl (l' := #[.val (.int p1), .val (.int (p1 - (48 : Int32)))]) rfl k) ?_
    show OG p e _ s below _ s₁ (mkF m 11 #[.val (.int p1), .val (.int (p1 - (48 : Int32)))] [])
    refine own_st (fun t k => XS.goto X0.here hx rfl (pc0 := 11) (pc' := 22) rfl (hb hby d2_11) (by decide) (by decide) k) ?_
    show OG p e _ s below _ s₁ (mkF m 22 #[.val (.int p1), .val (.int (p1 - (48 : Int32)))] [])
    refine own_st (fun t k => XS.iloadN X0.here hx rfl (hb hby d2_22) rfl k) ?_
    show OG p e _ s below _ s₁ (mkF m 23 #[.val (.int p1), .val (.int (p1 - (48 : Int32)))] [(.int (p1 - (48 : Int32)))])
    by_cases c6 : (p1 - (48 : Int32)) < (0 : Int32)
    · refine own_st (fun t k => XS.ifYes X0.here hx rfl (pc0 := 23) (pc' := 32) rfl (hb hby d2_23) rfl (own_if0 (tlt c6).1) (by decide) (by decide) k) ?_
      show OG p e _ s below _ s₁ (mkF m 32 #[.val (.int p1), .val (.int (p1 - (48 : Int32)))] [])
      refine own_st (fun t k => XS.iconst X0.here hx rfl (hb hby d2_32) k) ?_
      show OG p e _ s below _ s₁ (mkF m 33 #[.val (.int p1), .val (.int (p1 - (48 : Int32)))] [(.int (0 : Int32))])
      exact own_retZ X0 hx (t := .boolean) hret (by simp) hlk (hb hby d2_33) (by decide) (by decide) (w := (0 : Int32)) rfl ⟨congrArg (fun z => some (Value.int z)) (show f2 p1 = (0 : Int32) from (by rw [f2, if_neg c1, if_pos c6])).symm, rfl, e0⟩
    · refine own_st (fun t k => XS.ifNo X0.here hx rfl (hb hby d2_23) rfl (own_if0 (flt c6).1) k) ?_
      show OG p e _ s below _ s₁ (mkF m 26 #[.val (.int p1), .val (.int (p1 - (48 : Int32)))] [])
      refine own_st (fun t k => XS.iloadN X0.here hx rfl (hb hby d2_26) rfl k) ?_
      show OG p e _ s below _ s₁ (mkF m 27 #[.val (.int p1), .val (.int (p1 - (48 : Int32)))] [(.int (p1 - (48 : Int32)))])
      refine own_st (fun t k => XS.bipush X0.here hx rfl (hb hby d2_27) k) ?_
      show OG p e _ s below _ s₁ (mkF m 29 #[.val (.int p1), .val (.int (p1 - (48 : Int32)))] [(.int (15 : Int32)), (.int (p1 - (48 : Int32)))])
      by_cases c7 : (15 : Int32) < (p1 - (48 : Int32))
      · refine own_st (fun t k => XS.icmpNo X0.here hx rfl (hb hby d2_29) rfl (tlt c7).2.2.2 k) ?_
        show OG p e _ s below _ s₁ (mkF m 32 #[.val (.int p1), .val (.int (p1 - (48 : Int32)))] [])
        refine own_st (fun t k => XS.iconst X0.here hx rfl (hb hby d2_32) k) ?_
        show OG p e _ s below _ s₁ (mkF m 33 #[.val (.int p1), .val (.int (p1 - (48 : Int32)))] [(.int (0 : Int32))])
        exact own_retZ X0 hx (t := .boolean) hret (by simp) hlk (hb hby d2_33) (by decide) (by decide) (w := (0 : Int32)) rfl ⟨congrArg (fun z => some (Value.int z)) (show f2 p1 = (0 : Int32) from (by rw [f2, if_neg c1, if_neg c6, if_pos c7])).symm, rfl, e0⟩
      · refine own_st (fun t k => XS.icmpYes X0.here hx rfl (pc0 := 29) (pc' := 34) rfl (hb hby d2_29) rfl (flt c7).2.2.2 (by decide) (by decide) k) ?_
        show OG p e _ s below _ s₁ (mkF m 34 #[.val (.int p1), .val (.int (p1 - (48 : Int32)))] [])
        refine own_st (fun t k => XS.iloadN X0.here hx rfl (hb hby d2_34) rfl k) ?_
        show OG p e _ s below _ s₁ (mkF m 35 #[.val (.int p1), .val (.int (p1 - (48 : Int32)))] [(.int (p1 - (48 : Int32)))])
        obtain ⟨_, _, ⟨T8, L8, k8, n8⟩, -, X8, ⟨Lc8, hQ8, l8, y8, z8⟩, st8⟩ := Jvm.LawKit.callS X0 hx (y := (⟨"com/example/partwise/partwise/RecordLogIsLowercaseHexPinLaw", "digitChar", "(I)I"⟩ : MethodName)) hown (mvT hZ (hw _ (List.mem_of_getElem? (i := 9) rfl))) (mvT hZ (hw _ (List.mem_of_getElem? (i := 10) rfl))) (mvT hZ (hw _ (List.mem_of_getElem? (i := 6) rfl))) (mvT hZ (hw _ (List.mem_of_getElem? (i := 11) rfl))) (by decide) (backOf (W := 0) (rm := ({ frames := 0, cells := 0, slots := 0, locals := 0 } : Room)) (rm3 l Z a0 hw [] (p1 - (48 : Int32)) h0) hZ (hw _ (List.mem_of_getElem? (i := 11) rfl)) (hw _ (List.mem_of_getElem? (i := 6) rfl)) (by decide) (by decide)) (g := (mkF m 35 #[.val (.int p1), .val (.int (p1 - (48 : Int32)))] [(.int (p1 - (48 : Int32)))])) rfl (by rw [hml]; rfl) (argsL := [(.int (p1 - (48 : Int32)))]) (rest := []) (lenOf pd__I_I rfl) rfl (by show 2 * 0 + _ ≤ _; exact Nat.le_of_eq rfl) (hb hby d2_35) (fun _ _ => ⟨rfl, e0, (by decide : 0 + 0 ≤ _), (by decide : 0 + 0 ≤ _)⟩)
        dsimp only [Pt.U, Pt.locs, Pt.cells, Pt.slots] at X8 l8 y8 z8 st8 hQ8
        subst l8 y8 z8
        obtain ⟨rfl, rfl, e8⟩ := hQ8
        refine own_st st8 ?_
        show OG p e _ s below _ T8 (mkF m 38 #[.val (.int p1), .val (.int (p1 - (48 : Int32)))] [(.int (f3 (p1 - (48 : Int32))))])
        refine own_st (fun t k => XS.iloadN X8.here hx rfl (hb hby d2_38) rfl k) ?_
        show OG p e _ s below _ T8 (mkF m 39 #[.val (.int p1), .val (.int (p1 - (48 : Int32)))] [(.int p1), (.int (f3 (p1 - (48 : Int32))))])
        by_cases c9 : (f3 (p1 - (48 : Int32))) = p1
        · refine own_st (fun t k => XS.icmpNo X8.here hx rfl (hb hby d2_39) rfl (teq c9).2 k) ?_
          show OG p e _ s below _ T8 (mkF m 42 #[.val (.int p1), .val (.int (p1 - (48 : Int32)))] [])
          refine own_st (fun t k => XS.iconst X8.here hx rfl (hb hby d2_42) k) ?_
          show OG p e _ s below _ T8 (mkF m 43 #[.val (.int p1), .val (.int (p1 - (48 : Int32)))] [(.int (1 : Int32))])
          refine own_st (fun t k => XS.goto X8.here hx rfl (pc0 := 43) (pc' := 47) rfl (hb hby d2_43) (by decide) (by decide) k) ?_
          show OG p e _ s below _ T8 (mkF m 47 #[.val (.int p1), .val (.int (p1 - (48 : Int32)))] [(.int (1 : Int32))])
          exact own_retZ X8 hx (t := .boolean) hret (by simp) hlk (hb hby d2_47) (by decide) (by decide) (w := (1 : Int32)) rfl ⟨congrArg (fun z => some (Value.int z)) (show f2 p1 = (1 : Int32) from (by rw [f2, if_neg c1, if_neg c6, if_neg c7, if_pos c9])).symm, rfl, e8⟩
        · refine own_st (fun t k => XS.icmpYes X8.here hx rfl (pc0 := 39) (pc' := 46) rfl (hb hby d2_39) rfl (feq c9).2 (by decide) (by decide) k) ?_
          show OG p e _ s below _ T8 (mkF m 46 #[.val (.int p1), .val (.int (p1 - (48 : Int32)))] [])
          refine own_st (fun t k => XS.iconst X8.here hx rfl (hb hby d2_46) k) ?_
          show OG p e _ s below _ T8 (mkF m 47 #[.val (.int p1), .val (.int (p1 - (48 : Int32)))] [(.int (0 : Int32))])
          exact own_retZ X8 hx (t := .boolean) hret (by simp) hlk (hb hby d2_47) (by decide) (by decide) (w := (0 : Int32)) rfl ⟨congrArg (fun z => some (Value.int z)) (show f2 p1 = (0 : Int32) from (by rw [f2, if_neg c1, if_neg c6, if_neg c7, if_neg c9])).symm, rfl, e8⟩
theorem pd__C_Z : parseMethodDescriptor "(C)Z" = some ⟨[.char], some .boolean⟩ := by decide +kernel
theorem pn_0 : plainFor (⟨"com/example/partwise/partwise/RecordLogIsLowercaseHexPinLaw", "law", "(II)Z"⟩ : MethodName) = true := by first | exact plainFor_of_name (by first | (simp [plainName, overriddenIn]; done) | decide +kernel) | decide +kernel
def g0_1 (p1 : Int32) (p2 : Int32) : Int32 := ((p1 &&& (65535 : Int32)).toUInt32.toUInt16.toUInt32.toInt32)
def g0_2 (p1 : Int32) (p2 : Int32) : Int32 := (((47 : Int32) + (p1 &&& (15 : Int32))).toUInt32.toUInt16.toUInt32.toInt32)
def g0_3 (p1 : Int32) (p2 : Int32) : Int32 := (((96 : Int32) + (p1 &&& (7 : Int32))).toUInt32.toUInt16.toUInt32.toInt32)
def g0_4 (p1 : Int32) (p2 : Int32) : Int32 := ((p1 &&& (255 : Int32)).toUInt32.toUInt16.toUInt32.toInt32)
def f0 (p1 : Int32) (p2 : Int32) : Int32 := (if (p2 &&& (3 : Int32)) = (0 : Int32) then (if (f1 (g0_1 p1 p2)) = (f2 (g0_1 p1 p2)) then (1 : Int32) else (0 : Int32)) else (if (p2 &&& (3 : Int32)) = (1 : Int32) then (if (f1 (g0_2 p1 p2)) = (f2 (g0_2 p1 p2)) then (1 : Int32) else (0 : Int32)) else (if (p2 &&& (3 : Int32)) = (2 : Int32) then (if (f1 (g0_3 p1 p2)) = (f2 (g0_3 p1 p2)) then (1 : Int32) else (0 : Int32)) else (if (f1 (g0_4 p1 p2)) = (f2 (g0_4 p1 p2)) then (1 : Int32) else (0 : Int32)))))
theorem ef_0 (m : MethodId) (p1 : Int32) (p2 : Int32) : entryFrame m #[(.int p1), (.int p2)] 4 = (mkF m 0 #[.val (.int p1), .val (.int p2), .unset, .unset] []) := by first | (simp [entryFrame, mkF, argsToLocals, Value.category]; done) | rfl
abbrev Q0 (p1 : Int32) (p2 : Int32) (h0 : Heap) : Option Value → Heap → List Loc → Prop := (fun v h L => v = some (.int (f0 p1 p2)) ∧ L = [] ∧ h = h0)
set_option maxRecDepth 65536 in
set_option maxHeartbeats 40000000 in
theorem rm0 (l : Launch) (Z : State) (a0 : Array Value) (hw : ∀ d ∈ tables_1, d.before a0 Z = true) (ws : List Jvm.Cond) (p1 : Int32) (p2 : Int32) (h0 : Heap)  :
    OMet l Z x code maxLocals ret ws room_1 #[(.int p1), (.int p2)] h0 (Q0 p1 p2 h0) := by
  refine own_enter pn_0 ?_
  intro p e s m below meth c s₁ hx hby hml0 hown hret hlk hnm hZ X0 e0
  have hml : c.maxLocals = 4 := hml0
  refine own_cast (ef_0 m p1 p2) ?_
  show OG p e room_1 s below (fun v h L => v = some (.int (f0 p1 p2)) ∧ L = [] ∧ h = h0) s₁ (mkF m 0 #[.val (.int p1), .val (.int p2), .unset, .unset] [])
  refine own_st (fun t k => XS.iloadN X0.here hx rfl (hb hby at_0) rfl k) ?_
  show OG p e _ s below _ s₁ (mkF m 1 #[.val (.int p1), .val (.int p2), .unset, .unset] [(.int p2)])
  refine own_st (fun t k => XS.iconst X0.here hx rfl (hb hby at_1) k) ?_
  show OG p e _ s below _ s₁ (mkF m 2 #[.val (.int p1), .val (.int p2), .unset, .unset] [(.int (3 : Int32)), (.int p2)])
  refine own_st (fun t k => XS.iand X0.here hx rfl (hb hby at_2) rfl k) ?_
  show OG p e _ s below _ s₁ (mkF m 3 #[.val (.int p1), .val (.int p2), .unset, .unset] [(.int (p2 &&& (3 : Int32)))])
  refine own_st (fun t k => XS.istoreN X0.here hx rfl (hb hby at_3) rfl (l' := #[.val (.int p1), .val (.int p2), .val (.int (p2 &&& (3 : Int32))), .unset]) rfl k) ?_
  show OG p e _ s below _ s₁ (mkF m 4 #[.val (.int p1), .val (.int p2), .val (.int (p2 &&& (3 : Int32))), .unset] [])
  refine own_st (fun t k => XS.iloadN X0.here hx rfl (hb hby at_4) rfl k) ?_
  show OG p e _ s below _ s₁ (mkF m 5 #[.val (.int p1), .val (.int p2), .val (.int (p2 &&& (3 : Int32))), .unset] [(.int (p2 &&& (3 : Int32)))])
  by_cases c1 : (p2 &&& (3 : Int32)) = (0 : Int32)
  · refine own_st (fun t k => XS.ifNo X0.here hx rfl (hb hby at_5) rfl (own_if0 (teq c1).2) k) ?_
    show OG p e _ s below _ s₁ (mkF m 8 #[.val (.int p1), .val (.int p2), .val (.int (p2 &&& (3 : Int32))), .unset] [])
    refine own_st (fun t k => XS.iloadN X0.here hx rfl (hb hby at_8) rfl k) ?_
    show OG p e _ s below _ s₁ (mkF m 9 #[.val (.int p1), .val (.int p2), .val (.int (p2 &&& (3 : Int32))), .unset] [(.int p1)])
    refine own_st (fun t k => X0.ldcInt hx hown (mvT hZ (hw _ (List.mem_of_getElem? (i := 8) rfl))) (g := (mkF m 9 #[.val (.int p1), .val (.int p2), .val (.int (p2 &&& (3 : Int32))), .unset] [(.int p1)])) rfl (hb hby at_9) _ k) ?_
    show OG p e _ s below _ s₁ (mkF m 11 #[.val (.int p1), .val (.int p2), .val (.int (p2 &&& (3 : Int32))), .unset] [(.int (65535 : Int32)), (.int p1)])
    refine own_st (fun t k => XS.iand X0.here hx rfl (hb hby at_11) rfl k) ?_
    show OG p e _ s below _ s₁ (mkF m 12 #[.val (.int p1), .val (.int p2), .val (.int (p2 &&& (3 : Int32))), .unset] [(.int (p1 &&& (65535 : Int32)))])
    refine own_st (fun t k => XS.i2c X0.here hx rfl (hb hby at_12) rfl k) ?_
    show OG p e _ s below _ s₁ (mkF m 13 #[.val (.int p1), .val (.int p2), .val (.int (p2 &&& (3 : Int32))), .unset] [(.int ((p1 &&& (65535 : Int32)).toUInt32.toUInt16.toUInt32.toInt32))])
    refine own_st (fun t k => XS.istoreN X0.here hx rfl (hb hby at_13) rfl (l' := #[.val (.int p1), .val (.int p2), .val (.int (p2 &&& (3 : Int32))), .val (.int (g0_1 p1 p2))]) rfl k) ?_
    show OG p e _ s below _ s₁ (mkF m 14 #[.val (.int p1), .val (.int p2), .val (.int (p2 &&& (3 : Int32))), .val (.int (g0_1 p1 p2))] [])
    refine own_st (fun t k => XS.goto X0.here hx rfl (pc0 := 14) (pc' := 58) rfl (hb hby at_14) (by decide) (by decide) k) ?_
    show OG p e _ s below _ s₁ (mkF m 58 #[.val (.int p1), .val (.int p2), .val (.int (p2 &&& (3 : Int32))), .val (.int (g0_1 p1 p2))] [])
    refine own_st (fun t k => XS.iloadN X0.here hx rfl (hb hby at_58) rfl k) ?_
    show OG p e _ s below _ s₁ (mkF m 59 #[.val (.int p1), .val (.int p2), .val (.int (p2 &&& (3 : Int32))), .val (.int (g0_1 p1 p2))] [(.int (g0_1 p1 p2))])
    obtain ⟨_, _, ⟨T2, L2, k2, n2⟩, -, X2, ⟨Lc2, hQ2, l2, y2, z2⟩, st2⟩ := Jvm.LawKit.callS X0 hx (y := (⟨"com/example/partwise/partwise/RecordLog", "isLowercaseHex", "(C)Z"⟩ : MethodName)) hown (mvT hZ (hw _ (List.mem_of_getElem? (i := 0) rfl))) (mvT hZ (hw _ (List.mem_of_getElem? (i := 1) rfl))) (mvT hZ (hw _ (List.mem_of_getElem? (i := 2) rfl))) (mvT hZ (hw _ (List.mem_of_getElem? (i := 3) rfl))) (by decide) (backOf (W := 0) (rm := ({ frames := 0, cells := 0, slots := 0, locals := 0 } : Room)) (rm1 l Z a0 hw [] (g0_1 p1 p2) h0) hZ (hw _ (List.mem_of_getElem? (i := 3) rfl)) (hw _ (List.mem_of_getElem? (i := 2) rfl)) (by decide) (by decide)) (g := (mkF m 59 #[.val (.int p1), .val (.int p2), .val (.int (p2 &&& (3 : Int32))), .val (.int (g0_1 p1 p2))] [(.int (g0_1 p1 p2))])) rfl (by rw [hml]; rfl) (argsL := [(.int (g0_1 p1 p2))]) (rest := []) (lenOf pd__C_Z rfl) rfl (by show 2 * 0 + _ ≤ _; exact Nat.le_of_eq rfl) (hb hby at_59) (fun _ _ => ⟨rfl, e0, (by decide : 0 + 0 ≤ _), (by decide : 0 + 0 ≤ _)⟩)
    dsimp only [Pt.U, Pt.locs, Pt.cells, Pt.slots] at X2 l2 y2 z2 st2 hQ2
    subst l2 y2 z2
    obtain ⟨rfl, rfl, e2⟩ := hQ2
    refine own_st st2 ?_
    show OG p e _ s below _ T2 (mkF m 62 #[.val (.int p1), .val (.int p2), .val (.int (p2 &&& (3 : Int32))), .val (.int (g0_1 p1 p2))] [(.int (f1 (g0_1 p1 p2)))])
    refine own_st (fun t k => XS.iloadN X2.here hx rfl (hb hby at_62) rfl k) ?_
    show OG p e _ s below _ T2 (mkF m 63 #[.val (.int p1), .val (.int p2), .val (.int (p2 &&& (3 : Int32))), .val (.int (g0_1 p1 p2))] [(.int (g0_1 p1 p2)), (.int (f1 (g0_1 p1 p2)))])
    obtain ⟨_, _, ⟨T3, L3, k3, n3⟩, -, X3, ⟨Lc3, hQ3, l3, y3, z3⟩, st3⟩ := Jvm.LawKit.callS X2 hx (y := (⟨"com/example/partwise/partwise/RecordLogIsLowercaseHexPinLaw", "expected", "(C)Z"⟩ : MethodName)) hown (mvT hZ (hw _ (List.mem_of_getElem? (i := 4) rfl))) (mvT hZ (hw _ (List.mem_of_getElem? (i := 5) rfl))) (mvT hZ (hw _ (List.mem_of_getElem? (i := 6) rfl))) (mvT hZ (hw _ (List.mem_of_getElem? (i := 7) rfl))) (by decide) (backOf (W := 1) (rm := ({ frames := 1, cells := 0, slots := 0, locals := 12 } : Room)) (rm2 l Z a0 hw [] (g0_1 p1 p2) h0) hZ (hw _ (List.mem_of_getElem? (i := 7) rfl)) (hw _ (List.mem_of_getElem? (i := 6) rfl)) (by decide) (by decide)) (g := (mkF m 63 #[.val (.int p1), .val (.int p2), .val (.int (p2 &&& (3 : Int32))), .val (.int (g0_1 p1 p2))] [(.int (g0_1 p1 p2)), (.int (f1 (g0_1 p1 p2)))])) rfl (by rw [hml]; rfl) (argsL := [(.int (g0_1 p1 p2))]) (rest := [(.int (f1 (g0_1 p1 p2)))]) (lenOf pd__C_Z rfl) rfl (by show 2 * 0 + _ ≤ _; exact Nat.le_of_eq rfl) (hb hby at_63) (fun _ _ => ⟨rfl, e2, (by decide : 0 + 0 ≤ _), (by decide : 0 + 0 ≤ _)⟩)
    dsimp only [Pt.U, Pt.locs, Pt.cells, Pt.slots] at X3 l3 y3 z3 st3 hQ3
    subst l3 y3 z3
    obtain ⟨rfl, rfl, e3⟩ := hQ3
    refine own_st st3 ?_
    show OG p e _ s below _ T3 (mkF m 66 #[.val (.int p1), .val (.int p2), .val (.int (p2 &&& (3 : Int32))), .val (.int (g0_1 p1 p2))] [(.int (f2 (g0_1 p1 p2))), (.int (f1 (g0_1 p1 p2)))])
    by_cases c4 : (f1 (g0_1 p1 p2)) = (f2 (g0_1 p1 p2))
    · refine own_st (fun t k => XS.icmpNo X3.here hx rfl (hb hby at_66) rfl (teq c4).2 k) ?_
      show OG p e _ s below _ T3 (mkF m 69 #[.val (.int p1), .val (.int p2), .val (.int (p2 &&& (3 : Int32))), .val (.int (g0_1 p1 p2))] [])
      refine own_st (fun t k => XS.iconst X3.here hx rfl (hb hby at_69) k) ?_
      show OG p e _ s below _ T3 (mkF m 70 #[.val (.int p1), .val (.int p2), .val (.int (p2 &&& (3 : Int32))), .val (.int (g0_1 p1 p2))] [(.int (1 : Int32))])
      refine own_st (fun t k => XS.goto X3.here hx rfl (pc0 := 70) (pc' := 74) rfl (hb hby at_70) (by decide) (by decide) k) ?_
      show OG p e _ s below _ T3 (mkF m 74 #[.val (.int p1), .val (.int p2), .val (.int (p2 &&& (3 : Int32))), .val (.int (g0_1 p1 p2))] [(.int (1 : Int32))])
      exact own_retZ X3 hx (t := .boolean) hret (by simp) hlk (hb hby at_74) (by decide) (by decide) (w := (1 : Int32)) rfl ⟨congrArg (fun z => some (Value.int z)) (show f0 p1 p2 = (1 : Int32) from (by rw [f0, if_pos c1, if_pos c4])).symm, rfl, e3⟩
    · refine own_st (fun t k => XS.icmpYes X3.here hx rfl (pc0 := 66) (pc' := 73) rfl (hb hby at_66) rfl (feq c4).2 (by decide) (by decide) k) ?_
      show OG p e _ s below _ T3 (mkF m 73 #[.val (.int p1), .val (.int p2), .val (.int (p2 &&& (3 : Int32))), .val (.int (g0_1 p1 p2))] [])
      refine own_st (fun t k => XS.iconst X3.here hx rfl (hb hby at_73) k) ?_
      show OG p e _ s below _ T3 (mkF m 74 #[.val (.int p1), .val (.int p2), .val (.int (p2 &&& (3 : Int32))), .val (.int (g0_1 p1 p2))] [(.int (0 : Int32))])
      exact own_retZ X3 hx (t := .boolean) hret (by simp) hlk (hb hby at_74) (by decide) (by decide) (w := (0 : Int32)) rfl ⟨congrArg (fun z => some (Value.int z)) (show f0 p1 p2 = (0 : Int32) from (by rw [f0, if_pos c1, if_neg c4])).symm, rfl, e3⟩
  · refine own_st (fun t k => XS.ifYes X0.here hx rfl (pc0 := 5) (pc' := 17) rfl (hb hby at_5) rfl (own_if0 (feq c1).2) (by decide) (by decide) k) ?_
    show OG p e _ s below _ s₁ (mkF m 17 #[.val (.int p1), .val (.int p2), .val (.int (p2 &&& (3 : Int32))), .unset] [])
    refine own_st (fun t k => XS.iloadN X0.here hx rfl (hb hby at_17) rfl k) ?_
    show OG p e _ s below _ s₁ (mkF m 18 #[.val (.int p1), .val (.int p2), .val (.int (p2 &&& (3 : Int32))), .unset] [(.int (p2 &&& (3 : Int32)))])
    refine own_st (fun t k => XS.iconst X0.here hx rfl (hb hby at_18) k) ?_
    show OG p e _ s below _ s₁ (mkF m 19 #[.val (.int p1), .val (.int p2), .val (.int (p2 &&& (3 : Int32))), .unset] [(.int (1 : Int32)), (.int (p2 &&& (3 : Int32)))])
    by_cases c5 : (p2 &&& (3 : Int32)) = (1 : Int32)
    · refine own_st (fun t k => XS.icmpNo X0.here hx rfl (hb hby at_19) rfl (teq c5).2 k) ?_
      show OG p e _ s below _ s₁ (mkF m 22 #[.val (.int p1), .val (.int p2), .val (.int (p2 &&& (3 : Int32))), .unset] [])
      refine own_st (fun t k => XS.bipush X0.here hx rfl (hb hby at_22) k) ?_
      show OG p e _ s below _ s₁ (mkF m 24 #[.val (.int p1), .val (.int p2), .val (.int (p2 &&& (3 : Int32))), .unset] [(.int (47 : Int32))])
      refine own_st (fun t k => XS.iloadN X0.here hx rfl (hb hby at_24) rfl k) ?_
      show OG p e _ s below _ s₁ (mkF m 25 #[.val (.int p1), .val (.int p2), .val (.int (p2 &&& (3 : Int32))), .unset] [(.int p1), (.int (47 : Int32))])
      refine own_st (fun t k => XS.bipush X0.here hx rfl (hb hby at_25) k) ?_
      show OG p e _ s below _ s₁ (mkF m 27 #[.val (.int p1), .val (.int p2), .val (.int (p2 &&& (3 : Int32))), .unset] [(.int (15 : Int32)), (.int p1), (.int (47 : Int32))])
      refine own_st (fun t k => XS.iand X0.here hx rfl (hb hby at_27) rfl k) ?_
      show OG p e _ s below _ s₁ (mkF m 28 #[.val (.int p1), .val (.int p2), .val (.int (p2 &&& (3 : Int32))), .unset] [(.int (p1 &&& (15 : Int32))), (.int (47 : Int32))])
      refine own_st (fun t k => XS.iadd X0.here hx rfl (hb hby at_28) rfl k) ?_
      show OG p e _ s below _ s₁ (mkF m 29 #[.val (.int p1), .val (.int p2), .val (.int (p2 &&& (3 : Int32))), .unset] [(.int ((47 : Int32) + (p1 &&& (15 : Int32))))])
      refine own_st (fun t k => XS.i2c X0.here hx rfl (hb hby at_29) rfl k) ?_
      show OG p e _ s below _ s₁ (mkF m 30 #[.val (.int p1), .val (.int p2), .val (.int (p2 &&& (3 : Int32))), .unset] [(.int (((47 : Int32) + (p1 &&& (15 : Int32))).toUInt32.toUInt16.toUInt32.toInt32))])
      refine own_st (fun t k => XS.istoreN X0.here hx rfl (hb hby at_30) rfl (l' := #[.val (.int p1), .val (.int p2), .val (.int (p2 &&& (3 : Int32))), .val (.int (g0_2 p1 p2))]) rfl k) ?_
      show OG p e _ s below _ s₁ (mkF m 31 #[.val (.int p1), .val (.int p2), .val (.int (p2 &&& (3 : Int32))), .val (.int (g0_2 p1 p2))] [])
      refine own_st (fun t k => XS.goto X0.here hx rfl (pc0 := 31) (pc' := 58) rfl (hb hby at_31) (by decide) (by decide) k) ?_
      show OG p e _ s below _ s₁ (mkF m 58 #[.val (.int p1), .val (.int p2), .val (.int (p2 &&& (3 : Int32))), .val (.int (g0_2 p1 p2))] [])
      refine own_st (fun t k => XS.iloadN X0.here hx rfl (hb hby at_58) rfl k) ?_
      show OG p e _ s below _ s₁ (mkF m 59 #[.val (.int p1), .val (.int p2), .val (.int (p2 &&& (3 : Int32))), .val (.int (g0_2 p1 p2))] [(.int (g0_2 p1 p2))])
      obtain ⟨_, _, ⟨T6, L6, k6, n6⟩, -, X6, ⟨Lc6, hQ6, l6, y6, z6⟩, st6⟩ := Jvm.LawKit.callS X0 hx (y := (⟨"com/example/partwise/partwise/RecordLog", "isLowercaseHex", "(C)Z"⟩ : MethodName)) hown (mvT hZ (hw _ (List.mem_of_getElem? (i := 0) rfl))) (mvT hZ (hw _ (List.mem_of_getElem? (i := 1) rfl))) (mvT hZ (hw _ (List.mem_of_getElem? (i := 2) rfl))) (mvT hZ (hw _ (List.mem_of_getElem? (i := 3) rfl))) (by decide) (backOf (W := 0) (rm := ({ frames := 0, cells := 0, slots := 0, locals := 0 } : Room)) (rm1 l Z a0 hw [] (g0_2 p1 p2) h0) hZ (hw _ (List.mem_of_getElem? (i := 3) rfl)) (hw _ (List.mem_of_getElem? (i := 2) rfl)) (by decide) (by decide)) (g := (mkF m 59 #[.val (.int p1), .val (.int p2), .val (.int (p2 &&& (3 : Int32))), .val (.int (g0_2 p1 p2))] [(.int (g0_2 p1 p2))])) rfl (by rw [hml]; rfl) (argsL := [(.int (g0_2 p1 p2))]) (rest := []) (lenOf pd__C_Z rfl) rfl (by show 2 * 0 + _ ≤ _; exact Nat.le_of_eq rfl) (hb hby at_59) (fun _ _ => ⟨rfl, e0, (by decide : 0 + 0 ≤ _), (by decide : 0 + 0 ≤ _)⟩)
      dsimp only [Pt.U, Pt.locs, Pt.cells, Pt.slots] at X6 l6 y6 z6 st6 hQ6
      subst l6 y6 z6
      obtain ⟨rfl, rfl, e6⟩ := hQ6
      refine own_st st6 ?_
      show OG p e _ s below _ T6 (mkF m 62 #[.val (.int p1), .val (.int p2), .val (.int (p2 &&& (3 : Int32))), .val (.int (g0_2 p1 p2))] [(.int (f1 (g0_2 p1 p2)))])
      refine own_st (fun t k => XS.iloadN X6.here hx rfl (hb hby at_62) rfl k) ?_
      show OG p e _ s below _ T6 (mkF m 63 #[.val (.int p1), .val (.int p2), .val (.int (p2 &&& (3 : Int32))), .val (.int (g0_2 p1 p2))] [(.int (g0_2 p1 p2)), (.int (f1 (g0_2 p1 p2)))])
      obtain ⟨_, _, ⟨T7, L7, k7, n7⟩, -, X7, ⟨Lc7, hQ7, l7, y7, z7⟩, st7⟩ := Jvm.LawKit.callS X6 hx (y := (⟨"com/example/partwise/partwise/RecordLogIsLowercaseHexPinLaw", "expected", "(C)Z"⟩ : MethodName)) hown (mvT hZ (hw _ (List.mem_of_getElem? (i := 4) rfl))) (mvT hZ (hw _ (List.mem_of_getElem? (i := 5) rfl))) (mvT hZ (hw _ (List.mem_of_getElem? (i := 6) rfl))) (mvT hZ (hw _ (List.mem_of_getElem? (i := 7) rfl))) (by decide) (backOf (W := 1) (rm := ({ frames := 1, cells := 0, slots := 0, locals := 12 } : Room)) (rm2 l Z a0 hw [] (g0_2 p1 p2) h0) hZ (hw _ (List.mem_of_getElem? (i := 7) rfl)) (hw _ (List.mem_of_getElem? (i := 6) rfl)) (by decide) (by decide)) (g := (mkF m 63 #[.val (.int p1), .val (.int p2), .val (.int (p2 &&& (3 : Int32))), .val (.int (g0_2 p1 p2))] [(.int (g0_2 p1 p2)), (.int (f1 (g0_2 p1 p2)))])) rfl (by rw [hml]; rfl) (argsL := [(.int (g0_2 p1 p2))]) (rest := [(.int (f1 (g0_2 p1 p2)))]) (lenOf pd__C_Z rfl) rfl (by show 2 * 0 + _ ≤ _; exact Nat.le_of_eq rfl) (hb hby at_63) (fun _ _ => ⟨rfl, e6, (by decide : 0 + 0 ≤ _), (by decide : 0 + 0 ≤ _)⟩)
      dsimp only [Pt.U, Pt.locs, Pt.cells, Pt.slots] at X7 l7 y7 z7 st7 hQ7
      subst l7 y7 z7
      obtain ⟨rfl, rfl, e7⟩ := hQ7
      refine own_st st7 ?_
      show OG p e _ s below _ T7 (mkF m 66 #[.val (.int p1), .val (.int p2), .val (.int (p2 &&& (3 : Int32))), .val (.int (g0_2 p1 p2))] [(.int (f2 (g0_2 p1 p2))), (.int (f1 (g0_2 p1 p2)))])
      by_cases c8 : (f1 (g0_2 p1 p2)) = (f2 (g0_2 p1 p2))
      · refine own_st (fun t k => XS.icmpNo X7.here hx rfl (hb hby at_66) rfl (teq c8).2 k) ?_
        show OG p e _ s below _ T7 (mkF m 69 #[.val (.int p1), .val (.int p2), .val (.int (p2 &&& (3 : Int32))), .val (.int (g0_2 p1 p2))] [])
        refine own_st (fun t k => XS.iconst X7.here hx rfl (hb hby at_69) k) ?_
        show OG p e _ s below _ T7 (mkF m 70 #[.val (.int p1), .val (.int p2), .val (.int (p2 &&& (3 : Int32))), .val (.int (g0_2 p1 p2))] [(.int (1 : Int32))])
        refine own_st (fun t k => XS.goto X7.here hx rfl (pc0 := 70) (pc' := 74) rfl (hb hby at_70) (by decide) (by decide) k) ?_
        show OG p e _ s below _ T7 (mkF m 74 #[.val (.int p1), .val (.int p2), .val (.int (p2 &&& (3 : Int32))), .val (.int (g0_2 p1 p2))] [(.int (1 : Int32))])
        exact own_retZ X7 hx (t := .boolean) hret (by simp) hlk (hb hby at_74) (by decide) (by decide) (w := (1 : Int32)) rfl ⟨congrArg (fun z => some (Value.int z)) (show f0 p1 p2 = (1 : Int32) from (by rw [f0, if_neg c1, if_pos c5, if_pos c8])).symm, rfl, e7⟩
      · refine own_st (fun t k => XS.icmpYes X7.here hx rfl (pc0 := 66) (pc' := 73) rfl (hb hby at_66) rfl (feq c8).2 (by decide) (by decide) k) ?_
        show OG p e _ s below _ T7 (mkF m 73 #[.val (.int p1), .val (.int p2), .val (.int (p2 &&& (3 : Int32))), .val (.int (g0_2 p1 p2))] [])
        refine own_st (fun t k => XS.iconst X7.here hx rfl (hb hby at_73) k) ?_
        show OG p e _ s below _ T7 (mkF m 74 #[.val (.int p1), .val (.int p2), .val (.int (p2 &&& (3 : Int32))), .val (.int (g0_2 p1 p2))] [(.int (0 : Int32))])
        exact own_retZ X7 hx (t := .boolean) hret (by simp) hlk (hb hby at_74) (by decide) (by decide) (w := (0 : Int32)) rfl ⟨congrArg (fun z => some (Value.int z)) (show f0 p1 p2 = (0 : Int32) from (by rw [f0, if_neg c1, if_pos c5, if_neg c8])).symm, rfl, e7⟩
    · refine own_st (fun t k => XS.icmpYes X0.here hx rfl (pc0 := 19) (pc' := 34) rfl (hb hby at_19) rfl (feq c5).2 (by decide) (by decide) k) ?_
      show OG p e _ s below _ s₁ (mkF m 34 #[.val (.int p1), .val (.int p2), .val (.int (p2 &&& (3 : Int32))), .unset] [])
      refine own_st (fun t k => XS.iloadN X0.here hx rfl (hb hby at_34) rfl k) ?_
      show OG p e _ s below _ s₁ (mkF m 35 #[.val (.int p1), .val (.int p2), .val (.int (p2 &&& (3 : Int32))), .unset] [(.int (p2 &&& (3 : Int32)))])
      refine own_st (fun t k => XS.iconst X0.here hx rfl (hb hby at_35) k) ?_
      show OG p e _ s below _ s₁ (mkF m 36 #[.val (.int p1), .val (.int p2), .val (.int (p2 &&& (3 : Int32))), .unset] [(.int (2 : Int32)), (.int (p2 &&& (3 : Int32)))])
      by_cases c9 : (p2 &&& (3 : Int32)) = (2 : Int32)
      · refine own_st (fun t k => XS.icmpNo X0.here hx rfl (hb hby at_36) rfl (teq c9).2 k) ?_
        show OG p e _ s below _ s₁ (mkF m 39 #[.val (.int p1), .val (.int p2), .val (.int (p2 &&& (3 : Int32))), .unset] [])
        refine own_st (fun t k => XS.bipush X0.here hx rfl (hb hby at_39) k) ?_
        show OG p e _ s below _ s₁ (mkF m 41 #[.val (.int p1), .val (.int p2), .val (.int (p2 &&& (3 : Int32))), .unset] [(.int (96 : Int32))])
        refine own_st (fun t k => XS.iloadN X0.here hx rfl (hb hby at_41) rfl k) ?_
        show OG p e _ s below _ s₁ (mkF m 42 #[.val (.int p1), .val (.int p2), .val (.int (p2 &&& (3 : Int32))), .unset] [(.int p1), (.int (96 : Int32))])
        refine own_st (fun t k => XS.bipush X0.here hx rfl (hb hby at_42) k) ?_
        show OG p e _ s below _ s₁ (mkF m 44 #[.val (.int p1), .val (.int p2), .val (.int (p2 &&& (3 : Int32))), .unset] [(.int (7 : Int32)), (.int p1), (.int (96 : Int32))])
        refine own_st (fun t k => XS.iand X0.here hx rfl (hb hby at_44) rfl k) ?_
        show OG p e _ s below _ s₁ (mkF m 45 #[.val (.int p1), .val (.int p2), .val (.int (p2 &&& (3 : Int32))), .unset] [(.int (p1 &&& (7 : Int32))), (.int (96 : Int32))])
        refine own_st (fun t k => XS.iadd X0.here hx rfl (hb hby at_45) rfl k) ?_
        show OG p e _ s below _ s₁ (mkF m 46 #[.val (.int p1), .val (.int p2), .val (.int (p2 &&& (3 : Int32))), .unset] [(.int ((96 : Int32) + (p1 &&& (7 : Int32))))])
        refine own_st (fun t k => XS.i2c X0.here hx rfl (hb hby at_46) rfl k) ?_
        show OG p e _ s below _ s₁ (mkF m 47 #[.val (.int p1), .val (.int p2), .val (.int (p2 &&& (3 : Int32))), .unset] [(.int (((96 : Int32) + (p1 &&& (7 : Int32))).toUInt32.toUInt16.toUInt32.toInt32))])
        refine own_st (fun t k => XS.istoreN X0.here hx rfl (hb hby at_47) rfl (l' := #[.val (.int p1), .val (.int p2), .val (.int (p2 &&& (3 : Int32))), .val (.int (g0_3 p1 p2))]) rfl k) ?_
        show OG p e _ s below _ s₁ (mkF m 48 #[.val (.int p1), .val (.int p2), .val (.int (p2 &&& (3 : Int32))), .val (.int (g0_3 p1 p2))] [])
        refine own_st (fun t k => XS.goto X0.here hx rfl (pc0 := 48) (pc' := 58) rfl (hb hby at_48) (by decide) (by decide) k) ?_
        show OG p e _ s below _ s₁ (mkF m 58 #[.val (.int p1), .val (.int p2), .val (.int (p2 &&& (3 : Int32))), .val (.int (g0_3 p1 p2))] [])
        refine own_st (fun t k => XS.iloadN X0.here hx rfl (hb hby at_58) rfl k) ?_
        show OG p e _ s below _ s₁ (mkF m 59 #[.val (.int p1), .val (.int p2), .val (.int (p2 &&& (3 : Int32))), .val (.int (g0_3 p1 p2))] [(.int (g0_3 p1 p2))])
        obtain ⟨_, _, ⟨T10, L10, k10, n10⟩, -, X10, ⟨Lc10, hQ10, l10, y10, z10⟩, st10⟩ := Jvm.LawKit.callS X0 hx (y := (⟨"com/example/partwise/partwise/RecordLog", "isLowercaseHex", "(C)Z"⟩ : MethodName)) hown (mvT hZ (hw _ (List.mem_of_getElem? (i := 0) rfl))) (mvT hZ (hw _ (List.mem_of_getElem? (i := 1) rfl))) (mvT hZ (hw _ (List.mem_of_getElem? (i := 2) rfl))) (mvT hZ (hw _ (List.mem_of_getElem? (i := 3) rfl))) (by decide) (backOf (W := 0) (rm := ({ frames := 0, cells := 0, slots := 0, locals := 0 } : Room)) (rm1 l Z a0 hw [] (g0_3 p1 p2) h0) hZ (hw _ (List.mem_of_getElem? (i := 3) rfl)) (hw _ (List.mem_of_getElem? (i := 2) rfl)) (by decide) (by decide)) (g := (mkF m 59 #[.val (.int p1), .val (.int p2), .val (.int (p2 &&& (3 : Int32))), .val (.int (g0_3 p1 p2))] [(.int (g0_3 p1 p2))])) rfl (by rw [hml]; rfl) (argsL := [(.int (g0_3 p1 p2))]) (rest := []) (lenOf pd__C_Z rfl) rfl (by show 2 * 0 + _ ≤ _; exact Nat.le_of_eq rfl) (hb hby at_59) (fun _ _ => ⟨rfl, e0, (by decide : 0 + 0 ≤ _), (by decide : 0 + 0 ≤ _)⟩)
        dsimp only [Pt.U, Pt.locs, Pt.cells, Pt.slots] at X10 l10 y10 z10 st10 hQ10
        subst l10 y10 z10
        obtain ⟨rfl, rfl, e10⟩ := hQ10
        refine own_st st10 ?_
        show OG p e _ s below _ T10 (mkF m 62 #[.val (.int p1), .val (.int p2), .val (.int (p2 &&& (3 : Int32))), .val (.int (g0_3 p1 p2))] [(.int (f1 (g0_3 p1 p2)))])
        refine own_st (fun t k => XS.iloadN X10.here hx rfl (hb hby at_62) rfl k) ?_
        show OG p e _ s below _ T10 (mkF m 63 #[.val (.int p1), .val (.int p2), .val (.int (p2 &&& (3 : Int32))), .val (.int (g0_3 p1 p2))] [(.int (g0_3 p1 p2)), (.int (f1 (g0_3 p1 p2)))])
        obtain ⟨_, _, ⟨T11, L11, k11, n11⟩, -, X11, ⟨Lc11, hQ11, l11, y11, z11⟩, st11⟩ := Jvm.LawKit.callS X10 hx (y := (⟨"com/example/partwise/partwise/RecordLogIsLowercaseHexPinLaw", "expected", "(C)Z"⟩ : MethodName)) hown (mvT hZ (hw _ (List.mem_of_getElem? (i := 4) rfl))) (mvT hZ (hw _ (List.mem_of_getElem? (i := 5) rfl))) (mvT hZ (hw _ (List.mem_of_getElem? (i := 6) rfl))) (mvT hZ (hw _ (List.mem_of_getElem? (i := 7) rfl))) (by decide) (backOf (W := 1) (rm := ({ frames := 1, cells := 0, slots := 0, locals := 12 } : Room)) (rm2 l Z a0 hw [] (g0_3 p1 p2) h0) hZ (hw _ (List.mem_of_getElem? (i := 7) rfl)) (hw _ (List.mem_of_getElem? (i := 6) rfl)) (by decide) (by decide)) (g := (mkF m 63 #[.val (.int p1), .val (.int p2), .val (.int (p2 &&& (3 : Int32))), .val (.int (g0_3 p1 p2))] [(.int (g0_3 p1 p2)), (.int (f1 (g0_3 p1 p2)))])) rfl (by rw [hml]; rfl) (argsL := [(.int (g0_3 p1 p2))]) (rest := [(.int (f1 (g0_3 p1 p2)))]) (lenOf pd__C_Z rfl) rfl (by show 2 * 0 + _ ≤ _; exact Nat.le_of_eq rfl) (hb hby at_63) (fun _ _ => ⟨rfl, e10, (by decide : 0 + 0 ≤ _), (by decide : 0 + 0 ≤ _)⟩)
        dsimp only [Pt.U, Pt.locs, Pt.cells, Pt.slots] at X11 l11 y11 z11 st11 hQ11
        subst l11 y11 z11
        obtain ⟨rfl, rfl, e11⟩ := hQ11
        refine own_st st11 ?_
        show OG p e _ s below _ T11 (mkF m 66 #[.val (.int p1), .val (.int p2), .val (.int (p2 &&& (3 : Int32))), .val (.int (g0_3 p1 p2))] [(.int (f2 (g0_3 p1 p2))), (.int (f1 (g0_3 p1 p2)))])
        by_cases c12 : (f1 (g0_3 p1 p2)) = (f2 (g0_3 p1 p2))
        · refine own_st (fun t k => XS.icmpNo X11.here hx rfl (hb hby at_66) rfl (teq c12).2 k) ?_
          show OG p e _ s below _ T11 (mkF m 69 #[.val (.int p1), .val (.int p2), .val (.int (p2 &&& (3 : Int32))), .val (.int (g0_3 p1 p2))] [])
          refine own_st (fun t k => XS.iconst X11.here hx rfl (hb hby at_69) k) ?_
          show OG p e _ s below _ T11 (mkF m 70 #[.val (.int p1), .val (.int p2), .val (.int (p2 &&& (3 : Int32))), .val (.int (g0_3 p1 p2))] [(.int (1 : Int32))])
          refine own_st (fun t k => XS.goto X11.here hx rfl (pc0 := 70) (pc' := 74) rfl (hb hby at_70) (by decide) (by decide) k) ?_
          show OG p e _ s below _ T11 (mkF m 74 #[.val (.int p1), .val (.int p2), .val (.int (p2 &&& (3 : Int32))), .val (.int (g0_3 p1 p2))] [(.int (1 : Int32))])
          exact own_retZ X11 hx (t := .boolean) hret (by simp) hlk (hb hby at_74) (by decide) (by decide) (w := (1 : Int32)) rfl ⟨congrArg (fun z => some (Value.int z)) (show f0 p1 p2 = (1 : Int32) from (by rw [f0, if_neg c1, if_neg c5, if_pos c9, if_pos c12])).symm, rfl, e11⟩
        · refine own_st (fun t k => XS.icmpYes X11.here hx rfl (pc0 := 66) (pc' := 73) rfl (hb hby at_66) rfl (feq c12).2 (by decide) (by decide) k) ?_
          show OG p e _ s below _ T11 (mkF m 73 #[.val (.int p1), .val (.int p2), .val (.int (p2 &&& (3 : Int32))), .val (.int (g0_3 p1 p2))] [])
          refine own_st (fun t k => XS.iconst X11.here hx rfl (hb hby at_73) k) ?_
          show OG p e _ s below _ T11 (mkF m 74 #[.val (.int p1), .val (.int p2), .val (.int (p2 &&& (3 : Int32))), .val (.int (g0_3 p1 p2))] [(.int (0 : Int32))])
          exact own_retZ X11 hx (t := .boolean) hret (by simp) hlk (hb hby at_74) (by decide) (by decide) (w := (0 : Int32)) rfl ⟨congrArg (fun z => some (Value.int z)) (show f0 p1 p2 = (0 : Int32) from (by rw [f0, if_neg c1, if_neg c5, if_pos c9, if_neg c12])).symm, rfl, e11⟩
      · refine own_st (fun t k => XS.icmpYes X0.here hx rfl (pc0 := 36) (pc' := 51) rfl (hb hby at_36) rfl (feq c9).2 (by decide) (by decide) k) ?_
        show OG p e _ s below _ s₁ (mkF m 51 #[.val (.int p1), .val (.int p2), .val (.int (p2 &&& (3 : Int32))), .unset] [])
        refine own_st (fun t k => XS.iloadN X0.here hx rfl (hb hby at_51) rfl k) ?_
        show OG p e _ s below _ s₁ (mkF m 52 #[.val (.int p1), .val (.int p2), .val (.int (p2 &&& (3 : Int32))), .unset] [(.int p1)])
        refine own_st (fun t k => XS.sipush X0.here hx rfl (hb hby at_52) k) ?_
        show OG p e _ s below _ s₁ (mkF m 55 #[.val (.int p1), .val (.int p2), .val (.int (p2 &&& (3 : Int32))), .unset] [(.int (255 : Int32)), (.int p1)])
        refine own_st (fun t k => XS.iand X0.here hx rfl (hb hby at_55) rfl k) ?_
        show OG p e _ s below _ s₁ (mkF m 56 #[.val (.int p1), .val (.int p2), .val (.int (p2 &&& (3 : Int32))), .unset] [(.int (p1 &&& (255 : Int32)))])
        refine own_st (fun t k => XS.i2c X0.here hx rfl (hb hby at_56) rfl k) ?_
        show OG p e _ s below _ s₁ (mkF m 57 #[.val (.int p1), .val (.int p2), .val (.int (p2 &&& (3 : Int32))), .unset] [(.int ((p1 &&& (255 : Int32)).toUInt32.toUInt16.toUInt32.toInt32))])
        refine own_st (fun t k => XS.istoreN X0.here hx rfl (hb hby at_57) rfl (l' := #[.val (.int p1), .val (.int p2), .val (.int (p2 &&& (3 : Int32))), .val (.int (g0_4 p1 p2))]) rfl k) ?_
        show OG p e _ s below _ s₁ (mkF m 58 #[.val (.int p1), .val (.int p2), .val (.int (p2 &&& (3 : Int32))), .val (.int (g0_4 p1 p2))] [])
        refine own_st (fun t k => XS.iloadN X0.here hx rfl (hb hby at_58) rfl k) ?_
        show OG p e _ s below _ s₁ (mkF m 59 #[.val (.int p1), .val (.int p2), .val (.int (p2 &&& (3 : Int32))), .val (.int (g0_4 p1 p2))] [(.int (g0_4 p1 p2))])
        obtain ⟨_, _, ⟨T13, L13, k13, n13⟩, -, X13, ⟨Lc13, hQ13, l13, y13, z13⟩, st13⟩ := Jvm.LawKit.callS X0 hx (y := (⟨"com/example/partwise/partwise/RecordLog", "isLowercaseHex", "(C)Z"⟩ : MethodName)) hown (mvT hZ (hw _ (List.mem_of_getElem? (i := 0) rfl))) (mvT hZ (hw _ (List.mem_of_getElem? (i := 1) rfl))) (mvT hZ (hw _ (List.mem_of_getElem? (i := 2) rfl))) (mvT hZ (hw _ (List.mem_of_getElem? (i := 3) rfl))) (by decide) (backOf (W := 0) (rm := ({ frames := 0, cells := 0, slots := 0, locals := 0 } : Room)) (rm1 l Z a0 hw [] (g0_4 p1 p2) h0) hZ (hw _ (List.mem_of_getElem? (i := 3) rfl)) (hw _ (List.mem_of_getElem? (i := 2) rfl)) (by decide) (by decide)) (g := (mkF m 59 #[.val (.int p1), .val (.int p2), .val (.int (p2 &&& (3 : Int32))), .val (.int (g0_4 p1 p2))] [(.int (g0_4 p1 p2))])) rfl (by rw [hml]; rfl) (argsL := [(.int (g0_4 p1 p2))]) (rest := []) (lenOf pd__C_Z rfl) rfl (by show 2 * 0 + _ ≤ _; exact Nat.le_of_eq rfl) (hb hby at_59) (fun _ _ => ⟨rfl, e0, (by decide : 0 + 0 ≤ _), (by decide : 0 + 0 ≤ _)⟩)
        dsimp only [Pt.U, Pt.locs, Pt.cells, Pt.slots] at X13 l13 y13 z13 st13 hQ13
        subst l13 y13 z13
        obtain ⟨rfl, rfl, e13⟩ := hQ13
        refine own_st st13 ?_
        show OG p e _ s below _ T13 (mkF m 62 #[.val (.int p1), .val (.int p2), .val (.int (p2 &&& (3 : Int32))), .val (.int (g0_4 p1 p2))] [(.int (f1 (g0_4 p1 p2)))])
        refine own_st (fun t k => XS.iloadN X13.here hx rfl (hb hby at_62) rfl k) ?_
        show OG p e _ s below _ T13 (mkF m 63 #[.val (.int p1), .val (.int p2), .val (.int (p2 &&& (3 : Int32))), .val (.int (g0_4 p1 p2))] [(.int (g0_4 p1 p2)), (.int (f1 (g0_4 p1 p2)))])
        obtain ⟨_, _, ⟨T14, L14, k14, n14⟩, -, X14, ⟨Lc14, hQ14, l14, y14, z14⟩, st14⟩ := Jvm.LawKit.callS X13 hx (y := (⟨"com/example/partwise/partwise/RecordLogIsLowercaseHexPinLaw", "expected", "(C)Z"⟩ : MethodName)) hown (mvT hZ (hw _ (List.mem_of_getElem? (i := 4) rfl))) (mvT hZ (hw _ (List.mem_of_getElem? (i := 5) rfl))) (mvT hZ (hw _ (List.mem_of_getElem? (i := 6) rfl))) (mvT hZ (hw _ (List.mem_of_getElem? (i := 7) rfl))) (by decide) (backOf (W := 1) (rm := ({ frames := 1, cells := 0, slots := 0, locals := 12 } : Room)) (rm2 l Z a0 hw [] (g0_4 p1 p2) h0) hZ (hw _ (List.mem_of_getElem? (i := 7) rfl)) (hw _ (List.mem_of_getElem? (i := 6) rfl)) (by decide) (by decide)) (g := (mkF m 63 #[.val (.int p1), .val (.int p2), .val (.int (p2 &&& (3 : Int32))), .val (.int (g0_4 p1 p2))] [(.int (g0_4 p1 p2)), (.int (f1 (g0_4 p1 p2)))])) rfl (by rw [hml]; rfl) (argsL := [(.int (g0_4 p1 p2))]) (rest := [(.int (f1 (g0_4 p1 p2)))]) (lenOf pd__C_Z rfl) rfl (by show 2 * 0 + _ ≤ _; exact Nat.le_of_eq rfl) (hb hby at_63) (fun _ _ => ⟨rfl, e13, (by decide : 0 + 0 ≤ _), (by decide : 0 + 0 ≤ _)⟩)
        dsimp only [Pt.U, Pt.locs, Pt.cells, Pt.slots] at X14 l14 y14 z14 st14 hQ14
        subst l14 y14 z14
        obtain ⟨rfl, rfl, e14⟩ := hQ14
        refine own_st st14 ?_
        show OG p e _ s below _ T14 (mkF m 66 #[.val (.int p1), .val (.int p2), .val (.int (p2 &&& (3 : Int32))), .val (.int (g0_4 p1 p2))] [(.int (f2 (g0_4 p1 p2))), (.int (f1 (g0_4 p1 p2)))])
        by_cases c15 : (f1 (g0_4 p1 p2)) = (f2 (g0_4 p1 p2))
        · refine own_st (fun t k => XS.icmpNo X14.here hx rfl (hb hby at_66) rfl (teq c15).2 k) ?_
          show OG p e _ s below _ T14 (mkF m 69 #[.val (.int p1), .val (.int p2), .val (.int (p2 &&& (3 : Int32))), .val (.int (g0_4 p1 p2))] [])
          refine own_st (fun t k => XS.iconst X14.here hx rfl (hb hby at_69) k) ?_
          show OG p e _ s below _ T14 (mkF m 70 #[.val (.int p1), .val (.int p2), .val (.int (p2 &&& (3 : Int32))), .val (.int (g0_4 p1 p2))] [(.int (1 : Int32))])
          refine own_st (fun t k => XS.goto X14.here hx rfl (pc0 := 70) (pc' := 74) rfl (hb hby at_70) (by decide) (by decide) k) ?_
          show OG p e _ s below _ T14 (mkF m 74 #[.val (.int p1), .val (.int p2), .val (.int (p2 &&& (3 : Int32))), .val (.int (g0_4 p1 p2))] [(.int (1 : Int32))])
          exact own_retZ X14 hx (t := .boolean) hret (by simp) hlk (hb hby at_74) (by decide) (by decide) (w := (1 : Int32)) rfl ⟨congrArg (fun z => some (Value.int z)) (show f0 p1 p2 = (1 : Int32) from (by rw [f0, if_neg c1, if_neg c5, if_neg c9, if_pos c15])).symm, rfl, e14⟩
        · refine own_st (fun t k => XS.icmpYes X14.here hx rfl (pc0 := 66) (pc' := 73) rfl (hb hby at_66) rfl (feq c15).2 (by decide) (by decide) k) ?_
          show OG p e _ s below _ T14 (mkF m 73 #[.val (.int p1), .val (.int p2), .val (.int (p2 &&& (3 : Int32))), .val (.int (g0_4 p1 p2))] [])
          refine own_st (fun t k => XS.iconst X14.here hx rfl (hb hby at_73) k) ?_
          show OG p e _ s below _ T14 (mkF m 74 #[.val (.int p1), .val (.int p2), .val (.int (p2 &&& (3 : Int32))), .val (.int (g0_4 p1 p2))] [(.int (0 : Int32))])
          exact own_retZ X14 hx (t := .boolean) hret (by simp) hlk (hb hby at_74) (by decide) (by decide) (w := (0 : Int32)) rfl ⟨congrArg (fun z => some (Value.int z)) (show f0 p1 p2 = (0 : Int32) from (by rw [f0, if_neg c1, if_neg c5, if_neg c9, if_neg c15])).symm, rfl, e14⟩
/-! the plain law -/
theorem own_add {x y : Int32} (h1 : -2147483648 ≤ x.toInt + y.toInt) (h2 : x.toInt + y.toInt < 2147483648) : (x + y).toInt = x.toInt + y.toInt := by
  have s := c_iadd x y
  have r := rng32 (x + y)
  generalize (x + y).toInt = z at *
  omega
theorem own_sub {x y : Int32} (h1 : -2147483648 ≤ x.toInt - y.toInt) (h2 : x.toInt - y.toInt < 2147483648) : (x - y).toInt = x.toInt - y.toInt := by
  have s := c_isub x y
  have r := rng32 (x - y)
  generalize (x - y).toInt = z at *
  omega
theorem k0 : (0 : Int32).toInt = 0 := by decide
theorem k10 : (10 : Int32).toInt = 10 := by decide
theorem k15 : (15 : Int32).toInt = 15 := by decide
theorem k48 : (48 : Int32).toInt = 48 := by decide
theorem k57 : (57 : Int32).toInt = 57 := by decide
theorem k97 : (97 : Int32).toInt = 97 := by decide
theorem k102 : (102 : Int32).toInt = 102 := by decide
theorem own_f3 (d : Int32) (h0 : 0 ≤ d.toInt) (h1 : d.toInt ≤ 15) : (f3 d).toInt = if d.toInt < 10 then d.toInt + 48 else d.toInt + 87 := by
  rw [f3]
  by_cases h : d < 10
  · rw [if_pos h, own_add (by rw [k48]; omega) (by rw [k48]; omega), k48]
    rw [Int32.lt_iff_toInt_lt, k10] at h
    rw [if_pos h]; omega
  · have e : ((97 : Int32) + d).toInt = 97 + d.toInt := by rw [own_add (by rw [k97]; omega) (by rw [k97]; omega), k97]
    rw [if_neg h, own_sub (by rw [k10, e]; omega) (by rw [k10, e]; omega), e, k10]
    rw [Int32.lt_iff_toInt_lt, k10] at h
    rw [if_neg h]; omega
def own_g (d c : Int32) : Int32 := (if d < (0 : Int32) then (0 : Int32) else (if (15 : Int32) < d then (0 : Int32) else (if f3 d = c then (1 : Int32) else (0 : Int32))))
theorem own_gs (d c : Int32) : own_g d c = if 0 ≤ d.toInt ∧ d.toInt ≤ 15 ∧ c.toInt = (if d.toInt < 10 then d.toInt + 48 else d.toInt + 87) then 1 else 0 := by
  rw [own_g]
  by_cases h1 : d < 0
  · rw [if_pos h1]
    rw [Int32.lt_iff_toInt_lt, k0] at h1
    rw [if_neg (fun q => by omega)]
  · rw [if_neg h1]
    rw [Int32.lt_iff_toInt_lt, k0] at h1
    by_cases h2 : (15 : Int32) < d
    · rw [if_pos h2]
      rw [Int32.lt_iff_toInt_lt, k15] at h2
      rw [if_neg (fun q => by omega)]
    · rw [if_neg h2]
      rw [Int32.lt_iff_toInt_lt, k15] at h2
      have e := own_f3 d (by omega) (by omega)
      by_cases h3 : f3 d = c
      · rw [if_pos h3, if_pos ⟨by omega, by omega, by rw [← h3]; exact e⟩]
      · rw [if_neg h3, if_neg (fun q => h3 (Int32.toInt_inj.mp (by rw [e]; exact q.2.2.symm)))]
theorem own_same (c : Int32) (h0 : 0 ≤ c.toInt) (h1 : c.toInt < 65536) : f1 c = f2 c := by
  have e : f2 c = if (57 : Int32) < c then own_g ((c - 97) + 10) c else own_g (c - 48) c := rfl
  have a1 : (c - 97).toInt = c.toInt - 97 := by rw [own_sub (by rw [k97]; omega) (by rw [k97]; omega), k97]
  have a2 : ((c - 97) + 10).toInt = c.toInt - 87 := by rw [own_add (by rw [k10, a1]; omega) (by rw [k10, a1]; omega), k10, a1]; omega
  have a3 : (c - 48).toInt = c.toInt - 48 := by rw [own_sub (by rw [k48]; omega) (by rw [k48]; omega), k48]
  rw [e, own_gs, own_gs, a2, a3]
  simp only [f1, f1_12, Int32.lt_iff_toInt_lt, k48, k57, k97, k102]
  generalize c.toInt = z at *
  repeat' split
  all_goals first | rfl | (exfalso; omega)
theorem own_law (p1 p2 : Int32) : f0 p1 p2 = 1 := by
  obtain ⟨-, h1, h2⟩ := c_i2c (p1 &&& 65535)
  obtain ⟨-, h3, h4⟩ := c_i2c (47 + (p1 &&& 15))
  obtain ⟨-, h5, h6⟩ := c_i2c (96 + (p1 &&& 7))
  obtain ⟨-, h7, h8⟩ := c_i2c (p1 &&& 255)
  rw [f0, if_pos (own_same (g0_1 p1 p2) h1 h2), if_pos (own_same (g0_2 p1 p2) h3 h4), if_pos (own_same (g0_3 p1 p2) h5 h6), if_pos (own_same (g0_4 p1 p2) h7 h8), ite_self, ite_self, ite_self]

theorem own_met (l : Launch) (Z : State) (a0 : Array Value) (hw : ∀ d ∈ tables_1, d.before a0 Z = true) (ws : List Jvm.Cond) (p1 : Int32) (p2 : Int32) (h0 : Heap)  :
    OMet l Z x code maxLocals ret ws room_1 #[(.int p1), (.int p2)] h0 (fun v h L => v = some (.int 1) ∧ Fr h0.size L) := by
  intro p e ha hc hk s m args below hf happ hP hK
  obtain ⟨n, o, h1, h2, h3, v, L, ho, ⟨hv, hL, hh⟩, hq⟩ := rm0 l Z a0 hw ws p1 p2 h0  p e ha hc hk s m args below hf happ hP hK
  rw [own_law] at hv
  exact ⟨n, o, h1, h2, h3, v, L, ho, ⟨hv, by subst hL; exact Fr.nil _⟩, hq⟩
set_option maxRecDepth 65536 in
set_option maxHeartbeats 40000000 in
theorem comes_1 {Post : Tables → Env → Array Value → State → Outcome → State → Prop} (hpost : ∀ tb e args s v u, (limb_1_1.after args s (.returned v) u = true ∧ limb_1_2.after args s (.returned v) u = true ∧ True) → FrameEnd s (.returned v) u (Jvm.fieldLocs frame_1_writes args s ++ Jvm.arrayLocs frame_1_arrays args s ++ Jvm.staticLocs frame_1_statics s) 0 0 → Post tb e args s (.returned v) u) :
    ArmFor flags0 classFile x code maxLocals ret World_1 tables_1 room_1 Calls_1 rest_1 Pre_1 Post := by
  intro l hfl _ _ p e ha hc hk s m args below hf hA hF happ hP
  obtain ⟨hcalls, hrest, hpre⟩ := hP
  obtain ⟨-, -, -, hnamed, -, -, -, hat⟩ := (Spec.applies_iff hf).mp happ
  obtain ⟨hg, hn⟩ := and_e (Cond.before_iff.mp (show (Jvm.Cond.and given_1 narrow_1).before args s = true from hpre))
  obtain ⟨h1, g0⟩ := and_e hg
  obtain ⟨w0, w1, rfl⟩ : ∃ w0 w1 : Value, args = #[w0, w1] := by
    have hs : args.size = 2 := by simpa [Cond.value, given_1] using h1
    obtain ⟨L⟩ := args
    match L, hs with
    | [w0, w1], _ => exact ⟨w0, w1, rfl⟩
  have hw := fun d (hd : d ∈ tables_1) => atoms_spec (ws := Jvm.Cond.code x code maxLocals ret :: tables_1) hat d (List.mem_cons_of_mem _ hd)
  obtain ⟨b0, g1⟩ := and_e g0
  obtain ⟨i0, e0⟩ := is_v b0
  obtain rfl : w0 = (.int i0) := Option.some.inj e0
  obtain ⟨i1, e1⟩ := is_v g1
  obtain rfl : w1 = (.int i1) := Option.some.inj e1
  obtain ⟨n, o, h1, h2, h3, _, L, rfl, ⟨rfl, N⟩, hq⟩ := own_met l s _ hw tables_1 i0 i1 s.heap p e ha hc hk s m _ below hf ((Spec.applies_iff_loose hf).mp happ).1 ⟨rfl, State.Warmed39.refl s, rfl⟩ trivial
  refine ⟨n, _, h1, h2, h3, hpost _ _ _ _ _ _ ⟨Cond.after_iff.mpr rfl, Cond.after_iff.mpr (eq_i res_at (Term.int_eval (1)) rfl), trivial⟩ ⟨hq.1, hq.2.1, (hq.2.2.sift fun y hy => Or.inr (N y hy)).mono (by decide) (by decide)⟩⟩
theorem main_1_1 : Claimed_1_1 := comes_1 fun _ _ _ _ _ _ h hF => ⟨h.1, hF⟩
theorem main_1_2 : Claimed_1_2 := comes_1 fun _ _ _ _ _ _ h hF => ⟨h.2.1, hF⟩
end Jvm.Pilot.@@N@@
namespace Jvm.Pilot.@@N@@
open Jvm Jvm.ClassFile Sem Op Lib Jvm.Free Jvm.Stand Jvm.Pilot.@@N@@.Jvm.D
/-! MADE BY PROGRAM (witnessworld.py) out of the Statement's table words and the real class files: 9 classes; the members and pool entries that the words name. The judged class is class 1, her method 3. -/
namespace start1
open Jvm.ClassFile
def u (s : String) : CpInfo := .utf8 (stringToUtf16 s)
/-- a pool by its gaps: so many unusable entries, then the entry; so many at the end -/
def gap : Nat → List CpInfo → List CpInfo
  | 0, r => r
  | n + 1, r => .unusable :: gap n r
def poolList (es : List (Nat × CpInfo)) (last : Nat) : List CpInfo := es.foldr (fun e r => gap e.1 (e.2 :: r)) (gap last [])
def pool (es : List (Nat × CpInfo)) (last : Nat) : Array CpInfo := ⟨poolList es last⟩
def fileOf (pool : Array CpInfo) (this : Nat) (attrs : Array Attribute := #[]) (ms : Array MethodInfo := #[]) (fl : Nat := 33) (sup : Nat := 0) (ifs : Array Nat := #[]) (fds : Array FieldInfo := #[]) : ClassFile where
  minorVersion := 0
  majorVersion := 65
  constantPool := pool
  accessFlags := fl
  thisClass := this
  superClass := sup
  interfaces := ifs
  fields := fds
  methods := ms
  attributes := attrs
def plain (name : String) (sup : Option ClassId) : Class where
  name := name
  kind := .ordinary
  loader := none
  accessFlags := 33
  super := sup
  interfaces := #[]
  cf := none
  fields := #[]
  methods := #[]
  instanceTypes := #[]
  staticTypes := #[]
  resolved := #[]
  callSites := []
  init := .initialized
  statics := none
  mirror := none

def pool0 : Array CpInfo := pool [(5, u "<init>"), (0, u "()V"), (1, .class_ 10), (1, u "java/lang/Object")] 113

def k0m0 : Method := { name := "<init>", desc := "()V", sig := { parameters := [], returnType := none }, accessFlags := 1, code := none }
/-- java/lang/Object -/
def k0 : Class := { plain "java/lang/Object" none with
  accessFlags := 33
  interfaces := #[]
  cf := some (fileOf pool0 8 #[] #[{ accessFlags := 1, nameIndex := 5, descriptorIndex := 6, attributes := #[] }] 33 0 #[] #[])
  fields := #[]
  methods := #[k0m0]
  instanceTypes := #[]
  staticTypes := #[]
  resolved := Array.replicate 124 none
  statics := none }

def pool1 : Array CpInfo := pool [(2, .class_ 4), (1, u "java/lang/Object"), (0, u "<init>"), (0, u "()V"), (0, .methodref 8 9), (0, .class_ 10), (0, .nameAndType 11 12), (0, u "com/example/partwise/partwise/RecordLogIsLowercaseHexPinLaw"), (0, u "digitChar"), (0, u "(I)I"), (0, .integer 65535), (0, .methodref 15 16), (0, .class_ 17), (0, .nameAndType 18 19), (0, u "com/example/partwise/partwise/RecordLog"), (0, u "isLowercaseHex"), (0, u "(C)Z"), (0, .methodref 8 21), (0, .nameAndType 22 19), (0, u "expected"), (3, u "law"), (0, u "(II)Z")] 2

def k1m0 : Method := { name := "<init>", desc := "()V", sig := { parameters := [], returnType := none }, accessFlags := 2, code := none }
def k1c1 : Code := { maxStack := 2, maxLocals := 1, code := method_2_code, exceptionTable := #[], attributes := #[] }
def k1m1 : Method := { name := "digitChar", desc := "(I)I", sig := { parameters := [.int], returnType := some .int }, accessFlags := 10, code := some k1c1 }
def k1c2 : Code := { maxStack := 2, maxLocals := 2, code := method_3_code, exceptionTable := #[], attributes := #[] }
def k1m2 : Method := { name := "expected", desc := "(C)Z", sig := { parameters := [.char], returnType := some .boolean }, accessFlags := 10, code := some k1c2 }
def k1c3 : Code := { maxStack := 3, maxLocals := 4, code := code, exceptionTable := #[], attributes := #[] }
def k1m3 : Method := { name := "law", desc := "(II)Z", sig := { parameters := [.int, .int], returnType := some .boolean }, accessFlags := 9, code := some k1c3 }
/-- com/example/partwise/partwise/RecordLogIsLowercaseHexPinLaw -/
def k1 : Class := { plain "com/example/partwise/partwise/RecordLogIsLowercaseHexPinLaw" (some 0) with
  accessFlags := 49
  interfaces := #[]
  cf := some (fileOf pool1 8 #[] #[{ accessFlags := 2, nameIndex := 5, descriptorIndex := 6, attributes := #[] }, { accessFlags := 10, nameIndex := 11, descriptorIndex := 12, attributes := #[] }, { accessFlags := 10, nameIndex := 22, descriptorIndex := 19, attributes := #[] }, { accessFlags := 9, nameIndex := 26, descriptorIndex := 27, attributes := #[] }] 49 2 #[] #[])
  fields := #[]
  methods := #[k1m0, k1m1, k1m2, k1m3]
  instanceTypes := #[]
  staticTypes := #[]
  resolved := Array.replicate 30 none
  statics := none }

def pool2 : Array CpInfo := pool [(2, .class_ 4), (1, u "java/lang/Object"), (3, .class_ 10), (1, u "com/example/partwise/partwise/RecordLog"), (0, u "first"), (0, u "J"), (2, u "ends"), (0, u "[J"), (2, u "file"), (0, u "Ljava/nio/file/Path;"), (7, u "appender"), (0, u "Lcom/example/partwise/partwise/LogAppender;"), (14, .class_ 45), (0, u "com/example/partwise/partwise/RecordLog$Record"), (12, .class_ 59), (0, u "com/example/partwise/partwise/RecordLog$Walk"), (38, .class_ 100), (1, u "com/example/partwise/partwise/RecordLog$Start"), (26, .class_ 128), (0, u "com/example/partwise/partwise/RecordLog$ReadAhead"), (64, u "appended"), (0, u "Lcom/example/partwise/partwise/RecordLog$Mark;"), (1, .class_ 197), (0, u "com/example/partwise/partwise/RecordLog$Mark"), (11, .class_ 211), (1, u "com/example/partwise/partwise/RecordLog$Header"), (11, u "knownWhole"), (0, u "I"), (3, u "firstStart"), (168, u "isLowercaseHex"), (0, u "(C)Z"), (35, .class_ 435), (0, u "com/example/partwise/partwise/RecordLog$Damaged"), (80, u "HEADER"), (0, u "Ljava/lang/String;"), (1, u "LF"), (0, u "B"), (1, u "BAD_HEADER"), (0, u "HEADER_LIMIT"), (1, u "LENGTH_DIGITS"), (1, u "NUMBER_DIGITS"), (1, u "OFFSET_DIGITS"), (0, u "CHECKSUM_DIGITS"), (1, u "MOST_BODY_BYTES"), (0, u "CRC_POLYNOMIAL")] 68

def k2c0 : Code := { maxStack := 2, maxLocals := 1, code := prog_66_method_45_code, exceptionTable := #[], attributes := #[] }
def k2m0 : Method := { name := "isLowercaseHex", desc := "(C)Z", sig := { parameters := [.char], returnType := some .boolean }, accessFlags := 8, code := some k2c0 }
/-- com/example/partwise/partwise/RecordLog -/
def k2 : Class := { plain "com/example/partwise/partwise/RecordLog" (some 0) with
  accessFlags := 48
  interfaces := #[]
  cf := some (fileOf pool2 8 #[.nestMembers #[127, 58, 434, 98, 44, 196, 209]] #[{ accessFlags := 8, nameIndex := 397, descriptorIndex := 398, attributes := #[] }] 48 2 #[] #[{ accessFlags := 26, nameIndex := 516, descriptorIndex := 517, attributes := #[] }, { accessFlags := 26, nameIndex := 519, descriptorIndex := 520, attributes := #[] }, { accessFlags := 26, nameIndex := 522, descriptorIndex := 517, attributes := #[] }, { accessFlags := 26, nameIndex := 523, descriptorIndex := 224, attributes := #[] }, { accessFlags := 26, nameIndex := 525, descriptorIndex := 224, attributes := #[] }, { accessFlags := 24, nameIndex := 527, descriptorIndex := 224, attributes := #[] }, { accessFlags := 24, nameIndex := 529, descriptorIndex := 224, attributes := #[] }, { accessFlags := 24, nameIndex := 530, descriptorIndex := 224, attributes := #[] }, { accessFlags := 24, nameIndex := 532, descriptorIndex := 224, attributes := #[] }, { accessFlags := 26, nameIndex := 533, descriptorIndex := 224, attributes := #[] }, { accessFlags := 18, nameIndex := 19, descriptorIndex := 20, attributes := #[] }, { accessFlags := 18, nameIndex := 28, descriptorIndex := 29, attributes := #[] }, { accessFlags := 2, nameIndex := 11, descriptorIndex := 12, attributes := #[] }, { accessFlags := 2, nameIndex := 228, descriptorIndex := 12, attributes := #[] }, { accessFlags := 2, nameIndex := 15, descriptorIndex := 16, attributes := #[] }, { accessFlags := 2, nameIndex := 223, descriptorIndex := 224, attributes := #[] }, { accessFlags := 2, nameIndex := 193, descriptorIndex := 194, attributes := #[] }])
  fields := #[{ name := "HEADER", type := (.object "java/lang/String"), accessFlags := 26, slot := 0, constantValue := 0 }, { name := "LF", type := .byte, accessFlags := 26, slot := 1, constantValue := 0 }, { name := "BAD_HEADER", type := (.object "java/lang/String"), accessFlags := 26, slot := 2, constantValue := 0 }, { name := "HEADER_LIMIT", type := .int, accessFlags := 26, slot := 3, constantValue := 0 }, { name := "LENGTH_DIGITS", type := .int, accessFlags := 26, slot := 4, constantValue := 0 }, { name := "NUMBER_DIGITS", type := .int, accessFlags := 24, slot := 5, constantValue := 0 }, { name := "OFFSET_DIGITS", type := .int, accessFlags := 24, slot := 6, constantValue := 0 }, { name := "CHECKSUM_DIGITS", type := .int, accessFlags := 24, slot := 7, constantValue := 0 }, { name := "MOST_BODY_BYTES", type := .int, accessFlags := 24, slot := 8, constantValue := 0 }, { name := "CRC_POLYNOMIAL", type := .int, accessFlags := 26, slot := 9, constantValue := 0 }, { name := "file", type := (.object "java/nio/file/Path"), accessFlags := 18, slot := 0, constantValue := 0 }, { name := "appender", type := (.object "com/example/partwise/partwise/LogAppender"), accessFlags := 18, slot := 1, constantValue := 0 }, { name := "first", type := .long, accessFlags := 2, slot := 2, constantValue := 0 }, { name := "firstStart", type := .long, accessFlags := 2, slot := 3, constantValue := 0 }, { name := "ends", type := (.array .long), accessFlags := 2, slot := 4, constantValue := 0 }, { name := "knownWhole", type := .int, accessFlags := 2, slot := 5, constantValue := 0 }, { name := "appended", type := (.object "com/example/partwise/partwise/RecordLog$Mark"), accessFlags := 2, slot := 6, constantValue := 0 }]
  methods := #[k2m0]
  instanceTypes := #[(.object "java/nio/file/Path"), (.object "com/example/partwise/partwise/LogAppender"), .long, .long, (.array .long), .int, (.object "com/example/partwise/partwise/RecordLog$Mark")]
  staticTypes := #[(.object "java/lang/String"), .byte, (.object "java/lang/String"), .int, .int, .int, .int, .int, .int, .int]
  resolved := Array.replicate 602 none
  statics := none }

def pool3 : Array CpInfo := pool [(1, u "java/lang/Cloneable"), (0, .class_ 1), (0, u "java/lang/Object"), (0, .class_ 3)] 3

/-- java/lang/Cloneable -/
def k3 : Class := { plain "java/lang/Cloneable" (some 0) with
  accessFlags := 1537
  interfaces := #[]
  cf := some (fileOf pool3 2 #[] #[] 1537 4 #[] #[])
  fields := #[]
  methods := #[]
  instanceTypes := #[]
  staticTypes := #[]
  resolved := Array.replicate 8 none
  statics := none }

def pool4 : Array CpInfo := pool [(1, u "java/io/Serializable"), (0, .class_ 1), (0, u "java/lang/Object"), (0, .class_ 3)] 3

/-- java/io/Serializable -/
def k4 : Class := { plain "java/io/Serializable" (some 0) with
  accessFlags := 1537
  interfaces := #[]
  cf := some (fileOf pool4 2 #[] #[] 1537 4 #[] #[])
  fields := #[]
  methods := #[]
  instanceTypes := #[]
  staticTypes := #[]
  resolved := Array.replicate 8 none
  statics := none }

/-- the primitive byte -/
def k5 : Class := { plain "byte" none with kind := .primitive 'B', accessFlags := 0x411 }
/-- [B -/
def k6 : Class := { plain "[B" (some 0) with kind := .array 5 .byte, interfaces := #[3, 4], accessFlags := 1041 }

/-- the primitive int -/
def k7 : Class := { plain "int" none with kind := .primitive 'I', accessFlags := 0x411 }
/-- [I -/
def k8 : Class := { plain "[I" (some 0) with kind := .array 7 .int, interfaces := #[3, 4], accessFlags := 1041 }

def heap : Heap := #[]
def classes : Array Class := #[k0, k1, k2, k3, k4, k5, k6, k7, k8]
def interned : List (Array UInt16 × Addr) := []
def slotsUsed : Nat := 0
def theMethod : MethodId := ⟨1, 3⟩
def args0 : Array Value := #[.int 5, .int 0]
def aboutOver (below : List Frame) : State where
  vm := { classes := classes, interned := interned.toArray }
  heap := heap
  slotsUsed := slotsUsed
  threads := #[{ frames := .invoking theMethod args0 :: below }]
def below0 : List Frame := [.native { method := ⟨0, 0⟩, args := #[] }]
def about1 : State := aboutOver below0
def p0 : Program := .bare "" "" ""
def e0 : Env := launch0.env 0 0 0
theorem w_frames : about1.frames = Frame.invoking theMethod args0 :: below0 := rfl
set_option maxRecDepth 65536 in
theorem w_args : argsFit about1.vm theMethod args0 = true := by decide +kernel
set_option maxRecDepth 65536 in
theorem w_heap : heapFits about1 = true := by decide +kernel
set_option maxRecDepth 65536 in
theorem w_runnable : about1.curStatus? = some .runnable := by decide +kernel
set_option maxRecDepth 65536 in
theorem w_alone : about1.alone = true := by decide +kernel
set_option maxRecDepth 65536 in
theorem w_named : about1.methodNamed? x = some theMethod := by decide +kernel
set_option maxRecDepth 65536 in
theorem w_hears : about1.hears theMethod below0 = true := by decide +kernel
set_option maxRecDepth 65536 in
theorem w_ripe : about1.ripe theMethod args0 below0 = true := by decide +kernel
theorem w_running : about1.status = .running := rfl
set_option maxRecDepth 65536 in
theorem w_room : about1.hasRoom e0.platform room_1 = true :=
  launch0.hasRoom_least _ room_1 (by decide +kernel) (by decide +kernel) (by decide +kernel) (by decide +kernel) (by decide +kernel) (by decide +kernel)
theorem allAtoms_all (ts : List Jvm.Cond) (a : Array Jvm.Value) (st : Jvm.State) : (allAtoms ts).before a st = ts.all (fun c => c.before a st) := by
  induction ts with
  | nil => rfl
  | cons c t ih =>
    show (Jvm.Cond.and c (allAtoms t)).before a st = _
    rw [Jvm.Cond.before_and, ih, List.all_cons]
def words1 : List Jvm.Cond := Jvm.Cond.code x code maxLocals ret :: tables_1
/-- a 'code' word, met by the world's own term for the bytes: nothing is compared byte by byte -/
theorem code_word {y : MethodName} {bytes : ByteArray} {mx : Nat} {rt : Option FieldType} {a : Array Value} {s : State} {m : MethodId} {meth : Method} {c : Code} (h1 : s.methodNamed? y = some m) (h2 : s.vm.method? m = some meth) (h3 : meth.code = some c) (h4 : c.code = bytes)
    (h5 : (c.maxLocals == mx && c.exceptionTable.isEmpty && decide (c.maxStack ≤ mostOperands) && decide (meth.sig.returnType = rt) && !meth.locks && decide (parseMethodDescriptor y.desc = some meth.sig)) = true) : (Jvm.Cond.code y bytes mx rt).before a s = true := by
  simp only [Bool.and_eq_true, beq_iff_eq, Bool.not_eq_true', decide_eq_true_eq] at h5
  obtain ⟨⟨⟨⟨⟨g1, g2⟩, g3⟩, g4⟩, g5⟩, g6⟩ := h5
  simp [Cond.before, Cond.holds, Cond.value, h1, h2, h3, h4, g1, g2, g3, g4, g5, g6]
def isCode : Jvm.Cond → Bool
  | .code _ _ _ _ => true
  | _ => false
theorem all_split {L : List Jvm.Cond} {P : Jvm.Cond → Bool} (h1 : L.all (fun c => isCode c || P c) = true) (h2 : ∀ c ∈ L.filter isCode, P c = true) : L.all P = true := by
  refine List.all_eq_true.mpr fun c hc => ?_
  have h := List.all_eq_true.mp h1 c hc
  rcases Bool.eq_false_or_eq_true (isCode c) with hi | hi
  · exact h2 c (List.mem_filter.mpr ⟨hc, hi⟩)
  · simpa [hi] using h
set_option maxRecDepth 65536 in
theorem w_c0 : (Jvm.Cond.code x code maxLocals ret).before args0 about1 = true := code_word (m := ⟨1, 3⟩) (meth := k1m3) (c := k1c3) (by decide +kernel) rfl rfl rfl (by decide +kernel)
set_option maxRecDepth 65536 in
theorem w_c1 : (Jvm.Cond.code ({ cls := "com/example/partwise/partwise/RecordLog", name := "isLowercaseHex", desc := "(C)Z" } : Jvm.MethodName) prog_66_method_45_code (1 : Nat) (Option.some Jvm.ClassFile.FieldType.boolean)).before args0 about1 = true := code_word (m := ⟨2, 0⟩) (meth := k2m0) (c := k2c0) (by decide +kernel) rfl rfl rfl (by decide +kernel)
set_option maxRecDepth 65536 in
theorem w_c2 : (Jvm.Cond.code ({ cls := "com/example/partwise/partwise/RecordLogIsLowercaseHexPinLaw", name := "expected", desc := "(C)Z" } : Jvm.MethodName) method_3_code (2 : Nat) (Option.some Jvm.ClassFile.FieldType.boolean)).before args0 about1 = true := code_word (m := ⟨1, 2⟩) (meth := k1m2) (c := k1c2) (by decide +kernel) rfl rfl rfl (by decide +kernel)
set_option maxRecDepth 65536 in
theorem w_c3 : (Jvm.Cond.code ({ cls := "com/example/partwise/partwise/RecordLogIsLowercaseHexPinLaw", name := "digitChar", desc := "(I)I" } : Jvm.MethodName) method_2_code (1 : Nat) (Option.some Jvm.ClassFile.FieldType.int)).before args0 about1 = true := code_word (m := ⟨1, 1⟩) (meth := k1m1) (c := k1c1) (by decide +kernel) rfl rfl rfl (by decide +kernel)
def codes1 : List Jvm.Cond := [Jvm.Cond.code x code maxLocals ret, Jvm.Cond.code ({ cls := "com/example/partwise/partwise/RecordLog", name := "isLowercaseHex", desc := "(C)Z" } : Jvm.MethodName) prog_66_method_45_code (1 : Nat) (Option.some Jvm.ClassFile.FieldType.boolean), Jvm.Cond.code ({ cls := "com/example/partwise/partwise/RecordLogIsLowercaseHexPinLaw", name := "expected", desc := "(C)Z" } : Jvm.MethodName) method_3_code (2 : Nat) (Option.some Jvm.ClassFile.FieldType.boolean), Jvm.Cond.code ({ cls := "com/example/partwise/partwise/RecordLogIsLowercaseHexPinLaw", name := "digitChar", desc := "(I)I" } : Jvm.MethodName) method_2_code (1 : Nat) (Option.some Jvm.ClassFile.FieldType.int)]
set_option maxRecDepth 65536 in
theorem codes_eq : words1.filter isCode = codes1 := rfl
theorem w_codes : ∀ c ∈ words1.filter isCode, c.before args0 about1 = true := by
  rw [codes_eq]
  intro c hc
  simp only [codes1, List.mem_cons, List.not_mem_nil, or_false] at hc
  rcases hc with rfl | rfl | rfl | rfl
  · exact w_c0
  · exact w_c1
  · exact w_c2
  · exact w_c3
set_option maxRecDepth 65536 in
theorem w_t1 : words1.all (fun c => isCode c || c.before args0 about1) = true := by decide +kernel
theorem w_tables : (allAtoms (Jvm.Cond.code x code maxLocals ret :: tables_1)).before args0 about1 = true := by
  rw [allAtoms_all]
  show words1.all (fun c => c.before args0 about1) = true
  refine all_split ?_ w_codes
  rw [w_t1]
set_option maxRecDepth 65536 in
theorem w_case : (Jvm.Cond.and given_1 narrow_1).before args0 about1 = true := by decide +kernel
theorem w_applies : (headSpec (Jvm.Cond.code x code maxLocals ret :: tables_1) room_1).applies x e0.platform about1 = true :=
  (Spec.applies_iff w_frames).mpr ⟨w_running, w_runnable, w_alone, w_named, w_hears, w_ripe, w_room, w_tables⟩
theorem atStart : AtStart classFile x code maxLocals ret World_1 tables_1 room_1 Calls_1 rest_1 Pre_1 launch0 p0 e0 about1 theMethod args0 below0 :=
  ⟨lists_1, trivial, launch0.admits_env _ _ _, launch0.least_env, fairChoices_fair.cas, fairChoices_fair.clock, w_frames, w_args, w_heap, w_applies, trivial, trivial, w_case⟩
end start1
theorem witness_1 : WitnessClaimed_1 := ⟨start1.p0, start1.e0, start1.about1, start1.theMethod, start1.args0, start1.below0, start1.atStart⟩
end Jvm.Pilot.@@N@@
