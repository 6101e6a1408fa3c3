import JvmDerived
import JvmDerived.Pilot.@@N@@Statement
import JvmDerived.Pilot.@@N@@Code
set_option linter.unusedVariables false
set_option linter.unusedSimpArgs false
namespace Jvm.Pilot.@@N@@
open Jvm Jvm.ClassFile Sem Op Lib Jvm.Free Jvm.Stand Jvm.LawKit Jvm.RoadKit Bundle Jvm.Pilot.@@N@@.Jvm.D
/-! what a body's walk owes, in the manner of a continuation -/
section Own
variable {p : Program} {l : Launch} {e : Env} {R : Room} {s : State} {m : MethodId} {args : Array Value} {below : List Frame} {meth : Method} {c : Code} {T T' : State} {locs : List Loc} {cells slots : Nat} {Q Q' : Option Value → Heap → List Loc → Prop}
abbrev OMet (l : Launch) (Z : State) (y : MethodName) (bytes : ByteArray) (maxL : Nat) (ret : Option FieldType) (ws : List Jvm.Cond) (rm : Room) (as : Array Value) (h0 : Heap) (Q : Option Value → Heap → List Loc → Prop) : Prop :=
  MetFree l y (head1 (Jvm.Cond.code y bytes maxL ret :: ws) rm) (fun a U => a = as ∧ Z.Warmed39 U.vm ∧ U.heap = h0) (fun _ _ _ _ _ => True) (fun _ U o U' => ∃ v L, o = .returned v ∧ Q v U'.heap L ∧ FrameEnd U o U' L rm.cells rm.slots)
def OG (p : Program) (e : Env) (R : Room) (s : State) (below : List Frame) (Q : Option Value → Heap → List Loc → Prop) (T : State) (g : JFrame) : Prop :=
  ∃ s₂ o, Steps p.tables e below (T.setTop g) s₂ ∧ s₂.status = .running ∧ Ended s₂ below o ∧ ∃ v L, o = .returned v ∧ Q v s₂.heap L ∧ FrameEnd s o s₂ L R.cells R.slots
theorem own_st {g g' : JFrame} (h : ∀ t, Steps p.tables e below (T'.setTop g') t → Steps p.tables e below (T.setTop g) t) (k : OG p e R s below Q T' g') : OG p e R s below Q T g := by
  obtain ⟨s₂, o, h1, h2⟩ := k
  exact ⟨s₂, o, h _ h1, h2⟩
theorem own_sp {g g' : JFrame} {t : State} (h : ∀ t, Steps p.tables e below (T'.setTop g') t → Steps p.tables e below (T.setTop g) t) (k : Steps p.tables e below (T'.setTop g') t) : Steps p.tables e below (T.setTop g) t := h _ k
theorem own_cast {g g' : JFrame} (q : g = g') (k : OG p e R s below Q T g') : OG p e R s below Q T g := q ▸ k
theorem own_irr {x : Int64} : ¬ x < x := Int64.lt_irrefl
theorem own_if0 {cd : ClassFile.Cond} {x : Int32} {b : Bool} (h : if_icmp.holds cd x 0 = b) : ifCond.holds cd x = b := by rw [if0]; exact h
theorem own_retZ (X : Stand p l e R s m args below meth c T locs cells slots) (hx : p.tables.exec = Jvm.exec) {t : FieldType} (hret : meth.sig.returnType = some t) (ht : t = .boolean ∨ t = .byte ∨ t = .char ∨ t = .short) (hlk : meth.locks = false) {pc : Nat} {Ls : Array Slot} {z : Int32} {rest : List Value}
    (hd : decode c.code pc = .ok (.ireturn, 1)) (hc : cells ≤ R.cells) (hs : slots ≤ R.slots) {w : Int32} (hn : nar t z = w) (hq : Q (some (.int w)) T.heap locs) : OG p e R s below Q T (mkF m pc Ls (.int z :: rest)) := by
  subst hn
  obtain ⟨fs, hr, hrun, hended, hW, hsame⟩ := X.leave (v := some (.int (nar t z))) (fun h => by rw [hret] at h; cases h) hlk
  exact ⟨_, _, retN X hx hret ht hd hr, hrun, hended, _, _, rfl, hq, ⟨_, rfl⟩, hW, hsame.mono hc hs⟩
theorem own_retV (X : Stand p l e R s m args below meth c T locs cells slots) (hx : p.tables.exec = Jvm.exec) {t : FieldType} {i : Instr} {w : Value} (hret : meth.sig.returnType = some t) (hn : narrow t w = w)
    (hi : (i = .ireturn ∧ (t = .int ∨ t = .boolean ∨ t = .byte ∨ t = .char ∨ t = .short) ∧ ∃ z, w = .int z) ∨ (i = .lreturn ∧ t = .long ∧ ∃ z, w = .long z) ∨ (i = .dreturn ∧ t = .double ∧ ∃ z, w = .double z) ∨ (i = .freturn ∧ t = .float ∧ ∃ z, w = .float z) ∨ (i = .areturn ∧ t.isReference = true ∧ w.isRef = true))
    (hlk : meth.locks = false) {pc : Nat} {Ls : Array Slot} {rest : List Value}
    (hd : decode c.code pc = .ok (i, 1)) (hc : cells ≤ R.cells) (hs : slots ≤ R.slots) (hq : Q (some w) T.heap locs) : OG p e R s below Q T (mkF m pc Ls (w :: rest)) := by
  obtain ⟨fs, hr, hrun, hended, hW, hsame⟩ := X.leave (v := some w) (fun h => by rw [hret] at h; cases h) hlk
  exact ⟨_, _, retOut X hx hret hn hi hd hr, hrun, hended, _, _, rfl, hq, ⟨_, rfl⟩, hW, hsame.mono hc hs⟩
theorem own_retI (X : Stand p l e R s m args below meth c T locs cells slots) (hx : p.tables.exec = Jvm.exec) (hret : meth.sig.returnType = some .int) (hlk : meth.locks = false) {pc : Nat} {Ls : Array Slot} {z : Int32} {rest : List Value}
    (hd : decode c.code pc = .ok (.ireturn, 1)) (hc : cells ≤ R.cells) (hs : slots ≤ R.slots) (hq : Q (some (.int z)) T.heap locs) : OG p e R s below Q T (mkF m pc Ls (.int z :: rest)) :=
  own_retV X hx hret rfl (Or.inl ⟨rfl, Or.inl rfl, _, rfl⟩) hlk hd hc hs hq
theorem own_retL (X : Stand p l e R s m args below meth c T locs cells slots) (hx : p.tables.exec = Jvm.exec) (hret : meth.sig.returnType = some .long) (hlk : meth.locks = false) {pc : Nat} {Ls : Array Slot} {z : Int64} {rest : List Value}
    (hd : decode c.code pc = .ok (.lreturn, 1)) (hc : cells ≤ R.cells) (hs : slots ≤ R.slots) (hq : Q (some (.long z)) T.heap locs) : OG p e R s below Q T (mkF m pc Ls (.long z :: rest)) :=
  own_retV X hx hret rfl (Or.inr (Or.inl ⟨rfl, rfl, _, rfl⟩)) hlk hd hc hs hq
theorem own_ret0 (X : Stand p l e R s m args below meth c T locs cells slots) (hx : p.tables.exec = Jvm.exec) (hret : meth.sig.returnType = none) (hlk : meth.locks = false) {pc : Nat} {Ls : Array Slot}
    (hd : decode c.code pc = .ok (.return_, 1)) (hc : cells ≤ R.cells) (hs : slots ≤ R.slots) (hq : Q none T.heap locs) : OG p e R s below Q T (mkF m pc Ls []) := by
  obtain ⟨fs, hr, hrun, hended, hW, hsame⟩ := X.leave (v := none) (fun _ => rfl) hlk
  exact ⟨_, _, X.returnOut hx hret hd hr, hrun, hended, _, _, rfl, hq, ⟨_, rfl⟩, hW, hsame.mono hc hs⟩
theorem own_enter {Z : State} {y : MethodName} {bytes : ByteArray} {maxL : Nat} {ret : Option FieldType} {ws : List Jvm.Cond} {rm : Room} {as : Array Value} {h0 : Heap} (hp : plainName y.cls = true)
    (body : ∀ (p : Program) (e : Env) (s : State) (m : MethodId) (below : List Frame) (meth : Method) (c : Code) (s₁ : State), p.tables.exec = Jvm.exec → c.code = bytes → c.maxLocals = maxL → s.vm.findClass y.cls = some m.cls → meth.sig.returnType = ret → meth.locks = false → meth.name = y.name → Z.Warmed39 s.vm →
      Stand p l e rm s m as below meth c s₁ [] 0 0 → s₁.heap = h0 → OG p e rm s below Q s₁ (entryFrame m as maxL)) : OMet l Z y bytes maxL ret ws rm as h0 Q := by
  refine MetFree.of_bodySF (plainFor_of_name hp) hisR ?_
  intro p e s m args below meth c s₁ Bd hml0 hP hK
  obtain ⟨rfl, hZ, hh⟩ := hP
  exact body p e s m below meth c s₁ Bd.exec Bd.bytes hml0 (findClass_of_methodNamed Bd.named) Bd.returns Bd.notSynchronized (name_of_methodNamed Bd.named Bd.method).1 hZ (Stand.of_body Bd) (by rw [← hh, Bd.state]; rfl)
end Own
theorem d1_0 : decode method_2_code 0 = .ok (.lload_n 0, 1) := by decide +kernel
theorem d1_1 : decode method_2_code 1 = .ok (.iload_n 2, 1) := by decide +kernel
theorem d1_2 : decode method_2_code 2 = .ok (.iconst 3, 1) := by decide +kernel
theorem d1_3 : decode method_2_code 3 = .ok (.ishl, 1) := by decide +kernel
theorem d1_4 : decode method_2_code 4 = .ok (.lushr, 1) := by decide +kernel
theorem d1_5 : decode method_2_code 5 = .ok (.l2i, 1) := by decide +kernel
theorem d1_6 : decode method_2_code 6 = .ok (.sipush 255, 3) := by decide +kernel
theorem d1_9 : decode method_2_code 9 = .ok (.iand, 1) := by decide +kernel
theorem d1_10 : decode method_2_code 10 = .ok (.istore_n 3, 1) := by decide +kernel
theorem d1_11 : decode method_2_code 11 = .ok (.iload_n 3, 1) := by decide +kernel
theorem d1_12 : decode method_2_code 12 = .ok (.bipush 32, 2) := by decide +kernel
theorem d1_14 : decode method_2_code 14 = .ok (.if_icmp .lt 22, 3) := by decide +kernel
theorem d1_17 : decode method_2_code 17 = .ok (.iload_n 3, 1) := by decide +kernel
theorem d1_18 : decode method_2_code 18 = .ok (.bipush 34, 2) := by decide +kernel
theorem d1_20 : decode method_2_code 20 = .ok (.if_icmp .eq 16, 3) := by decide +kernel
theorem d1_23 : decode method_2_code 23 = .ok (.iload_n 3, 1) := by decide +kernel
theorem d1_24 : decode method_2_code 24 = .ok (.bipush 92, 2) := by decide +kernel
theorem d1_26 : decode method_2_code 26 = .ok (.if_icmp .eq 10, 3) := by decide +kernel
theorem d1_29 : decode method_2_code 29 = .ok (.iload_n 3, 1) := by decide +kernel
theorem d1_30 : decode method_2_code 30 = .ok (.sipush 128, 3) := by decide +kernel
theorem d1_33 : decode method_2_code 33 = .ok (.if_icmp .lt 7, 3) := by decide +kernel
theorem d1_36 : decode method_2_code 36 = .ok (.iconst 1, 1) := by decide +kernel
theorem d1_37 : decode method_2_code 37 = .ok (.goto 4, 3) := by decide +kernel
theorem d1_40 : decode method_2_code 40 = .ok (.iconst 0, 1) := by decide +kernel
theorem d1_41 : decode method_2_code 41 = .ok (.ireturn, 1) := by decide +kernel
theorem pn_com_example_vetted_envelope_vettedenvelope_io_json_ByteWordsNotPlainPinLaw : plainName "com/example/vetted_envelope/vettedenvelope/io/json/ByteWordsNotPlainPinLaw" = true := by first | (simp [plainName, overriddenIn]; done) | decide +kernel
def g1_1 (q1 : Int64) (p2 : Int32) : Int32 := ((((q1.toUInt64 >>> ((p2 <<< ((3 : Int32) &&& 31)) &&& 0x3f).toInt64.toUInt64).toInt64).toInt32) &&& (255 : Int32))
def f1 (q1 : Int64) (p2 : Int32) : Int32 := (if (g1_1 q1 p2) < (32 : Int32) then (1 : Int32) else (if (g1_1 q1 p2) = (34 : Int32) then (1 : Int32) else (if (g1_1 q1 p2) = (92 : Int32) then (1 : Int32) else (if (g1_1 q1 p2) < (128 : Int32) then (0 : Int32) else (1 : Int32)))))
theorem ef_1 (m : MethodId) (q1 : Int64) (p2 : Int32) : entryFrame m #[(.long q1), (.int p2)] 4 = (mkF m 0 #[.val (.long q1), .second, .val (.int p2), .unset] []) := by first | (simp [entryFrame, mkF, argsToLocals, Value.category]; done) | rfl
abbrev Q1 (q1 : Int64) (p2 : Int32) (h0 : Heap) : Option Value → Heap → List Loc → Prop := (fun v h L => v = some (.int (f1 q1 p2)) ∧ L = [] ∧ h = h0)
set_option maxRecDepth 65536 in
set_option maxHeartbeats 40000000 in
theorem rm1 (l : Launch) (Z : State) (a0 : Array Value) (hw : ∀ d ∈ tables_1, d.before a0 Z = true) (ws : List Jvm.Cond) (q1 : Int64) (p2 : Int32) (h0 : Heap)  :
    OMet l Z (⟨"com/example/vetted_envelope/vettedenvelope/io/json/ByteWordsNotPlainPinLaw", "bad", "(JI)Z"⟩ : MethodName) method_2_code 4 (some .boolean) ws ({ frames := 0, cells := 0, slots := 0, locals := 0 } : Room) #[(.long q1), (.int p2)] h0 (Q1 q1 p2 h0) := by
  refine own_enter pn_com_example_vetted_envelope_vettedenvelope_io_json_ByteWordsNotPlainPinLaw ?_
  intro p e s m below meth c s₁ hx hby hml0 hown hret hlk hnm hZ X0 e0
  have hml : c.maxLocals = 4 := hml0
  refine own_cast (ef_1 m q1 p2) ?_
  show OG p e ({ frames := 0, cells := 0, slots := 0, locals := 0 } : Room) s below (fun v h L => v = some (.int (f1 q1 p2)) ∧ L = [] ∧ h = h0) s₁ (mkF m 0 #[.val (.long q1), .second, .val (.int p2), .unset] [])
  refine own_st (fun t k => XS.lloadN X0.here hx rfl (hb hby d1_0) rfl k) ?_
  show OG p e _ s below _ s₁ (mkF m 1 #[.val (.long q1), .second, .val (.int p2), .unset] [(.long q1)])
  refine own_st (fun t k => XS.iloadN X0.here hx rfl (hb hby d1_1) rfl k) ?_
  show OG p e _ s below _ s₁ (mkF m 2 #[.val (.long q1), .second, .val (.int p2), .unset] [(.int p2), (.long q1)])
  refine own_st (fun t k => XS.iconst X0.here hx rfl (hb hby d1_2) k) ?_
  show OG p e _ s below _ s₁ (mkF m 3 #[.val (.long q1), .second, .val (.int p2), .unset] [(.int (3 : Int32)), (.int p2), (.long q1)])
  refine own_st (fun t k => XS.ishl X0.here hx rfl (hb hby d1_3) rfl k) ?_
  show OG p e _ s below _ s₁ (mkF m 4 #[.val (.long q1), .second, .val (.int p2), .unset] [(.int (p2 <<< ((3 : Int32) &&& 31))), (.long q1)])
  refine own_st (fun t k => XS.lushr X0.here hx rfl (hb hby d1_4) rfl k) ?_
  show OG p e _ s below _ s₁ (mkF m 5 #[.val (.long q1), .second, .val (.int p2), .unset] [(.long ((q1.toUInt64 >>> ((p2 <<< ((3 : Int32) &&& 31)) &&& 0x3f).toInt64.toUInt64).toInt64))])
  refine own_st (fun t k => XS.l2i X0.here hx rfl (hb hby d1_5) rfl k) ?_
  show OG p e _ s below _ s₁ (mkF m 6 #[.val (.long q1), .second, .val (.int p2), .unset] [(.int (((q1.toUInt64 >>> ((p2 <<< ((3 : Int32) &&& 31)) &&& 0x3f).toInt64.toUInt64).toInt64).toInt32))])
  refine own_st (fun t k => XS.sipush X0.here hx rfl (hb hby d1_6) k) ?_
  show OG p e _ s below _ s₁ (mkF m 9 #[.val (.long q1), .second, .val (.int p2), .unset] [(.int (255 : Int32)), (.int (((q1.toUInt64 >>> ((p2 <<< ((3 : Int32) &&& 31)) &&& 0x3f).toInt64.toUInt64).toInt64).toInt32))])
  refine own_st (fun t k => XS.iand X0.here hx rfl (hb hby d1_9) rfl k) ?_
  show OG p e _ s below _ s₁ (mkF m 10 #[.val (.long q1), .second, .val (.int p2), .unset] [(.int ((((q1.toUInt64 >>> ((p2 <<< ((3 : Int32) &&& 31)) &&& 0x3f).toInt64.toUInt64).toInt64).toInt32) &&& (255 : Int32)))])
  refine own_st (fun t k => XS.istoreN X0.here hx rfl (hb hby d1_10) rfl (l' := #[.val (.long q1), .second, .val (.int p2), .val (.int (g1_1 q1 p2))]) rfl k) ?_
  show OG p e _ s below _ s₁ (mkF m 11 #[.val (.long q1), .second, .val (.int p2), .val (.int (g1_1 q1 p2))] [])
  refine own_st (fun t k => XS.iloadN X0.here hx rfl (hb hby d1_11) rfl k) ?_
  show OG p e _ s below _ s₁ (mkF m 12 #[.val (.long q1), .second, .val (.int p2), .val (.int (g1_1 q1 p2))] [(.int (g1_1 q1 p2))])
  refine own_st (fun t k => XS.bipush X0.here hx rfl (hb hby d1_12) k) ?_
  show OG p e _ s below _ s₁ (mkF m 14 #[.val (.long q1), .second, .val (.int p2), .val (.int (g1_1 q1 p2))] [(.int (32 : Int32)), (.int (g1_1 q1 p2))])
  by_cases c1 : (g1_1 q1 p2) < (32 : Int32)
  · refine own_st (fun t k => XS.icmpYes X0.here hx rfl (pc0 := 14) (pc' := 36) rfl (hb hby d1_14) rfl (tlt c1).1 (by decide) (by decide) k) ?_
    show OG p e _ s below _ s₁ (mkF m 36 #[.val (.long q1), .second, .val (.int p2), .val (.int (g1_1 q1 p2))] [])
    refine own_st (fun t k => XS.iconst X0.here hx rfl (hb hby d1_36) k) ?_
    show OG p e _ s below _ s₁ (mkF m 37 #[.val (.long q1), .second, .val (.int p2), .val (.int (g1_1 q1 p2))] [(.int (1 : Int32))])
    refine own_st (fun t k => XS.goto X0.here hx rfl (pc0 := 37) (pc' := 41) rfl (hb hby d1_37) (by decide) (by decide) k) ?_
    show OG p e _ s below _ s₁ (mkF m 41 #[.val (.long q1), .second, .val (.int p2), .val (.int (g1_1 q1 p2))] [(.int (1 : Int32))])
    exact own_retZ X0 hx (t := .boolean) hret (by simp) hlk (hb hby d1_41) (by decide) (by decide) (w := (1 : Int32)) rfl ⟨congrArg (fun z => some (Value.int z)) (show f1 q1 p2 = (1 : Int32) from (by rw [f1, if_pos c1])).symm, rfl, e0⟩
  · refine own_st (fun t k => XS.icmpNo X0.here hx rfl (hb hby d1_14) rfl (flt c1).1 k) ?_
    show OG p e _ s below _ s₁ (mkF m 17 #[.val (.long q1), .second, .val (.int p2), .val (.int (g1_1 q1 p2))] [])
    refine own_st (fun t k => XS.iloadN X0.here hx rfl (hb hby d1_17) rfl k) ?_
    show OG p e _ s below _ s₁ (mkF m 18 #[.val (.long q1), .second, .val (.int p2), .val (.int (g1_1 q1 p2))] [(.int (g1_1 q1 p2))])
    refine own_st (fun t k => XS.bipush X0.here hx rfl (hb hby d1_18) k) ?_
    show OG p e _ s below _ s₁ (mkF m 20 #[.val (.long q1), .second, .val (.int p2), .val (.int (g1_1 q1 p2))] [(.int (34 : Int32)), (.int (g1_1 q1 p2))])
    by_cases c2 : (g1_1 q1 p2) = (34 : Int32)
    · refine own_st (fun t k => XS.icmpYes X0.here hx rfl (pc0 := 20) (pc' := 36) rfl (hb hby d1_20) rfl (teq c2).1 (by decide) (by decide) k) ?_
      show OG p e _ s below _ s₁ (mkF m 36 #[.val (.long q1), .second, .val (.int p2), .val (.int (g1_1 q1 p2))] [])
      refine own_st (fun t k => XS.iconst X0.here hx rfl (hb hby d1_36) k) ?_
      show OG p e _ s below _ s₁ (mkF m 37 #[.val (.long q1), .second, .val (.int p2), .val (.int (g1_1 q1 p2))] [(.int (1 : Int32))])
      refine own_st (fun t k => XS.goto X0.here hx rfl (pc0 := 37) (pc' := 41) rfl (hb hby d1_37) (by decide) (by decide) k) ?_
      show OG p e _ s below _ s₁ (mkF m 41 #[.val (.long q1), .second, .val (.int p2), .val (.int (g1_1 q1 p2))] [(.int (1 : Int32))])
      exact own_retZ X0 hx (t := .boolean) hret (by simp) hlk (hb hby d1_41) (by decide) (by decide) (w := (1 : Int32)) rfl ⟨congrArg (fun z => some (Value.int z)) (show f1 q1 p2 = (1 : Int32) from (by rw [f1, if_neg c1, if_pos c2])).symm, rfl, e0⟩
    · refine own_st (fun t k => XS.icmpNo X0.here hx rfl (hb hby d1_20) rfl (feq c2).1 k) ?_
      show OG p e _ s below _ s₁ (mkF m 23 #[.val (.long q1), .second, .val (.int p2), .val (.int (g1_1 q1 p2))] [])
      refine own_st (fun t k => XS.iloadN X0.here hx rfl (hb hby d1_23) rfl k) ?_
      show OG p e _ s below _ s₁ (mkF m 24 #[.val (.long q1), .second, .val (.int p2), .val (.int (g1_1 q1 p2))] [(.int (g1_1 q1 p2))])
      refine own_st (fun t k => XS.bipush X0.here hx rfl (hb hby d1_24) k) ?_
      show OG p e _ s below _ s₁ (mkF m 26 #[.val (.long q1), .second, .val (.int p2), .val (.int (g1_1 q1 p2))] [(.int (92 : Int32)), (.int (g1_1 q1 p2))])
      by_cases c3 : (g1_1 q1 p2) = (92 : Int32)
      · refine own_st (fun t k => XS.icmpYes X0.here hx rfl (pc0 := 26) (pc' := 36) rfl (hb hby d1_26) rfl (teq c3).1 (by decide) (by decide) k) ?_
        show OG p e _ s below _ s₁ (mkF m 36 #[.val (.long q1), .second, .val (.int p2), .val (.int (g1_1 q1 p2))] [])
        refine own_st (fun t k => XS.iconst X0.here hx rfl (hb hby d1_36) k) ?_
        show OG p e _ s below _ s₁ (mkF m 37 #[.val (.long q1), .second, .val (.int p2), .val (.int (g1_1 q1 p2))] [(.int (1 : Int32))])
        refine own_st (fun t k => XS.goto X0.here hx rfl (pc0 := 37) (pc' := 41) rfl (hb hby d1_37) (by decide) (by decide) k) ?_
        show OG p e _ s below _ s₁ (mkF m 41 #[.val (.long q1), .second, .val (.int p2), .val (.int (g1_1 q1 p2))] [(.int (1 : Int32))])
        exact own_retZ X0 hx (t := .boolean) hret (by simp) hlk (hb hby d1_41) (by decide) (by decide) (w := (1 : Int32)) rfl ⟨congrArg (fun z => some (Value.int z)) (show f1 q1 p2 = (1 : Int32) from (by rw [f1, if_neg c1, if_neg c2, if_pos c3])).symm, rfl, e0⟩
      · refine own_st (fun t k => XS.icmpNo X0.here hx rfl (hb hby d1_26) rfl (feq c3).1 k) ?_
        show OG p e _ s below _ s₁ (mkF m 29 #[.val (.long q1), .second, .val (.int p2), .val (.int (g1_1 q1 p2))] [])
        refine own_st (fun t k => XS.iloadN X0.here hx rfl (hb hby d1_29) rfl k) ?_
        show OG p e _ s below _ s₁ (mkF m 30 #[.val (.long q1), .second, .val (.int p2), .val (.int (g1_1 q1 p2))] [(.int (g1_1 q1 p2))])
        refine own_st (fun t k => XS.sipush X0.here hx rfl (hb hby d1_30) k) ?_
        show OG p e _ s below _ s₁ (mkF m 33 #[.val (.long q1), .second, .val (.int p2), .val (.int (g1_1 q1 p2))] [(.int (128 : Int32)), (.int (g1_1 q1 p2))])
        by_cases c4 : (g1_1 q1 p2) < (128 : Int32)
        · refine own_st (fun t k => XS.icmpYes X0.here hx rfl (pc0 := 33) (pc' := 40) rfl (hb hby d1_33) rfl (tlt c4).1 (by decide) (by decide) k) ?_
          show OG p e _ s below _ s₁ (mkF m 40 #[.val (.long q1), .second, .val (.int p2), .val (.int (g1_1 q1 p2))] [])
          refine own_st (fun t k => XS.iconst X0.here hx rfl (hb hby d1_40) k) ?_
          show OG p e _ s below _ s₁ (mkF m 41 #[.val (.long q1), .second, .val (.int p2), .val (.int (g1_1 q1 p2))] [(.int (0 : Int32))])
          exact own_retZ X0 hx (t := .boolean) hret (by simp) hlk (hb hby d1_41) (by decide) (by decide) (w := (0 : Int32)) rfl ⟨congrArg (fun z => some (Value.int z)) (show f1 q1 p2 = (0 : Int32) from (by rw [f1, if_neg c1, if_neg c2, if_neg c3, if_pos c4])).symm, rfl, e0⟩
        · refine own_st (fun t k => XS.icmpNo X0.here hx rfl (hb hby d1_33) rfl (flt c4).1 k) ?_
          show OG p e _ s below _ s₁ (mkF m 36 #[.val (.long q1), .second, .val (.int p2), .val (.int (g1_1 q1 p2))] [])
          refine own_st (fun t k => XS.iconst X0.here hx rfl (hb hby d1_36) k) ?_
          show OG p e _ s below _ s₁ (mkF m 37 #[.val (.long q1), .second, .val (.int p2), .val (.int (g1_1 q1 p2))] [(.int (1 : Int32))])
          refine own_st (fun t k => XS.goto X0.here hx rfl (pc0 := 37) (pc' := 41) rfl (hb hby d1_37) (by decide) (by decide) k) ?_
          show OG p e _ s below _ s₁ (mkF m 41 #[.val (.long q1), .second, .val (.int p2), .val (.int (g1_1 q1 p2))] [(.int (1 : Int32))])
          exact own_retZ X0 hx (t := .boolean) hret (by simp) hlk (hb hby d1_41) (by decide) (by decide) (w := (1 : Int32)) rfl ⟨congrArg (fun z => some (Value.int z)) (show f1 q1 p2 = (1 : Int32) from (by rw [f1, if_neg c1, if_neg c2, if_neg c3, if_neg c4])).symm, rfl, e0⟩
theorem d2_0 : decode prog_4_method_4_code 0 = .ok (.lload_n 0, 1) := by decide +kernel
theorem d2_1 : decode prog_4_method_4_code 1 = .ok (.ldc2_w 21, 3) := by decide +kernel
theorem d2_4 : decode prog_4_method_4_code 4 = .ok (.lsub, 1) := by decide +kernel
theorem d2_5 : decode prog_4_method_4_code 5 = .ok (.lload_n 0, 1) := by decide +kernel
theorem d2_6 : decode prog_4_method_4_code 6 = .ok (.ldc2_w 23, 3) := by decide +kernel
theorem d2_9 : decode prog_4_method_4_code 9 = .ok (.lxor, 1) := by decide +kernel
theorem d2_10 : decode prog_4_method_4_code 10 = .ok (.ldc2_w 25, 3) := by decide +kernel
theorem d2_13 : decode prog_4_method_4_code 13 = .ok (.lsub, 1) := by decide +kernel
theorem d2_14 : decode prog_4_method_4_code 14 = .ok (.lor, 1) := by decide +kernel
theorem d2_15 : decode prog_4_method_4_code 15 = .ok (.lload_n 0, 1) := by decide +kernel
theorem d2_16 : decode prog_4_method_4_code 16 = .ok (.ldc2_w 27, 3) := by decide +kernel
theorem d2_19 : decode prog_4_method_4_code 19 = .ok (.lxor, 1) := by decide +kernel
theorem d2_20 : decode prog_4_method_4_code 20 = .ok (.ldc2_w 25, 3) := by decide +kernel
theorem d2_23 : decode prog_4_method_4_code 23 = .ok (.lsub, 1) := by decide +kernel
theorem d2_24 : decode prog_4_method_4_code 24 = .ok (.lor, 1) := by decide +kernel
theorem d2_25 : decode prog_4_method_4_code 25 = .ok (.ldc2_w 29, 3) := by decide +kernel
theorem d2_28 : decode prog_4_method_4_code 28 = .ok (.land, 1) := by decide +kernel
theorem d2_29 : decode prog_4_method_4_code 29 = .ok (.lreturn, 1) := by decide +kernel
theorem pn_com_example_vetted_envelope_vettedenvelope_io_json_ByteWords : plainName "com/example/vetted_envelope/vettedenvelope/io/json/ByteWords" = true := by first | (simp [plainName, overriddenIn]; done) | decide +kernel
def f2 (q1 : Int64) : Int64 := ((((q1 - (2314885530818453536 : Int64)) ||| ((q1 ^^^ (2459565876494606882 : Int64)) - (72340172838076673 : Int64))) ||| ((q1 ^^^ (6655295901103053916 : Int64)) - (72340172838076673 : Int64))) &&& (-9187201950435737472 : Int64))
theorem ef_2 (m : MethodId) (q1 : Int64) : entryFrame m #[(.long q1)] 2 = (mkF m 0 #[.val (.long q1), .second] []) := by first | (simp [entryFrame, mkF, argsToLocals, Value.category]; done) | rfl
abbrev Q2 (q1 : Int64) (h0 : Heap) : Option Value → Heap → List Loc → Prop := (fun v h L => v = some (.long (f2 q1)) ∧ L = [] ∧ h = h0)
set_option maxRecDepth 65536 in
set_option maxHeartbeats 40000000 in
theorem rm2 (l : Launch) (Z : State) (a0 : Array Value) (hw : ∀ d ∈ tables_1, d.before a0 Z = true) (ws : List Jvm.Cond) (q1 : Int64) (h0 : Heap)  :
    OMet l Z (⟨"com/example/vetted_envelope/vettedenvelope/io/json/ByteWords", "notPlain", "(J)J"⟩ : MethodName) prog_4_method_4_code 2 (some .long) ws ({ frames := 0, cells := 0, slots := 0, locals := 0 } : Room) #[(.long q1)] h0 (Q2 q1 h0) := by
  refine own_enter pn_com_example_vetted_envelope_vettedenvelope_io_json_ByteWords ?_
  intro p e s m below meth c s₁ hx hby hml0 hown hret hlk hnm hZ X0 e0
  have hml : c.maxLocals = 2 := hml0
  refine own_cast (ef_2 m q1) ?_
  show OG p e ({ frames := 0, cells := 0, slots := 0, locals := 0 } : Room) s below (fun v h L => v = some (.long (f2 q1)) ∧ L = [] ∧ h = h0) s₁ (mkF m 0 #[.val (.long q1), .second] [])
  refine own_st (fun t k => XS.lloadN X0.here hx rfl (hb hby d2_0) rfl k) ?_
  show OG p e _ s below _ s₁ (mkF m 1 #[.val (.long q1), .second] [(.long q1)])
  refine own_st (fun t k => X0.ldc2Long hx hown (mvT hZ (hw _ (List.mem_of_getElem? (i := 8) rfl))) (g := (mkF m 1 #[.val (.long q1), .second] [(.long q1)])) rfl (hb hby d2_1) _ k) ?_
  show OG p e _ s below _ s₁ (mkF m 4 #[.val (.long q1), .second] [(.long (2314885530818453536 : Int64)), (.long q1)])
  refine own_st (fun t k => XS.lsub X0.here hx rfl (hb hby d2_4) rfl k) ?_
  show OG p e _ s below _ s₁ (mkF m 5 #[.val (.long q1), .second] [(.long (q1 - (2314885530818453536 : Int64)))])
  refine own_st (fun t k => XS.lloadN X0.here hx rfl (hb hby d2_5) rfl k) ?_
  show OG p e _ s below _ s₁ (mkF m 6 #[.val (.long q1), .second] [(.long q1), (.long (q1 - (2314885530818453536 : Int64)))])
  refine own_st (fun t k => X0.ldc2Long hx hown (mvT hZ (hw _ (List.mem_of_getElem? (i := 9) rfl))) (g := (mkF m 6 #[.val (.long q1), .second] [(.long q1), (.long (q1 - (2314885530818453536 : Int64)))])) rfl (hb hby d2_6) _ k) ?_
  show OG p e _ s below _ s₁ (mkF m 9 #[.val (.long q1), .second] [(.long (2459565876494606882 : Int64)), (.long q1), (.long (q1 - (2314885530818453536 : Int64)))])
  refine own_st (fun t k => XS.lxor X0.here hx rfl (hb hby d2_9) rfl k) ?_
  show OG p e _ s below _ s₁ (mkF m 10 #[.val (.long q1), .second] [(.long (q1 ^^^ (2459565876494606882 : Int64))), (.long (q1 - (2314885530818453536 : Int64)))])
  refine own_st (fun t k => X0.ldc2Long hx hown (mvT hZ (hw _ (List.mem_of_getElem? (i := 10) rfl))) (g := (mkF m 10 #[.val (.long q1), .second] [(.long (q1 ^^^ (2459565876494606882 : Int64))), (.long (q1 - (2314885530818453536 : Int64)))])) rfl (hb hby d2_10) _ k) ?_
  show OG p e _ s below _ s₁ (mkF m 13 #[.val (.long q1), .second] [(.long (72340172838076673 : Int64)), (.long (q1 ^^^ (2459565876494606882 : Int64))), (.long (q1 - (2314885530818453536 : Int64)))])
  refine own_st (fun t k => XS.lsub X0.here hx rfl (hb hby d2_13) rfl k) ?_
  show OG p e _ s below _ s₁ (mkF m 14 #[.val (.long q1), .second] [(.long ((q1 ^^^ (2459565876494606882 : Int64)) - (72340172838076673 : Int64))), (.long (q1 - (2314885530818453536 : Int64)))])
  refine own_st (fun t k => XS.lor X0.here hx rfl (hb hby d2_14) rfl k) ?_
  show OG p e _ s below _ s₁ (mkF m 15 #[.val (.long q1), .second] [(.long ((q1 - (2314885530818453536 : Int64)) ||| ((q1 ^^^ (2459565876494606882 : Int64)) - (72340172838076673 : Int64))))])
  refine own_st (fun t k => XS.lloadN X0.here hx rfl (hb hby d2_15) rfl k) ?_
  show OG p e _ s below _ s₁ (mkF m 16 #[.val (.long q1), .second] [(.long q1), (.long ((q1 - (2314885530818453536 : Int64)) ||| ((q1 ^^^ (2459565876494606882 : Int64)) - (72340172838076673 : Int64))))])
  refine own_st (fun t k => X0.ldc2Long hx hown (mvT hZ (hw _ (List.mem_of_getElem? (i := 11) rfl))) (g := (mkF m 16 #[.val (.long q1), .second] [(.long q1), (.long ((q1 - (2314885530818453536 : Int64)) ||| ((q1 ^^^ (2459565876494606882 : Int64)) - (72340172838076673 : Int64))))])) rfl (hb hby d2_16) _ k) ?_
  show OG p e _ s below _ s₁ (mkF m 19 #[.val (.long q1), .second] [(.long (6655295901103053916 : Int64)), (.long q1), (.long ((q1 - (2314885530818453536 : Int64)) ||| ((q1 ^^^ (2459565876494606882 : Int64)) - (72340172838076673 : Int64))))])
  refine own_st (fun t k => XS.lxor X0.here hx rfl (hb hby d2_19) rfl k) ?_
  show OG p e _ s below _ s₁ (mkF m 20 #[.val (.long q1), .second] [(.long (q1 ^^^ (6655295901103053916 : Int64))), (.long ((q1 - (2314885530818453536 : Int64)) ||| ((q1 ^^^ (2459565876494606882 : Int64)) - (72340172838076673 : Int64))))])
  refine own_st (fun t k => X0.ldc2Long hx hown (mvT hZ (hw _ (List.mem_of_getElem? (i := 10) rfl))) (g := (mkF m 20 #[.val (.long q1), .second] [(.long (q1 ^^^ (6655295901103053916 : Int64))), (.long ((q1 - (2314885530818453536 : Int64)) ||| ((q1 ^^^ (2459565876494606882 : Int64)) - (72340172838076673 : Int64))))])) rfl (hb hby d2_20) _ k) ?_
  show OG p e _ s below _ s₁ (mkF m 23 #[.val (.long q1), .second] [(.long (72340172838076673 : Int64)), (.long (q1 ^^^ (6655295901103053916 : Int64))), (.long ((q1 - (2314885530818453536 : Int64)) ||| ((q1 ^^^ (2459565876494606882 : Int64)) - (72340172838076673 : Int64))))])
  refine own_st (fun t k => XS.lsub X0.here hx rfl (hb hby d2_23) rfl k) ?_
  show OG p e _ s below _ s₁ (mkF m 24 #[.val (.long q1), .second] [(.long ((q1 ^^^ (6655295901103053916 : Int64)) - (72340172838076673 : Int64))), (.long ((q1 - (2314885530818453536 : Int64)) ||| ((q1 ^^^ (2459565876494606882 : Int64)) - (72340172838076673 : Int64))))])
  refine own_st (fun t k => XS.lor X0.here hx rfl (hb hby d2_24) rfl k) ?_
  show OG p e _ s below _ s₁ (mkF m 25 #[.val (.long q1), .second] [(.long (((q1 - (2314885530818453536 : Int64)) ||| ((q1 ^^^ (2459565876494606882 : Int64)) - (72340172838076673 : Int64))) ||| ((q1 ^^^ (6655295901103053916 : Int64)) - (72340172838076673 : Int64))))])
  refine own_st (fun t k => X0.ldc2Long hx hown (mvT hZ (hw _ (List.mem_of_getElem? (i := 12) rfl))) (g := (mkF m 25 #[.val (.long q1), .second] [(.long (((q1 - (2314885530818453536 : Int64)) ||| ((q1 ^^^ (2459565876494606882 : Int64)) - (72340172838076673 : Int64))) ||| ((q1 ^^^ (6655295901103053916 : Int64)) - (72340172838076673 : Int64))))])) rfl (hb hby d2_25) _ k) ?_
  show OG p e _ s below _ s₁ (mkF m 28 #[.val (.long q1), .second] [(.long (-9187201950435737472 : Int64)), (.long (((q1 - (2314885530818453536 : Int64)) ||| ((q1 ^^^ (2459565876494606882 : Int64)) - (72340172838076673 : Int64))) ||| ((q1 ^^^ (6655295901103053916 : Int64)) - (72340172838076673 : Int64))))])
  refine own_st (fun t k => XS.land X0.here hx rfl (hb hby d2_28) rfl k) ?_
  show OG p e _ s below _ s₁ (mkF m 29 #[.val (.long q1), .second] [(.long ((((q1 - (2314885530818453536 : Int64)) ||| ((q1 ^^^ (2459565876494606882 : Int64)) - (72340172838076673 : Int64))) ||| ((q1 ^^^ (6655295901103053916 : Int64)) - (72340172838076673 : Int64))) &&& (-9187201950435737472 : Int64)))])
  exact own_retL X0 hx hret hlk (hb hby d2_29) (by decide) (by decide) ⟨congrArg (fun z => some (Value.long z)) (show f2 q1 = ((((q1 - (2314885530818453536 : Int64)) ||| ((q1 ^^^ (2459565876494606882 : Int64)) - (72340172838076673 : Int64))) ||| ((q1 ^^^ (6655295901103053916 : Int64)) - (72340172838076673 : Int64))) &&& (-9187201950435737472 : Int64)) from (by rw [f2])).symm, rfl, e0⟩
theorem pd__J_J : parseMethodDescriptor "(J)J" = some ⟨[.long], some .long⟩ := by decide +kernel
theorem pd__JI_Z : parseMethodDescriptor "(JI)Z" = some ⟨[.long, .int], some .boolean⟩ := by decide +kernel
def f0 (q1 : Int64) : Int32 := (if (f1 q1 (0 : Int32)) = (0 : Int32) then (if (f1 q1 (1 : Int32)) = (0 : Int32) then (if (f1 q1 (2 : Int32)) = (0 : Int32) then (if (f1 q1 (3 : Int32)) = (0 : Int32) then (if (f1 q1 (4 : Int32)) = (0 : Int32) then (if (f1 q1 (5 : Int32)) = (0 : Int32) then (if (f1 q1 (6 : Int32)) = (0 : Int32) then (if (f1 q1 (7 : Int32)) = (0 : Int32) then (if (f2 q1) = (0 : Int64) then (1 : Int32) else (0 : Int32)) else (if (f2 q1) = (0 : Int64) then (0 : Int32) else (if ((f2 q1) &&& (-(f2 q1))) = ((1 : Int64) <<< ((((7 : Int32) * (8 : Int32)) + (7 : Int32)) &&& 0x3f).toInt64) then (1 : Int32) else (0 : Int32)))) else (if (f2 q1) = (0 : Int64) then (0 : Int32) else (if ((f2 q1) &&& (-(f2 q1))) = ((1 : Int64) <<< ((((6 : Int32) * (8 : Int32)) + (7 : Int32)) &&& 0x3f).toInt64) then (1 : Int32) else (0 : Int32)))) else (if (f2 q1) = (0 : Int64) then (0 : Int32) else (if ((f2 q1) &&& (-(f2 q1))) = ((1 : Int64) <<< ((((5 : Int32) * (8 : Int32)) + (7 : Int32)) &&& 0x3f).toInt64) then (1 : Int32) else (0 : Int32)))) else (if (f2 q1) = (0 : Int64) then (0 : Int32) else (if ((f2 q1) &&& (-(f2 q1))) = ((1 : Int64) <<< ((((4 : Int32) * (8 : Int32)) + (7 : Int32)) &&& 0x3f).toInt64) then (1 : Int32) else (0 : Int32)))) else (if (f2 q1) = (0 : Int64) then (0 : Int32) else (if ((f2 q1) &&& (-(f2 q1))) = ((1 : Int64) <<< ((((3 : Int32) * (8 : Int32)) + (7 : Int32)) &&& 0x3f).toInt64) then (1 : Int32) else (0 : Int32)))) else (if (f2 q1) = (0 : Int64) then (0 : Int32) else (if ((f2 q1) &&& (-(f2 q1))) = ((1 : Int64) <<< ((((2 : Int32) * (8 : Int32)) + (7 : Int32)) &&& 0x3f).toInt64) then (1 : Int32) else (0 : Int32)))) else (if (f2 q1) = (0 : Int64) then (0 : Int32) else (if ((f2 q1) &&& (-(f2 q1))) = ((1 : Int64) <<< ((((1 : Int32) * (8 : Int32)) + (7 : Int32)) &&& 0x3f).toInt64) then (1 : Int32) else (0 : Int32)))) else (if (f2 q1) = (0 : Int64) then (0 : Int32) else (if ((f2 q1) &&& (-(f2 q1))) = ((1 : Int64) <<< ((((0 : Int32) * (8 : Int32)) + (7 : Int32)) &&& 0x3f).toInt64) then (1 : Int32) else (0 : Int32))))
theorem ef_0 (m : MethodId) (q1 : Int64) : entryFrame m #[(.long q1)] 7 = (mkF m 0 #[.val (.long q1), .second, .unset, .unset, .unset, .unset, .unset] []) := by first | (simp [entryFrame, mkF, argsToLocals, Value.category]; done) | rfl
abbrev Q0 (q1 : Int64) (h0 : Heap) : Option Value → Heap → List Loc → Prop := (fun v h L => v = some (.int (f0 q1)) ∧ L = [] ∧ h = h0)
set_option maxRecDepth 65536 in
set_option maxHeartbeats 40000000 in
theorem rm0 (l : Launch) (Z : State) (a0 : Array Value) (hw : ∀ d ∈ tables_1, d.before a0 Z = true) (ws : List Jvm.Cond) (q1 : Int64) (h0 : Heap)  :
    OMet l Z x code maxLocals ret ws room_1 #[(.long q1)] h0 (Q0 q1 h0) := by
  refine own_enter pn_com_example_vetted_envelope_vettedenvelope_io_json_ByteWordsNotPlainPinLaw ?_
  intro p e s m below meth c s₁ hx hby hml0 hown hret hlk hnm hZ X0 e0
  have hml : c.maxLocals = 7 := hml0
  refine own_cast (ef_0 m q1) ?_
  show OG p e room_1 s below (fun v h L => v = some (.int (f0 q1)) ∧ L = [] ∧ h = h0) s₁ (mkF m 0 #[.val (.long q1), .second, .unset, .unset, .unset, .unset, .unset] [])
  refine own_st (fun t k => XS.lloadN X0.here hx rfl (hb hby at_0) rfl k) ?_
  show OG p e _ s below _ s₁ (mkF m 1 #[.val (.long q1), .second, .unset, .unset, .unset, .unset, .unset] [(.long q1)])
  refine own_st (fun t k => XS.iconst X0.here hx rfl (hb hby at_1) k) ?_
  show OG p e _ s below _ s₁ (mkF m 2 #[.val (.long q1), .second, .unset, .unset, .unset, .unset, .unset] [(.int (0 : Int32)), (.long q1)])
  obtain ⟨_, _, ⟨T1, L1, k1, n1⟩, -, X1, ⟨Lc1, hQ1, l1, y1, z1⟩, st1⟩ := Jvm.LawKit.callS X0 hx (y := (⟨"com/example/vetted_envelope/vettedenvelope/io/json/ByteWordsNotPlainPinLaw", "bad", "(JI)Z"⟩ : MethodName)) hown (mvT hZ (hw _ (List.mem_of_getElem? (i := 0) rfl))) (mvT hZ (hw _ (List.mem_of_getElem? (i := 1) rfl))) (mvT hZ (hw _ (List.mem_of_getElem? (i := 2) rfl))) (mvT hZ (hw _ (List.mem_of_getElem? (i := 3) rfl))) (by decide) (backOf (W := 0) (rm := ({ frames := 0, cells := 0, slots := 0, locals := 0 } : Room)) (rm1 l Z a0 hw [] q1 (0 : Int32) h0) hZ (hw _ (List.mem_of_getElem? (i := 3) rfl)) (hw _ (List.mem_of_getElem? (i := 2) rfl)) (by decide) (by decide)) (g := (mkF m 2 #[.val (.long q1), .second, .unset, .unset, .unset, .unset, .unset] [(.int (0 : Int32)), (.long q1)])) rfl (by rw [hml]; rfl) (argsL := [(.long q1), (.int (0 : Int32))]) (rest := []) (lenOf pd__JI_Z rfl) rfl (by show 2 * 0 + _ ≤ _; exact Nat.le_of_eq rfl) (hb hby at_2) (fun _ _ => ⟨rfl, e0, (by decide : 0 + 0 ≤ _), (by decide : 0 + 0 ≤ _)⟩)
  dsimp only [Pt.U, Pt.locs, Pt.cells, Pt.slots] at X1 l1 y1 z1 st1 hQ1
  subst l1 y1 z1
  obtain ⟨rfl, rfl, e1⟩ := hQ1
  refine own_st st1 ?_
  show OG p e _ s below _ T1 (mkF m 5 #[.val (.long q1), .second, .unset, .unset, .unset, .unset, .unset] [(.int (f1 q1 (0 : Int32)))])
  by_cases c2 : (f1 q1 (0 : Int32)) = (0 : Int32)
  · refine own_st (fun t k => XS.ifYes X1.here hx rfl (pc0 := 5) (pc' := 13) rfl (hb hby at_5) rfl (own_if0 (teq c2).1) (by decide) (by decide) k) ?_
    show OG p e _ s below _ T1 (mkF m 13 #[.val (.long q1), .second, .unset, .unset, .unset, .unset, .unset] [])
    refine own_st (fun t k => XS.lloadN X1.here hx rfl (hb hby at_13) rfl k) ?_
    show OG p e _ s below _ T1 (mkF m 14 #[.val (.long q1), .second, .unset, .unset, .unset, .unset, .unset] [(.long q1)])
    refine own_st (fun t k => XS.iconst X1.here hx rfl (hb hby at_14) k) ?_
    show OG p e _ s below _ T1 (mkF m 15 #[.val (.long q1), .second, .unset, .unset, .unset, .unset, .unset] [(.int (1 : Int32)), (.long q1)])
    obtain ⟨_, _, ⟨T3, L3, k3, n3⟩, -, X3, ⟨Lc3, hQ3, l3, y3, z3⟩, st3⟩ := Jvm.LawKit.callS X1 hx (y := (⟨"com/example/vetted_envelope/vettedenvelope/io/json/ByteWordsNotPlainPinLaw", "bad", "(JI)Z"⟩ : MethodName)) hown (mvT hZ (hw _ (List.mem_of_getElem? (i := 0) rfl))) (mvT hZ (hw _ (List.mem_of_getElem? (i := 1) rfl))) (mvT hZ (hw _ (List.mem_of_getElem? (i := 2) rfl))) (mvT hZ (hw _ (List.mem_of_getElem? (i := 3) rfl))) (by decide) (backOf (W := 0) (rm := ({ frames := 0, cells := 0, slots := 0, locals := 0 } : Room)) (rm1 l Z a0 hw [] q1 (1 : Int32) h0) hZ (hw _ (List.mem_of_getElem? (i := 3) rfl)) (hw _ (List.mem_of_getElem? (i := 2) rfl)) (by decide) (by decide)) (g := (mkF m 15 #[.val (.long q1), .second, .unset, .unset, .unset, .unset, .unset] [(.int (1 : Int32)), (.long q1)])) rfl (by rw [hml]; rfl) (argsL := [(.long q1), (.int (1 : Int32))]) (rest := []) (lenOf pd__JI_Z rfl) rfl (by show 2 * 0 + _ ≤ _; exact Nat.le_of_eq rfl) (hb hby at_15) (fun _ _ => ⟨rfl, e1, (by decide : 0 + 0 ≤ _), (by decide : 0 + 0 ≤ _)⟩)
    dsimp only [Pt.U, Pt.locs, Pt.cells, Pt.slots] at X3 l3 y3 z3 st3 hQ3
    subst l3 y3 z3
    obtain ⟨rfl, rfl, e3⟩ := hQ3
    refine own_st st3 ?_
    show OG p e _ s below _ T3 (mkF m 18 #[.val (.long q1), .second, .unset, .unset, .unset, .unset, .unset] [(.int (f1 q1 (1 : Int32)))])
    by_cases c4 : (f1 q1 (1 : Int32)) = (0 : Int32)
    · refine own_st (fun t k => XS.ifYes X3.here hx rfl (pc0 := 18) (pc' := 26) rfl (hb hby at_18) rfl (own_if0 (teq c4).1) (by decide) (by decide) k) ?_
      show OG p e _ s below _ T3 (mkF m 26 #[.val (.long q1), .second, .unset, .unset, .unset, .unset, .unset] [])
      refine own_st (fun t k => XS.lloadN X3.here hx rfl (hb hby at_26) rfl k) ?_
      show OG p e _ s below _ T3 (mkF m 27 #[.val (.long q1), .second, .unset, .unset, .unset, .unset, .unset] [(.long q1)])
      refine own_st (fun t k => XS.iconst X3.here hx rfl (hb hby at_27) k) ?_
      show OG p e _ s below _ T3 (mkF m 28 #[.val (.long q1), .second, .unset, .unset, .unset, .unset, .unset] [(.int (2 : Int32)), (.long q1)])
      obtain ⟨_, _, ⟨T5, L5, k5, n5⟩, -, X5, ⟨Lc5, hQ5, l5, y5, z5⟩, st5⟩ := Jvm.LawKit.callS X3 hx (y := (⟨"com/example/vetted_envelope/vettedenvelope/io/json/ByteWordsNotPlainPinLaw", "bad", "(JI)Z"⟩ : MethodName)) hown (mvT hZ (hw _ (List.mem_of_getElem? (i := 0) rfl))) (mvT hZ (hw _ (List.mem_of_getElem? (i := 1) rfl))) (mvT hZ (hw _ (List.mem_of_getElem? (i := 2) rfl))) (mvT hZ (hw _ (List.mem_of_getElem? (i := 3) rfl))) (by decide) (backOf (W := 0) (rm := ({ frames := 0, cells := 0, slots := 0, locals := 0 } : Room)) (rm1 l Z a0 hw [] q1 (2 : Int32) h0) hZ (hw _ (List.mem_of_getElem? (i := 3) rfl)) (hw _ (List.mem_of_getElem? (i := 2) rfl)) (by decide) (by decide)) (g := (mkF m 28 #[.val (.long q1), .second, .unset, .unset, .unset, .unset, .unset] [(.int (2 : Int32)), (.long q1)])) rfl (by rw [hml]; rfl) (argsL := [(.long q1), (.int (2 : Int32))]) (rest := []) (lenOf pd__JI_Z rfl) rfl (by show 2 * 0 + _ ≤ _; exact Nat.le_of_eq rfl) (hb hby at_28) (fun _ _ => ⟨rfl, e3, (by decide : 0 + 0 ≤ _), (by decide : 0 + 0 ≤ _)⟩)
      dsimp only [Pt.U, Pt.locs, Pt.cells, Pt.slots] at X5 l5 y5 z5 st5 hQ5
      subst l5 y5 z5
      obtain ⟨rfl, rfl, e5⟩ := hQ5
      refine own_st st5 ?_
      show OG p e _ s below _ T5 (mkF m 31 #[.val (.long q1), .second, .unset, .unset, .unset, .unset, .unset] [(.int (f1 q1 (2 : Int32)))])
      by_cases c6 : (f1 q1 (2 : Int32)) = (0 : Int32)
      · refine own_st (fun t k => XS.ifYes X5.here hx rfl (pc0 := 31) (pc' := 39) rfl (hb hby at_31) rfl (own_if0 (teq c6).1) (by decide) (by decide) k) ?_
        show OG p e _ s below _ T5 (mkF m 39 #[.val (.long q1), .second, .unset, .unset, .unset, .unset, .unset] [])
        refine own_st (fun t k => XS.lloadN X5.here hx rfl (hb hby at_39) rfl k) ?_
        show OG p e _ s below _ T5 (mkF m 40 #[.val (.long q1), .second, .unset, .unset, .unset, .unset, .unset] [(.long q1)])
        refine own_st (fun t k => XS.iconst X5.here hx rfl (hb hby at_40) k) ?_
        show OG p e _ s below _ T5 (mkF m 41 #[.val (.long q1), .second, .unset, .unset, .unset, .unset, .unset] [(.int (3 : Int32)), (.long q1)])
        obtain ⟨_, _, ⟨T7, L7, k7, n7⟩, -, X7, ⟨Lc7, hQ7, l7, y7, z7⟩, st7⟩ := Jvm.LawKit.callS X5 hx (y := (⟨"com/example/vetted_envelope/vettedenvelope/io/json/ByteWordsNotPlainPinLaw", "bad", "(JI)Z"⟩ : MethodName)) hown (mvT hZ (hw _ (List.mem_of_getElem? (i := 0) rfl))) (mvT hZ (hw _ (List.mem_of_getElem? (i := 1) rfl))) (mvT hZ (hw _ (List.mem_of_getElem? (i := 2) rfl))) (mvT hZ (hw _ (List.mem_of_getElem? (i := 3) rfl))) (by decide) (backOf (W := 0) (rm := ({ frames := 0, cells := 0, slots := 0, locals := 0 } : Room)) (rm1 l Z a0 hw [] q1 (3 : Int32) h0) hZ (hw _ (List.mem_of_getElem? (i := 3) rfl)) (hw _ (List.mem_of_getElem? (i := 2) rfl)) (by decide) (by decide)) (g := (mkF m 41 #[.val (.long q1), .second, .unset, .unset, .unset, .unset, .unset] [(.int (3 : Int32)), (.long q1)])) rfl (by rw [hml]; rfl) (argsL := [(.long q1), (.int (3 : Int32))]) (rest := []) (lenOf pd__JI_Z rfl) rfl (by show 2 * 0 + _ ≤ _; exact Nat.le_of_eq rfl) (hb hby at_41) (fun _ _ => ⟨rfl, e5, (by decide : 0 + 0 ≤ _), (by decide : 0 + 0 ≤ _)⟩)
        dsimp only [Pt.U, Pt.locs, Pt.cells, Pt.slots] at X7 l7 y7 z7 st7 hQ7
        subst l7 y7 z7
        obtain ⟨rfl, rfl, e7⟩ := hQ7
        refine own_st st7 ?_
        show OG p e _ s below _ T7 (mkF m 44 #[.val (.long q1), .second, .unset, .unset, .unset, .unset, .unset] [(.int (f1 q1 (3 : Int32)))])
        by_cases c8 : (f1 q1 (3 : Int32)) = (0 : Int32)
        · refine own_st (fun t k => XS.ifYes X7.here hx rfl (pc0 := 44) (pc' := 52) rfl (hb hby at_44) rfl (own_if0 (teq c8).1) (by decide) (by decide) k) ?_
          show OG p e _ s below _ T7 (mkF m 52 #[.val (.long q1), .second, .unset, .unset, .unset, .unset, .unset] [])
          refine own_st (fun t k => XS.lloadN X7.here hx rfl (hb hby at_52) rfl k) ?_
          show OG p e _ s below _ T7 (mkF m 53 #[.val (.long q1), .second, .unset, .unset, .unset, .unset, .unset] [(.long q1)])
          refine own_st (fun t k => XS.iconst X7.here hx rfl (hb hby at_53) k) ?_
          show OG p e _ s below _ T7 (mkF m 54 #[.val (.long q1), .second, .unset, .unset, .unset, .unset, .unset] [(.int (4 : Int32)), (.long q1)])
          obtain ⟨_, _, ⟨T9, L9, k9, n9⟩, -, X9, ⟨Lc9, hQ9, l9, y9, z9⟩, st9⟩ := Jvm.LawKit.callS X7 hx (y := (⟨"com/example/vetted_envelope/vettedenvelope/io/json/ByteWordsNotPlainPinLaw", "bad", "(JI)Z"⟩ : MethodName)) hown (mvT hZ (hw _ (List.mem_of_getElem? (i := 0) rfl))) (mvT hZ (hw _ (List.mem_of_getElem? (i := 1) rfl))) (mvT hZ (hw _ (List.mem_of_getElem? (i := 2) rfl))) (mvT hZ (hw _ (List.mem_of_getElem? (i := 3) rfl))) (by decide) (backOf (W := 0) (rm := ({ frames := 0, cells := 0, slots := 0, locals := 0 } : Room)) (rm1 l Z a0 hw [] q1 (4 : Int32) h0) hZ (hw _ (List.mem_of_getElem? (i := 3) rfl)) (hw _ (List.mem_of_getElem? (i := 2) rfl)) (by decide) (by decide)) (g := (mkF m 54 #[.val (.long q1), .second, .unset, .unset, .unset, .unset, .unset] [(.int (4 : Int32)), (.long q1)])) rfl (by rw [hml]; rfl) (argsL := [(.long q1), (.int (4 : Int32))]) (rest := []) (lenOf pd__JI_Z rfl) rfl (by show 2 * 0 + _ ≤ _; exact Nat.le_of_eq rfl) (hb hby at_54) (fun _ _ => ⟨rfl, e7, (by decide : 0 + 0 ≤ _), (by decide : 0 + 0 ≤ _)⟩)
          dsimp only [Pt.U, Pt.locs, Pt.cells, Pt.slots] at X9 l9 y9 z9 st9 hQ9
          subst l9 y9 z9
          obtain ⟨rfl, rfl, e9⟩ := hQ9
          refine own_st st9 ?_
          show OG p e _ s below _ T9 (mkF m 57 #[.val (.long q1), .second, .unset, .unset, .unset, .unset, .unset] [(.int (f1 q1 (4 : Int32)))])
          by_cases c10 : (f1 q1 (4 : Int32)) = (0 : Int32)
          · refine own_st (fun t k => XS.ifYes X9.here hx rfl (pc0 := 57) (pc' := 65) rfl (hb hby at_57) rfl (own_if0 (teq c10).1) (by decide) (by decide) k) ?_
            show OG p e _ s below _ T9 (mkF m 65 #[.val (.long q1), .second, .unset, .unset, .unset, .unset, .unset] [])
            refine own_st (fun t k => XS.lloadN X9.here hx rfl (hb hby at_65) rfl k) ?_
            show OG p e _ s below _ T9 (mkF m 66 #[.val (.long q1), .second, .unset, .unset, .unset, .unset, .unset] [(.long q1)])
            refine own_st (fun t k => XS.iconst X9.here hx rfl (hb hby at_66) k) ?_
            show OG p e _ s below _ T9 (mkF m 67 #[.val (.long q1), .second, .unset, .unset, .unset, .unset, .unset] [(.int (5 : Int32)), (.long q1)])
            obtain ⟨_, _, ⟨T11, L11, k11, n11⟩, -, X11, ⟨Lc11, hQ11, l11, y11, z11⟩, st11⟩ := Jvm.LawKit.callS X9 hx (y := (⟨"com/example/vetted_envelope/vettedenvelope/io/json/ByteWordsNotPlainPinLaw", "bad", "(JI)Z"⟩ : MethodName)) hown (mvT hZ (hw _ (List.mem_of_getElem? (i := 0) rfl))) (mvT hZ (hw _ (List.mem_of_getElem? (i := 1) rfl))) (mvT hZ (hw _ (List.mem_of_getElem? (i := 2) rfl))) (mvT hZ (hw _ (List.mem_of_getElem? (i := 3) rfl))) (by decide) (backOf (W := 0) (rm := ({ frames := 0, cells := 0, slots := 0, locals := 0 } : Room)) (rm1 l Z a0 hw [] q1 (5 : Int32) h0) hZ (hw _ (List.mem_of_getElem? (i := 3) rfl)) (hw _ (List.mem_of_getElem? (i := 2) rfl)) (by decide) (by decide)) (g := (mkF m 67 #[.val (.long q1), .second, .unset, .unset, .unset, .unset, .unset] [(.int (5 : Int32)), (.long q1)])) rfl (by rw [hml]; rfl) (argsL := [(.long q1), (.int (5 : Int32))]) (rest := []) (lenOf pd__JI_Z rfl) rfl (by show 2 * 0 + _ ≤ _; exact Nat.le_of_eq rfl) (hb hby at_67) (fun _ _ => ⟨rfl, e9, (by decide : 0 + 0 ≤ _), (by decide : 0 + 0 ≤ _)⟩)
            dsimp only [Pt.U, Pt.locs, Pt.cells, Pt.slots] at X11 l11 y11 z11 st11 hQ11
            subst l11 y11 z11
            obtain ⟨rfl, rfl, e11⟩ := hQ11
            refine own_st st11 ?_
            show OG p e _ s below _ T11 (mkF m 70 #[.val (.long q1), .second, .unset, .unset, .unset, .unset, .unset] [(.int (f1 q1 (5 : Int32)))])
            by_cases c12 : (f1 q1 (5 : Int32)) = (0 : Int32)
            · refine own_st (fun t k => XS.ifYes X11.here hx rfl (pc0 := 70) (pc' := 78) rfl (hb hby at_70) rfl (own_if0 (teq c12).1) (by decide) (by decide) k) ?_
              show OG p e _ s below _ T11 (mkF m 78 #[.val (.long q1), .second, .unset, .unset, .unset, .unset, .unset] [])
              refine own_st (fun t k => XS.lloadN X11.here hx rfl (hb hby at_78) rfl k) ?_
              show OG p e _ s below _ T11 (mkF m 79 #[.val (.long q1), .second, .unset, .unset, .unset, .unset, .unset] [(.long q1)])
              refine own_st (fun t k => XS.bipush X11.here hx rfl (hb hby at_79) k) ?_
              show OG p e _ s below _ T11 (mkF m 81 #[.val (.long q1), .second, .unset, .unset, .unset, .unset, .unset] [(.int (6 : Int32)), (.long q1)])
              obtain ⟨_, _, ⟨T13, L13, k13, n13⟩, -, X13, ⟨Lc13, hQ13, l13, y13, z13⟩, st13⟩ := Jvm.LawKit.callS X11 hx (y := (⟨"com/example/vetted_envelope/vettedenvelope/io/json/ByteWordsNotPlainPinLaw", "bad", "(JI)Z"⟩ : MethodName)) hown (mvT hZ (hw _ (List.mem_of_getElem? (i := 0) rfl))) (mvT hZ (hw _ (List.mem_of_getElem? (i := 1) rfl))) (mvT hZ (hw _ (List.mem_of_getElem? (i := 2) rfl))) (mvT hZ (hw _ (List.mem_of_getElem? (i := 3) rfl))) (by decide) (backOf (W := 0) (rm := ({ frames := 0, cells := 0, slots := 0, locals := 0 } : Room)) (rm1 l Z a0 hw [] q1 (6 : Int32) h0) hZ (hw _ (List.mem_of_getElem? (i := 3) rfl)) (hw _ (List.mem_of_getElem? (i := 2) rfl)) (by decide) (by decide)) (g := (mkF m 81 #[.val (.long q1), .second, .unset, .unset, .unset, .unset, .unset] [(.int (6 : Int32)), (.long q1)])) rfl (by rw [hml]; rfl) (argsL := [(.long q1), (.int (6 : Int32))]) (rest := []) (lenOf pd__JI_Z rfl) rfl (by show 2 * 0 + _ ≤ _; exact Nat.le_of_eq rfl) (hb hby at_81) (fun _ _ => ⟨rfl, e11, (by decide : 0 + 0 ≤ _), (by decide : 0 + 0 ≤ _)⟩)
              dsimp only [Pt.U, Pt.locs, Pt.cells, Pt.slots] at X13 l13 y13 z13 st13 hQ13
              subst l13 y13 z13
              obtain ⟨rfl, rfl, e13⟩ := hQ13
              refine own_st st13 ?_
              show OG p e _ s below _ T13 (mkF m 84 #[.val (.long q1), .second, .unset, .unset, .unset, .unset, .unset] [(.int (f1 q1 (6 : Int32)))])
              by_cases c14 : (f1 q1 (6 : Int32)) = (0 : Int32)
              · refine own_st (fun t k => XS.ifYes X13.here hx rfl (pc0 := 84) (pc' := 93) rfl (hb hby at_84) rfl (own_if0 (teq c14).1) (by decide) (by decide) k) ?_
                show OG p e _ s below _ T13 (mkF m 93 #[.val (.long q1), .second, .unset, .unset, .unset, .unset, .unset] [])
                refine own_st (fun t k => XS.lloadN X13.here hx rfl (hb hby at_93) rfl k) ?_
                show OG p e _ s below _ T13 (mkF m 94 #[.val (.long q1), .second, .unset, .unset, .unset, .unset, .unset] [(.long q1)])
                refine own_st (fun t k => XS.bipush X13.here hx rfl (hb hby at_94) k) ?_
                show OG p e _ s below _ T13 (mkF m 96 #[.val (.long q1), .second, .unset, .unset, .unset, .unset, .unset] [(.int (7 : Int32)), (.long q1)])
                obtain ⟨_, _, ⟨T15, L15, k15, n15⟩, -, X15, ⟨Lc15, hQ15, l15, y15, z15⟩, st15⟩ := Jvm.LawKit.callS X13 hx (y := (⟨"com/example/vetted_envelope/vettedenvelope/io/json/ByteWordsNotPlainPinLaw", "bad", "(JI)Z"⟩ : MethodName)) hown (mvT hZ (hw _ (List.mem_of_getElem? (i := 0) rfl))) (mvT hZ (hw _ (List.mem_of_getElem? (i := 1) rfl))) (mvT hZ (hw _ (List.mem_of_getElem? (i := 2) rfl))) (mvT hZ (hw _ (List.mem_of_getElem? (i := 3) rfl))) (by decide) (backOf (W := 0) (rm := ({ frames := 0, cells := 0, slots := 0, locals := 0 } : Room)) (rm1 l Z a0 hw [] q1 (7 : Int32) h0) hZ (hw _ (List.mem_of_getElem? (i := 3) rfl)) (hw _ (List.mem_of_getElem? (i := 2) rfl)) (by decide) (by decide)) (g := (mkF m 96 #[.val (.long q1), .second, .unset, .unset, .unset, .unset, .unset] [(.int (7 : Int32)), (.long q1)])) rfl (by rw [hml]; rfl) (argsL := [(.long q1), (.int (7 : Int32))]) (rest := []) (lenOf pd__JI_Z rfl) rfl (by show 2 * 0 + _ ≤ _; exact Nat.le_of_eq rfl) (hb hby at_96) (fun _ _ => ⟨rfl, e13, (by decide : 0 + 0 ≤ _), (by decide : 0 + 0 ≤ _)⟩)
                dsimp only [Pt.U, Pt.locs, Pt.cells, Pt.slots] at X15 l15 y15 z15 st15 hQ15
                subst l15 y15 z15
                obtain ⟨rfl, rfl, e15⟩ := hQ15
                refine own_st st15 ?_
                show OG p e _ s below _ T15 (mkF m 99 #[.val (.long q1), .second, .unset, .unset, .unset, .unset, .unset] [(.int (f1 q1 (7 : Int32)))])
                by_cases c16 : (f1 q1 (7 : Int32)) = (0 : Int32)
                · refine own_st (fun t k => XS.ifYes X15.here hx rfl (pc0 := 99) (pc' := 108) rfl (hb hby at_99) rfl (own_if0 (teq c16).1) (by decide) (by decide) k) ?_
                  show OG p e _ s below _ T15 (mkF m 108 #[.val (.long q1), .second, .unset, .unset, .unset, .unset, .unset] [])
                  refine own_st (fun t k => XS.bipush X15.here hx rfl (hb hby at_108) k) ?_
                  show OG p e _ s below _ T15 (mkF m 110 #[.val (.long q1), .second, .unset, .unset, .unset, .unset, .unset] [(.int (8 : Int32))])
                  refine own_st (fun t k => XS.istoreN X15.here hx rfl (hb hby at_110) rfl (l' := #[.val (.long q1), .second, .val (.int (8 : Int32)), .unset, .unset, .unset, .unset]) rfl k) ?_
                  show OG p e _ s below _ T15 (mkF m 111 #[.val (.long q1), .second, .val (.int (8 : Int32)), .unset, .unset, .unset, .unset] [])
                  refine own_st (fun t k => XS.lloadN X15.here hx rfl (hb hby at_111) rfl k) ?_
                  show OG p e _ s below _ T15 (mkF m 112 #[.val (.long q1), .second, .val (.int (8 : Int32)), .unset, .unset, .unset, .unset] [(.long q1)])
                  obtain ⟨_, _, ⟨T17, L17, k17, n17⟩, -, X17, ⟨Lc17, hQ17, l17, y17, z17⟩, st17⟩ := Jvm.LawKit.callS X15 hx (y := (⟨"com/example/vetted_envelope/vettedenvelope/io/json/ByteWords", "notPlain", "(J)J"⟩ : MethodName)) hown (mvT hZ (hw _ (List.mem_of_getElem? (i := 4) rfl))) (mvT hZ (hw _ (List.mem_of_getElem? (i := 5) rfl))) (mvT hZ (hw _ (List.mem_of_getElem? (i := 6) rfl))) (mvT hZ (hw _ (List.mem_of_getElem? (i := 7) rfl))) (by decide) (backOf (W := 0) (rm := ({ frames := 0, cells := 0, slots := 0, locals := 0 } : Room)) (rm2 l Z a0 hw [] q1 h0) hZ (hw _ (List.mem_of_getElem? (i := 7) rfl)) (hw _ (List.mem_of_getElem? (i := 6) rfl)) (by decide) (by decide)) (g := (mkF m 112 #[.val (.long q1), .second, .val (.int (8 : Int32)), .unset, .unset, .unset, .unset] [(.long q1)])) rfl (by rw [hml]; rfl) (argsL := [(.long q1)]) (rest := []) (lenOf pd__J_J rfl) rfl (by show 2 * 0 + _ ≤ _; exact Nat.le_of_eq rfl) (hb hby at_112) (fun _ _ => ⟨rfl, e15, (by decide : 0 + 0 ≤ _), (by decide : 0 + 0 ≤ _)⟩)
                  dsimp only [Pt.U, Pt.locs, Pt.cells, Pt.slots] at X17 l17 y17 z17 st17 hQ17
                  subst l17 y17 z17
                  obtain ⟨rfl, rfl, e17⟩ := hQ17
                  refine own_st st17 ?_
                  show OG p e _ s below _ T17 (mkF m 115 #[.val (.long q1), .second, .val (.int (8 : Int32)), .unset, .unset, .unset, .unset] [(.long (f2 q1))])
                  refine own_st (fun t k => XS.lstoreN X17.here hx rfl (hb hby at_115) rfl (l' := #[.val (.long q1), .second, .val (.int (8 : Int32)), .val (.long (f2 q1)), .second, .unset, .unset]) rfl k) ?_
                  show OG p e _ s below _ T17 (mkF m 116 #[.val (.long q1), .second, .val (.int (8 : Int32)), .val (.long (f2 q1)), .second, .unset, .unset] [])
                  refine own_st (fun t k => XS.iloadN X17.here hx rfl (hb hby at_116) rfl k) ?_
                  show OG p e _ s below _ T17 (mkF m 117 #[.val (.long q1), .second, .val (.int (8 : Int32)), .val (.long (f2 q1)), .second, .unset, .unset] [(.int (8 : Int32))])
                  refine own_st (fun t k => XS.bipush X17.here hx rfl (hb hby at_117) k) ?_
                  show OG p e _ s below _ T17 (mkF m 119 #[.val (.long q1), .second, .val (.int (8 : Int32)), .val (.long (f2 q1)), .second, .unset, .unset] [(.int (8 : Int32)), (.int (8 : Int32))])
                  refine own_st (fun t k => XS.icmpNo X17.here hx rfl (hb hby at_119) rfl (by decide) k) ?_
                  show OG p e _ s below _ T17 (mkF m 122 #[.val (.long q1), .second, .val (.int (8 : Int32)), .val (.long (f2 q1)), .second, .unset, .unset] [])
                  refine own_st (fun t k => XS.lloadN X17.here hx rfl (hb hby at_122) rfl k) ?_
                  show OG p e _ s below _ T17 (mkF m 123 #[.val (.long q1), .second, .val (.int (8 : Int32)), .val (.long (f2 q1)), .second, .unset, .unset] [(.long (f2 q1))])
                  refine own_st (fun t k => XS.lconst X17.here hx rfl (hb hby at_123) k) ?_
                  show OG p e _ s below _ T17 (mkF m 124 #[.val (.long q1), .second, .val (.int (8 : Int32)), .val (.long (f2 q1)), .second, .unset, .unset] [(.long (0 : Int64)), (.long (f2 q1))])
                  refine own_st (fun t k => XS.lcmp X17.here hx rfl (hb hby at_124) rfl k) ?_
                  show OG p e _ s below _ T17 (mkF m 125 #[.val (.long q1), .second, .val (.int (8 : Int32)), .val (.long (f2 q1)), .second, .unset, .unset] [(.int (lcmpW (f2 q1) (0 : Int64)))])
                  by_cases c18 : (f2 q1) = (0 : Int64)
                  · refine own_st (fun t k => XS.ifNo X17.here hx rfl (hb hby at_125) rfl (own_if0 (teq ((lw_eq _ _).mpr c18)).2) k) ?_
                    show OG p e _ s below _ T17 (mkF m 128 #[.val (.long q1), .second, .val (.int (8 : Int32)), .val (.long (f2 q1)), .second, .unset, .unset] [])
                    refine own_st (fun t k => XS.iconst X17.here hx rfl (hb hby at_128) k) ?_
                    show OG p e _ s below _ T17 (mkF m 129 #[.val (.long q1), .second, .val (.int (8 : Int32)), .val (.long (f2 q1)), .second, .unset, .unset] [(.int (1 : Int32))])
                    refine own_st (fun t k => XS.goto X17.here hx rfl (pc0 := 129) (pc' := 133) rfl (hb hby at_129) (by decide) (by decide) k) ?_
                    show OG p e _ s below _ T17 (mkF m 133 #[.val (.long q1), .second, .val (.int (8 : Int32)), .val (.long (f2 q1)), .second, .unset, .unset] [(.int (1 : Int32))])
                    exact own_retZ X17 hx (t := .boolean) hret (by simp) hlk (hb hby at_133) (by decide) (by decide) (w := (1 : Int32)) rfl ⟨congrArg (fun z => some (Value.int z)) (show f0 q1 = (1 : Int32) from (by rw [f0, if_pos c2, if_pos c4, if_pos c6, if_pos c8, if_pos c10, if_pos c12, if_pos c14, if_pos c16, if_pos c18])).symm, rfl, e17⟩
                  · refine own_st (fun t k => XS.ifYes X17.here hx rfl (pc0 := 125) (pc' := 132) rfl (hb hby at_125) rfl (own_if0 (feq (fun q => c18 ((lw_eq _ _).mp q))).2) (by decide) (by decide) k) ?_
                    show OG p e _ s below _ T17 (mkF m 132 #[.val (.long q1), .second, .val (.int (8 : Int32)), .val (.long (f2 q1)), .second, .unset, .unset] [])
                    refine own_st (fun t k => XS.iconst X17.here hx rfl (hb hby at_132) k) ?_
                    show OG p e _ s below _ T17 (mkF m 133 #[.val (.long q1), .second, .val (.int (8 : Int32)), .val (.long (f2 q1)), .second, .unset, .unset] [(.int (0 : Int32))])
                    exact own_retZ X17 hx (t := .boolean) hret (by simp) hlk (hb hby at_133) (by decide) (by decide) (w := (0 : Int32)) rfl ⟨congrArg (fun z => some (Value.int z)) (show f0 q1 = (0 : Int32) from (by rw [f0, if_pos c2, if_pos c4, if_pos c6, if_pos c8, if_pos c10, if_pos c12, if_pos c14, if_pos c16, if_neg c18])).symm, rfl, e17⟩
                · refine own_st (fun t k => XS.ifNo X15.here hx rfl (hb hby at_99) rfl (own_if0 (feq c16).1) k) ?_
                  show OG p e _ s below _ T15 (mkF m 102 #[.val (.long q1), .second, .unset, .unset, .unset, .unset, .unset] [])
                  refine own_st (fun t k => XS.bipush X15.here hx rfl (hb hby at_102) k) ?_
                  show OG p e _ s below _ T15 (mkF m 104 #[.val (.long q1), .second, .unset, .unset, .unset, .unset, .unset] [(.int (7 : Int32))])
                  refine own_st (fun t k => XS.istoreN X15.here hx rfl (hb hby at_104) rfl (l' := #[.val (.long q1), .second, .val (.int (7 : Int32)), .unset, .unset, .unset, .unset]) rfl k) ?_
                  show OG p e _ s below _ T15 (mkF m 105 #[.val (.long q1), .second, .val (.int (7 : Int32)), .unset, .unset, .unset, .unset] [])
                  refine own_st (fun t k => XS.goto X15.here hx rfl (pc0 := 105) (pc' := 111) rfl (hb hby at_105) (by decide) (by decide) k) ?_
                  show OG p e _ s below _ T15 (mkF m 111 #[.val (.long q1), .second, .val (.int (7 : Int32)), .unset, .unset, .unset, .unset] [])
                  refine own_st (fun t k => XS.lloadN X15.here hx rfl (hb hby at_111) rfl k) ?_
                  show OG p e _ s below _ T15 (mkF m 112 #[.val (.long q1), .second, .val (.int (7 : Int32)), .unset, .unset, .unset, .unset] [(.long q1)])
                  obtain ⟨_, _, ⟨T19, L19, k19, n19⟩, -, X19, ⟨Lc19, hQ19, l19, y19, z19⟩, st19⟩ := Jvm.LawKit.callS X15 hx (y := (⟨"com/example/vetted_envelope/vettedenvelope/io/json/ByteWords", "notPlain", "(J)J"⟩ : MethodName)) hown (mvT hZ (hw _ (List.mem_of_getElem? (i := 4) rfl))) (mvT hZ (hw _ (List.mem_of_getElem? (i := 5) rfl))) (mvT hZ (hw _ (List.mem_of_getElem? (i := 6) rfl))) (mvT hZ (hw _ (List.mem_of_getElem? (i := 7) rfl))) (by decide) (backOf (W := 0) (rm := ({ frames := 0, cells := 0, slots := 0, locals := 0 } : Room)) (rm2 l Z a0 hw [] q1 h0) hZ (hw _ (List.mem_of_getElem? (i := 7) rfl)) (hw _ (List.mem_of_getElem? (i := 6) rfl)) (by decide) (by decide)) (g := (mkF m 112 #[.val (.long q1), .second, .val (.int (7 : Int32)), .unset, .unset, .unset, .unset] [(.long q1)])) rfl (by rw [hml]; rfl) (argsL := [(.long q1)]) (rest := []) (lenOf pd__J_J rfl) rfl (by show 2 * 0 + _ ≤ _; exact Nat.le_of_eq rfl) (hb hby at_112) (fun _ _ => ⟨rfl, e15, (by decide : 0 + 0 ≤ _), (by decide : 0 + 0 ≤ _)⟩)
                  dsimp only [Pt.U, Pt.locs, Pt.cells, Pt.slots] at X19 l19 y19 z19 st19 hQ19
                  subst l19 y19 z19
                  obtain ⟨rfl, rfl, e19⟩ := hQ19
                  refine own_st st19 ?_
                  show OG p e _ s below _ T19 (mkF m 115 #[.val (.long q1), .second, .val (.int (7 : Int32)), .unset, .unset, .unset, .unset] [(.long (f2 q1))])
                  refine own_st (fun t k => XS.lstoreN X19.here hx rfl (hb hby at_115) rfl (l' := #[.val (.long q1), .second, .val (.int (7 : Int32)), .val (.long (f2 q1)), .second, .unset, .unset]) rfl k) ?_
                  show OG p e _ s below _ T19 (mkF m 116 #[.val (.long q1), .second, .val (.int (7 : Int32)), .val (.long (f2 q1)), .second, .unset, .unset] [])
                  refine own_st (fun t k => XS.iloadN X19.here hx rfl (hb hby at_116) rfl k) ?_
                  show OG p e _ s below _ T19 (mkF m 117 #[.val (.long q1), .second, .val (.int (7 : Int32)), .val (.long (f2 q1)), .second, .unset, .unset] [(.int (7 : Int32))])
                  refine own_st (fun t k => XS.bipush X19.here hx rfl (hb hby at_117) k) ?_
                  show OG p e _ s below _ T19 (mkF m 119 #[.val (.long q1), .second, .val (.int (7 : Int32)), .val (.long (f2 q1)), .second, .unset, .unset] [(.int (8 : Int32)), (.int (7 : Int32))])
                  refine own_st (fun t k => XS.icmpYes X19.here hx rfl (pc0 := 119) (pc' := 134) rfl (hb hby at_119) rfl (by decide) (by decide) (by decide) k) ?_
                  show OG p e _ s below _ T19 (mkF m 134 #[.val (.long q1), .second, .val (.int (7 : Int32)), .val (.long (f2 q1)), .second, .unset, .unset] [])
                  refine own_st (fun t k => XS.lloadN X19.here hx rfl (hb hby at_134) rfl k) ?_
                  show OG p e _ s below _ T19 (mkF m 135 #[.val (.long q1), .second, .val (.int (7 : Int32)), .val (.long (f2 q1)), .second, .unset, .unset] [(.long (f2 q1))])
                  refine own_st (fun t k => XS.lloadN X19.here hx rfl (hb hby at_135) rfl k) ?_
                  show OG p e _ s below _ T19 (mkF m 136 #[.val (.long q1), .second, .val (.int (7 : Int32)), .val (.long (f2 q1)), .second, .unset, .unset] [(.long (f2 q1)), (.long (f2 q1))])
                  refine own_st (fun t k => XS.lneg X19.here hx rfl (hb hby at_136) rfl k) ?_
                  show OG p e _ s below _ T19 (mkF m 137 #[.val (.long q1), .second, .val (.int (7 : Int32)), .val (.long (f2 q1)), .second, .unset, .unset] [(.long (-(f2 q1))), (.long (f2 q1))])
                  refine own_st (fun t k => XS.land X19.here hx rfl (hb hby at_137) rfl k) ?_
                  show OG p e _ s below _ T19 (mkF m 138 #[.val (.long q1), .second, .val (.int (7 : Int32)), .val (.long (f2 q1)), .second, .unset, .unset] [(.long ((f2 q1) &&& (-(f2 q1))))])
                  refine own_st (fun t k => XS.lstore X19.here hx rfl (hb hby at_138) rfl (l' := #[.val (.long q1), .second, .val (.int (7 : Int32)), .val (.long (f2 q1)), .second, .val (.long ((f2 q1) &&& (-(f2 q1)))), .second]) rfl k) ?_
                  show OG p e _ s below _ T19 (mkF m 140 #[.val (.long q1), .second, .val (.int (7 : Int32)), .val (.long (f2 q1)), .second, .val (.long ((f2 q1) &&& (-(f2 q1)))), .second] [])
                  refine own_st (fun t k => XS.lloadN X19.here hx rfl (hb hby at_140) rfl k) ?_
                  show OG p e _ s below _ T19 (mkF m 141 #[.val (.long q1), .second, .val (.int (7 : Int32)), .val (.long (f2 q1)), .second, .val (.long ((f2 q1) &&& (-(f2 q1)))), .second] [(.long (f2 q1))])
                  refine own_st (fun t k => XS.lconst X19.here hx rfl (hb hby at_141) k) ?_
                  show OG p e _ s below _ T19 (mkF m 142 #[.val (.long q1), .second, .val (.int (7 : Int32)), .val (.long (f2 q1)), .second, .val (.long ((f2 q1) &&& (-(f2 q1)))), .second] [(.long (0 : Int64)), (.long (f2 q1))])
                  refine own_st (fun t k => XS.lcmp X19.here hx rfl (hb hby at_142) rfl k) ?_
                  show OG p e _ s below _ T19 (mkF m 143 #[.val (.long q1), .second, .val (.int (7 : Int32)), .val (.long (f2 q1)), .second, .val (.long ((f2 q1) &&& (-(f2 q1)))), .second] [(.int (lcmpW (f2 q1) (0 : Int64)))])
                  by_cases c20 : (f2 q1) = (0 : Int64)
                  · refine own_st (fun t k => XS.ifYes X19.here hx rfl (pc0 := 143) (pc' := 165) rfl (hb hby at_143) rfl (own_if0 (teq ((lw_eq _ _).mpr c20)).1) (by decide) (by decide) k) ?_
                    show OG p e _ s below _ T19 (mkF m 165 #[.val (.long q1), .second, .val (.int (7 : Int32)), .val (.long (f2 q1)), .second, .val (.long ((f2 q1) &&& (-(f2 q1)))), .second] [])
                    refine own_st (fun t k => XS.iconst X19.here hx rfl (hb hby at_165) k) ?_
                    show OG p e _ s below _ T19 (mkF m 166 #[.val (.long q1), .second, .val (.int (7 : Int32)), .val (.long (f2 q1)), .second, .val (.long ((f2 q1) &&& (-(f2 q1)))), .second] [(.int (0 : Int32))])
                    exact own_retZ X19 hx (t := .boolean) hret (by simp) hlk (hb hby at_166) (by decide) (by decide) (w := (0 : Int32)) rfl ⟨congrArg (fun z => some (Value.int z)) (show f0 q1 = (0 : Int32) from (by rw [f0, if_pos c2, if_pos c4, if_pos c6, if_pos c8, if_pos c10, if_pos c12, if_pos c14, if_neg c16, if_pos c20])).symm, rfl, e19⟩
                  · refine own_st (fun t k => XS.ifNo X19.here hx rfl (hb hby at_143) rfl (own_if0 (feq (fun q => c20 ((lw_eq _ _).mp q))).1) k) ?_
                    show OG p e _ s below _ T19 (mkF m 146 #[.val (.long q1), .second, .val (.int (7 : Int32)), .val (.long (f2 q1)), .second, .val (.long ((f2 q1) &&& (-(f2 q1)))), .second] [])
                    refine own_st (fun t k => XS.lload X19.here hx rfl (hb hby at_146) rfl k) ?_
                    show OG p e _ s below _ T19 (mkF m 148 #[.val (.long q1), .second, .val (.int (7 : Int32)), .val (.long (f2 q1)), .second, .val (.long ((f2 q1) &&& (-(f2 q1)))), .second] [(.long ((f2 q1) &&& (-(f2 q1))))])
                    refine own_st (fun t k => XS.lconst X19.here hx rfl (hb hby at_148) k) ?_
                    show OG p e _ s below _ T19 (mkF m 149 #[.val (.long q1), .second, .val (.int (7 : Int32)), .val (.long (f2 q1)), .second, .val (.long ((f2 q1) &&& (-(f2 q1)))), .second] [(.long (1 : Int64)), (.long ((f2 q1) &&& (-(f2 q1))))])
                    refine own_st (fun t k => XS.iloadN X19.here hx rfl (hb hby at_149) rfl k) ?_
                    show OG p e _ s below _ T19 (mkF m 150 #[.val (.long q1), .second, .val (.int (7 : Int32)), .val (.long (f2 q1)), .second, .val (.long ((f2 q1) &&& (-(f2 q1)))), .second] [(.int (7 : Int32)), (.long (1 : Int64)), (.long ((f2 q1) &&& (-(f2 q1))))])
                    refine own_st (fun t k => XS.bipush X19.here hx rfl (hb hby at_150) k) ?_
                    show OG p e _ s below _ T19 (mkF m 152 #[.val (.long q1), .second, .val (.int (7 : Int32)), .val (.long (f2 q1)), .second, .val (.long ((f2 q1) &&& (-(f2 q1)))), .second] [(.int (8 : Int32)), (.int (7 : Int32)), (.long (1 : Int64)), (.long ((f2 q1) &&& (-(f2 q1))))])
                    refine own_st (fun t k => XS.imul X19.here hx rfl (hb hby at_152) rfl k) ?_
                    show OG p e _ s below _ T19 (mkF m 153 #[.val (.long q1), .second, .val (.int (7 : Int32)), .val (.long (f2 q1)), .second, .val (.long ((f2 q1) &&& (-(f2 q1)))), .second] [(.int ((7 : Int32) * (8 : Int32))), (.long (1 : Int64)), (.long ((f2 q1) &&& (-(f2 q1))))])
                    refine own_st (fun t k => XS.bipush X19.here hx rfl (hb hby at_153) k) ?_
                    show OG p e _ s below _ T19 (mkF m 155 #[.val (.long q1), .second, .val (.int (7 : Int32)), .val (.long (f2 q1)), .second, .val (.long ((f2 q1) &&& (-(f2 q1)))), .second] [(.int (7 : Int32)), (.int ((7 : Int32) * (8 : Int32))), (.long (1 : Int64)), (.long ((f2 q1) &&& (-(f2 q1))))])
                    refine own_st (fun t k => XS.iadd X19.here hx rfl (hb hby at_155) rfl k) ?_
                    show OG p e _ s below _ T19 (mkF m 156 #[.val (.long q1), .second, .val (.int (7 : Int32)), .val (.long (f2 q1)), .second, .val (.long ((f2 q1) &&& (-(f2 q1)))), .second] [(.int (((7 : Int32) * (8 : Int32)) + (7 : Int32))), (.long (1 : Int64)), (.long ((f2 q1) &&& (-(f2 q1))))])
                    refine own_st (fun t k => XS.lshl X19.here hx rfl (hb hby at_156) rfl k) ?_
                    show OG p e _ s below _ T19 (mkF m 157 #[.val (.long q1), .second, .val (.int (7 : Int32)), .val (.long (f2 q1)), .second, .val (.long ((f2 q1) &&& (-(f2 q1)))), .second] [(.long ((1 : Int64) <<< ((((7 : Int32) * (8 : Int32)) + (7 : Int32)) &&& 0x3f).toInt64)), (.long ((f2 q1) &&& (-(f2 q1))))])
                    refine own_st (fun t k => XS.lcmp X19.here hx rfl (hb hby at_157) rfl k) ?_
                    show OG p e _ s below _ T19 (mkF m 158 #[.val (.long q1), .second, .val (.int (7 : Int32)), .val (.long (f2 q1)), .second, .val (.long ((f2 q1) &&& (-(f2 q1)))), .second] [(.int (lcmpW ((f2 q1) &&& (-(f2 q1))) ((1 : Int64) <<< ((((7 : Int32) * (8 : Int32)) + (7 : Int32)) &&& 0x3f).toInt64)))])
                    by_cases c21 : ((f2 q1) &&& (-(f2 q1))) = ((1 : Int64) <<< ((((7 : Int32) * (8 : Int32)) + (7 : Int32)) &&& 0x3f).toInt64)
                    · refine own_st (fun t k => XS.ifNo X19.here hx rfl (hb hby at_158) rfl (own_if0 (teq ((lw_eq _ _).mpr c21)).2) k) ?_
                      show OG p e _ s below _ T19 (mkF m 161 #[.val (.long q1), .second, .val (.int (7 : Int32)), .val (.long (f2 q1)), .second, .val (.long ((f2 q1) &&& (-(f2 q1)))), .second] [])
                      refine own_st (fun t k => XS.iconst X19.here hx rfl (hb hby at_161) k) ?_
                      show OG p e _ s below _ T19 (mkF m 162 #[.val (.long q1), .second, .val (.int (7 : Int32)), .val (.long (f2 q1)), .second, .val (.long ((f2 q1) &&& (-(f2 q1)))), .second] [(.int (1 : Int32))])
                      refine own_st (fun t k => XS.goto X19.here hx rfl (pc0 := 162) (pc' := 166) rfl (hb hby at_162) (by decide) (by decide) k) ?_
                      show OG p e _ s below _ T19 (mkF m 166 #[.val (.long q1), .second, .val (.int (7 : Int32)), .val (.long (f2 q1)), .second, .val (.long ((f2 q1) &&& (-(f2 q1)))), .second] [(.int (1 : Int32))])
                      exact own_retZ X19 hx (t := .boolean) hret (by simp) hlk (hb hby at_166) (by decide) (by decide) (w := (1 : Int32)) rfl ⟨congrArg (fun z => some (Value.int z)) (show f0 q1 = (1 : Int32) from (by rw [f0, if_pos c2, if_pos c4, if_pos c6, if_pos c8, if_pos c10, if_pos c12, if_pos c14, if_neg c16, if_neg c20, if_pos c21])).symm, rfl, e19⟩
                    · refine own_st (fun t k => XS.ifYes X19.here hx rfl (pc0 := 158) (pc' := 165) rfl (hb hby at_158) rfl (own_if0 (feq (fun q => c21 ((lw_eq _ _).mp q))).2) (by decide) (by decide) k) ?_
                      show OG p e _ s below _ T19 (mkF m 165 #[.val (.long q1), .second, .val (.int (7 : Int32)), .val (.long (f2 q1)), .second, .val (.long ((f2 q1) &&& (-(f2 q1)))), .second] [])
                      refine own_st (fun t k => XS.iconst X19.here hx rfl (hb hby at_165) k) ?_
                      show OG p e _ s below _ T19 (mkF m 166 #[.val (.long q1), .second, .val (.int (7 : Int32)), .val (.long (f2 q1)), .second, .val (.long ((f2 q1) &&& (-(f2 q1)))), .second] [(.int (0 : Int32))])
                      exact own_retZ X19 hx (t := .boolean) hret (by simp) hlk (hb hby at_166) (by decide) (by decide) (w := (0 : Int32)) rfl ⟨congrArg (fun z => some (Value.int z)) (show f0 q1 = (0 : Int32) from (by rw [f0, if_pos c2, if_pos c4, if_pos c6, if_pos c8, if_pos c10, if_pos c12, if_pos c14, if_neg c16, if_neg c20, if_neg c21])).symm, rfl, e19⟩
              · refine own_st (fun t k => XS.ifNo X13.here hx rfl (hb hby at_84) rfl (own_if0 (feq c14).1) k) ?_
                show OG p e _ s below _ T13 (mkF m 87 #[.val (.long q1), .second, .unset, .unset, .unset, .unset, .unset] [])
                refine own_st (fun t k => XS.bipush X13.here hx rfl (hb hby at_87) k) ?_
                show OG p e _ s below _ T13 (mkF m 89 #[.val (.long q1), .second, .unset, .unset, .unset, .unset, .unset] [(.int (6 : Int32))])
                refine own_st (fun t k => XS.istoreN X13.here hx rfl (hb hby at_89) rfl (l' := #[.val (.long q1), .second, .val (.int (6 : Int32)), .unset, .unset, .unset, .unset]) rfl k) ?_
                show OG p e _ s below _ T13 (mkF m 90 #[.val (.long q1), .second, .val (.int (6 : Int32)), .unset, .unset, .unset, .unset] [])
                refine own_st (fun t k => XS.goto X13.here hx rfl (pc0 := 90) (pc' := 111) rfl (hb hby at_90) (by decide) (by decide) k) ?_
                show OG p e _ s below _ T13 (mkF m 111 #[.val (.long q1), .second, .val (.int (6 : Int32)), .unset, .unset, .unset, .unset] [])
                refine own_st (fun t k => XS.lloadN X13.here hx rfl (hb hby at_111) rfl k) ?_
                show OG p e _ s below _ T13 (mkF m 112 #[.val (.long q1), .second, .val (.int (6 : Int32)), .unset, .unset, .unset, .unset] [(.long q1)])
                obtain ⟨_, _, ⟨T22, L22, k22, n22⟩, -, X22, ⟨Lc22, hQ22, l22, y22, z22⟩, st22⟩ := Jvm.LawKit.callS X13 hx (y := (⟨"com/example/vetted_envelope/vettedenvelope/io/json/ByteWords", "notPlain", "(J)J"⟩ : MethodName)) hown (mvT hZ (hw _ (List.mem_of_getElem? (i := 4) rfl))) (mvT hZ (hw _ (List.mem_of_getElem? (i := 5) rfl))) (mvT hZ (hw _ (List.mem_of_getElem? (i := 6) rfl))) (mvT hZ (hw _ (List.mem_of_getElem? (i := 7) rfl))) (by decide) (backOf (W := 0) (rm := ({ frames := 0, cells := 0, slots := 0, locals := 0 } : Room)) (rm2 l Z a0 hw [] q1 h0) hZ (hw _ (List.mem_of_getElem? (i := 7) rfl)) (hw _ (List.mem_of_getElem? (i := 6) rfl)) (by decide) (by decide)) (g := (mkF m 112 #[.val (.long q1), .second, .val (.int (6 : Int32)), .unset, .unset, .unset, .unset] [(.long q1)])) rfl (by rw [hml]; rfl) (argsL := [(.long q1)]) (rest := []) (lenOf pd__J_J rfl) rfl (by show 2 * 0 + _ ≤ _; exact Nat.le_of_eq rfl) (hb hby at_112) (fun _ _ => ⟨rfl, e13, (by decide : 0 + 0 ≤ _), (by decide : 0 + 0 ≤ _)⟩)
                dsimp only [Pt.U, Pt.locs, Pt.cells, Pt.slots] at X22 l22 y22 z22 st22 hQ22
                subst l22 y22 z22
                obtain ⟨rfl, rfl, e22⟩ := hQ22
                refine own_st st22 ?_
                show OG p e _ s below _ T22 (mkF m 115 #[.val (.long q1), .second, .val (.int (6 : Int32)), .unset, .unset, .unset, .unset] [(.long (f2 q1))])
                refine own_st (fun t k => XS.lstoreN X22.here hx rfl (hb hby at_115) rfl (l' := #[.val (.long q1), .second, .val (.int (6 : Int32)), .val (.long (f2 q1)), .second, .unset, .unset]) rfl k) ?_
                show OG p e _ s below _ T22 (mkF m 116 #[.val (.long q1), .second, .val (.int (6 : Int32)), .val (.long (f2 q1)), .second, .unset, .unset] [])
                refine own_st (fun t k => XS.iloadN X22.here hx rfl (hb hby at_116) rfl k) ?_
                show OG p e _ s below _ T22 (mkF m 117 #[.val (.long q1), .second, .val (.int (6 : Int32)), .val (.long (f2 q1)), .second, .unset, .unset] [(.int (6 : Int32))])
                refine own_st (fun t k => XS.bipush X22.here hx rfl (hb hby at_117) k) ?_
                show OG p e _ s below _ T22 (mkF m 119 #[.val (.long q1), .second, .val (.int (6 : Int32)), .val (.long (f2 q1)), .second, .unset, .unset] [(.int (8 : Int32)), (.int (6 : Int32))])
                refine own_st (fun t k => XS.icmpYes X22.here hx rfl (pc0 := 119) (pc' := 134) rfl (hb hby at_119) rfl (by decide) (by decide) (by decide) k) ?_
                show OG p e _ s below _ T22 (mkF m 134 #[.val (.long q1), .second, .val (.int (6 : Int32)), .val (.long (f2 q1)), .second, .unset, .unset] [])
                refine own_st (fun t k => XS.lloadN X22.here hx rfl (hb hby at_134) rfl k) ?_
                show OG p e _ s below _ T22 (mkF m 135 #[.val (.long q1), .second, .val (.int (6 : Int32)), .val (.long (f2 q1)), .second, .unset, .unset] [(.long (f2 q1))])
                refine own_st (fun t k => XS.lloadN X22.here hx rfl (hb hby at_135) rfl k) ?_
                show OG p e _ s below _ T22 (mkF m 136 #[.val (.long q1), .second, .val (.int (6 : Int32)), .val (.long (f2 q1)), .second, .unset, .unset] [(.long (f2 q1)), (.long (f2 q1))])
                refine own_st (fun t k => XS.lneg X22.here hx rfl (hb hby at_136) rfl k) ?_
                show OG p e _ s below _ T22 (mkF m 137 #[.val (.long q1), .second, .val (.int (6 : Int32)), .val (.long (f2 q1)), .second, .unset, .unset] [(.long (-(f2 q1))), (.long (f2 q1))])
                refine own_st (fun t k => XS.land X22.here hx rfl (hb hby at_137) rfl k) ?_
                show OG p e _ s below _ T22 (mkF m 138 #[.val (.long q1), .second, .val (.int (6 : Int32)), .val (.long (f2 q1)), .second, .unset, .unset] [(.long ((f2 q1) &&& (-(f2 q1))))])
                refine own_st (fun t k => XS.lstore X22.here hx rfl (hb hby at_138) rfl (l' := #[.val (.long q1), .second, .val (.int (6 : Int32)), .val (.long (f2 q1)), .second, .val (.long ((f2 q1) &&& (-(f2 q1)))), .second]) rfl k) ?_
                show OG p e _ s below _ T22 (mkF m 140 #[.val (.long q1), .second, .val (.int (6 : Int32)), .val (.long (f2 q1)), .second, .val (.long ((f2 q1) &&& (-(f2 q1)))), .second] [])
                refine own_st (fun t k => XS.lloadN X22.here hx rfl (hb hby at_140) rfl k) ?_
                show OG p e _ s below _ T22 (mkF m 141 #[.val (.long q1), .second, .val (.int (6 : Int32)), .val (.long (f2 q1)), .second, .val (.long ((f2 q1) &&& (-(f2 q1)))), .second] [(.long (f2 q1))])
                refine own_st (fun t k => XS.lconst X22.here hx rfl (hb hby at_141) k) ?_
                show OG p e _ s below _ T22 (mkF m 142 #[.val (.long q1), .second, .val (.int (6 : Int32)), .val (.long (f2 q1)), .second, .val (.long ((f2 q1) &&& (-(f2 q1)))), .second] [(.long (0 : Int64)), (.long (f2 q1))])
                refine own_st (fun t k => XS.lcmp X22.here hx rfl (hb hby at_142) rfl k) ?_
                show OG p e _ s below _ T22 (mkF m 143 #[.val (.long q1), .second, .val (.int (6 : Int32)), .val (.long (f2 q1)), .second, .val (.long ((f2 q1) &&& (-(f2 q1)))), .second] [(.int (lcmpW (f2 q1) (0 : Int64)))])
                by_cases c23 : (f2 q1) = (0 : Int64)
                · refine own_st (fun t k => XS.ifYes X22.here hx rfl (pc0 := 143) (pc' := 165) rfl (hb hby at_143) rfl (own_if0 (teq ((lw_eq _ _).mpr c23)).1) (by decide) (by decide) k) ?_
                  show OG p e _ s below _ T22 (mkF m 165 #[.val (.long q1), .second, .val (.int (6 : Int32)), .val (.long (f2 q1)), .second, .val (.long ((f2 q1) &&& (-(f2 q1)))), .second] [])
                  refine own_st (fun t k => XS.iconst X22.here hx rfl (hb hby at_165) k) ?_
                  show OG p e _ s below _ T22 (mkF m 166 #[.val (.long q1), .second, .val (.int (6 : Int32)), .val (.long (f2 q1)), .second, .val (.long ((f2 q1) &&& (-(f2 q1)))), .second] [(.int (0 : Int32))])
                  exact own_retZ X22 hx (t := .boolean) hret (by simp) hlk (hb hby at_166) (by decide) (by decide) (w := (0 : Int32)) rfl ⟨congrArg (fun z => some (Value.int z)) (show f0 q1 = (0 : Int32) from (by rw [f0, if_pos c2, if_pos c4, if_pos c6, if_pos c8, if_pos c10, if_pos c12, if_neg c14, if_pos c23])).symm, rfl, e22⟩
                · refine own_st (fun t k => XS.ifNo X22.here hx rfl (hb hby at_143) rfl (own_if0 (feq (fun q => c23 ((lw_eq _ _).mp q))).1) k) ?_
                  show OG p e _ s below _ T22 (mkF m 146 #[.val (.long q1), .second, .val (.int (6 : Int32)), .val (.long (f2 q1)), .second, .val (.long ((f2 q1) &&& (-(f2 q1)))), .second] [])
                  refine own_st (fun t k => XS.lload X22.here hx rfl (hb hby at_146) rfl k) ?_
                  show OG p e _ s below _ T22 (mkF m 148 #[.val (.long q1), .second, .val (.int (6 : Int32)), .val (.long (f2 q1)), .second, .val (.long ((f2 q1) &&& (-(f2 q1)))), .second] [(.long ((f2 q1) &&& (-(f2 q1))))])
                  refine own_st (fun t k => XS.lconst X22.here hx rfl (hb hby at_148) k) ?_
                  show OG p e _ s below _ T22 (mkF m 149 #[.val (.long q1), .second, .val (.int (6 : Int32)), .val (.long (f2 q1)), .second, .val (.long ((f2 q1) &&& (-(f2 q1)))), .second] [(.long (1 : Int64)), (.long ((f2 q1) &&& (-(f2 q1))))])
                  refine own_st (fun t k => XS.iloadN X22.here hx rfl (hb hby at_149) rfl k) ?_
                  show OG p e _ s below _ T22 (mkF m 150 #[.val (.long q1), .second, .val (.int (6 : Int32)), .val (.long (f2 q1)), .second, .val (.long ((f2 q1) &&& (-(f2 q1)))), .second] [(.int (6 : Int32)), (.long (1 : Int64)), (.long ((f2 q1) &&& (-(f2 q1))))])
                  refine own_st (fun t k => XS.bipush X22.here hx rfl (hb hby at_150) k) ?_
                  show OG p e _ s below _ T22 (mkF m 152 #[.val (.long q1), .second, .val (.int (6 : Int32)), .val (.long (f2 q1)), .second, .val (.long ((f2 q1) &&& (-(f2 q1)))), .second] [(.int (8 : Int32)), (.int (6 : Int32)), (.long (1 : Int64)), (.long ((f2 q1) &&& (-(f2 q1))))])
                  refine own_st (fun t k => XS.imul X22.here hx rfl (hb hby at_152) rfl k) ?_
                  show OG p e _ s below _ T22 (mkF m 153 #[.val (.long q1), .second, .val (.int (6 : Int32)), .val (.long (f2 q1)), .second, .val (.long ((f2 q1) &&& (-(f2 q1)))), .second] [(.int ((6 : Int32) * (8 : Int32))), (.long (1 : Int64)), (.long ((f2 q1) &&& (-(f2 q1))))])
                  refine own_st (fun t k => XS.bipush X22.here hx rfl (hb hby at_153) k) ?_
                  show OG p e _ s below _ T22 (mkF m 155 #[.val (.long q1), .second, .val (.int (6 : Int32)), .val (.long (f2 q1)), .second, .val (.long ((f2 q1) &&& (-(f2 q1)))), .second] [(.int (7 : Int32)), (.int ((6 : Int32) * (8 : Int32))), (.long (1 : Int64)), (.long ((f2 q1) &&& (-(f2 q1))))])
                  refine own_st (fun t k => XS.iadd X22.here hx rfl (hb hby at_155) rfl k) ?_
                  show OG p e _ s below _ T22 (mkF m 156 #[.val (.long q1), .second, .val (.int (6 : Int32)), .val (.long (f2 q1)), .second, .val (.long ((f2 q1) &&& (-(f2 q1)))), .second] [(.int (((6 : Int32) * (8 : Int32)) + (7 : Int32))), (.long (1 : Int64)), (.long ((f2 q1) &&& (-(f2 q1))))])
                  refine own_st (fun t k => XS.lshl X22.here hx rfl (hb hby at_156) rfl k) ?_
                  show OG p e _ s below _ T22 (mkF m 157 #[.val (.long q1), .second, .val (.int (6 : Int32)), .val (.long (f2 q1)), .second, .val (.long ((f2 q1) &&& (-(f2 q1)))), .second] [(.long ((1 : Int64) <<< ((((6 : Int32) * (8 : Int32)) + (7 : Int32)) &&& 0x3f).toInt64)), (.long ((f2 q1) &&& (-(f2 q1))))])
                  refine own_st (fun t k => XS.lcmp X22.here hx rfl (hb hby at_157) rfl k) ?_
                  show OG p e _ s below _ T22 (mkF m 158 #[.val (.long q1), .second, .val (.int (6 : Int32)), .val (.long (f2 q1)), .second, .val (.long ((f2 q1) &&& (-(f2 q1)))), .second] [(.int (lcmpW ((f2 q1) &&& (-(f2 q1))) ((1 : Int64) <<< ((((6 : Int32) * (8 : Int32)) + (7 : Int32)) &&& 0x3f).toInt64)))])
                  by_cases c24 : ((f2 q1) &&& (-(f2 q1))) = ((1 : Int64) <<< ((((6 : Int32) * (8 : Int32)) + (7 : Int32)) &&& 0x3f).toInt64)
                  · refine own_st (fun t k => XS.ifNo X22.here hx rfl (hb hby at_158) rfl (own_if0 (teq ((lw_eq _ _).mpr c24)).2) k) ?_
                    show OG p e _ s below _ T22 (mkF m 161 #[.val (.long q1), .second, .val (.int (6 : Int32)), .val (.long (f2 q1)), .second, .val (.long ((f2 q1) &&& (-(f2 q1)))), .second] [])
                    refine own_st (fun t k => XS.iconst X22.here hx rfl (hb hby at_161) k) ?_
                    show OG p e _ s below _ T22 (mkF m 162 #[.val (.long q1), .second, .val (.int (6 : Int32)), .val (.long (f2 q1)), .second, .val (.long ((f2 q1) &&& (-(f2 q1)))), .second] [(.int (1 : Int32))])
                    refine own_st (fun t k => XS.goto X22.here hx rfl (pc0 := 162) (pc' := 166) rfl (hb hby at_162) (by decide) (by decide) k) ?_
                    show OG p e _ s below _ T22 (mkF m 166 #[.val (.long q1), .second, .val (.int (6 : Int32)), .val (.long (f2 q1)), .second, .val (.long ((f2 q1) &&& (-(f2 q1)))), .second] [(.int (1 : Int32))])
                    exact own_retZ X22 hx (t := .boolean) hret (by simp) hlk (hb hby at_166) (by decide) (by decide) (w := (1 : Int32)) rfl ⟨congrArg (fun z => some (Value.int z)) (show f0 q1 = (1 : Int32) from (by rw [f0, if_pos c2, if_pos c4, if_pos c6, if_pos c8, if_pos c10, if_pos c12, if_neg c14, if_neg c23, if_pos c24])).symm, rfl, e22⟩
                  · refine own_st (fun t k => XS.ifYes X22.here hx rfl (pc0 := 158) (pc' := 165) rfl (hb hby at_158) rfl (own_if0 (feq (fun q => c24 ((lw_eq _ _).mp q))).2) (by decide) (by decide) k) ?_
                    show OG p e _ s below _ T22 (mkF m 165 #[.val (.long q1), .second, .val (.int (6 : Int32)), .val (.long (f2 q1)), .second, .val (.long ((f2 q1) &&& (-(f2 q1)))), .second] [])
                    refine own_st (fun t k => XS.iconst X22.here hx rfl (hb hby at_165) k) ?_
                    show OG p e _ s below _ T22 (mkF m 166 #[.val (.long q1), .second, .val (.int (6 : Int32)), .val (.long (f2 q1)), .second, .val (.long ((f2 q1) &&& (-(f2 q1)))), .second] [(.int (0 : Int32))])
                    exact own_retZ X22 hx (t := .boolean) hret (by simp) hlk (hb hby at_166) (by decide) (by decide) (w := (0 : Int32)) rfl ⟨congrArg (fun z => some (Value.int z)) (show f0 q1 = (0 : Int32) from (by rw [f0, if_pos c2, if_pos c4, if_pos c6, if_pos c8, if_pos c10, if_pos c12, if_neg c14, if_neg c23, if_neg c24])).symm, rfl, e22⟩
            · refine own_st (fun t k => XS.ifNo X11.here hx rfl (hb hby at_70) rfl (own_if0 (feq c12).1) k) ?_
              show OG p e _ s below _ T11 (mkF m 73 #[.val (.long q1), .second, .unset, .unset, .unset, .unset, .unset] [])
              refine own_st (fun t k => XS.iconst X11.here hx rfl (hb hby at_73) k) ?_
              show OG p e _ s below _ T11 (mkF m 74 #[.val (.long q1), .second, .unset, .unset, .unset, .unset, .unset] [(.int (5 : Int32))])
              refine own_st (fun t k => XS.istoreN X11.here hx rfl (hb hby at_74) rfl (l' := #[.val (.long q1), .second, .val (.int (5 : Int32)), .unset, .unset, .unset, .unset]) rfl k) ?_
              show OG p e _ s below _ T11 (mkF m 75 #[.val (.long q1), .second, .val (.int (5 : Int32)), .unset, .unset, .unset, .unset] [])
              refine own_st (fun t k => XS.goto X11.here hx rfl (pc0 := 75) (pc' := 111) rfl (hb hby at_75) (by decide) (by decide) k) ?_
              show OG p e _ s below _ T11 (mkF m 111 #[.val (.long q1), .second, .val (.int (5 : Int32)), .unset, .unset, .unset, .unset] [])
              refine own_st (fun t k => XS.lloadN X11.here hx rfl (hb hby at_111) rfl k) ?_
              show OG p e _ s below _ T11 (mkF m 112 #[.val (.long q1), .second, .val (.int (5 : Int32)), .unset, .unset, .unset, .unset] [(.long q1)])
              obtain ⟨_, _, ⟨T25, L25, k25, n25⟩, -, X25, ⟨Lc25, hQ25, l25, y25, z25⟩, st25⟩ := Jvm.LawKit.callS X11 hx (y := (⟨"com/example/vetted_envelope/vettedenvelope/io/json/ByteWords", "notPlain", "(J)J"⟩ : MethodName)) hown (mvT hZ (hw _ (List.mem_of_getElem? (i := 4) rfl))) (mvT hZ (hw _ (List.mem_of_getElem? (i := 5) rfl))) (mvT hZ (hw _ (List.mem_of_getElem? (i := 6) rfl))) (mvT hZ (hw _ (List.mem_of_getElem? (i := 7) rfl))) (by decide) (backOf (W := 0) (rm := ({ frames := 0, cells := 0, slots := 0, locals := 0 } : Room)) (rm2 l Z a0 hw [] q1 h0) hZ (hw _ (List.mem_of_getElem? (i := 7) rfl)) (hw _ (List.mem_of_getElem? (i := 6) rfl)) (by decide) (by decide)) (g := (mkF m 112 #[.val (.long q1), .second, .val (.int (5 : Int32)), .unset, .unset, .unset, .unset] [(.long q1)])) rfl (by rw [hml]; rfl) (argsL := [(.long q1)]) (rest := []) (lenOf pd__J_J rfl) rfl (by show 2 * 0 + _ ≤ _; exact Nat.le_of_eq rfl) (hb hby at_112) (fun _ _ => ⟨rfl, e11, (by decide : 0 + 0 ≤ _), (by decide : 0 + 0 ≤ _)⟩)
              dsimp only [Pt.U, Pt.locs, Pt.cells, Pt.slots] at X25 l25 y25 z25 st25 hQ25
              subst l25 y25 z25
              obtain ⟨rfl, rfl, e25⟩ := hQ25
              refine own_st st25 ?_
              show OG p e _ s below _ T25 (mkF m 115 #[.val (.long q1), .second, .val (.int (5 : Int32)), .unset, .unset, .unset, .unset] [(.long (f2 q1))])
              refine own_st (fun t k => XS.lstoreN X25.here hx rfl (hb hby at_115) rfl (l' := #[.val (.long q1), .second, .val (.int (5 : Int32)), .val (.long (f2 q1)), .second, .unset, .unset]) rfl k) ?_
              show OG p e _ s below _ T25 (mkF m 116 #[.val (.long q1), .second, .val (.int (5 : Int32)), .val (.long (f2 q1)), .second, .unset, .unset] [])
              refine own_st (fun t k => XS.iloadN X25.here hx rfl (hb hby at_116) rfl k) ?_
              show OG p e _ s below _ T25 (mkF m 117 #[.val (.long q1), .second, .val (.int (5 : Int32)), .val (.long (f2 q1)), .second, .unset, .unset] [(.int (5 : Int32))])
              refine own_st (fun t k => XS.bipush X25.here hx rfl (hb hby at_117) k) ?_
              show OG p e _ s below _ T25 (mkF m 119 #[.val (.long q1), .second, .val (.int (5 : Int32)), .val (.long (f2 q1)), .second, .unset, .unset] [(.int (8 : Int32)), (.int (5 : Int32))])
              refine own_st (fun t k => XS.icmpYes X25.here hx rfl (pc0 := 119) (pc' := 134) rfl (hb hby at_119) rfl (by decide) (by decide) (by decide) k) ?_
              show OG p e _ s below _ T25 (mkF m 134 #[.val (.long q1), .second, .val (.int (5 : Int32)), .val (.long (f2 q1)), .second, .unset, .unset] [])
              refine own_st (fun t k => XS.lloadN X25.here hx rfl (hb hby at_134) rfl k) ?_
              show OG p e _ s below _ T25 (mkF m 135 #[.val (.long q1), .second, .val (.int (5 : Int32)), .val (.long (f2 q1)), .second, .unset, .unset] [(.long (f2 q1))])
              refine own_st (fun t k => XS.lloadN X25.here hx rfl (hb hby at_135) rfl k) ?_
              show OG p e _ s below _ T25 (mkF m 136 #[.val (.long q1), .second, .val (.int (5 : Int32)), .val (.long (f2 q1)), .second, .unset, .unset] [(.long (f2 q1)), (.long (f2 q1))])
              refine own_st (fun t k => XS.lneg X25.here hx rfl (hb hby at_136) rfl k) ?_
              show OG p e _ s below _ T25 (mkF m 137 #[.val (.long q1), .second, .val (.int (5 : Int32)), .val (.long (f2 q1)), .second, .unset, .unset] [(.long (-(f2 q1))), (.long (f2 q1))])
              refine own_st (fun t k => XS.land X25.here hx rfl (hb hby at_137) rfl k) ?_
              show OG p e _ s below _ T25 (mkF m 138 #[.val (.long q1), .second, .val (.int (5 : Int32)), .val (.long (f2 q1)), .second, .unset, .unset] [(.long ((f2 q1) &&& (-(f2 q1))))])
              refine own_st (fun t k => XS.lstore X25.here hx rfl (hb hby at_138) rfl (l' := #[.val (.long q1), .second, .val (.int (5 : Int32)), .val (.long (f2 q1)), .second, .val (.long ((f2 q1) &&& (-(f2 q1)))), .second]) rfl k) ?_
              show OG p e _ s below _ T25 (mkF m 140 #[.val (.long q1), .second, .val (.int (5 : Int32)), .val (.long (f2 q1)), .second, .val (.long ((f2 q1) &&& (-(f2 q1)))), .second] [])
              refine own_st (fun t k => XS.lloadN X25.here hx rfl (hb hby at_140) rfl k) ?_
              show OG p e _ s below _ T25 (mkF m 141 #[.val (.long q1), .second, .val (.int (5 : Int32)), .val (.long (f2 q1)), .second, .val (.long ((f2 q1) &&& (-(f2 q1)))), .second] [(.long (f2 q1))])
              refine own_st (fun t k => XS.lconst X25.here hx rfl (hb hby at_141) k) ?_
              show OG p e _ s below _ T25 (mkF m 142 #[.val (.long q1), .second, .val (.int (5 : Int32)), .val (.long (f2 q1)), .second, .val (.long ((f2 q1) &&& (-(f2 q1)))), .second] [(.long (0 : Int64)), (.long (f2 q1))])
              refine own_st (fun t k => XS.lcmp X25.here hx rfl (hb hby at_142) rfl k) ?_
              show OG p e _ s below _ T25 (mkF m 143 #[.val (.long q1), .second, .val (.int (5 : Int32)), .val (.long (f2 q1)), .second, .val (.long ((f2 q1) &&& (-(f2 q1)))), .second] [(.int (lcmpW (f2 q1) (0 : Int64)))])
              by_cases c26 : (f2 q1) = (0 : Int64)
              · refine own_st (fun t k => XS.ifYes X25.here hx rfl (pc0 := 143) (pc' := 165) rfl (hb hby at_143) rfl (own_if0 (teq ((lw_eq _ _).mpr c26)).1) (by decide) (by decide) k) ?_
                show OG p e _ s below _ T25 (mkF m 165 #[.val (.long q1), .second, .val (.int (5 : Int32)), .val (.long (f2 q1)), .second, .val (.long ((f2 q1) &&& (-(f2 q1)))), .second] [])
                refine own_st (fun t k => XS.iconst X25.here hx rfl (hb hby at_165) k) ?_
                show OG p e _ s below _ T25 (mkF m 166 #[.val (.long q1), .second, .val (.int (5 : Int32)), .val (.long (f2 q1)), .second, .val (.long ((f2 q1) &&& (-(f2 q1)))), .second] [(.int (0 : Int32))])
                exact own_retZ X25 hx (t := .boolean) hret (by simp) hlk (hb hby at_166) (by decide) (by decide) (w := (0 : Int32)) rfl ⟨congrArg (fun z => some (Value.int z)) (show f0 q1 = (0 : Int32) from (by rw [f0, if_pos c2, if_pos c4, if_pos c6, if_pos c8, if_pos c10, if_neg c12, if_pos c26])).symm, rfl, e25⟩
              · refine own_st (fun t k => XS.ifNo X25.here hx rfl (hb hby at_143) rfl (own_if0 (feq (fun q => c26 ((lw_eq _ _).mp q))).1) k) ?_
                show OG p e _ s below _ T25 (mkF m 146 #[.val (.long q1), .second, .val (.int (5 : Int32)), .val (.long (f2 q1)), .second, .val (.long ((f2 q1) &&& (-(f2 q1)))), .second] [])
                refine own_st (fun t k => XS.lload X25.here hx rfl (hb hby at_146) rfl k) ?_
                show OG p e _ s below _ T25 (mkF m 148 #[.val (.long q1), .second, .val (.int (5 : Int32)), .val (.long (f2 q1)), .second, .val (.long ((f2 q1) &&& (-(f2 q1)))), .second] [(.long ((f2 q1) &&& (-(f2 q1))))])
                refine own_st (fun t k => XS.lconst X25.here hx rfl (hb hby at_148) k) ?_
                show OG p e _ s below _ T25 (mkF m 149 #[.val (.long q1), .second, .val (.int (5 : Int32)), .val (.long (f2 q1)), .second, .val (.long ((f2 q1) &&& (-(f2 q1)))), .second] [(.long (1 : Int64)), (.long ((f2 q1) &&& (-(f2 q1))))])
                refine own_st (fun t k => XS.iloadN X25.here hx rfl (hb hby at_149) rfl k) ?_
                show OG p e _ s below _ T25 (mkF m 150 #[.val (.long q1), .second, .val (.int (5 : Int32)), .val (.long (f2 q1)), .second, .val (.long ((f2 q1) &&& (-(f2 q1)))), .second] [(.int (5 : Int32)), (.long (1 : Int64)), (.long ((f2 q1) &&& (-(f2 q1))))])
                refine own_st (fun t k => XS.bipush X25.here hx rfl (hb hby at_150) k) ?_
                show OG p e _ s below _ T25 (mkF m 152 #[.val (.long q1), .second, .val (.int (5 : Int32)), .val (.long (f2 q1)), .second, .val (.long ((f2 q1) &&& (-(f2 q1)))), .second] [(.int (8 : Int32)), (.int (5 : Int32)), (.long (1 : Int64)), (.long ((f2 q1) &&& (-(f2 q1))))])
                refine own_st (fun t k => XS.imul X25.here hx rfl (hb hby at_152) rfl k) ?_
                show OG p e _ s below _ T25 (mkF m 153 #[.val (.long q1), .second, .val (.int (5 : Int32)), .val (.long (f2 q1)), .second, .val (.long ((f2 q1) &&& (-(f2 q1)))), .second] [(.int ((5 : Int32) * (8 : Int32))), (.long (1 : Int64)), (.long ((f2 q1) &&& (-(f2 q1))))])
                refine own_st (fun t k => XS.bipush X25.here hx rfl (hb hby at_153) k) ?_
                show OG p e _ s below _ T25 (mkF m 155 #[.val (.long q1), .second, .val (.int (5 : Int32)), .val (.long (f2 q1)), .second, .val (.long ((f2 q1) &&& (-(f2 q1)))), .second] [(.int (7 : Int32)), (.int ((5 : Int32) * (8 : Int32))), (.long (1 : Int64)), (.long ((f2 q1) &&& (-(f2 q1))))])
                refine own_st (fun t k => XS.iadd X25.here hx rfl (hb hby at_155) rfl k) ?_
                show OG p e _ s below _ T25 (mkF m 156 #[.val (.long q1), .second, .val (.int (5 : Int32)), .val (.long (f2 q1)), .second, .val (.long ((f2 q1) &&& (-(f2 q1)))), .second] [(.int (((5 : Int32) * (8 : Int32)) + (7 : Int32))), (.long (1 : Int64)), (.long ((f2 q1) &&& (-(f2 q1))))])
                refine own_st (fun t k => XS.lshl X25.here hx rfl (hb hby at_156) rfl k) ?_
                show OG p e _ s below _ T25 (mkF m 157 #[.val (.long q1), .second, .val (.int (5 : Int32)), .val (.long (f2 q1)), .second, .val (.long ((f2 q1) &&& (-(f2 q1)))), .second] [(.long ((1 : Int64) <<< ((((5 : Int32) * (8 : Int32)) + (7 : Int32)) &&& 0x3f).toInt64)), (.long ((f2 q1) &&& (-(f2 q1))))])
                refine own_st (fun t k => XS.lcmp X25.here hx rfl (hb hby at_157) rfl k) ?_
                show OG p e _ s below _ T25 (mkF m 158 #[.val (.long q1), .second, .val (.int (5 : Int32)), .val (.long (f2 q1)), .second, .val (.long ((f2 q1) &&& (-(f2 q1)))), .second] [(.int (lcmpW ((f2 q1) &&& (-(f2 q1))) ((1 : Int64) <<< ((((5 : Int32) * (8 : Int32)) + (7 : Int32)) &&& 0x3f).toInt64)))])
                by_cases c27 : ((f2 q1) &&& (-(f2 q1))) = ((1 : Int64) <<< ((((5 : Int32) * (8 : Int32)) + (7 : Int32)) &&& 0x3f).toInt64)
                · refine own_st (fun t k => XS.ifNo X25.here hx rfl (hb hby at_158) rfl (own_if0 (teq ((lw_eq _ _).mpr c27)).2) k) ?_
                  show OG p e _ s below _ T25 (mkF m 161 #[.val (.long q1), .second, .val (.int (5 : Int32)), .val (.long (f2 q1)), .second, .val (.long ((f2 q1) &&& (-(f2 q1)))), .second] [])
                  refine own_st (fun t k => XS.iconst X25.here hx rfl (hb hby at_161) k) ?_
                  show OG p e _ s below _ T25 (mkF m 162 #[.val (.long q1), .second, .val (.int (5 : Int32)), .val (.long (f2 q1)), .second, .val (.long ((f2 q1) &&& (-(f2 q1)))), .second] [(.int (1 : Int32))])
                  refine own_st (fun t k => XS.goto X25.here hx rfl (pc0 := 162) (pc' := 166) rfl (hb hby at_162) (by decide) (by decide) k) ?_
                  show OG p e _ s below _ T25 (mkF m 166 #[.val (.long q1), .second, .val (.int (5 : Int32)), .val (.long (f2 q1)), .second, .val (.long ((f2 q1) &&& (-(f2 q1)))), .second] [(.int (1 : Int32))])
                  exact own_retZ X25 hx (t := .boolean) hret (by simp) hlk (hb hby at_166) (by decide) (by decide) (w := (1 : Int32)) rfl ⟨congrArg (fun z => some (Value.int z)) (show f0 q1 = (1 : Int32) from (by rw [f0, if_pos c2, if_pos c4, if_pos c6, if_pos c8, if_pos c10, if_neg c12, if_neg c26, if_pos c27])).symm, rfl, e25⟩
                · refine own_st (fun t k => XS.ifYes X25.here hx rfl (pc0 := 158) (pc' := 165) rfl (hb hby at_158) rfl (own_if0 (feq (fun q => c27 ((lw_eq _ _).mp q))).2) (by decide) (by decide) k) ?_
                  show OG p e _ s below _ T25 (mkF m 165 #[.val (.long q1), .second, .val (.int (5 : Int32)), .val (.long (f2 q1)), .second, .val (.long ((f2 q1) &&& (-(f2 q1)))), .second] [])
                  refine own_st (fun t k => XS.iconst X25.here hx rfl (hb hby at_165) k) ?_
                  show OG p e _ s below _ T25 (mkF m 166 #[.val (.long q1), .second, .val (.int (5 : Int32)), .val (.long (f2 q1)), .second, .val (.long ((f2 q1) &&& (-(f2 q1)))), .second] [(.int (0 : Int32))])
                  exact own_retZ X25 hx (t := .boolean) hret (by simp) hlk (hb hby at_166) (by decide) (by decide) (w := (0 : Int32)) rfl ⟨congrArg (fun z => some (Value.int z)) (show f0 q1 = (0 : Int32) from (by rw [f0, if_pos c2, if_pos c4, if_pos c6, if_pos c8, if_pos c10, if_neg c12, if_neg c26, if_neg c27])).symm, rfl, e25⟩
          · refine own_st (fun t k => XS.ifNo X9.here hx rfl (hb hby at_57) rfl (own_if0 (feq c10).1) k) ?_
            show OG p e _ s below _ T9 (mkF m 60 #[.val (.long q1), .second, .unset, .unset, .unset, .unset, .unset] [])
            refine own_st (fun t k => XS.iconst X9.here hx rfl (hb hby at_60) k) ?_
            show OG p e _ s below _ T9 (mkF m 61 #[.val (.long q1), .second, .unset, .unset, .unset, .unset, .unset] [(.int (4 : Int32))])
            refine own_st (fun t k => XS.istoreN X9.here hx rfl (hb hby at_61) rfl (l' := #[.val (.long q1), .second, .val (.int (4 : Int32)), .unset, .unset, .unset, .unset]) rfl k) ?_
            show OG p e _ s below _ T9 (mkF m 62 #[.val (.long q1), .second, .val (.int (4 : Int32)), .unset, .unset, .unset, .unset] [])
            refine own_st (fun t k => XS.goto X9.here hx rfl (pc0 := 62) (pc' := 111) rfl (hb hby at_62) (by decide) (by decide) k) ?_
            show OG p e _ s below _ T9 (mkF m 111 #[.val (.long q1), .second, .val (.int (4 : Int32)), .unset, .unset, .unset, .unset] [])
            refine own_st (fun t k => XS.lloadN X9.here hx rfl (hb hby at_111) rfl k) ?_
            show OG p e _ s below _ T9 (mkF m 112 #[.val (.long q1), .second, .val (.int (4 : Int32)), .unset, .unset, .unset, .unset] [(.long q1)])
            obtain ⟨_, _, ⟨T28, L28, k28, n28⟩, -, X28, ⟨Lc28, hQ28, l28, y28, z28⟩, st28⟩ := Jvm.LawKit.callS X9 hx (y := (⟨"com/example/vetted_envelope/vettedenvelope/io/json/ByteWords", "notPlain", "(J)J"⟩ : MethodName)) hown (mvT hZ (hw _ (List.mem_of_getElem? (i := 4) rfl))) (mvT hZ (hw _ (List.mem_of_getElem? (i := 5) rfl))) (mvT hZ (hw _ (List.mem_of_getElem? (i := 6) rfl))) (mvT hZ (hw _ (List.mem_of_getElem? (i := 7) rfl))) (by decide) (backOf (W := 0) (rm := ({ frames := 0, cells := 0, slots := 0, locals := 0 } : Room)) (rm2 l Z a0 hw [] q1 h0) hZ (hw _ (List.mem_of_getElem? (i := 7) rfl)) (hw _ (List.mem_of_getElem? (i := 6) rfl)) (by decide) (by decide)) (g := (mkF m 112 #[.val (.long q1), .second, .val (.int (4 : Int32)), .unset, .unset, .unset, .unset] [(.long q1)])) rfl (by rw [hml]; rfl) (argsL := [(.long q1)]) (rest := []) (lenOf pd__J_J rfl) rfl (by show 2 * 0 + _ ≤ _; exact Nat.le_of_eq rfl) (hb hby at_112) (fun _ _ => ⟨rfl, e9, (by decide : 0 + 0 ≤ _), (by decide : 0 + 0 ≤ _)⟩)
            dsimp only [Pt.U, Pt.locs, Pt.cells, Pt.slots] at X28 l28 y28 z28 st28 hQ28
            subst l28 y28 z28
            obtain ⟨rfl, rfl, e28⟩ := hQ28
            refine own_st st28 ?_
            show OG p e _ s below _ T28 (mkF m 115 #[.val (.long q1), .second, .val (.int (4 : Int32)), .unset, .unset, .unset, .unset] [(.long (f2 q1))])
            refine own_st (fun t k => XS.lstoreN X28.here hx rfl (hb hby at_115) rfl (l' := #[.val (.long q1), .second, .val (.int (4 : Int32)), .val (.long (f2 q1)), .second, .unset, .unset]) rfl k) ?_
            show OG p e _ s below _ T28 (mkF m 116 #[.val (.long q1), .second, .val (.int (4 : Int32)), .val (.long (f2 q1)), .second, .unset, .unset] [])
            refine own_st (fun t k => XS.iloadN X28.here hx rfl (hb hby at_116) rfl k) ?_
            show OG p e _ s below _ T28 (mkF m 117 #[.val (.long q1), .second, .val (.int (4 : Int32)), .val (.long (f2 q1)), .second, .unset, .unset] [(.int (4 : Int32))])
            refine own_st (fun t k => XS.bipush X28.here hx rfl (hb hby at_117) k) ?_
            show OG p e _ s below _ T28 (mkF m 119 #[.val (.long q1), .second, .val (.int (4 : Int32)), .val (.long (f2 q1)), .second, .unset, .unset] [(.int (8 : Int32)), (.int (4 : Int32))])
            refine own_st (fun t k => XS.icmpYes X28.here hx rfl (pc0 := 119) (pc' := 134) rfl (hb hby at_119) rfl (by decide) (by decide) (by decide) k) ?_
            show OG p e _ s below _ T28 (mkF m 134 #[.val (.long q1), .second, .val (.int (4 : Int32)), .val (.long (f2 q1)), .second, .unset, .unset] [])
            refine own_st (fun t k => XS.lloadN X28.here hx rfl (hb hby at_134) rfl k) ?_
            show OG p e _ s below _ T28 (mkF m 135 #[.val (.long q1), .second, .val (.int (4 : Int32)), .val (.long (f2 q1)), .second, .unset, .unset] [(.long (f2 q1))])
            refine own_st (fun t k => XS.lloadN X28.here hx rfl (hb hby at_135) rfl k) ?_
            show OG p e _ s below _ T28 (mkF m 136 #[.val (.long q1), .second, .val (.int (4 : Int32)), .val (.long (f2 q1)), .second, .unset, .unset] [(.long (f2 q1)), (.long (f2 q1))])
            refine own_st (fun t k => XS.lneg X28.here hx rfl (hb hby at_136) rfl k) ?_
            show OG p e _ s below _ T28 (mkF m 137 #[.val (.long q1), .second, .val (.int (4 : Int32)), .val (.long (f2 q1)), .second, .unset, .unset] [(.long (-(f2 q1))), (.long (f2 q1))])
            refine own_st (fun t k => XS.land X28.here hx rfl (hb hby at_137) rfl k) ?_
            show OG p e _ s below _ T28 (mkF m 138 #[.val (.long q1), .second, .val (.int (4 : Int32)), .val (.long (f2 q1)), .second, .unset, .unset] [(.long ((f2 q1) &&& (-(f2 q1))))])
            refine own_st (fun t k => XS.lstore X28.here hx rfl (hb hby at_138) rfl (l' := #[.val (.long q1), .second, .val (.int (4 : Int32)), .val (.long (f2 q1)), .second, .val (.long ((f2 q1) &&& (-(f2 q1)))), .second]) rfl k) ?_
            show OG p e _ s below _ T28 (mkF m 140 #[.val (.long q1), .second, .val (.int (4 : Int32)), .val (.long (f2 q1)), .second, .val (.long ((f2 q1) &&& (-(f2 q1)))), .second] [])
            refine own_st (fun t k => XS.lloadN X28.here hx rfl (hb hby at_140) rfl k) ?_
            show OG p e _ s below _ T28 (mkF m 141 #[.val (.long q1), .second, .val (.int (4 : Int32)), .val (.long (f2 q1)), .second, .val (.long ((f2 q1) &&& (-(f2 q1)))), .second] [(.long (f2 q1))])
            refine own_st (fun t k => XS.lconst X28.here hx rfl (hb hby at_141) k) ?_
            show OG p e _ s below _ T28 (mkF m 142 #[.val (.long q1), .second, .val (.int (4 : Int32)), .val (.long (f2 q1)), .second, .val (.long ((f2 q1) &&& (-(f2 q1)))), .second] [(.long (0 : Int64)), (.long (f2 q1))])
            refine own_st (fun t k => XS.lcmp X28.here hx rfl (hb hby at_142) rfl k) ?_
            show OG p e _ s below _ T28 (mkF m 143 #[.val (.long q1), .second, .val (.int (4 : Int32)), .val (.long (f2 q1)), .second, .val (.long ((f2 q1) &&& (-(f2 q1)))), .second] [(.int (lcmpW (f2 q1) (0 : Int64)))])
            by_cases c29 : (f2 q1) = (0 : Int64)
            · refine own_st (fun t k => XS.ifYes X28.here hx rfl (pc0 := 143) (pc' := 165) rfl (hb hby at_143) rfl (own_if0 (teq ((lw_eq _ _).mpr c29)).1) (by decide) (by decide) k) ?_
              show OG p e _ s below _ T28 (mkF m 165 #[.val (.long q1), .second, .val (.int (4 : Int32)), .val (.long (f2 q1)), .second, .val (.long ((f2 q1) &&& (-(f2 q1)))), .second] [])
              refine own_st (fun t k => XS.iconst X28.here hx rfl (hb hby at_165) k) ?_
              show OG p e _ s below _ T28 (mkF m 166 #[.val (.long q1), .second, .val (.int (4 : Int32)), .val (.long (f2 q1)), .second, .val (.long ((f2 q1) &&& (-(f2 q1)))), .second] [(.int (0 : Int32))])
              exact own_retZ X28 hx (t := .boolean) hret (by simp) hlk (hb hby at_166) (by decide) (by decide) (w := (0 : Int32)) rfl ⟨congrArg (fun z => some (Value.int z)) (show f0 q1 = (0 : Int32) from (by rw [f0, if_pos c2, if_pos c4, if_pos c6, if_pos c8, if_neg c10, if_pos c29])).symm, rfl, e28⟩
            · refine own_st (fun t k => XS.ifNo X28.here hx rfl (hb hby at_143) rfl (own_if0 (feq (fun q => c29 ((lw_eq _ _).mp q))).1) k) ?_
              show OG p e _ s below _ T28 (mkF m 146 #[.val (.long q1), .second, .val (.int (4 : Int32)), .val (.long (f2 q1)), .second, .val (.long ((f2 q1) &&& (-(f2 q1)))), .second] [])
              refine own_st (fun t k => XS.lload X28.here hx rfl (hb hby at_146) rfl k) ?_
              show OG p e _ s below _ T28 (mkF m 148 #[.val (.long q1), .second, .val (.int (4 : Int32)), .val (.long (f2 q1)), .second, .val (.long ((f2 q1) &&& (-(f2 q1)))), .second] [(.long ((f2 q1) &&& (-(f2 q1))))])
              refine own_st (fun t k => XS.lconst X28.here hx rfl (hb hby at_148) k) ?_
              show OG p e _ s below _ T28 (mkF m 149 #[.val (.long q1), .second, .val (.int (4 : Int32)), .val (.long (f2 q1)), .second, .val (.long ((f2 q1) &&& (-(f2 q1)))), .second] [(.long (1 : Int64)), (.long ((f2 q1) &&& (-(f2 q1))))])
              refine own_st (fun t k => XS.iloadN X28.here hx rfl (hb hby at_149) rfl k) ?_
              show OG p e _ s below _ T28 (mkF m 150 #[.val (.long q1), .second, .val (.int (4 : Int32)), .val (.long (f2 q1)), .second, .val (.long ((f2 q1) &&& (-(f2 q1)))), .second] [(.int (4 : Int32)), (.long (1 : Int64)), (.long ((f2 q1) &&& (-(f2 q1))))])
              refine own_st (fun t k => XS.bipush X28.here hx rfl (hb hby at_150) k) ?_
              show OG p e _ s below _ T28 (mkF m 152 #[.val (.long q1), .second, .val (.int (4 : Int32)), .val (.long (f2 q1)), .second, .val (.long ((f2 q1) &&& (-(f2 q1)))), .second] [(.int (8 : Int32)), (.int (4 : Int32)), (.long (1 : Int64)), (.long ((f2 q1) &&& (-(f2 q1))))])
              refine own_st (fun t k => XS.imul X28.here hx rfl (hb hby at_152) rfl k) ?_
              show OG p e _ s below _ T28 (mkF m 153 #[.val (.long q1), .second, .val (.int (4 : Int32)), .val (.long (f2 q1)), .second, .val (.long ((f2 q1) &&& (-(f2 q1)))), .second] [(.int ((4 : Int32) * (8 : Int32))), (.long (1 : Int64)), (.long ((f2 q1) &&& (-(f2 q1))))])
              refine own_st (fun t k => XS.bipush X28.here hx rfl (hb hby at_153) k) ?_
              show OG p e _ s below _ T28 (mkF m 155 #[.val (.long q1), .second, .val (.int (4 : Int32)), .val (.long (f2 q1)), .second, .val (.long ((f2 q1) &&& (-(f2 q1)))), .second] [(.int (7 : Int32)), (.int ((4 : Int32) * (8 : Int32))), (.long (1 : Int64)), (.long ((f2 q1) &&& (-(f2 q1))))])
              refine own_st (fun t k => XS.iadd X28.here hx rfl (hb hby at_155) rfl k) ?_
              show OG p e _ s below _ T28 (mkF m 156 #[.val (.long q1), .second, .val (.int (4 : Int32)), .val (.long (f2 q1)), .second, .val (.long ((f2 q1) &&& (-(f2 q1)))), .second] [(.int (((4 : Int32) * (8 : Int32)) + (7 : Int32))), (.long (1 : Int64)), (.long ((f2 q1) &&& (-(f2 q1))))])
              refine own_st (fun t k => XS.lshl X28.here hx rfl (hb hby at_156) rfl k) ?_
              show OG p e _ s below _ T28 (mkF m 157 #[.val (.long q1), .second, .val (.int (4 : Int32)), .val (.long (f2 q1)), .second, .val (.long ((f2 q1) &&& (-(f2 q1)))), .second] [(.long ((1 : Int64) <<< ((((4 : Int32) * (8 : Int32)) + (7 : Int32)) &&& 0x3f).toInt64)), (.long ((f2 q1) &&& (-(f2 q1))))])
              refine own_st (fun t k => XS.lcmp X28.here hx rfl (hb hby at_157) rfl k) ?_
              show OG p e _ s below _ T28 (mkF m 158 #[.val (.long q1), .second, .val (.int (4 : Int32)), .val (.long (f2 q1)), .second, .val (.long ((f2 q1) &&& (-(f2 q1)))), .second] [(.int (lcmpW ((f2 q1) &&& (-(f2 q1))) ((1 : Int64) <<< ((((4 : Int32) * (8 : Int32)) + (7 : Int32)) &&& 0x3f).toInt64)))])
              by_cases c30 : ((f2 q1) &&& (-(f2 q1))) = ((1 : Int64) <<< ((((4 : Int32) * (8 : Int32)) + (7 : Int32)) &&& 0x3f).toInt64)
              · refine own_st (fun t k => XS.ifNo X28.here hx rfl (hb hby at_158) rfl (own_if0 (teq ((lw_eq _ _).mpr c30)).2) k) ?_
                show OG p e _ s below _ T28 (mkF m 161 #[.val (.long q1), .second, .val (.int (4 : Int32)), .val (.long (f2 q1)), .second, .val (.long ((f2 q1) &&& (-(f2 q1)))), .second] [])
                refine own_st (fun t k => XS.iconst X28.here hx rfl (hb hby at_161) k) ?_
                show OG p e _ s below _ T28 (mkF m 162 #[.val (.long q1), .second, .val (.int (4 : Int32)), .val (.long (f2 q1)), .second, .val (.long ((f2 q1) &&& (-(f2 q1)))), .second] [(.int (1 : Int32))])
                refine own_st (fun t k => XS.goto X28.here hx rfl (pc0 := 162) (pc' := 166) rfl (hb hby at_162) (by decide) (by decide) k) ?_
                show OG p e _ s below _ T28 (mkF m 166 #[.val (.long q1), .second, .val (.int (4 : Int32)), .val (.long (f2 q1)), .second, .val (.long ((f2 q1) &&& (-(f2 q1)))), .second] [(.int (1 : Int32))])
                exact own_retZ X28 hx (t := .boolean) hret (by simp) hlk (hb hby at_166) (by decide) (by decide) (w := (1 : Int32)) rfl ⟨congrArg (fun z => some (Value.int z)) (show f0 q1 = (1 : Int32) from (by rw [f0, if_pos c2, if_pos c4, if_pos c6, if_pos c8, if_neg c10, if_neg c29, if_pos c30])).symm, rfl, e28⟩
              · refine own_st (fun t k => XS.ifYes X28.here hx rfl (pc0 := 158) (pc' := 165) rfl (hb hby at_158) rfl (own_if0 (feq (fun q => c30 ((lw_eq _ _).mp q))).2) (by decide) (by decide) k) ?_
                show OG p e _ s below _ T28 (mkF m 165 #[.val (.long q1), .second, .val (.int (4 : Int32)), .val (.long (f2 q1)), .second, .val (.long ((f2 q1) &&& (-(f2 q1)))), .second] [])
                refine own_st (fun t k => XS.iconst X28.here hx rfl (hb hby at_165) k) ?_
                show OG p e _ s below _ T28 (mkF m 166 #[.val (.long q1), .second, .val (.int (4 : Int32)), .val (.long (f2 q1)), .second, .val (.long ((f2 q1) &&& (-(f2 q1)))), .second] [(.int (0 : Int32))])
                exact own_retZ X28 hx (t := .boolean) hret (by simp) hlk (hb hby at_166) (by decide) (by decide) (w := (0 : Int32)) rfl ⟨congrArg (fun z => some (Value.int z)) (show f0 q1 = (0 : Int32) from (by rw [f0, if_pos c2, if_pos c4, if_pos c6, if_pos c8, if_neg c10, if_neg c29, if_neg c30])).symm, rfl, e28⟩
        · refine own_st (fun t k => XS.ifNo X7.here hx rfl (hb hby at_44) rfl (own_if0 (feq c8).1) k) ?_
          show OG p e _ s below _ T7 (mkF m 47 #[.val (.long q1), .second, .unset, .unset, .unset, .unset, .unset] [])
          refine own_st (fun t k => XS.iconst X7.here hx rfl (hb hby at_47) k) ?_
          show OG p e _ s below _ T7 (mkF m 48 #[.val (.long q1), .second, .unset, .unset, .unset, .unset, .unset] [(.int (3 : Int32))])
          refine own_st (fun t k => XS.istoreN X7.here hx rfl (hb hby at_48) rfl (l' := #[.val (.long q1), .second, .val (.int (3 : Int32)), .unset, .unset, .unset, .unset]) rfl k) ?_
          show OG p e _ s below _ T7 (mkF m 49 #[.val (.long q1), .second, .val (.int (3 : Int32)), .unset, .unset, .unset, .unset] [])
          refine own_st (fun t k => XS.goto X7.here hx rfl (pc0 := 49) (pc' := 111) rfl (hb hby at_49) (by decide) (by decide) k) ?_
          show OG p e _ s below _ T7 (mkF m 111 #[.val (.long q1), .second, .val (.int (3 : Int32)), .unset, .unset, .unset, .unset] [])
          refine own_st (fun t k => XS.lloadN X7.here hx rfl (hb hby at_111) rfl k) ?_
          show OG p e _ s below _ T7 (mkF m 112 #[.val (.long q1), .second, .val (.int (3 : Int32)), .unset, .unset, .unset, .unset] [(.long q1)])
          obtain ⟨_, _, ⟨T31, L31, k31, n31⟩, -, X31, ⟨Lc31, hQ31, l31, y31, z31⟩, st31⟩ := Jvm.LawKit.callS X7 hx (y := (⟨"com/example/vetted_envelope/vettedenvelope/io/json/ByteWords", "notPlain", "(J)J"⟩ : MethodName)) hown (mvT hZ (hw _ (List.mem_of_getElem? (i := 4) rfl))) (mvT hZ (hw _ (List.mem_of_getElem? (i := 5) rfl))) (mvT hZ (hw _ (List.mem_of_getElem? (i := 6) rfl))) (mvT hZ (hw _ (List.mem_of_getElem? (i := 7) rfl))) (by decide) (backOf (W := 0) (rm := ({ frames := 0, cells := 0, slots := 0, locals := 0 } : Room)) (rm2 l Z a0 hw [] q1 h0) hZ (hw _ (List.mem_of_getElem? (i := 7) rfl)) (hw _ (List.mem_of_getElem? (i := 6) rfl)) (by decide) (by decide)) (g := (mkF m 112 #[.val (.long q1), .second, .val (.int (3 : Int32)), .unset, .unset, .unset, .unset] [(.long q1)])) rfl (by rw [hml]; rfl) (argsL := [(.long q1)]) (rest := []) (lenOf pd__J_J rfl) rfl (by show 2 * 0 + _ ≤ _; exact Nat.le_of_eq rfl) (hb hby at_112) (fun _ _ => ⟨rfl, e7, (by decide : 0 + 0 ≤ _), (by decide : 0 + 0 ≤ _)⟩)
          dsimp only [Pt.U, Pt.locs, Pt.cells, Pt.slots] at X31 l31 y31 z31 st31 hQ31
          subst l31 y31 z31
          obtain ⟨rfl, rfl, e31⟩ := hQ31
          refine own_st st31 ?_
          show OG p e _ s below _ T31 (mkF m 115 #[.val (.long q1), .second, .val (.int (3 : Int32)), .unset, .unset, .unset, .unset] [(.long (f2 q1))])
          refine own_st (fun t k => XS.lstoreN X31.here hx rfl (hb hby at_115) rfl (l' := #[.val (.long q1), .second, .val (.int (3 : Int32)), .val (.long (f2 q1)), .second, .unset, .unset]) rfl k) ?_
          show OG p e _ s below _ T31 (mkF m 116 #[.val (.long q1), .second, .val (.int (3 : Int32)), .val (.long (f2 q1)), .second, .unset, .unset] [])
          refine own_st (fun t k => XS.iloadN X31.here hx rfl (hb hby at_116) rfl k) ?_
          show OG p e _ s below _ T31 (mkF m 117 #[.val (.long q1), .second, .val (.int (3 : Int32)), .val (.long (f2 q1)), .second, .unset, .unset] [(.int (3 : Int32))])
          refine own_st (fun t k => XS.bipush X31.here hx rfl (hb hby at_117) k) ?_
          show OG p e _ s below _ T31 (mkF m 119 #[.val (.long q1), .second, .val (.int (3 : Int32)), .val (.long (f2 q1)), .second, .unset, .unset] [(.int (8 : Int32)), (.int (3 : Int32))])
          refine own_st (fun t k => XS.icmpYes X31.here hx rfl (pc0 := 119) (pc' := 134) rfl (hb hby at_119) rfl (by decide) (by decide) (by decide) k) ?_
          show OG p e _ s below _ T31 (mkF m 134 #[.val (.long q1), .second, .val (.int (3 : Int32)), .val (.long (f2 q1)), .second, .unset, .unset] [])
          refine own_st (fun t k => XS.lloadN X31.here hx rfl (hb hby at_134) rfl k) ?_
          show OG p e _ s below _ T31 (mkF m 135 #[.val (.long q1), .second, .val (.int (3 : Int32)), .val (.long (f2 q1)), .second, .unset, .unset] [(.long (f2 q1))])
          refine own_st (fun t k => XS.lloadN X31.here hx rfl (hb hby at_135) rfl k) ?_
          show OG p e _ s below _ T31 (mkF m 136 #[.val (.long q1), .second, .val (.int (3 : Int32)), .val (.long (f2 q1)), .second, .unset, .unset] [(.long (f2 q1)), (.long (f2 q1))])
          refine own_st (fun t k => XS.lneg X31.here hx rfl (hb hby at_136) rfl k) ?_
          show OG p e _ s below _ T31 (mkF m 137 #[.val (.long q1), .second, .val (.int (3 : Int32)), .val (.long (f2 q1)), .second, .unset, .unset] [(.long (-(f2 q1))), (.long (f2 q1))])
          refine own_st (fun t k => XS.land X31.here hx rfl (hb hby at_137) rfl k) ?_
          show OG p e _ s below _ T31 (mkF m 138 #[.val (.long q1), .second, .val (.int (3 : Int32)), .val (.long (f2 q1)), .second, .unset, .unset] [(.long ((f2 q1) &&& (-(f2 q1))))])
          refine own_st (fun t k => XS.lstore X31.here hx rfl (hb hby at_138) rfl (l' := #[.val (.long q1), .second, .val (.int (3 : Int32)), .val (.long (f2 q1)), .second, .val (.long ((f2 q1) &&& (-(f2 q1)))), .second]) rfl k) ?_
          show OG p e _ s below _ T31 (mkF m 140 #[.val (.long q1), .second, .val (.int (3 : Int32)), .val (.long (f2 q1)), .second, .val (.long ((f2 q1) &&& (-(f2 q1)))), .second] [])
          refine own_st (fun t k => XS.lloadN X31.here hx rfl (hb hby at_140) rfl k) ?_
          show OG p e _ s below _ T31 (mkF m 141 #[.val (.long q1), .second, .val (.int (3 : Int32)), .val (.long (f2 q1)), .second, .val (.long ((f2 q1) &&& (-(f2 q1)))), .second] [(.long (f2 q1))])
          refine own_st (fun t k => XS.lconst X31.here hx rfl (hb hby at_141) k) ?_
          show OG p e _ s below _ T31 (mkF m 142 #[.val (.long q1), .second, .val (.int (3 : Int32)), .val (.long (f2 q1)), .second, .val (.long ((f2 q1) &&& (-(f2 q1)))), .second] [(.long (0 : Int64)), (.long (f2 q1))])
          refine own_st (fun t k => XS.lcmp X31.here hx rfl (hb hby at_142) rfl k) ?_
          show OG p e _ s below _ T31 (mkF m 143 #[.val (.long q1), .second, .val (.int (3 : Int32)), .val (.long (f2 q1)), .second, .val (.long ((f2 q1) &&& (-(f2 q1)))), .second] [(.int (lcmpW (f2 q1) (0 : Int64)))])
          by_cases c32 : (f2 q1) = (0 : Int64)
          · refine own_st (fun t k => XS.ifYes X31.here hx rfl (pc0 := 143) (pc' := 165) rfl (hb hby at_143) rfl (own_if0 (teq ((lw_eq _ _).mpr c32)).1) (by decide) (by decide) k) ?_
            show OG p e _ s below _ T31 (mkF m 165 #[.val (.long q1), .second, .val (.int (3 : Int32)), .val (.long (f2 q1)), .second, .val (.long ((f2 q1) &&& (-(f2 q1)))), .second] [])
            refine own_st (fun t k => XS.iconst X31.here hx rfl (hb hby at_165) k) ?_
            show OG p e _ s below _ T31 (mkF m 166 #[.val (.long q1), .second, .val (.int (3 : Int32)), .val (.long (f2 q1)), .second, .val (.long ((f2 q1) &&& (-(f2 q1)))), .second] [(.int (0 : Int32))])
            exact own_retZ X31 hx (t := .boolean) hret (by simp) hlk (hb hby at_166) (by decide) (by decide) (w := (0 : Int32)) rfl ⟨congrArg (fun z => some (Value.int z)) (show f0 q1 = (0 : Int32) from (by rw [f0, if_pos c2, if_pos c4, if_pos c6, if_neg c8, if_pos c32])).symm, rfl, e31⟩
          · refine own_st (fun t k => XS.ifNo X31.here hx rfl (hb hby at_143) rfl (own_if0 (feq (fun q => c32 ((lw_eq _ _).mp q))).1) k) ?_
            show OG p e _ s below _ T31 (mkF m 146 #[.val (.long q1), .second, .val (.int (3 : Int32)), .val (.long (f2 q1)), .second, .val (.long ((f2 q1) &&& (-(f2 q1)))), .second] [])
            refine own_st (fun t k => XS.lload X31.here hx rfl (hb hby at_146) rfl k) ?_
            show OG p e _ s below _ T31 (mkF m 148 #[.val (.long q1), .second, .val (.int (3 : Int32)), .val (.long (f2 q1)), .second, .val (.long ((f2 q1) &&& (-(f2 q1)))), .second] [(.long ((f2 q1) &&& (-(f2 q1))))])
            refine own_st (fun t k => XS.lconst X31.here hx rfl (hb hby at_148) k) ?_
            show OG p e _ s below _ T31 (mkF m 149 #[.val (.long q1), .second, .val (.int (3 : Int32)), .val (.long (f2 q1)), .second, .val (.long ((f2 q1) &&& (-(f2 q1)))), .second] [(.long (1 : Int64)), (.long ((f2 q1) &&& (-(f2 q1))))])
            refine own_st (fun t k => XS.iloadN X31.here hx rfl (hb hby at_149) rfl k) ?_
            show OG p e _ s below _ T31 (mkF m 150 #[.val (.long q1), .second, .val (.int (3 : Int32)), .val (.long (f2 q1)), .second, .val (.long ((f2 q1) &&& (-(f2 q1)))), .second] [(.int (3 : Int32)), (.long (1 : Int64)), (.long ((f2 q1) &&& (-(f2 q1))))])
            refine own_st (fun t k => XS.bipush X31.here hx rfl (hb hby at_150) k) ?_
            show OG p e _ s below _ T31 (mkF m 152 #[.val (.long q1), .second, .val (.int (3 : Int32)), .val (.long (f2 q1)), .second, .val (.long ((f2 q1) &&& (-(f2 q1)))), .second] [(.int (8 : Int32)), (.int (3 : Int32)), (.long (1 : Int64)), (.long ((f2 q1) &&& (-(f2 q1))))])
            refine own_st (fun t k => XS.imul X31.here hx rfl (hb hby at_152) rfl k) ?_
            show OG p e _ s below _ T31 (mkF m 153 #[.val (.long q1), .second, .val (.int (3 : Int32)), .val (.long (f2 q1)), .second, .val (.long ((f2 q1) &&& (-(f2 q1)))), .second] [(.int ((3 : Int32) * (8 : Int32))), (.long (1 : Int64)), (.long ((f2 q1) &&& (-(f2 q1))))])
            refine own_st (fun t k => XS.bipush X31.here hx rfl (hb hby at_153) k) ?_
            show OG p e _ s below _ T31 (mkF m 155 #[.val (.long q1), .second, .val (.int (3 : Int32)), .val (.long (f2 q1)), .second, .val (.long ((f2 q1) &&& (-(f2 q1)))), .second] [(.int (7 : Int32)), (.int ((3 : Int32) * (8 : Int32))), (.long (1 : Int64)), (.long ((f2 q1) &&& (-(f2 q1))))])
            refine own_st (fun t k => XS.iadd X31.here hx rfl (hb hby at_155) rfl k) ?_
            show OG p e _ s below _ T31 (mkF m 156 #[.val (.long q1), .second, .val (.int (3 : Int32)), .val (.long (f2 q1)), .second, .val (.long ((f2 q1) &&& (-(f2 q1)))), .second] [(.int (((3 : Int32) * (8 : Int32)) + (7 : Int32))), (.long (1 : Int64)), (.long ((f2 q1) &&& (-(f2 q1))))])
            refine own_st (fun t k => XS.lshl X31.here hx rfl (hb hby at_156) rfl k) ?_
            show OG p e _ s below _ T31 (mkF m 157 #[.val (.long q1), .second, .val (.int (3 : Int32)), .val (.long (f2 q1)), .second, .val (.long ((f2 q1) &&& (-(f2 q1)))), .second] [(.long ((1 : Int64) <<< ((((3 : Int32) * (8 : Int32)) + (7 : Int32)) &&& 0x3f).toInt64)), (.long ((f2 q1) &&& (-(f2 q1))))])
            refine own_st (fun t k => XS.lcmp X31.here hx rfl (hb hby at_157) rfl k) ?_
            show OG p e _ s below _ T31 (mkF m 158 #[.val (.long q1), .second, .val (.int (3 : Int32)), .val (.long (f2 q1)), .second, .val (.long ((f2 q1) &&& (-(f2 q1)))), .second] [(.int (lcmpW ((f2 q1) &&& (-(f2 q1))) ((1 : Int64) <<< ((((3 : Int32) * (8 : Int32)) + (7 : Int32)) &&& 0x3f).toInt64)))])
            by_cases c33 : ((f2 q1) &&& (-(f2 q1))) = ((1 : Int64) <<< ((((3 : Int32) * (8 : Int32)) + (7 : Int32)) &&& 0x3f).toInt64)
            · refine own_st (fun t k => XS.ifNo X31.here hx rfl (hb hby at_158) rfl (own_if0 (teq ((lw_eq _ _).mpr c33)).2) k) ?_
              show OG p e _ s below _ T31 (mkF m 161 #[.val (.long q1), .second, .val (.int (3 : Int32)), .val (.long (f2 q1)), .second, .val (.long ((f2 q1) &&& (-(f2 q1)))), .second] [])
              refine own_st (fun t k => XS.iconst X31.here hx rfl (hb hby at_161) k) ?_
              show OG p e _ s below _ T31 (mkF m 162 #[.val (.long q1), .second, .val (.int (3 : Int32)), .val (.long (f2 q1)), .second, .val (.long ((f2 q1) &&& (-(f2 q1)))), .second] [(.int (1 : Int32))])
              refine own_st (fun t k => XS.goto X31.here hx rfl (pc0 := 162) (pc' := 166) rfl (hb hby at_162) (by decide) (by decide) k) ?_
              show OG p e _ s below _ T31 (mkF m 166 #[.val (.long q1), .second, .val (.int (3 : Int32)), .val (.long (f2 q1)), .second, .val (.long ((f2 q1) &&& (-(f2 q1)))), .second] [(.int (1 : Int32))])
              exact own_retZ X31 hx (t := .boolean) hret (by simp) hlk (hb hby at_166) (by decide) (by decide) (w := (1 : Int32)) rfl ⟨congrArg (fun z => some (Value.int z)) (show f0 q1 = (1 : Int32) from (by rw [f0, if_pos c2, if_pos c4, if_pos c6, if_neg c8, if_neg c32, if_pos c33])).symm, rfl, e31⟩
            · refine own_st (fun t k => XS.ifYes X31.here hx rfl (pc0 := 158) (pc' := 165) rfl (hb hby at_158) rfl (own_if0 (feq (fun q => c33 ((lw_eq _ _).mp q))).2) (by decide) (by decide) k) ?_
              show OG p e _ s below _ T31 (mkF m 165 #[.val (.long q1), .second, .val (.int (3 : Int32)), .val (.long (f2 q1)), .second, .val (.long ((f2 q1) &&& (-(f2 q1)))), .second] [])
              refine own_st (fun t k => XS.iconst X31.here hx rfl (hb hby at_165) k) ?_
              show OG p e _ s below _ T31 (mkF m 166 #[.val (.long q1), .second, .val (.int (3 : Int32)), .val (.long (f2 q1)), .second, .val (.long ((f2 q1) &&& (-(f2 q1)))), .second] [(.int (0 : Int32))])
              exact own_retZ X31 hx (t := .boolean) hret (by simp) hlk (hb hby at_166) (by decide) (by decide) (w := (0 : Int32)) rfl ⟨congrArg (fun z => some (Value.int z)) (show f0 q1 = (0 : Int32) from (by rw [f0, if_pos c2, if_pos c4, if_pos c6, if_neg c8, if_neg c32, if_neg c33])).symm, rfl, e31⟩
      · refine own_st (fun t k => XS.ifNo X5.here hx rfl (hb hby at_31) rfl (own_if0 (feq c6).1) k) ?_
        show OG p e _ s below _ T5 (mkF m 34 #[.val (.long q1), .second, .unset, .unset, .unset, .unset, .unset] [])
        refine own_st (fun t k => XS.iconst X5.here hx rfl (hb hby at_34) k) ?_
        show OG p e _ s below _ T5 (mkF m 35 #[.val (.long q1), .second, .unset, .unset, .unset, .unset, .unset] [(.int (2 : Int32))])
        refine own_st (fun t k => XS.istoreN X5.here hx rfl (hb hby at_35) rfl (l' := #[.val (.long q1), .second, .val (.int (2 : Int32)), .unset, .unset, .unset, .unset]) rfl k) ?_
        show OG p e _ s below _ T5 (mkF m 36 #[.val (.long q1), .second, .val (.int (2 : Int32)), .unset, .unset, .unset, .unset] [])
        refine own_st (fun t k => XS.goto X5.here hx rfl (pc0 := 36) (pc' := 111) rfl (hb hby at_36) (by decide) (by decide) k) ?_
        show OG p e _ s below _ T5 (mkF m 111 #[.val (.long q1), .second, .val (.int (2 : Int32)), .unset, .unset, .unset, .unset] [])
        refine own_st (fun t k => XS.lloadN X5.here hx rfl (hb hby at_111) rfl k) ?_
        show OG p e _ s below _ T5 (mkF m 112 #[.val (.long q1), .second, .val (.int (2 : Int32)), .unset, .unset, .unset, .unset] [(.long q1)])
        obtain ⟨_, _, ⟨T34, L34, k34, n34⟩, -, X34, ⟨Lc34, hQ34, l34, y34, z34⟩, st34⟩ := Jvm.LawKit.callS X5 hx (y := (⟨"com/example/vetted_envelope/vettedenvelope/io/json/ByteWords", "notPlain", "(J)J"⟩ : MethodName)) hown (mvT hZ (hw _ (List.mem_of_getElem? (i := 4) rfl))) (mvT hZ (hw _ (List.mem_of_getElem? (i := 5) rfl))) (mvT hZ (hw _ (List.mem_of_getElem? (i := 6) rfl))) (mvT hZ (hw _ (List.mem_of_getElem? (i := 7) rfl))) (by decide) (backOf (W := 0) (rm := ({ frames := 0, cells := 0, slots := 0, locals := 0 } : Room)) (rm2 l Z a0 hw [] q1 h0) hZ (hw _ (List.mem_of_getElem? (i := 7) rfl)) (hw _ (List.mem_of_getElem? (i := 6) rfl)) (by decide) (by decide)) (g := (mkF m 112 #[.val (.long q1), .second, .val (.int (2 : Int32)), .unset, .unset, .unset, .unset] [(.long q1)])) rfl (by rw [hml]; rfl) (argsL := [(.long q1)]) (rest := []) (lenOf pd__J_J rfl) rfl (by show 2 * 0 + _ ≤ _; exact Nat.le_of_eq rfl) (hb hby at_112) (fun _ _ => ⟨rfl, e5, (by decide : 0 + 0 ≤ _), (by decide : 0 + 0 ≤ _)⟩)
        dsimp only [Pt.U, Pt.locs, Pt.cells, Pt.slots] at X34 l34 y34 z34 st34 hQ34
        subst l34 y34 z34
        obtain ⟨rfl, rfl, e34⟩ := hQ34
        refine own_st st34 ?_
        show OG p e _ s below _ T34 (mkF m 115 #[.val (.long q1), .second, .val (.int (2 : Int32)), .unset, .unset, .unset, .unset] [(.long (f2 q1))])
        refine own_st (fun t k => XS.lstoreN X34.here hx rfl (hb hby at_115) rfl (l' := #[.val (.long q1), .second, .val (.int (2 : Int32)), .val (.long (f2 q1)), .second, .unset, .unset]) rfl k) ?_
        show OG p e _ s below _ T34 (mkF m 116 #[.val (.long q1), .second, .val (.int (2 : Int32)), .val (.long (f2 q1)), .second, .unset, .unset] [])
        refine own_st (fun t k => XS.iloadN X34.here hx rfl (hb hby at_116) rfl k) ?_
        show OG p e _ s below _ T34 (mkF m 117 #[.val (.long q1), .second, .val (.int (2 : Int32)), .val (.long (f2 q1)), .second, .unset, .unset] [(.int (2 : Int32))])
        refine own_st (fun t k => XS.bipush X34.here hx rfl (hb hby at_117) k) ?_
        show OG p e _ s below _ T34 (mkF m 119 #[.val (.long q1), .second, .val (.int (2 : Int32)), .val (.long (f2 q1)), .second, .unset, .unset] [(.int (8 : Int32)), (.int (2 : Int32))])
        refine own_st (fun t k => XS.icmpYes X34.here hx rfl (pc0 := 119) (pc' := 134) rfl (hb hby at_119) rfl (by decide) (by decide) (by decide) k) ?_
        show OG p e _ s below _ T34 (mkF m 134 #[.val (.long q1), .second, .val (.int (2 : Int32)), .val (.long (f2 q1)), .second, .unset, .unset] [])
        refine own_st (fun t k => XS.lloadN X34.here hx rfl (hb hby at_134) rfl k) ?_
        show OG p e _ s below _ T34 (mkF m 135 #[.val (.long q1), .second, .val (.int (2 : Int32)), .val (.long (f2 q1)), .second, .unset, .unset] [(.long (f2 q1))])
        refine own_st (fun t k => XS.lloadN X34.here hx rfl (hb hby at_135) rfl k) ?_
        show OG p e _ s below _ T34 (mkF m 136 #[.val (.long q1), .second, .val (.int (2 : Int32)), .val (.long (f2 q1)), .second, .unset, .unset] [(.long (f2 q1)), (.long (f2 q1))])
        refine own_st (fun t k => XS.lneg X34.here hx rfl (hb hby at_136) rfl k) ?_
        show OG p e _ s below _ T34 (mkF m 137 #[.val (.long q1), .second, .val (.int (2 : Int32)), .val (.long (f2 q1)), .second, .unset, .unset] [(.long (-(f2 q1))), (.long (f2 q1))])
        refine own_st (fun t k => XS.land X34.here hx rfl (hb hby at_137) rfl k) ?_
        show OG p e _ s below _ T34 (mkF m 138 #[.val (.long q1), .second, .val (.int (2 : Int32)), .val (.long (f2 q1)), .second, .unset, .unset] [(.long ((f2 q1) &&& (-(f2 q1))))])
        refine own_st (fun t k => XS.lstore X34.here hx rfl (hb hby at_138) rfl (l' := #[.val (.long q1), .second, .val (.int (2 : Int32)), .val (.long (f2 q1)), .second, .val (.long ((f2 q1) &&& (-(f2 q1)))), .second]) rfl k) ?_
        show OG p e _ s below _ T34 (mkF m 140 #[.val (.long q1), .second, .val (.int (2 : Int32)), .val (.long (f2 q1)), .second, .val (.long ((f2 q1) &&& (-(f2 q1)))), .second] [])
        refine own_st (fun t k => XS.lloadN X34.here hx rfl (hb hby at_140) rfl k) ?_
        show OG p e _ s below _ T34 (mkF m 141 #[.val (.long q1), .second, .val (.int (2 : Int32)), .val (.long (f2 q1)), .second, .val (.long ((f2 q1) &&& (-(f2 q1)))), .second] [(.long (f2 q1))])
        refine own_st (fun t k => XS.lconst X34.here hx rfl (hb hby at_141) k) ?_
        show OG p e _ s below _ T34 (mkF m 142 #[.val (.long q1), .second, .val (.int (2 : Int32)), .val (.long (f2 q1)), .second, .val (.long ((f2 q1) &&& (-(f2 q1)))), .second] [(.long (0 : Int64)), (.long (f2 q1))])
        refine own_st (fun t k => XS.lcmp X34.here hx rfl (hb hby at_142) rfl k) ?_
        show OG p e _ s below _ T34 (mkF m 143 #[.val (.long q1), .second, .val (.int (2 : Int32)), .val (.long (f2 q1)), .second, .val (.long ((f2 q1) &&& (-(f2 q1)))), .second] [(.int (lcmpW (f2 q1) (0 : Int64)))])
        by_cases c35 : (f2 q1) = (0 : Int64)
        · refine own_st (fun t k => XS.ifYes X34.here hx rfl (pc0 := 143) (pc' := 165) rfl (hb hby at_143) rfl (own_if0 (teq ((lw_eq _ _).mpr c35)).1) (by decide) (by decide) k) ?_
          show OG p e _ s below _ T34 (mkF m 165 #[.val (.long q1), .second, .val (.int (2 : Int32)), .val (.long (f2 q1)), .second, .val (.long ((f2 q1) &&& (-(f2 q1)))), .second] [])
          refine own_st (fun t k => XS.iconst X34.here hx rfl (hb hby at_165) k) ?_
          show OG p e _ s below _ T34 (mkF m 166 #[.val (.long q1), .second, .val (.int (2 : Int32)), .val (.long (f2 q1)), .second, .val (.long ((f2 q1) &&& (-(f2 q1)))), .second] [(.int (0 : Int32))])
          exact own_retZ X34 hx (t := .boolean) hret (by simp) hlk (hb hby at_166) (by decide) (by decide) (w := (0 : Int32)) rfl ⟨congrArg (fun z => some (Value.int z)) (show f0 q1 = (0 : Int32) from (by rw [f0, if_pos c2, if_pos c4, if_neg c6, if_pos c35])).symm, rfl, e34⟩
        · refine own_st (fun t k => XS.ifNo X34.here hx rfl (hb hby at_143) rfl (own_if0 (feq (fun q => c35 ((lw_eq _ _).mp q))).1) k) ?_
          show OG p e _ s below _ T34 (mkF m 146 #[.val (.long q1), .second, .val (.int (2 : Int32)), .val (.long (f2 q1)), .second, .val (.long ((f2 q1) &&& (-(f2 q1)))), .second] [])
          refine own_st (fun t k => XS.lload X34.here hx rfl (hb hby at_146) rfl k) ?_
          show OG p e _ s below _ T34 (mkF m 148 #[.val (.long q1), .second, .val (.int (2 : Int32)), .val (.long (f2 q1)), .second, .val (.long ((f2 q1) &&& (-(f2 q1)))), .second] [(.long ((f2 q1) &&& (-(f2 q1))))])
          refine own_st (fun t k => XS.lconst X34.here hx rfl (hb hby at_148) k) ?_
          show OG p e _ s below _ T34 (mkF m 149 #[.val (.long q1), .second, .val (.int (2 : Int32)), .val (.long (f2 q1)), .second, .val (.long ((f2 q1) &&& (-(f2 q1)))), .second] [(.long (1 : Int64)), (.long ((f2 q1) &&& (-(f2 q1))))])
          refine own_st (fun t k => XS.iloadN X34.here hx rfl (hb hby at_149) rfl k) ?_
          show OG p e _ s below _ T34 (mkF m 150 #[.val (.long q1), .second, .val (.int (2 : Int32)), .val (.long (f2 q1)), .second, .val (.long ((f2 q1) &&& (-(f2 q1)))), .second] [(.int (2 : Int32)), (.long (1 : Int64)), (.long ((f2 q1) &&& (-(f2 q1))))])
          refine own_st (fun t k => XS.bipush X34.here hx rfl (hb hby at_150) k) ?_
          show OG p e _ s below _ T34 (mkF m 152 #[.val (.long q1), .second, .val (.int (2 : Int32)), .val (.long (f2 q1)), .second, .val (.long ((f2 q1) &&& (-(f2 q1)))), .second] [(.int (8 : Int32)), (.int (2 : Int32)), (.long (1 : Int64)), (.long ((f2 q1) &&& (-(f2 q1))))])
          refine own_st (fun t k => XS.imul X34.here hx rfl (hb hby at_152) rfl k) ?_
          show OG p e _ s below _ T34 (mkF m 153 #[.val (.long q1), .second, .val (.int (2 : Int32)), .val (.long (f2 q1)), .second, .val (.long ((f2 q1) &&& (-(f2 q1)))), .second] [(.int ((2 : Int32) * (8 : Int32))), (.long (1 : Int64)), (.long ((f2 q1) &&& (-(f2 q1))))])
          refine own_st (fun t k => XS.bipush X34.here hx rfl (hb hby at_153) k) ?_
          show OG p e _ s below _ T34 (mkF m 155 #[.val (.long q1), .second, .val (.int (2 : Int32)), .val (.long (f2 q1)), .second, .val (.long ((f2 q1) &&& (-(f2 q1)))), .second] [(.int (7 : Int32)), (.int ((2 : Int32) * (8 : Int32))), (.long (1 : Int64)), (.long ((f2 q1) &&& (-(f2 q1))))])
          refine own_st (fun t k => XS.iadd X34.here hx rfl (hb hby at_155) rfl k) ?_
          show OG p e _ s below _ T34 (mkF m 156 #[.val (.long q1), .second, .val (.int (2 : Int32)), .val (.long (f2 q1)), .second, .val (.long ((f2 q1) &&& (-(f2 q1)))), .second] [(.int (((2 : Int32) * (8 : Int32)) + (7 : Int32))), (.long (1 : Int64)), (.long ((f2 q1) &&& (-(f2 q1))))])
          refine own_st (fun t k => XS.lshl X34.here hx rfl (hb hby at_156) rfl k) ?_
          show OG p e _ s below _ T34 (mkF m 157 #[.val (.long q1), .second, .val (.int (2 : Int32)), .val (.long (f2 q1)), .second, .val (.long ((f2 q1) &&& (-(f2 q1)))), .second] [(.long ((1 : Int64) <<< ((((2 : Int32) * (8 : Int32)) + (7 : Int32)) &&& 0x3f).toInt64)), (.long ((f2 q1) &&& (-(f2 q1))))])
          refine own_st (fun t k => XS.lcmp X34.here hx rfl (hb hby at_157) rfl k) ?_
          show OG p e _ s below _ T34 (mkF m 158 #[.val (.long q1), .second, .val (.int (2 : Int32)), .val (.long (f2 q1)), .second, .val (.long ((f2 q1) &&& (-(f2 q1)))), .second] [(.int (lcmpW ((f2 q1) &&& (-(f2 q1))) ((1 : Int64) <<< ((((2 : Int32) * (8 : Int32)) + (7 : Int32)) &&& 0x3f).toInt64)))])
          by_cases c36 : ((f2 q1) &&& (-(f2 q1))) = ((1 : Int64) <<< ((((2 : Int32) * (8 : Int32)) + (7 : Int32)) &&& 0x3f).toInt64)
          · refine own_st (fun t k => XS.ifNo X34.here hx rfl (hb hby at_158) rfl (own_if0 (teq ((lw_eq _ _).mpr c36)).2) k) ?_
            show OG p e _ s below _ T34 (mkF m 161 #[.val (.long q1), .second, .val (.int (2 : Int32)), .val (.long (f2 q1)), .second, .val (.long ((f2 q1) &&& (-(f2 q1)))), .second] [])
            refine own_st (fun t k => XS.iconst X34.here hx rfl (hb hby at_161) k) ?_
            show OG p e _ s below _ T34 (mkF m 162 #[.val (.long q1), .second, .val (.int (2 : Int32)), .val (.long (f2 q1)), .second, .val (.long ((f2 q1) &&& (-(f2 q1)))), .second] [(.int (1 : Int32))])
            refine own_st (fun t k => XS.goto X34.here hx rfl (pc0 := 162) (pc' := 166) rfl (hb hby at_162) (by decide) (by decide) k) ?_
            show OG p e _ s below _ T34 (mkF m 166 #[.val (.long q1), .second, .val (.int (2 : Int32)), .val (.long (f2 q1)), .second, .val (.long ((f2 q1) &&& (-(f2 q1)))), .second] [(.int (1 : Int32))])
            exact own_retZ X34 hx (t := .boolean) hret (by simp) hlk (hb hby at_166) (by decide) (by decide) (w := (1 : Int32)) rfl ⟨congrArg (fun z => some (Value.int z)) (show f0 q1 = (1 : Int32) from (by rw [f0, if_pos c2, if_pos c4, if_neg c6, if_neg c35, if_pos c36])).symm, rfl, e34⟩
          · refine own_st (fun t k => XS.ifYes X34.here hx rfl (pc0 := 158) (pc' := 165) rfl (hb hby at_158) rfl (own_if0 (feq (fun q => c36 ((lw_eq _ _).mp q))).2) (by decide) (by decide) k) ?_
            show OG p e _ s below _ T34 (mkF m 165 #[.val (.long q1), .second, .val (.int (2 : Int32)), .val (.long (f2 q1)), .second, .val (.long ((f2 q1) &&& (-(f2 q1)))), .second] [])
            refine own_st (fun t k => XS.iconst X34.here hx rfl (hb hby at_165) k) ?_
            show OG p e _ s below _ T34 (mkF m 166 #[.val (.long q1), .second, .val (.int (2 : Int32)), .val (.long (f2 q1)), .second, .val (.long ((f2 q1) &&& (-(f2 q1)))), .second] [(.int (0 : Int32))])
            exact own_retZ X34 hx (t := .boolean) hret (by simp) hlk (hb hby at_166) (by decide) (by decide) (w := (0 : Int32)) rfl ⟨congrArg (fun z => some (Value.int z)) (show f0 q1 = (0 : Int32) from (by rw [f0, if_pos c2, if_pos c4, if_neg c6, if_neg c35, if_neg c36])).symm, rfl, e34⟩
    · refine own_st (fun t k => XS.ifNo X3.here hx rfl (hb hby at_18) rfl (own_if0 (feq c4).1) k) ?_
      show OG p e _ s below _ T3 (mkF m 21 #[.val (.long q1), .second, .unset, .unset, .unset, .unset, .unset] [])
      refine own_st (fun t k => XS.iconst X3.here hx rfl (hb hby at_21) k) ?_
      show OG p e _ s below _ T3 (mkF m 22 #[.val (.long q1), .second, .unset, .unset, .unset, .unset, .unset] [(.int (1 : Int32))])
      refine own_st (fun t k => XS.istoreN X3.here hx rfl (hb hby at_22) rfl (l' := #[.val (.long q1), .second, .val (.int (1 : Int32)), .unset, .unset, .unset, .unset]) rfl k) ?_
      show OG p e _ s below _ T3 (mkF m 23 #[.val (.long q1), .second, .val (.int (1 : Int32)), .unset, .unset, .unset, .unset] [])
      refine own_st (fun t k => XS.goto X3.here hx rfl (pc0 := 23) (pc' := 111) rfl (hb hby at_23) (by decide) (by decide) k) ?_
      show OG p e _ s below _ T3 (mkF m 111 #[.val (.long q1), .second, .val (.int (1 : Int32)), .unset, .unset, .unset, .unset] [])
      refine own_st (fun t k => XS.lloadN X3.here hx rfl (hb hby at_111) rfl k) ?_
      show OG p e _ s below _ T3 (mkF m 112 #[.val (.long q1), .second, .val (.int (1 : Int32)), .unset, .unset, .unset, .unset] [(.long q1)])
      obtain ⟨_, _, ⟨T37, L37, k37, n37⟩, -, X37, ⟨Lc37, hQ37, l37, y37, z37⟩, st37⟩ := Jvm.LawKit.callS X3 hx (y := (⟨"com/example/vetted_envelope/vettedenvelope/io/json/ByteWords", "notPlain", "(J)J"⟩ : MethodName)) hown (mvT hZ (hw _ (List.mem_of_getElem? (i := 4) rfl))) (mvT hZ (hw _ (List.mem_of_getElem? (i := 5) rfl))) (mvT hZ (hw _ (List.mem_of_getElem? (i := 6) rfl))) (mvT hZ (hw _ (List.mem_of_getElem? (i := 7) rfl))) (by decide) (backOf (W := 0) (rm := ({ frames := 0, cells := 0, slots := 0, locals := 0 } : Room)) (rm2 l Z a0 hw [] q1 h0) hZ (hw _ (List.mem_of_getElem? (i := 7) rfl)) (hw _ (List.mem_of_getElem? (i := 6) rfl)) (by decide) (by decide)) (g := (mkF m 112 #[.val (.long q1), .second, .val (.int (1 : Int32)), .unset, .unset, .unset, .unset] [(.long q1)])) rfl (by rw [hml]; rfl) (argsL := [(.long q1)]) (rest := []) (lenOf pd__J_J rfl) rfl (by show 2 * 0 + _ ≤ _; exact Nat.le_of_eq rfl) (hb hby at_112) (fun _ _ => ⟨rfl, e3, (by decide : 0 + 0 ≤ _), (by decide : 0 + 0 ≤ _)⟩)
      dsimp only [Pt.U, Pt.locs, Pt.cells, Pt.slots] at X37 l37 y37 z37 st37 hQ37
      subst l37 y37 z37
      obtain ⟨rfl, rfl, e37⟩ := hQ37
      refine own_st st37 ?_
      show OG p e _ s below _ T37 (mkF m 115 #[.val (.long q1), .second, .val (.int (1 : Int32)), .unset, .unset, .unset, .unset] [(.long (f2 q1))])
      refine own_st (fun t k => XS.lstoreN X37.here hx rfl (hb hby at_115) rfl (l' := #[.val (.long q1), .second, .val (.int (1 : Int32)), .val (.long (f2 q1)), .second, .unset, .unset]) rfl k) ?_
      show OG p e _ s below _ T37 (mkF m 116 #[.val (.long q1), .second, .val (.int (1 : Int32)), .val (.long (f2 q1)), .second, .unset, .unset] [])
      refine own_st (fun t k => XS.iloadN X37.here hx rfl (hb hby at_116) rfl k) ?_
      show OG p e _ s below _ T37 (mkF m 117 #[.val (.long q1), .second, .val (.int (1 : Int32)), .val (.long (f2 q1)), .second, .unset, .unset] [(.int (1 : Int32))])
      refine own_st (fun t k => XS.bipush X37.here hx rfl (hb hby at_117) k) ?_
      show OG p e _ s below _ T37 (mkF m 119 #[.val (.long q1), .second, .val (.int (1 : Int32)), .val (.long (f2 q1)), .second, .unset, .unset] [(.int (8 : Int32)), (.int (1 : Int32))])
      refine own_st (fun t k => XS.icmpYes X37.here hx rfl (pc0 := 119) (pc' := 134) rfl (hb hby at_119) rfl (by decide) (by decide) (by decide) k) ?_
      show OG p e _ s below _ T37 (mkF m 134 #[.val (.long q1), .second, .val (.int (1 : Int32)), .val (.long (f2 q1)), .second, .unset, .unset] [])
      refine own_st (fun t k => XS.lloadN X37.here hx rfl (hb hby at_134) rfl k) ?_
      show OG p e _ s below _ T37 (mkF m 135 #[.val (.long q1), .second, .val (.int (1 : Int32)), .val (.long (f2 q1)), .second, .unset, .unset] [(.long (f2 q1))])
      refine own_st (fun t k => XS.lloadN X37.here hx rfl (hb hby at_135) rfl k) ?_
      show OG p e _ s below _ T37 (mkF m 136 #[.val (.long q1), .second, .val (.int (1 : Int32)), .val (.long (f2 q1)), .second, .unset, .unset] [(.long (f2 q1)), (.long (f2 q1))])
      refine own_st (fun t k => XS.lneg X37.here hx rfl (hb hby at_136) rfl k) ?_
      show OG p e _ s below _ T37 (mkF m 137 #[.val (.long q1), .second, .val (.int (1 : Int32)), .val (.long (f2 q1)), .second, .unset, .unset] [(.long (-(f2 q1))), (.long (f2 q1))])
      refine own_st (fun t k => XS.land X37.here hx rfl (hb hby at_137) rfl k) ?_
      show OG p e _ s below _ T37 (mkF m 138 #[.val (.long q1), .second, .val (.int (1 : Int32)), .val (.long (f2 q1)), .second, .unset, .unset] [(.long ((f2 q1) &&& (-(f2 q1))))])
      refine own_st (fun t k => XS.lstore X37.here hx rfl (hb hby at_138) rfl (l' := #[.val (.long q1), .second, .val (.int (1 : Int32)), .val (.long (f2 q1)), .second, .val (.long ((f2 q1) &&& (-(f2 q1)))), .second]) rfl k) ?_
      show OG p e _ s below _ T37 (mkF m 140 #[.val (.long q1), .second, .val (.int (1 : Int32)), .val (.long (f2 q1)), .second, .val (.long ((f2 q1) &&& (-(f2 q1)))), .second] [])
      refine own_st (fun t k => XS.lloadN X37.here hx rfl (hb hby at_140) rfl k) ?_
      show OG p e _ s below _ T37 (mkF m 141 #[.val (.long q1), .second, .val (.int (1 : Int32)), .val (.long (f2 q1)), .second, .val (.long ((f2 q1) &&& (-(f2 q1)))), .second] [(.long (f2 q1))])
      refine own_st (fun t k => XS.lconst X37.here hx rfl (hb hby at_141) k) ?_
      show OG p e _ s below _ T37 (mkF m 142 #[.val (.long q1), .second, .val (.int (1 : Int32)), .val (.long (f2 q1)), .second, .val (.long ((f2 q1) &&& (-(f2 q1)))), .second] [(.long (0 : Int64)), (.long (f2 q1))])
      refine own_st (fun t k => XS.lcmp X37.here hx rfl (hb hby at_142) rfl k) ?_
      show OG p e _ s below _ T37 (mkF m 143 #[.val (.long q1), .second, .val (.int (1 : Int32)), .val (.long (f2 q1)), .second, .val (.long ((f2 q1) &&& (-(f2 q1)))), .second] [(.int (lcmpW (f2 q1) (0 : Int64)))])
      by_cases c38 : (f2 q1) = (0 : Int64)
      · refine own_st (fun t k => XS.ifYes X37.here hx rfl (pc0 := 143) (pc' := 165) rfl (hb hby at_143) rfl (own_if0 (teq ((lw_eq _ _).mpr c38)).1) (by decide) (by decide) k) ?_
        show OG p e _ s below _ T37 (mkF m 165 #[.val (.long q1), .second, .val (.int (1 : Int32)), .val (.long (f2 q1)), .second, .val (.long ((f2 q1) &&& (-(f2 q1)))), .second] [])
        refine own_st (fun t k => XS.iconst X37.here hx rfl (hb hby at_165) k) ?_
        show OG p e _ s below _ T37 (mkF m 166 #[.val (.long q1), .second, .val (.int (1 : Int32)), .val (.long (f2 q1)), .second, .val (.long ((f2 q1) &&& (-(f2 q1)))), .second] [(.int (0 : Int32))])
        exact own_retZ X37 hx (t := .boolean) hret (by simp) hlk (hb hby at_166) (by decide) (by decide) (w := (0 : Int32)) rfl ⟨congrArg (fun z => some (Value.int z)) (show f0 q1 = (0 : Int32) from (by rw [f0, if_pos c2, if_neg c4, if_pos c38])).symm, rfl, e37⟩
      · refine own_st (fun t k => XS.ifNo X37.here hx rfl (hb hby at_143) rfl (own_if0 (feq (fun q => c38 ((lw_eq _ _).mp q))).1) k) ?_
        show OG p e _ s below _ T37 (mkF m 146 #[.val (.long q1), .second, .val (.int (1 : Int32)), .val (.long (f2 q1)), .second, .val (.long ((f2 q1) &&& (-(f2 q1)))), .second] [])
        refine own_st (fun t k => XS.lload X37.here hx rfl (hb hby at_146) rfl k) ?_
        show OG p e _ s below _ T37 (mkF m 148 #[.val (.long q1), .second, .val (.int (1 : Int32)), .val (.long (f2 q1)), .second, .val (.long ((f2 q1) &&& (-(f2 q1)))), .second] [(.long ((f2 q1) &&& (-(f2 q1))))])
        refine own_st (fun t k => XS.lconst X37.here hx rfl (hb hby at_148) k) ?_
        show OG p e _ s below _ T37 (mkF m 149 #[.val (.long q1), .second, .val (.int (1 : Int32)), .val (.long (f2 q1)), .second, .val (.long ((f2 q1) &&& (-(f2 q1)))), .second] [(.long (1 : Int64)), (.long ((f2 q1) &&& (-(f2 q1))))])
        refine own_st (fun t k => XS.iloadN X37.here hx rfl (hb hby at_149) rfl k) ?_
        show OG p e _ s below _ T37 (mkF m 150 #[.val (.long q1), .second, .val (.int (1 : Int32)), .val (.long (f2 q1)), .second, .val (.long ((f2 q1) &&& (-(f2 q1)))), .second] [(.int (1 : Int32)), (.long (1 : Int64)), (.long ((f2 q1) &&& (-(f2 q1))))])
        refine own_st (fun t k => XS.bipush X37.here hx rfl (hb hby at_150) k) ?_
        show OG p e _ s below _ T37 (mkF m 152 #[.val (.long q1), .second, .val (.int (1 : Int32)), .val (.long (f2 q1)), .second, .val (.long ((f2 q1) &&& (-(f2 q1)))), .second] [(.int (8 : Int32)), (.int (1 : Int32)), (.long (1 : Int64)), (.long ((f2 q1) &&& (-(f2 q1))))])
        refine own_st (fun t k => XS.imul X37.here hx rfl (hb hby at_152) rfl k) ?_
        show OG p e _ s below _ T37 (mkF m 153 #[.val (.long q1), .second, .val (.int (1 : Int32)), .val (.long (f2 q1)), .second, .val (.long ((f2 q1) &&& (-(f2 q1)))), .second] [(.int ((1 : Int32) * (8 : Int32))), (.long (1 : Int64)), (.long ((f2 q1) &&& (-(f2 q1))))])
        refine own_st (fun t k => XS.bipush X37.here hx rfl (hb hby at_153) k) ?_
        show OG p e _ s below _ T37 (mkF m 155 #[.val (.long q1), .second, .val (.int (1 : Int32)), .val (.long (f2 q1)), .second, .val (.long ((f2 q1) &&& (-(f2 q1)))), .second] [(.int (7 : Int32)), (.int ((1 : Int32) * (8 : Int32))), (.long (1 : Int64)), (.long ((f2 q1) &&& (-(f2 q1))))])
        refine own_st (fun t k => XS.iadd X37.here hx rfl (hb hby at_155) rfl k) ?_
        show OG p e _ s below _ T37 (mkF m 156 #[.val (.long q1), .second, .val (.int (1 : Int32)), .val (.long (f2 q1)), .second, .val (.long ((f2 q1) &&& (-(f2 q1)))), .second] [(.int (((1 : Int32) * (8 : Int32)) + (7 : Int32))), (.long (1 : Int64)), (.long ((f2 q1) &&& (-(f2 q1))))])
        refine own_st (fun t k => XS.lshl X37.here hx rfl (hb hby at_156) rfl k) ?_
        show OG p e _ s below _ T37 (mkF m 157 #[.val (.long q1), .second, .val (.int (1 : Int32)), .val (.long (f2 q1)), .second, .val (.long ((f2 q1) &&& (-(f2 q1)))), .second] [(.long ((1 : Int64) <<< ((((1 : Int32) * (8 : Int32)) + (7 : Int32)) &&& 0x3f).toInt64)), (.long ((f2 q1) &&& (-(f2 q1))))])
        refine own_st (fun t k => XS.lcmp X37.here hx rfl (hb hby at_157) rfl k) ?_
        show OG p e _ s below _ T37 (mkF m 158 #[.val (.long q1), .second, .val (.int (1 : Int32)), .val (.long (f2 q1)), .second, .val (.long ((f2 q1) &&& (-(f2 q1)))), .second] [(.int (lcmpW ((f2 q1) &&& (-(f2 q1))) ((1 : Int64) <<< ((((1 : Int32) * (8 : Int32)) + (7 : Int32)) &&& 0x3f).toInt64)))])
        by_cases c39 : ((f2 q1) &&& (-(f2 q1))) = ((1 : Int64) <<< ((((1 : Int32) * (8 : Int32)) + (7 : Int32)) &&& 0x3f).toInt64)
        · refine own_st (fun t k => XS.ifNo X37.here hx rfl (hb hby at_158) rfl (own_if0 (teq ((lw_eq _ _).mpr c39)).2) k) ?_
          show OG p e _ s below _ T37 (mkF m 161 #[.val (.long q1), .second, .val (.int (1 : Int32)), .val (.long (f2 q1)), .second, .val (.long ((f2 q1) &&& (-(f2 q1)))), .second] [])
          refine own_st (fun t k => XS.iconst X37.here hx rfl (hb hby at_161) k) ?_
          show OG p e _ s below _ T37 (mkF m 162 #[.val (.long q1), .second, .val (.int (1 : Int32)), .val (.long (f2 q1)), .second, .val (.long ((f2 q1) &&& (-(f2 q1)))), .second] [(.int (1 : Int32))])
          refine own_st (fun t k => XS.goto X37.here hx rfl (pc0 := 162) (pc' := 166) rfl (hb hby at_162) (by decide) (by decide) k) ?_
          show OG p e _ s below _ T37 (mkF m 166 #[.val (.long q1), .second, .val (.int (1 : Int32)), .val (.long (f2 q1)), .second, .val (.long ((f2 q1) &&& (-(f2 q1)))), .second] [(.int (1 : Int32))])
          exact own_retZ X37 hx (t := .boolean) hret (by simp) hlk (hb hby at_166) (by decide) (by decide) (w := (1 : Int32)) rfl ⟨congrArg (fun z => some (Value.int z)) (show f0 q1 = (1 : Int32) from (by rw [f0, if_pos c2, if_neg c4, if_neg c38, if_pos c39])).symm, rfl, e37⟩
        · refine own_st (fun t k => XS.ifYes X37.here hx rfl (pc0 := 158) (pc' := 165) rfl (hb hby at_158) rfl (own_if0 (feq (fun q => c39 ((lw_eq _ _).mp q))).2) (by decide) (by decide) k) ?_
          show OG p e _ s below _ T37 (mkF m 165 #[.val (.long q1), .second, .val (.int (1 : Int32)), .val (.long (f2 q1)), .second, .val (.long ((f2 q1) &&& (-(f2 q1)))), .second] [])
          refine own_st (fun t k => XS.iconst X37.here hx rfl (hb hby at_165) k) ?_
          show OG p e _ s below _ T37 (mkF m 166 #[.val (.long q1), .second, .val (.int (1 : Int32)), .val (.long (f2 q1)), .second, .val (.long ((f2 q1) &&& (-(f2 q1)))), .second] [(.int (0 : Int32))])
          exact own_retZ X37 hx (t := .boolean) hret (by simp) hlk (hb hby at_166) (by decide) (by decide) (w := (0 : Int32)) rfl ⟨congrArg (fun z => some (Value.int z)) (show f0 q1 = (0 : Int32) from (by rw [f0, if_pos c2, if_neg c4, if_neg c38, if_neg c39])).symm, rfl, e37⟩
  · refine own_st (fun t k => XS.ifNo X1.here hx rfl (hb hby at_5) rfl (own_if0 (feq c2).1) k) ?_
    show OG p e _ s below _ T1 (mkF m 8 #[.val (.long q1), .second, .unset, .unset, .unset, .unset, .unset] [])
    refine own_st (fun t k => XS.iconst X1.here hx rfl (hb hby at_8) k) ?_
    show OG p e _ s below _ T1 (mkF m 9 #[.val (.long q1), .second, .unset, .unset, .unset, .unset, .unset] [(.int (0 : Int32))])
    refine own_st (fun t k => XS.istoreN X1.here hx rfl (hb hby at_9) rfl (l' := #[.val (.long q1), .second, .val (.int (0 : Int32)), .unset, .unset, .unset, .unset]) rfl k) ?_
    show OG p e _ s below _ T1 (mkF m 10 #[.val (.long q1), .second, .val (.int (0 : Int32)), .unset, .unset, .unset, .unset] [])
    refine own_st (fun t k => XS.goto X1.here hx rfl (pc0 := 10) (pc' := 111) rfl (hb hby at_10) (by decide) (by decide) k) ?_
    show OG p e _ s below _ T1 (mkF m 111 #[.val (.long q1), .second, .val (.int (0 : Int32)), .unset, .unset, .unset, .unset] [])
    refine own_st (fun t k => XS.lloadN X1.here hx rfl (hb hby at_111) rfl k) ?_
    show OG p e _ s below _ T1 (mkF m 112 #[.val (.long q1), .second, .val (.int (0 : Int32)), .unset, .unset, .unset, .unset] [(.long q1)])
    obtain ⟨_, _, ⟨T40, L40, k40, n40⟩, -, X40, ⟨Lc40, hQ40, l40, y40, z40⟩, st40⟩ := Jvm.LawKit.callS X1 hx (y := (⟨"com/example/vetted_envelope/vettedenvelope/io/json/ByteWords", "notPlain", "(J)J"⟩ : MethodName)) hown (mvT hZ (hw _ (List.mem_of_getElem? (i := 4) rfl))) (mvT hZ (hw _ (List.mem_of_getElem? (i := 5) rfl))) (mvT hZ (hw _ (List.mem_of_getElem? (i := 6) rfl))) (mvT hZ (hw _ (List.mem_of_getElem? (i := 7) rfl))) (by decide) (backOf (W := 0) (rm := ({ frames := 0, cells := 0, slots := 0, locals := 0 } : Room)) (rm2 l Z a0 hw [] q1 h0) hZ (hw _ (List.mem_of_getElem? (i := 7) rfl)) (hw _ (List.mem_of_getElem? (i := 6) rfl)) (by decide) (by decide)) (g := (mkF m 112 #[.val (.long q1), .second, .val (.int (0 : Int32)), .unset, .unset, .unset, .unset] [(.long q1)])) rfl (by rw [hml]; rfl) (argsL := [(.long q1)]) (rest := []) (lenOf pd__J_J rfl) rfl (by show 2 * 0 + _ ≤ _; exact Nat.le_of_eq rfl) (hb hby at_112) (fun _ _ => ⟨rfl, e1, (by decide : 0 + 0 ≤ _), (by decide : 0 + 0 ≤ _)⟩)
    dsimp only [Pt.U, Pt.locs, Pt.cells, Pt.slots] at X40 l40 y40 z40 st40 hQ40
    subst l40 y40 z40
    obtain ⟨rfl, rfl, e40⟩ := hQ40
    refine own_st st40 ?_
    show OG p e _ s below _ T40 (mkF m 115 #[.val (.long q1), .second, .val (.int (0 : Int32)), .unset, .unset, .unset, .unset] [(.long (f2 q1))])
    refine own_st (fun t k => XS.lstoreN X40.here hx rfl (hb hby at_115) rfl (l' := #[.val (.long q1), .second, .val (.int (0 : Int32)), .val (.long (f2 q1)), .second, .unset, .unset]) rfl k) ?_
    show OG p e _ s below _ T40 (mkF m 116 #[.val (.long q1), .second, .val (.int (0 : Int32)), .val (.long (f2 q1)), .second, .unset, .unset] [])
    refine own_st (fun t k => XS.iloadN X40.here hx rfl (hb hby at_116) rfl k) ?_
    show OG p e _ s below _ T40 (mkF m 117 #[.val (.long q1), .second, .val (.int (0 : Int32)), .val (.long (f2 q1)), .second, .unset, .unset] [(.int (0 : Int32))])
    refine own_st (fun t k => XS.bipush X40.here hx rfl (hb hby at_117) k) ?_
    show OG p e _ s below _ T40 (mkF m 119 #[.val (.long q1), .second, .val (.int (0 : Int32)), .val (.long (f2 q1)), .second, .unset, .unset] [(.int (8 : Int32)), (.int (0 : Int32))])
    refine own_st (fun t k => XS.icmpYes X40.here hx rfl (pc0 := 119) (pc' := 134) rfl (hb hby at_119) rfl (by decide) (by decide) (by decide) k) ?_
    show OG p e _ s below _ T40 (mkF m 134 #[.val (.long q1), .second, .val (.int (0 : Int32)), .val (.long (f2 q1)), .second, .unset, .unset] [])
    refine own_st (fun t k => XS.lloadN X40.here hx rfl (hb hby at_134) rfl k) ?_
    show OG p e _ s below _ T40 (mkF m 135 #[.val (.long q1), .second, .val (.int (0 : Int32)), .val (.long (f2 q1)), .second, .unset, .unset] [(.long (f2 q1))])
    refine own_st (fun t k => XS.lloadN X40.here hx rfl (hb hby at_135) rfl k) ?_
    show OG p e _ s below _ T40 (mkF m 136 #[.val (.long q1), .second, .val (.int (0 : Int32)), .val (.long (f2 q1)), .second, .unset, .unset] [(.long (f2 q1)), (.long (f2 q1))])
    refine own_st (fun t k => XS.lneg X40.here hx rfl (hb hby at_136) rfl k) ?_
    show OG p e _ s below _ T40 (mkF m 137 #[.val (.long q1), .second, .val (.int (0 : Int32)), .val (.long (f2 q1)), .second, .unset, .unset] [(.long (-(f2 q1))), (.long (f2 q1))])
    refine own_st (fun t k => XS.land X40.here hx rfl (hb hby at_137) rfl k) ?_
    show OG p e _ s below _ T40 (mkF m 138 #[.val (.long q1), .second, .val (.int (0 : Int32)), .val (.long (f2 q1)), .second, .unset, .unset] [(.long ((f2 q1) &&& (-(f2 q1))))])
    refine own_st (fun t k => XS.lstore X40.here hx rfl (hb hby at_138) rfl (l' := #[.val (.long q1), .second, .val (.int (0 : Int32)), .val (.long (f2 q1)), .second, .val (.long ((f2 q1) &&& (-(f2 q1)))), .second]) rfl k) ?_
    show OG p e _ s below _ T40 (mkF m 140 #[.val (.long q1), .second, .val (.int (0 : Int32)), .val (.long (f2 q1)), .second, .val (.long ((f2 q1) &&& (-(f2 q1)))), .second] [])
    refine own_st (fun t k => XS.lloadN X40.here hx rfl (hb hby at_140) rfl k) ?_
    show OG p e _ s below _ T40 (mkF m 141 #[.val (.long q1), .second, .val (.int (0 : Int32)), .val (.long (f2 q1)), .second, .val (.long ((f2 q1) &&& (-(f2 q1)))), .second] [(.long (f2 q1))])
    refine own_st (fun t k => XS.lconst X40.here hx rfl (hb hby at_141) k) ?_
    show OG p e _ s below _ T40 (mkF m 142 #[.val (.long q1), .second, .val (.int (0 : Int32)), .val (.long (f2 q1)), .second, .val (.long ((f2 q1) &&& (-(f2 q1)))), .second] [(.long (0 : Int64)), (.long (f2 q1))])
    refine own_st (fun t k => XS.lcmp X40.here hx rfl (hb hby at_142) rfl k) ?_
    show OG p e _ s below _ T40 (mkF m 143 #[.val (.long q1), .second, .val (.int (0 : Int32)), .val (.long (f2 q1)), .second, .val (.long ((f2 q1) &&& (-(f2 q1)))), .second] [(.int (lcmpW (f2 q1) (0 : Int64)))])
    by_cases c41 : (f2 q1) = (0 : Int64)
    · refine own_st (fun t k => XS.ifYes X40.here hx rfl (pc0 := 143) (pc' := 165) rfl (hb hby at_143) rfl (own_if0 (teq ((lw_eq _ _).mpr c41)).1) (by decide) (by decide) k) ?_
      show OG p e _ s below _ T40 (mkF m 165 #[.val (.long q1), .second, .val (.int (0 : Int32)), .val (.long (f2 q1)), .second, .val (.long ((f2 q1) &&& (-(f2 q1)))), .second] [])
      refine own_st (fun t k => XS.iconst X40.here hx rfl (hb hby at_165) k) ?_
      show OG p e _ s below _ T40 (mkF m 166 #[.val (.long q1), .second, .val (.int (0 : Int32)), .val (.long (f2 q1)), .second, .val (.long ((f2 q1) &&& (-(f2 q1)))), .second] [(.int (0 : Int32))])
      exact own_retZ X40 hx (t := .boolean) hret (by simp) hlk (hb hby at_166) (by decide) (by decide) (w := (0 : Int32)) rfl ⟨congrArg (fun z => some (Value.int z)) (show f0 q1 = (0 : Int32) from (by rw [f0, if_neg c2, if_pos c41])).symm, rfl, e40⟩
    · refine own_st (fun t k => XS.ifNo X40.here hx rfl (hb hby at_143) rfl (own_if0 (feq (fun q => c41 ((lw_eq _ _).mp q))).1) k) ?_
      show OG p e _ s below _ T40 (mkF m 146 #[.val (.long q1), .second, .val (.int (0 : Int32)), .val (.long (f2 q1)), .second, .val (.long ((f2 q1) &&& (-(f2 q1)))), .second] [])
      refine own_st (fun t k => XS.lload X40.here hx rfl (hb hby at_146) rfl k) ?_
      show OG p e _ s below _ T40 (mkF m 148 #[.val (.long q1), .second, .val (.int (0 : Int32)), .val (.long (f2 q1)), .second, .val (.long ((f2 q1) &&& (-(f2 q1)))), .second] [(.long ((f2 q1) &&& (-(f2 q1))))])
      refine own_st (fun t k => XS.lconst X40.here hx rfl (hb hby at_148) k) ?_
      show OG p e _ s below _ T40 (mkF m 149 #[.val (.long q1), .second, .val (.int (0 : Int32)), .val (.long (f2 q1)), .second, .val (.long ((f2 q1) &&& (-(f2 q1)))), .second] [(.long (1 : Int64)), (.long ((f2 q1) &&& (-(f2 q1))))])
      refine own_st (fun t k => XS.iloadN X40.here hx rfl (hb hby at_149) rfl k) ?_
      show OG p e _ s below _ T40 (mkF m 150 #[.val (.long q1), .second, .val (.int (0 : Int32)), .val (.long (f2 q1)), .second, .val (.long ((f2 q1) &&& (-(f2 q1)))), .second] [(.int (0 : Int32)), (.long (1 : Int64)), (.long ((f2 q1) &&& (-(f2 q1))))])
      refine own_st (fun t k => XS.bipush X40.here hx rfl (hb hby at_150) k) ?_
      show OG p e _ s below _ T40 (mkF m 152 #[.val (.long q1), .second, .val (.int (0 : Int32)), .val (.long (f2 q1)), .second, .val (.long ((f2 q1) &&& (-(f2 q1)))), .second] [(.int (8 : Int32)), (.int (0 : Int32)), (.long (1 : Int64)), (.long ((f2 q1) &&& (-(f2 q1))))])
      refine own_st (fun t k => XS.imul X40.here hx rfl (hb hby at_152) rfl k) ?_
      show OG p e _ s below _ T40 (mkF m 153 #[.val (.long q1), .second, .val (.int (0 : Int32)), .val (.long (f2 q1)), .second, .val (.long ((f2 q1) &&& (-(f2 q1)))), .second] [(.int ((0 : Int32) * (8 : Int32))), (.long (1 : Int64)), (.long ((f2 q1) &&& (-(f2 q1))))])
      refine own_st (fun t k => XS.bipush X40.here hx rfl (hb hby at_153) k) ?_
      show OG p e _ s below _ T40 (mkF m 155 #[.val (.long q1), .second, .val (.int (0 : Int32)), .val (.long (f2 q1)), .second, .val (.long ((f2 q1) &&& (-(f2 q1)))), .second] [(.int (7 : Int32)), (.int ((0 : Int32) * (8 : Int32))), (.long (1 : Int64)), (.long ((f2 q1) &&& (-(f2 q1))))])
      refine own_st (fun t k => XS.iadd X40.here hx rfl (hb hby at_155) rfl k) ?_
      show OG p e _ s below _ T40 (mkF m 156 #[.val (.long q1), .second, .val (.int (0 : Int32)), .val (.long (f2 q1)), .second, .val (.long ((f2 q1) &&& (-(f2 q1)))), .second] [(.int (((0 : Int32) * (8 : Int32)) + (7 : Int32))), (.long (1 : Int64)), (.long ((f2 q1) &&& (-(f2 q1))))])
      refine own_st (fun t k => XS.lshl X40.here hx rfl (hb hby at_156) rfl k) ?_
      show OG p e _ s below _ T40 (mkF m 157 #[.val (.long q1), .second, .val (.int (0 : Int32)), .val (.long (f2 q1)), .second, .val (.long ((f2 q1) &&& (-(f2 q1)))), .second] [(.long ((1 : Int64) <<< ((((0 : Int32) * (8 : Int32)) + (7 : Int32)) &&& 0x3f).toInt64)), (.long ((f2 q1) &&& (-(f2 q1))))])
      refine own_st (fun t k => XS.lcmp X40.here hx rfl (hb hby at_157) rfl k) ?_
      show OG p e _ s below _ T40 (mkF m 158 #[.val (.long q1), .second, .val (.int (0 : Int32)), .val (.long (f2 q1)), .second, .val (.long ((f2 q1) &&& (-(f2 q1)))), .second] [(.int (lcmpW ((f2 q1) &&& (-(f2 q1))) ((1 : Int64) <<< ((((0 : Int32) * (8 : Int32)) + (7 : Int32)) &&& 0x3f).toInt64)))])
      by_cases c42 : ((f2 q1) &&& (-(f2 q1))) = ((1 : Int64) <<< ((((0 : Int32) * (8 : Int32)) + (7 : Int32)) &&& 0x3f).toInt64)
      · refine own_st (fun t k => XS.ifNo X40.here hx rfl (hb hby at_158) rfl (own_if0 (teq ((lw_eq _ _).mpr c42)).2) k) ?_
        show OG p e _ s below _ T40 (mkF m 161 #[.val (.long q1), .second, .val (.int (0 : Int32)), .val (.long (f2 q1)), .second, .val (.long ((f2 q1) &&& (-(f2 q1)))), .second] [])
        refine own_st (fun t k => XS.iconst X40.here hx rfl (hb hby at_161) k) ?_
        show OG p e _ s below _ T40 (mkF m 162 #[.val (.long q1), .second, .val (.int (0 : Int32)), .val (.long (f2 q1)), .second, .val (.long ((f2 q1) &&& (-(f2 q1)))), .second] [(.int (1 : Int32))])
        refine own_st (fun t k => XS.goto X40.here hx rfl (pc0 := 162) (pc' := 166) rfl (hb hby at_162) (by decide) (by decide) k) ?_
        show OG p e _ s below _ T40 (mkF m 166 #[.val (.long q1), .second, .val (.int (0 : Int32)), .val (.long (f2 q1)), .second, .val (.long ((f2 q1) &&& (-(f2 q1)))), .second] [(.int (1 : Int32))])
        exact own_retZ X40 hx (t := .boolean) hret (by simp) hlk (hb hby at_166) (by decide) (by decide) (w := (1 : Int32)) rfl ⟨congrArg (fun z => some (Value.int z)) (show f0 q1 = (1 : Int32) from (by rw [f0, if_neg c2, if_neg c41, if_pos c42])).symm, rfl, e40⟩
      · refine own_st (fun t k => XS.ifYes X40.here hx rfl (pc0 := 158) (pc' := 165) rfl (hb hby at_158) rfl (own_if0 (feq (fun q => c42 ((lw_eq _ _).mp q))).2) (by decide) (by decide) k) ?_
        show OG p e _ s below _ T40 (mkF m 165 #[.val (.long q1), .second, .val (.int (0 : Int32)), .val (.long (f2 q1)), .second, .val (.long ((f2 q1) &&& (-(f2 q1)))), .second] [])
        refine own_st (fun t k => XS.iconst X40.here hx rfl (hb hby at_165) k) ?_
        show OG p e _ s below _ T40 (mkF m 166 #[.val (.long q1), .second, .val (.int (0 : Int32)), .val (.long (f2 q1)), .second, .val (.long ((f2 q1) &&& (-(f2 q1)))), .second] [(.int (0 : Int32))])
        exact own_retZ X40 hx (t := .boolean) hret (by simp) hlk (hb hby at_166) (by decide) (by decide) (w := (0 : Int32)) rfl ⟨congrArg (fun z => some (Value.int z)) (show f0 q1 = (0 : Int32) from (by rw [f0, if_neg c2, if_neg c41, if_neg c42])).symm, rfl, e40⟩
/-! the plain law -/
/-! bytes and words, in Nat -/
def own_good (b : Nat) : Bool := decide (32 ≤ b) && decide (b ≠ 34) && decide (b ≠ 92) && decide (b < 128)
theorem own_byte_good : ∀ b : Fin 256, own_good b.val = true → 32 ≤ b.val ∧ 1 ≤ (b.val ^^^ 34) ∧ 1 ≤ (b.val ^^^ 92) ∧ ((((b.val - 32) ||| ((b.val ^^^ 34) - 1)) ||| ((b.val ^^^ 92) - 1)) &&& 128) = 0 := by decide +kernel
theorem own_byte_bad : ∀ b : Fin 256, own_good b.val = false → (((((b.val + 224) % 256) ||| (((b.val ^^^ 34) + 255) % 256)) ||| (((b.val ^^^ 92) + 255) % 256)) &&& 128) = 128 := by decide +kernel
def own_z (y d : Nat) : Nat := (y + 18446744073709551616 - d) % 18446744073709551616
def own_r (W : Nat) : Nat := ((own_z W 2314885530818453536 ||| own_z (W ^^^ 2459565876494606882) 72340172838076673) ||| own_z (W ^^^ 6655295901103053916) 72340172838076673) &&& 9259542123273814144
theorem own_z20 {y y' : Nat} (hy : y < 18446744073709551616) (h : y' % 72057594037927936 = y / 256) (hd : 32 ≤ y % 256) : own_z y 2314885530818453536 % 256 = y % 256 - 32 ∧ (own_z y 2314885530818453536 / 256) % 72057594037927936 = own_z y' 2314885530818453536 % 72057594037927936 := by
  unfold own_z; omega
theorem own_z01 {y y' : Nat} (hy : y < 18446744073709551616) (h : y' % 72057594037927936 = y / 256) (hd : 1 ≤ y % 256) : own_z y 72340172838076673 % 256 = y % 256 - 1 ∧ (own_z y 72340172838076673 / 256) % 72057594037927936 = own_z y' 72340172838076673 % 72057594037927936 := by
  unfold own_z; omega
theorem own_x8 (a b : Nat) : (a ^^^ b) % 256 = (a % 256) ^^^ (b % 256) := Nat.xor_mod_two_pow (n := 8)
theorem own_o8 (a b : Nat) : (a ||| b) % 256 = (a % 256) ||| (b % 256) := Nat.or_mod_two_pow (n := 8)
theorem own_a8 (a b : Nat) : (a &&& b) % 256 = (a % 256) &&& (b % 256) := Nat.and_mod_two_pow (n := 8)
theorem own_x56 (a b : Nat) : (a ^^^ b) % 72057594037927936 = (a % 72057594037927936) ^^^ (b % 72057594037927936) := Nat.xor_mod_two_pow (n := 56)
theorem own_o56 (a b : Nat) : (a ||| b) % 72057594037927936 = (a % 72057594037927936) ||| (b % 72057594037927936) := Nat.or_mod_two_pow (n := 56)
theorem own_a56 (a b : Nat) : (a &&& b) % 72057594037927936 = (a % 72057594037927936) &&& (b % 72057594037927936) := Nat.and_mod_two_pow (n := 56)
theorem own_xd (a b : Nat) : (a ^^^ b) / 256 = (a / 256) ^^^ (b / 256) := Nat.xor_div_two_pow (n := 8)
theorem own_od (a b : Nat) : (a ||| b) / 256 = (a / 256) ||| (b / 256) := Nat.or_div_two_pow (n := 8)
theorem own_ad (a b : Nat) : (a &&& b) / 256 = (a / 256) &&& (b / 256) := Nat.and_div_two_pow (n := 8)
theorem own_xlt {a b : Nat} (ha : a < 18446744073709551616) (hb : b < 18446744073709551616) : a ^^^ b < 18446744073709551616 := Nat.xor_lt_two_pow (n := 64) ha hb
theorem own_xstep {W X : Nat} (hW : W < 18446744073709551616) (hX : X % 72057594037927936 = X / 256) : ((W / 256) ^^^ X) % 72057594037927936 = (W ^^^ X) / 256 := by
  rw [own_x56, hX, own_xd, Nat.mod_eq_of_lt (by omega)]
theorem own_step {W : Nat} (hW : W < 18446744073709551616) (hg : own_good (W % 256) = true) : own_r W % 256 = 0 ∧ (own_r W / 256) % 72057594037927936 = own_r (W / 256) % 72057594037927936 := by
  obtain ⟨b1, b2, b3, b4⟩ := own_byte_good ⟨W % 256, Nat.mod_lt _ (by decide)⟩ hg
  dsimp only at b1 b2 b3 b4
  have z1 := own_z20 (y := W) (y' := W / 256) hW (Nat.mod_eq_of_lt (by omega)) b1
  have e2 : (W ^^^ 2459565876494606882) % 256 = (W % 256) ^^^ 34 := own_x8 _ _
  have e3 : (W ^^^ 6655295901103053916) % 256 = (W % 256) ^^^ 92 := own_x8 _ _
  have z2 := own_z01 (y := W ^^^ 2459565876494606882) (y' := (W / 256) ^^^ 2459565876494606882) (own_xlt hW (by decide)) (own_xstep hW (by decide)) (by rw [e2]; exact b2)
  have z3 := own_z01 (y := W ^^^ 6655295901103053916) (y' := (W / 256) ^^^ 6655295901103053916) (own_xlt hW (by decide)) (own_xstep hW (by decide)) (by rw [e3]; exact b3)
  rw [e2] at z2; rw [e3] at z3
  constructor
  · rw [own_r, own_a8, own_o8, own_o8, z1.1, z2.1, z3.1]; exact b4
  · rw [own_r, own_ad, own_od, own_od, own_a56, own_o56, own_o56, z1.2, z2.2, z3.2, own_r, own_a56, own_o56, own_o56]
theorem own_stop {W : Nat} (hW : W < 18446744073709551616) (hg : own_good (W % 256) = false) : own_r W % 256 = 128 := by
  have b := own_byte_bad ⟨W % 256, Nat.mod_lt _ (by decide)⟩ hg
  dsimp only at b
  have e2 : (W ^^^ 2459565876494606882) % 256 = (W % 256) ^^^ 34 := own_x8 _ _
  have e3 : (W ^^^ 6655295901103053916) % 256 = (W % 256) ^^^ 92 := own_x8 _ _
  have z1 : own_z W 2314885530818453536 % 256 = (W % 256 + 224) % 256 := by unfold own_z; omega
  have z2 : own_z (W ^^^ 2459565876494606882) 72340172838076673 % 256 = (((W % 256) ^^^ 34) + 255) % 256 := by
    have := own_xlt hW (b := 2459565876494606882) (by decide)
    rw [← e2]; unfold own_z; omega
  have z3 : own_z (W ^^^ 6655295901103053916) 72340172838076673 % 256 = (((W % 256) ^^^ 92) + 255) % 256 := by
    have := own_xlt hW (b := 6655295901103053916) (by decide)
    rw [← e3]; unfold own_z; omega
  rw [own_r, own_a8, own_o8, own_o8, z1, z2, z3]; exact b
/-- the lowest bit -/
theorem own_compl (q n : Nat) (h : q < 2 ^ n) : q &&& (2 ^ n - (q + 1)) = 0 := by
  apply Nat.eq_of_testBit_eq
  intro i
  rw [Nat.testBit_and, Nat.testBit_two_pow_sub_succ h, Nat.zero_testBit]
  cases q.testBit i <;> simp
theorem own_low (x : Int64) (t : Nat) (ht : t < 64) (h : x.toBitVec.toNat % 2 ^ (t + 1) = 2 ^ t) : (x &&& -x).toBitVec.toNat = 2 ^ t := by
  have e : (x &&& -x).toBitVec.toNat = x.toBitVec.toNat &&& ((2 ^ 64 - x.toBitVec.toNat) % 2 ^ 64) := by
    show (x.toBitVec &&& (-x).toBitVec).toNat = _
    rw [BitVec.toNat_and, Int64.toBitVec_neg, BitVec.toNat_neg]
  have hx := x.toBitVec.isLt
  generalize x.toBitVec.toNat = n at *
  have hn : 0 < n := by
    rcases Nat.eq_zero_or_pos n with rfl | q
    · rw [Nat.zero_mod] at h; exact absurd h.symm (Nat.ne_of_gt (Nat.two_pow_pos t))
    · exact q
  rw [e, Nat.mod_eq_of_lt (by omega)]
  have hp : 2 ^ 64 = 2 ^ (t + 1) * 2 ^ (63 - t) := by rw [← Nat.pow_add, show t + 1 + (63 - t) = 64 by omega]
  have h2 : 2 ^ (t + 1) = 2 * 2 ^ t := by rw [Nat.pow_succ, Nat.mul_comm]
  have hpos := Nat.two_pow_pos t
  have hdm := Nat.div_add_mod n (2 ^ (t + 1))
  have hq : n / 2 ^ (t + 1) < 2 ^ (63 - t) := by rw [Nat.div_lt_iff_lt_mul (by omega), Nat.mul_comm, ← hp]; exact hx
  rw [h] at hdm
  obtain ⟨q, hqd⟩ : ∃ q, q = n / 2 ^ (t + 1) := ⟨_, rfl⟩
  rw [← hqd] at hdm hq
  have hc := own_compl q (63 - t) hq
  have hm : 2 ^ 64 - n = 2 ^ (t + 1) * (2 ^ (63 - t) - (q + 1)) + 2 ^ t := by
    rw [Nat.mul_sub, ← hp, Nat.mul_add, Nat.mul_one]
    have : 2 ^ (t + 1) * q + 2 ^ (t + 1) ≤ 2 ^ 64 := by
      rw [hp, ← Nat.mul_succ]; exact Nat.mul_le_mul_left _ hq
    omega
  have lo : (n &&& (2 ^ 64 - n)) % 2 ^ (t + 1) = 2 ^ t := by
    rw [Nat.and_mod_two_pow, h, hm, Nat.mul_add_mod, Nat.mod_eq_of_lt (by omega), Nat.and_self]
  have hi : (n &&& (2 ^ 64 - n)) / 2 ^ (t + 1) = 0 := by
    rw [Nat.and_div_two_pow, hm, Nat.mul_add_div (by omega), Nat.div_eq_of_lt (a := 2 ^ t) (by omega), Nat.add_zero, ← hqd]; exact hc
  have := Nat.div_add_mod (n &&& (2 ^ 64 - n)) (2 ^ (t + 1))
  rw [hi, lo] at this; omega
/-- what the project's method gives, as a number -/
theorem own_f2 (w : Int64) : (f2 w).toBitVec.toNat = own_r w.toBitVec.toNat := by
  have hsub : ∀ (a b : Int64), (a - b).toBitVec.toNat = own_z a.toBitVec.toNat b.toBitVec.toNat := by
    intro a b
    rw [Int64.toBitVec_sub, BitVec.toNat_sub]
    have ha := a.toBitVec.isLt
    have hb := b.toBitVec.isLt
    unfold own_z; omega
  have c1 : (2314885530818453536 : Int64).toBitVec.toNat = 2314885530818453536 := by decide
  have c2 : (2459565876494606882 : Int64).toBitVec.toNat = 2459565876494606882 := by decide
  have c3 : (72340172838076673 : Int64).toBitVec.toNat = 72340172838076673 := by decide
  have c4 : (6655295901103053916 : Int64).toBitVec.toNat = 6655295901103053916 := by decide
  have c5 : (-9187201950435737472 : Int64).toBitVec.toNat = 9259542123273814144 := by decide
  rw [f2, Int64.toBitVec_and, BitVec.toNat_and, Int64.toBitVec_or, BitVec.toNat_or, Int64.toBitVec_or, BitVec.toNat_or, hsub, hsub, hsub, Int64.toBitVec_xor, BitVec.toNat_xor, Int64.toBitVec_xor, BitVec.toNat_xor, c1, c2, c3, c4, c5, own_r]
/-- a byte of the word -/
theorem own_b (w : Int64) (i : Nat) (hi : i < 8) : (g1_1 w (Int32.ofNat i)).toInt = ((w.toBitVec.toNat / 256 ^ i) % 256 : Nat) := by
  have hw := w.toBitVec.isLt
  have hW : w.toInt % 18446744073709551616 = (w.toBitVec.toNat : Int) := by
    show w.toBitVec.toInt % 18446744073709551616 = _
    rw [BitVec.toInt_eq_toNat_cond]; split <;> omega
  have key : ∀ (y : Int64) (V : Nat), y.toInt % 4294967296 = (V : Int) % 4294967296 → ((y.toInt32) &&& (255 : Int32)).toInt = ((V % 256 : Nat) : Int) := by
    intro y V h
    have h1 := c_l2i y
    rw [c_mask _ _ 8 (by decide) (by decide)]
    omega
  match i, hi with
  | 0, _ =>
    have e : ((w.toUInt64 >>> (((Int32.ofNat 0) <<< ((3 : Int32) &&& 31)) &&& 0x3f).toInt64.toUInt64).toInt64) = w := by
      have z : (((Int32.ofNat 0) <<< ((3 : Int32) &&& 31)) &&& 0x3f).toInt64.toUInt64 = 0 := by decide
      rw [z, UInt64.shiftRight_zero]; rfl
    rw [g1_1, e]
    exact key w _ (by omega)
  | i + 1, h =>
    have hk : ((Int32.ofNat (i + 1)) <<< ((3 : Int32) &&& 31)).toBitVec.toNat % 64 = 8 * (i + 1) := by
      have : ∀ j : Fin 8, ((Int32.ofNat j.val) <<< ((3 : Int32) &&& 31)).toBitVec.toNat % 64 = 8 * j.val := by decide +kernel
      exact this ⟨i + 1, h⟩
    have h1 := c_lushr w ((Int32.ofNat (i + 1)) <<< ((3 : Int32) &&& 31)) (8 * (i + 1)) hk (by omega)
    rw [hW] at h1
    have hp : (2 : Nat) ^ (8 * (i + 1)) = 256 ^ (i + 1) := by rw [Nat.pow_mul]
    rw [hp] at h1
    rw [g1_1]
    refine key _ _ ?_
    rw [h1]; rfl
theorem own_badiff (w : Int64) (i : Nat) (hi : i < 8) : f1 w (Int32.ofNat i) = 0 ↔ own_good ((w.toBitVec.toNat / 256 ^ i) % 256) = true := by
  have h := own_b w i hi
  have k32 : (32 : Int32).toInt = 32 := by decide
  have k34 : (34 : Int32).toInt = 34 := by decide
  have k92 : (92 : Int32).toInt = 92 := by decide
  have k128 : (128 : Int32).toInt = 128 := by decide
  rw [f1, own_good]
  simp only [Int32.lt_iff_toInt_lt, ← Int32.toInt_inj (y := 34), ← Int32.toInt_inj (y := 92), h, k32, k34, k92, k128]
  generalize (w.toBitVec.toNat / 256 ^ i) % 256 = b
  simp only [Bool.and_eq_true, decide_eq_true_eq]
  constructor
  · intro q
    repeat' split at q
    all_goals first | (exfalso; revert q; decide) | omega
  · intro q
    rw [if_neg (by omega), if_neg (by omega), if_neg (by omega), if_pos (by omega)]
/-- all bytes ahead of the k-th are good: the word's low part -/
theorem own_chain (W : Nat) (hW : W < 18446744073709551616) : ∀ k, k ≤ 8 → (∀ i, i < k → own_good ((W / 256 ^ i) % 256) = true) → ∀ j, j + k ≤ 8 → own_r W % 2 ^ (8 * (k + j)) = 256 ^ k * (own_r (W / 256 ^ k) % 2 ^ (8 * j)) := by
  intro k
  induction k with
  | zero => intro _ _ j _; simp
  | succ k ih =>
    intro hk hg j hj
    have h1 := ih (by omega) (fun i hi => hg i (by omega)) (j + 1) (by omega)
    have hlt : W / 256 ^ k < 18446744073709551616 := Nat.lt_of_le_of_lt (Nat.div_le_self _ _) hW
    obtain ⟨s1, s2⟩ := own_step hlt (hg k (by omega))
    rw [Nat.div_div_eq_div_mul, ← Nat.pow_succ] at s2
    rw [show k + 1 + j = k + (j + 1) by omega, h1, Nat.pow_succ 256 k, Nat.mul_assoc]
    refine congrArg (fun z => 256 ^ k * z) ?_
    rw [← Nat.pow_succ]
    generalize own_r (W / 256 ^ k) = a at *
    generalize own_r (W / 256 ^ (k + 1)) = b at *
    have e1 : (2 : Nat) ^ (8 * (j + 1)) = 256 * 2 ^ (8 * j) := by rw [Nat.mul_add, Nat.pow_add, Nat.mul_comm]
    rw [e1, Nat.mod_mul, s1, Nat.zero_add]
    refine congrArg (fun z => 256 * z) ?_
    have hd : 2 ^ (8 * j) ∣ 72057594037927936 := by
      rw [show (72057594037927936 : Nat) = 2 ^ 56 from rfl]; exact Nat.pow_dvd_pow 2 (by omega)
    rw [← Nat.mod_mod_of_dvd (a / 256) hd, s2, Nat.mod_mod_of_dvd b hd]
theorem own_first (w : Int64) (k : Nat) (hk : k < 8) (hg : ∀ i, i < k → own_good ((w.toBitVec.toNat / 256 ^ i) % 256) = true) (hb : own_good ((w.toBitVec.toNat / 256 ^ k) % 256) = false) : (f2 w).toBitVec.toNat % 2 ^ (8 * k + 7 + 1) = 2 ^ (8 * k + 7) := by
  have hw := w.toBitVec.isLt
  have h := own_chain _ hw k (by omega) hg 1 (by omega)
  have hs := own_stop (W := w.toBitVec.toNat / 256 ^ k) (Nat.lt_of_le_of_lt (Nat.div_le_self _ _) hw) hb
  rw [own_f2, show 8 * k + 7 + 1 = 8 * (k + 1) by omega, h, show 2 ^ (8 * 1) = 256 from rfl, hs, show (256 : Nat) ^ k = 2 ^ (8 * k) from by rw [Nat.pow_mul], show (128 : Nat) = 2 ^ 7 from rfl, ← Nat.pow_add]
theorem own_none (w : Int64) (hg : ∀ i, i < 8 → own_good ((w.toBitVec.toNat / 256 ^ i) % 256) = true) : f2 w = 0 := by
  have hw := w.toBitVec.isLt
  have h := own_chain _ hw 8 (by omega) hg 0 (by omega)
  rw [show 2 ^ (8 * 0) = 1 from rfl, Nat.mod_one, Nat.mul_zero, ← own_f2] at h
  have hl := (f2 w).toBitVec.isLt
  rw [Nat.mod_eq_of_lt hl] at h
  exact Int64.toBitVec_inj.mp (BitVec.eq_of_toNat_eq (by rw [h]; rfl))
theorem own_hit (w : Int64) (k : Nat) (hk : k < 8) (hg : ∀ i, i < k → f1 w (Int32.ofNat i) = 0) (hb : ¬ f1 w (Int32.ofNat k) = 0) (u : Int64) (hu : u.toBitVec.toNat = 2 ^ (8 * k + 7)) :
    (if (f2 w) = (0 : Int64) then (0 : Int32) else (if ((f2 w) &&& (-(f2 w))) = u then (1 : Int32) else (0 : Int32))) = 1 := by
  have h := own_first w k hk (fun i hi => (own_badiff w i (by omega)).mp (hg i hi)) (by
    cases q : own_good ((w.toBitVec.toNat / 256 ^ k) % 256)
    · rfl
    · exact absurd ((own_badiff w k hk).mpr q) hb)
  have h0 : ¬ f2 w = 0 := by
    intro q; rw [q] at h
    have : (0 : Int64).toBitVec.toNat = 0 := rfl
    rw [this, Nat.zero_mod] at h
    exact absurd h.symm (Nat.ne_of_gt (Nat.two_pow_pos _))
  have h1 := own_low (f2 w) (8 * k + 7) (by omega) h
  have h2 : (f2 w &&& -(f2 w)) = u := Int64.toBitVec_inj.mp (BitVec.eq_of_toNat_eq (by rw [h1, hu]))
  rw [if_neg h0, if_pos h2]
theorem own_law (q1 : Int64) : f0 q1 = 1 := by
  rw [f0]
  by_cases h0 : f1 q1 (0 : Int32) = 0
  case neg => rw [if_neg h0]; exact own_hit q1 0 (by decide) (by intro i hi; omega) h0 _ (by decide)
  rw [if_pos h0]
  by_cases h1 : f1 q1 (1 : Int32) = 0
  case neg => rw [if_neg h1]; exact own_hit q1 1 (by decide) (by intro i hi; match i, hi with | 0, _ => exact h0) h1 _ (by decide)
  rw [if_pos h1]
  by_cases h2 : f1 q1 (2 : Int32) = 0
  case neg => rw [if_neg h2]; exact own_hit q1 2 (by decide) (by intro i hi; match i, hi with | 0, _ => exact h0 | 1, _ => exact h1) h2 _ (by decide)
  rw [if_pos h2]
  by_cases h3 : f1 q1 (3 : Int32) = 0
  case neg => rw [if_neg h3]; exact own_hit q1 3 (by decide) (by intro i hi; match i, hi with | 0, _ => exact h0 | 1, _ => exact h1 | 2, _ => exact h2) h3 _ (by decide)
  rw [if_pos h3]
  by_cases h4 : f1 q1 (4 : Int32) = 0
  case neg => rw [if_neg h4]; exact own_hit q1 4 (by decide) (by intro i hi; match i, hi with | 0, _ => exact h0 | 1, _ => exact h1 | 2, _ => exact h2 | 3, _ => exact h3) h4 _ (by decide)
  rw [if_pos h4]
  by_cases h5 : f1 q1 (5 : Int32) = 0
  case neg => rw [if_neg h5]; exact own_hit q1 5 (by decide) (by intro i hi; match i, hi with | 0, _ => exact h0 | 1, _ => exact h1 | 2, _ => exact h2 | 3, _ => exact h3 | 4, _ => exact h4) h5 _ (by decide)
  rw [if_pos h5]
  by_cases h6 : f1 q1 (6 : Int32) = 0
  case neg => rw [if_neg h6]; exact own_hit q1 6 (by decide) (by intro i hi; match i, hi with | 0, _ => exact h0 | 1, _ => exact h1 | 2, _ => exact h2 | 3, _ => exact h3 | 4, _ => exact h4 | 5, _ => exact h5) h6 _ (by decide)
  rw [if_pos h6]
  by_cases h7 : f1 q1 (7 : Int32) = 0
  case neg => rw [if_neg h7]; exact own_hit q1 7 (by decide) (by intro i hi; match i, hi with | 0, _ => exact h0 | 1, _ => exact h1 | 2, _ => exact h2 | 3, _ => exact h3 | 4, _ => exact h4 | 5, _ => exact h5 | 6, _ => exact h6) h7 _ (by decide)
  rw [if_pos h7, if_pos (own_none q1 (fun i hi => (own_badiff q1 i hi).mp (by match i, hi with | 0, _ => exact h0 | 1, _ => exact h1 | 2, _ => exact h2 | 3, _ => exact h3 | 4, _ => exact h4 | 5, _ => exact h5 | 6, _ => exact h6 | 7, _ => exact h7)))]

theorem own_met (l : Launch) (Z : State) (a0 : Array Value) (hw : ∀ d ∈ tables_1, d.before a0 Z = true) (ws : List Jvm.Cond) (q1 : Int64) (h0 : Heap)  :
    OMet l Z x code maxLocals ret ws room_1 #[(.long q1)] h0 (fun v h L => v = some (.int 1) ∧ Fr h0.size L) := by
  intro p e ha hc hk s m args below hf happ hP hK
  obtain ⟨n, o, h1, h2, h3, v, L, ho, ⟨hv, hL, hh⟩, hq⟩ := rm0 l Z a0 hw ws q1 h0  p e ha hc hk s m args below hf happ hP hK
  rw [own_law] at hv
  exact ⟨n, o, h1, h2, h3, v, L, ho, ⟨hv, by subst hL; exact Fr.nil _⟩, hq⟩
set_option maxRecDepth 65536 in
set_option maxHeartbeats 40000000 in
theorem comes_1 {Post : Tables → Env → Array Value → State → Outcome → State → Prop} (hpost : ∀ tb e args s v u, (limb_1_1.after args s (.returned v) u = true ∧ limb_1_2.after args s (.returned v) u = true ∧ True) → FrameEnd s (.returned v) u (Jvm.fieldLocs frame_1_writes args s ++ Jvm.arrayLocs frame_1_arrays args s ++ Jvm.staticLocs frame_1_statics s) 0 0 → Post tb e args s (.returned v) u) :
    ArmFor flags0 classFile x code maxLocals ret World_1 tables_1 room_1 Calls_1 rest_1 Pre_1 Post := by
  intro l hfl _ _ p e ha hc hk s m args below hf hA hF happ hP
  obtain ⟨hcalls, hrest, hpre⟩ := hP
  obtain ⟨-, -, -, hnamed, -, -, -, hat⟩ := (Spec.applies_iff hf).mp happ
  obtain ⟨hg, hn⟩ := and_e (Cond.before_iff.mp (show (Jvm.Cond.and given_1 narrow_1).before args s = true from hpre))
  obtain ⟨h1, g0⟩ := and_e hg
  obtain ⟨w0, rfl⟩ : ∃ w0 : Value, args = #[w0] := by
    have hs : args.size = 1 := by simpa [Cond.value, given_1] using h1
    obtain ⟨L⟩ := args
    match L, hs with
    | [w0], _ => exact ⟨w0, rfl⟩
  have hw := fun d (hd : d ∈ tables_1) => atoms_spec (ws := Jvm.Cond.code x code maxLocals ret :: tables_1) hat d (List.mem_cons_of_mem _ hd)
  obtain ⟨i0, e0⟩ := isL_v g0
  obtain rfl : w0 = (.long i0) := Option.some.inj e0
  obtain ⟨n, o, h1, h2, h3, _, L, rfl, ⟨rfl, N⟩, hq⟩ := own_met l s _ hw tables_1 i0 s.heap p e ha hc hk s m _ below hf ((Spec.applies_iff_loose hf).mp happ).1 ⟨rfl, State.Warmed39.refl s, rfl⟩ trivial
  refine ⟨n, _, h1, h2, h3, hpost _ _ _ _ _ _ ⟨Cond.after_iff.mpr rfl, Cond.after_iff.mpr (eq_i res_at (Term.int_eval (1)) rfl), trivial⟩ ⟨hq.1, hq.2.1, (hq.2.2.sift fun y hy => Or.inr (N y hy)).mono (by decide) (by decide)⟩⟩
theorem main_1_1 : Claimed_1_1 := comes_1 fun _ _ _ _ _ _ h hF => ⟨h.1, hF⟩
theorem main_1_2 : Claimed_1_2 := comes_1 fun _ _ _ _ _ _ h hF => ⟨h.2.1, hF⟩
end Jvm.Pilot.@@N@@
namespace Jvm.Pilot.@@N@@
open Jvm Jvm.ClassFile Sem Op Lib Jvm.Free Jvm.Stand Jvm.Pilot.@@N@@.Jvm.D
/-! MADE BY PROGRAM (witnessworld.py) out of the Statement's table words and the real class files: 9 classes; the members and pool entries that the words name. The judged class is class 1, her method 2. -/
namespace start1
open Jvm.ClassFile
def u (s : String) : CpInfo := .utf8 (stringToUtf16 s)
/-- a pool by its gaps: so many unusable entries, then the entry; so many at the end -/
def gap : Nat → List CpInfo → List CpInfo
  | 0, r => r
  | n + 1, r => .unusable :: gap n r
def poolList (es : List (Nat × CpInfo)) (last : Nat) : List CpInfo := es.foldr (fun e r => gap e.1 (e.2 :: r)) (gap last [])
def pool (es : List (Nat × CpInfo)) (last : Nat) : Array CpInfo := ⟨poolList es last⟩
def fileOf (pool : Array CpInfo) (this : Nat) (attrs : Array Attribute := #[]) (ms : Array MethodInfo := #[]) (fl : Nat := 33) (sup : Nat := 0) (ifs : Array Nat := #[]) (fds : Array FieldInfo := #[]) : ClassFile where
  minorVersion := 0
  majorVersion := 65
  constantPool := pool
  accessFlags := fl
  thisClass := this
  superClass := sup
  interfaces := ifs
  fields := fds
  methods := ms
  attributes := attrs
def plain (name : String) (sup : Option ClassId) : Class where
  name := name
  kind := .ordinary
  loader := none
  accessFlags := 33
  super := sup
  interfaces := #[]
  cf := none
  fields := #[]
  methods := #[]
  instanceTypes := #[]
  staticTypes := #[]
  resolved := #[]
  callSites := []
  init := .initialized
  statics := none
  mirror := none

def pool0 : Array CpInfo := pool [(5, u "<init>"), (0, u "()V"), (1, .class_ 10), (1, u "java/lang/Object")] 113

def k0m0 : Method := { name := "<init>", desc := "()V", sig := { parameters := [], returnType := none }, accessFlags := 1, code := none }
/-- java/lang/Object -/
def k0 : Class := { plain "java/lang/Object" none with
  accessFlags := 33
  interfaces := #[]
  cf := some (fileOf pool0 8 #[] #[{ accessFlags := 1, nameIndex := 5, descriptorIndex := 6, attributes := #[] }] 33 0 #[] #[])
  fields := #[]
  methods := #[k0m0]
  instanceTypes := #[]
  staticTypes := #[]
  resolved := Array.replicate 124 none
  statics := none }

def pool1 : Array CpInfo := pool [(2, .class_ 4), (1, u "java/lang/Object"), (0, u "<init>"), (0, u "()V"), (0, .methodref 8 9), (0, .class_ 10), (0, .nameAndType 11 12), (0, u "com/example/vetted_envelope/vettedenvelope/io/json/ByteWordsNotPlainPinLaw"), (0, u "bad"), (0, u "(JI)Z"), (0, .methodref 14 15), (0, .class_ 16), (0, .nameAndType 17 18), (0, u "com/example/vetted_envelope/vettedenvelope/io/json/ByteWords"), (0, u "notPlain"), (0, u "(J)J"), (3, u "law"), (0, u "(J)Z")] 2

def k1m0 : Method := { name := "<init>", desc := "()V", sig := { parameters := [], returnType := none }, accessFlags := 2, code := none }
def k1c1 : Code := { maxStack := 4, maxLocals := 4, code := method_2_code, exceptionTable := #[], attributes := #[] }
def k1m1 : Method := { name := "bad", desc := "(JI)Z", sig := { parameters := [.long, .int], returnType := some .boolean }, accessFlags := 10, code := some k1c1 }
def k1c2 : Code := { maxStack := 6, maxLocals := 7, code := code, exceptionTable := #[], attributes := #[] }
def k1m2 : Method := { name := "law", desc := "(J)Z", sig := { parameters := [.long], returnType := some .boolean }, accessFlags := 9, code := some k1c2 }
/-- com/example/vetted_envelope/vettedenvelope/io/json/ByteWordsNotPlainPinLaw -/
def k1 : Class := { plain "com/example/vetted_envelope/vettedenvelope/io/json/ByteWordsNotPlainPinLaw" (some 0) with
  accessFlags := 49
  interfaces := #[]
  cf := some (fileOf pool1 8 #[] #[{ accessFlags := 2, nameIndex := 5, descriptorIndex := 6, attributes := #[] }, { accessFlags := 10, nameIndex := 11, descriptorIndex := 12, attributes := #[] }, { accessFlags := 9, nameIndex := 22, descriptorIndex := 23, attributes := #[] }] 49 2 #[] #[])
  fields := #[]
  methods := #[k1m0, k1m1, k1m2]
  instanceTypes := #[]
  staticTypes := #[]
  resolved := Array.replicate 26 none
  statics := none }

def pool2 : Array CpInfo := pool [(3, .class_ 4), (0, u "com/example/vetted_envelope/vettedenvelope/io/json/ByteWords"), (1, .class_ 8), (1, u "java/lang/Object"), (0, u "<init>"), (0, u "()V"), (2, u "WORDS"), (0, u "Ljava/lang/invoke/VarHandle;"), (6, .long 2314885530818453536), (1, .long 2459565876494606882), (1, .long 72340172838076673), (1, .long 6655295901103053916), (1, .long 9259542123273814144), (19, u "SIZE"), (0, u "I"), (2, u "ONES"), (0, u "J"), (0, u "HIGH_BITS"), (6, u "notPlain"), (0, u "(J)J")] 4

def k2m0 : Method := { name := "<init>", desc := "()V", sig := { parameters := [], returnType := none }, accessFlags := 2, code := none }
def k2c1 : Code := { maxStack := 6, maxLocals := 2, code := prog_4_method_4_code, exceptionTable := #[], attributes := #[] }
def k2m1 : Method := { name := "notPlain", desc := "(J)J", sig := { parameters := [.long], returnType := some .long }, accessFlags := 8, code := some k2c1 }
/-- com/example/vetted_envelope/vettedenvelope/io/json/ByteWords -/
def k2 : Class := { plain "com/example/vetted_envelope/vettedenvelope/io/json/ByteWords" (some 0) with
  accessFlags := 48
  interfaces := #[]
  cf := some (fileOf pool2 3 #[] #[{ accessFlags := 2, nameIndex := 9, descriptorIndex := 10, attributes := #[] }, { accessFlags := 8, nameIndex := 62, descriptorIndex := 63, attributes := #[] }] 48 6 #[] #[{ accessFlags := 24, nameIndex := 49, descriptorIndex := 50, attributes := #[] }, { accessFlags := 26, nameIndex := 13, descriptorIndex := 14, attributes := #[] }, { accessFlags := 26, nameIndex := 53, descriptorIndex := 54, attributes := #[] }, { accessFlags := 26, nameIndex := 55, descriptorIndex := 54, attributes := #[] }])
  fields := #[{ name := "SIZE", type := .int, accessFlags := 24, slot := 0, constantValue := 0 }, { name := "WORDS", type := (.object "java/lang/invoke/VarHandle"), accessFlags := 26, slot := 1, constantValue := 0 }, { name := "ONES", type := .long, accessFlags := 26, slot := 2, constantValue := 0 }, { name := "HIGH_BITS", type := .long, accessFlags := 26, slot := 3, constantValue := 0 }]
  methods := #[k2m0, k2m1]
  instanceTypes := #[]
  staticTypes := #[.int, (.object "java/lang/invoke/VarHandle"), .long, .long]
  resolved := Array.replicate 68 none
  statics := none }

def pool3 : Array CpInfo := pool [(1, u "java/lang/Cloneable"), (0, .class_ 1), (0, u "java/lang/Object"), (0, .class_ 3)] 3

/-- java/lang/Cloneable -/
def k3 : Class := { plain "java/lang/Cloneable" (some 0) with
  accessFlags := 1537
  interfaces := #[]
  cf := some (fileOf pool3 2 #[] #[] 1537 4 #[] #[])
  fields := #[]
  methods := #[]
  instanceTypes := #[]
  staticTypes := #[]
  resolved := Array.replicate 8 none
  statics := none }

def pool4 : Array CpInfo := pool [(1, u "java/io/Serializable"), (0, .class_ 1), (0, u "java/lang/Object"), (0, .class_ 3)] 3

/-- java/io/Serializable -/
def k4 : Class := { plain "java/io/Serializable" (some 0) with
  accessFlags := 1537
  interfaces := #[]
  cf := some (fileOf pool4 2 #[] #[] 1537 4 #[] #[])
  fields := #[]
  methods := #[]
  instanceTypes := #[]
  staticTypes := #[]
  resolved := Array.replicate 8 none
  statics := none }

/-- the primitive byte -/
def k5 : Class := { plain "byte" none with kind := .primitive 'B', accessFlags := 0x411 }
/-- [B -/
def k6 : Class := { plain "[B" (some 0) with kind := .array 5 .byte, interfaces := #[3, 4], accessFlags := 1041 }

/-- the primitive int -/
def k7 : Class := { plain "int" none with kind := .primitive 'I', accessFlags := 0x411 }
/-- [I -/
def k8 : Class := { plain "[I" (some 0) with kind := .array 7 .int, interfaces := #[3, 4], accessFlags := 1041 }

def heap : Heap := #[]
def classes : Array Class := #[k0, k1, k2, k3, k4, k5, k6, k7, k8]
def interned : List (Array UInt16 × Addr) := []
def slotsUsed : Nat := 0
def theMethod : MethodId := ⟨1, 2⟩
def args0 : Array Value := #[.long 5]
def aboutOver (below : List Frame) : State where
  vm := { classes := classes, interned := interned.toArray }
  heap := heap
  slotsUsed := slotsUsed
  threads := #[{ frames := .invoking theMethod args0 :: below }]
def below0 : List Frame := [.native { method := ⟨0, 0⟩, args := #[] }]
def about1 : State := aboutOver below0
def p0 : Program := .bare "" "" ""
def e0 : Env := launch0.env 0 0 0
theorem w_frames : about1.frames = Frame.invoking theMethod args0 :: below0 := rfl
set_option maxRecDepth 65536 in
theorem w_args : argsFit about1.vm theMethod args0 = true := by decide +kernel
set_option maxRecDepth 65536 in
theorem w_heap : heapFits about1 = true := by decide +kernel
set_option maxRecDepth 65536 in
theorem w_runnable : about1.curStatus? = some .runnable := by decide +kernel
set_option maxRecDepth 65536 in
theorem w_alone : about1.alone = true := by decide +kernel
set_option maxRecDepth 65536 in
theorem w_named : about1.methodNamed? x = some theMethod := by decide +kernel
set_option maxRecDepth 65536 in
theorem w_hears : about1.hears theMethod below0 = true := by decide +kernel
set_option maxRecDepth 65536 in
theorem w_ripe : about1.ripe theMethod args0 below0 = true := by decide +kernel
theorem w_running : about1.status = .running := rfl
set_option maxRecDepth 65536 in
theorem w_room : about1.hasRoom e0.platform room_1 = true :=
  launch0.hasRoom_least _ room_1 (by decide +kernel) (by decide +kernel) (by decide +kernel) (by decide +kernel) (by decide +kernel) (by decide +kernel)
theorem allAtoms_all (ts : List Jvm.Cond) (a : Array Jvm.Value) (st : Jvm.State) : (allAtoms ts).before a st = ts.all (fun c => c.before a st) := by
  induction ts with
  | nil => rfl
  | cons c t ih =>
    show (Jvm.Cond.and c (allAtoms t)).before a st = _
    rw [Jvm.Cond.before_and, ih, List.all_cons]
def words1 : List Jvm.Cond := Jvm.Cond.code x code maxLocals ret :: tables_1
/-- a 'code' word, met by the world's own term for the bytes: nothing is compared byte by byte -/
theorem code_word {y : MethodName} {bytes : ByteArray} {mx : Nat} {rt : Option FieldType} {a : Array Value} {s : State} {m : MethodId} {meth : Method} {c : Code} (h1 : s.methodNamed? y = some m) (h2 : s.vm.method? m = some meth) (h3 : meth.code = some c) (h4 : c.code = bytes)
    (h5 : (c.maxLocals == mx && c.exceptionTable.isEmpty && decide (c.maxStack ≤ mostOperands) && decide (meth.sig.returnType = rt) && !meth.locks && decide (parseMethodDescriptor y.desc = some meth.sig)) = true) : (Jvm.Cond.code y bytes mx rt).before a s = true := by
  simp only [Bool.and_eq_true, beq_iff_eq, Bool.not_eq_true', decide_eq_true_eq] at h5
  obtain ⟨⟨⟨⟨⟨g1, g2⟩, g3⟩, g4⟩, g5⟩, g6⟩ := h5
  simp [Cond.before, Cond.holds, Cond.value, h1, h2, h3, h4, g1, g2, g3, g4, g5, g6]
def isCode : Jvm.Cond → Bool
  | .code _ _ _ _ => true
  | _ => false
theorem all_split {L : List Jvm.Cond} {P : Jvm.Cond → Bool} (h1 : L.all (fun c => isCode c || P c) = true) (h2 : ∀ c ∈ L.filter isCode, P c = true) : L.all P = true := by
  refine List.all_eq_true.mpr fun c hc => ?_
  have h := List.all_eq_true.mp h1 c hc
  rcases Bool.eq_false_or_eq_true (isCode c) with hi | hi
  · exact h2 c (List.mem_filter.mpr ⟨hc, hi⟩)
  · simpa [hi] using h
set_option maxRecDepth 65536 in
theorem w_c0 : (Jvm.Cond.code x code maxLocals ret).before args0 about1 = true := code_word (m := ⟨1, 2⟩) (meth := k1m2) (c := k1c2) (by decide +kernel) rfl rfl rfl (by decide +kernel)
set_option maxRecDepth 65536 in
theorem w_c1 : (Jvm.Cond.code ({ cls := "com/example/vetted_envelope/vettedenvelope/io/json/ByteWordsNotPlainPinLaw", name := "bad", desc := "(JI)Z" } : Jvm.MethodName) method_2_code (4 : Nat) (Option.some Jvm.ClassFile.FieldType.boolean)).before args0 about1 = true := code_word (m := ⟨1, 1⟩) (meth := k1m1) (c := k1c1) (by decide +kernel) rfl rfl rfl (by decide +kernel)
set_option maxRecDepth 65536 in
theorem w_c2 : (Jvm.Cond.code ({ cls := "com/example/vetted_envelope/vettedenvelope/io/json/ByteWords", name := "notPlain", desc := "(J)J" } : Jvm.MethodName) prog_4_method_4_code (2 : Nat) (Option.some Jvm.ClassFile.FieldType.long)).before args0 about1 = true := code_word (m := ⟨2, 1⟩) (meth := k2m1) (c := k2c1) (by decide +kernel) rfl rfl rfl (by decide +kernel)
def codes1 : List Jvm.Cond := [Jvm.Cond.code x code maxLocals ret, Jvm.Cond.code ({ cls := "com/example/vetted_envelope/vettedenvelope/io/json/ByteWordsNotPlainPinLaw", name := "bad", desc := "(JI)Z" } : Jvm.MethodName) method_2_code (4 : Nat) (Option.some Jvm.ClassFile.FieldType.boolean), Jvm.Cond.code ({ cls := "com/example/vetted_envelope/vettedenvelope/io/json/ByteWords", name := "notPlain", desc := "(J)J" } : Jvm.MethodName) prog_4_method_4_code (2 : Nat) (Option.some Jvm.ClassFile.FieldType.long)]
set_option maxRecDepth 65536 in
theorem codes_eq : words1.filter isCode = codes1 := rfl
theorem w_codes : ∀ c ∈ words1.filter isCode, c.before args0 about1 = true := by
  rw [codes_eq]
  intro c hc
  simp only [codes1, List.mem_cons, List.not_mem_nil, or_false] at hc
  rcases hc with rfl | rfl | rfl
  · exact w_c0
  · exact w_c1
  · exact w_c2
set_option maxRecDepth 65536 in
theorem w_t1 : words1.all (fun c => isCode c || c.before args0 about1) = true := by decide +kernel
theorem w_tables : (allAtoms (Jvm.Cond.code x code maxLocals ret :: tables_1)).before args0 about1 = true := by
  rw [allAtoms_all]
  show words1.all (fun c => c.before args0 about1) = true
  refine all_split ?_ w_codes
  rw [w_t1]
set_option maxRecDepth 65536 in
theorem w_case : (Jvm.Cond.and given_1 narrow_1).before args0 about1 = true := by decide +kernel
theorem w_applies : (headSpec (Jvm.Cond.code x code maxLocals ret :: tables_1) room_1).applies x e0.platform about1 = true :=
  (Spec.applies_iff w_frames).mpr ⟨w_running, w_runnable, w_alone, w_named, w_hears, w_ripe, w_room, w_tables⟩
theorem atStart : AtStart classFile x code maxLocals ret World_1 tables_1 room_1 Calls_1 rest_1 Pre_1 launch0 p0 e0 about1 theMethod args0 below0 :=
  ⟨lists_1, trivial, launch0.admits_env _ _ _, launch0.least_env, fairChoices_fair.cas, fairChoices_fair.clock, w_frames, w_args, w_heap, w_applies, trivial, trivial, w_case⟩
end start1
theorem witness_1 : WitnessClaimed_1 := ⟨start1.p0, start1.e0, start1.about1, start1.theMethod, start1.args0, start1.below0, start1.atStart⟩
end Jvm.Pilot.@@N@@
