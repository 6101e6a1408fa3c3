import JvmDerived
import JvmDerived.Pilot.@@N@@Statement
import JvmDerived.Pilot.@@N@@Code
set_option linter.unusedVariables false
set_option linter.unusedSimpArgs false
namespace Jvm.Pilot.@@N@@
open Jvm Jvm.ClassFile Sem Op Lib Jvm.Free Jvm.Stand Jvm.LawKit Jvm.RoadKit Bundle Jvm.Pilot.@@N@@.Jvm.D
/-! what a body's walk owes, in the manner of a continuation -/
section Own
variable {p : Program} {l : Launch} {e : Env} {R : Room} {s : State} {m : MethodId} {args : Array Value} {below : List Frame} {meth : Method} {c : Code} {T T' : State} {locs : List Loc} {cells slots : Nat} {Q Q' : Option Value → Heap → List Loc → Prop}
abbrev OMet (l : Launch) (Z : State) (y : MethodName) (bytes : ByteArray) (maxL : Nat) (ret : Option FieldType) (ws : List Jvm.Cond) (rm : Room) (as : Array Value) (h0 : Heap) (Q : Option Value → Heap → List Loc → Prop) : Prop :=
  MetFree l y (head1 (Jvm.Cond.code y bytes maxL ret :: ws) rm) (fun a U => a = as ∧ Z.Warmed39 U.vm ∧ U.heap = h0) (fun _ _ _ _ _ => True) (fun _ U o U' => ∃ v L, o = .returned v ∧ Q v U'.heap L ∧ FrameEnd U o U' L rm.cells rm.slots)
def OG (p : Program) (e : Env) (R : Room) (s : State) (below : List Frame) (Q : Option Value → Heap → List Loc → Prop) (T : State) (g : JFrame) : Prop :=
  ∃ s₂ o, Steps p.tables e below (T.setTop g) s₂ ∧ s₂.status = .running ∧ Ended s₂ below o ∧ ∃ v L, o = .returned v ∧ Q v s₂.heap L ∧ FrameEnd s o s₂ L R.cells R.slots
theorem own_st {g g' : JFrame} (h : ∀ t, Steps p.tables e below (T'.setTop g') t → Steps p.tables e below (T.setTop g) t) (k : OG p e R s below Q T' g') : OG p e R s below Q T g := by
  obtain ⟨s₂, o, h1, h2⟩ := k
  exact ⟨s₂, o, h _ h1, h2⟩
theorem own_sp {g g' : JFrame} {t : State} (h : ∀ t, Steps p.tables e below (T'.setTop g') t → Steps p.tables e below (T.setTop g) t) (k : Steps p.tables e below (T'.setTop g') t) : Steps p.tables e below (T.setTop g) t := h _ k
theorem own_cast {g g' : JFrame} (q : g = g') (k : OG p e R s below Q T g') : OG p e R s below Q T g := q ▸ k
theorem own_irr {x : Int64} : ¬ x < x := Int64.lt_irrefl
theorem own_if0 {cd : ClassFile.Cond} {x : Int32} {b : Bool} (h : if_icmp.holds cd x 0 = b) : ifCond.holds cd x = b := by rw [if0]; exact h
theorem own_retZ (X : Stand p l e R s m args below meth c T locs cells slots) (hx : p.tables.exec = Jvm.exec) {t : FieldType} (hret : meth.sig.returnType = some t) (ht : t = .boolean ∨ t = .byte ∨ t = .char ∨ t = .short) (hlk : meth.locks = false) {pc : Nat} {Ls : Array Slot} {z : Int32} {rest : List Value}
    (hd : decode c.code pc = .ok (.ireturn, 1)) (hc : cells ≤ R.cells) (hs : slots ≤ R.slots) {w : Int32} (hn : nar t z = w) (hq : Q (some (.int w)) T.heap locs) : OG p e R s below Q T (mkF m pc Ls (.int z :: rest)) := by
  subst hn
  obtain ⟨fs, hr, hrun, hended, hW, hsame⟩ := X.leave (v := some (.int (nar t z))) (fun h => by rw [hret] at h; cases h) hlk
  exact ⟨_, _, retN X hx hret ht hd hr, hrun, hended, _, _, rfl, hq, ⟨_, rfl⟩, hW, hsame.mono hc hs⟩
theorem own_retV (X : Stand p l e R s m args below meth c T locs cells slots) (hx : p.tables.exec = Jvm.exec) {t : FieldType} {i : Instr} {w : Value} (hret : meth.sig.returnType = some t) (hn : narrow t w = w)
    (hi : (i = .ireturn ∧ (t = .int ∨ t = .boolean ∨ t = .byte ∨ t = .char ∨ t = .short) ∧ ∃ z, w = .int z) ∨ (i = .lreturn ∧ t = .long ∧ ∃ z, w = .long z) ∨ (i = .dreturn ∧ t = .double ∧ ∃ z, w = .double z) ∨ (i = .freturn ∧ t = .float ∧ ∃ z, w = .float z) ∨ (i = .areturn ∧ t.isReference = true ∧ w.isRef = true))
    (hlk : meth.locks = false) {pc : Nat} {Ls : Array Slot} {rest : List Value}
    (hd : decode c.code pc = .ok (i, 1)) (hc : cells ≤ R.cells) (hs : slots ≤ R.slots) (hq : Q (some w) T.heap locs) : OG p e R s below Q T (mkF m pc Ls (w :: rest)) := by
  obtain ⟨fs, hr, hrun, hended, hW, hsame⟩ := X.leave (v := some w) (fun h => by rw [hret] at h; cases h) hlk
  exact ⟨_, _, retOut X hx hret hn hi hd hr, hrun, hended, _, _, rfl, hq, ⟨_, rfl⟩, hW, hsame.mono hc hs⟩
theorem own_retI (X : Stand p l e R s m args below meth c T locs cells slots) (hx : p.tables.exec = Jvm.exec) (hret : meth.sig.returnType = some .int) (hlk : meth.locks = false) {pc : Nat} {Ls : Array Slot} {z : Int32} {rest : List Value}
    (hd : decode c.code pc = .ok (.ireturn, 1)) (hc : cells ≤ R.cells) (hs : slots ≤ R.slots) (hq : Q (some (.int z)) T.heap locs) : OG p e R s below Q T (mkF m pc Ls (.int z :: rest)) :=
  own_retV X hx hret rfl (Or.inl ⟨rfl, Or.inl rfl, _, rfl⟩) hlk hd hc hs hq
theorem own_retL (X : Stand p l e R s m args below meth c T locs cells slots) (hx : p.tables.exec = Jvm.exec) (hret : meth.sig.returnType = some .long) (hlk : meth.locks = false) {pc : Nat} {Ls : Array Slot} {z : Int64} {rest : List Value}
    (hd : decode c.code pc = .ok (.lreturn, 1)) (hc : cells ≤ R.cells) (hs : slots ≤ R.slots) (hq : Q (some (.long z)) T.heap locs) : OG p e R s below Q T (mkF m pc Ls (.long z :: rest)) :=
  own_retV X hx hret rfl (Or.inr (Or.inl ⟨rfl, rfl, _, rfl⟩)) hlk hd hc hs hq
theorem own_ret0 (X : Stand p l e R s m args below meth c T locs cells slots) (hx : p.tables.exec = Jvm.exec) (hret : meth.sig.returnType = none) (hlk : meth.locks = false) {pc : Nat} {Ls : Array Slot}
    (hd : decode c.code pc = .ok (.return_, 1)) (hc : cells ≤ R.cells) (hs : slots ≤ R.slots) (hq : Q none T.heap locs) : OG p e R s below Q T (mkF m pc Ls []) := by
  obtain ⟨fs, hr, hrun, hended, hW, hsame⟩ := X.leave (v := none) (fun _ => rfl) hlk
  exact ⟨_, _, X.returnOut hx hret hd hr, hrun, hended, _, _, rfl, hq, ⟨_, rfl⟩, hW, hsame.mono hc hs⟩
theorem own_enter {Z : State} {y : MethodName} {bytes : ByteArray} {maxL : Nat} {ret : Option FieldType} {ws : List Jvm.Cond} {rm : Room} {as : Array Value} {h0 : Heap} (hp : plainName y.cls = true)
    (body : ∀ (p : Program) (e : Env) (s : State) (m : MethodId) (below : List Frame) (meth : Method) (c : Code) (s₁ : State), p.tables.exec = Jvm.exec → c.code = bytes → c.maxLocals = maxL → s.vm.findClass y.cls = some m.cls → meth.sig.returnType = ret → meth.locks = false → meth.name = y.name → Z.Warmed39 s.vm →
      Stand p l e rm s m as below meth c s₁ [] 0 0 → s₁.heap = h0 → OG p e rm s below Q s₁ (entryFrame m as maxL)) : OMet l Z y bytes maxL ret ws rm as h0 Q := by
  refine MetFree.of_bodySF (plainFor_of_name hp) hisR ?_
  intro p e s m args below meth c s₁ Bd hml0 hP hK
  obtain ⟨rfl, hZ, hh⟩ := hP
  exact body p e s m below meth c s₁ Bd.exec Bd.bytes hml0 (findClass_of_methodNamed Bd.named) Bd.returns Bd.notSynchronized (name_of_methodNamed Bd.named Bd.method).1 hZ (Stand.of_body Bd) (by rw [← hh, Bd.state]; rfl)
end Own
theorem d1_0 : decode prog_177_method_5_code 0 = .ok (.iload_n 0, 1) := by decide +kernel
theorem d1_1 : decode prog_177_method_5_code 1 = .ok (.ifCond .ne 5, 3) := by decide +kernel
theorem d1_4 : decode prog_177_method_5_code 4 = .ok (.lconst 0, 1) := by decide +kernel
theorem d1_5 : decode prog_177_method_5_code 5 = .ok (.lreturn, 1) := by decide +kernel
theorem d1_6 : decode prog_177_method_5_code 6 = .ok (.iload_n 0, 1) := by decide +kernel
theorem d1_7 : decode prog_177_method_5_code 7 = .ok (.bipush 9, 2) := by decide +kernel
theorem d1_9 : decode prog_177_method_5_code 9 = .ok (.if_icmp .gt 17, 3) := by decide +kernel
theorem d1_12 : decode prog_177_method_5_code 12 = .ok (.lconst 1, 1) := by decide +kernel
theorem d1_13 : decode prog_177_method_5_code 13 = .ok (.bipush 15, 2) := by decide +kernel
theorem d1_15 : decode prog_177_method_5_code 15 = .ok (.iload_n 0, 1) := by decide +kernel
theorem d1_16 : decode prog_177_method_5_code 16 = .ok (.iadd, 1) := by decide +kernel
theorem d1_17 : decode prog_177_method_5_code 17 = .ok (.lshl, 1) := by decide +kernel
theorem d1_18 : decode prog_177_method_5_code 18 = .ok (.ldc2_w 13, 3) := by decide +kernel
theorem d1_21 : decode prog_177_method_5_code 21 = .ok (.iload_n 0, 1) := by decide +kernel
theorem d1_22 : decode prog_177_method_5_code 22 = .ok (.i2l, 1) := by decide +kernel
theorem d1_23 : decode prog_177_method_5_code 23 = .ok (.lmul, 1) := by decide +kernel
theorem d1_24 : decode prog_177_method_5_code 24 = .ok (.lsub, 1) := by decide +kernel
theorem d1_25 : decode prog_177_method_5_code 25 = .ok (.lreturn, 1) := by decide +kernel
theorem d1_26 : decode prog_177_method_5_code 26 = .ok (.getstatic 25, 3) := by decide +kernel
theorem d1_29 : decode prog_177_method_5_code 29 = .ok (.iload_n 0, 1) := by decide +kernel
theorem d1_30 : decode prog_177_method_5_code 30 = .ok (.bipush 9, 2) := by decide +kernel
theorem d1_32 : decode prog_177_method_5_code 32 = .ok (.isub, 1) := by decide +kernel
theorem d1_33 : decode prog_177_method_5_code 33 = .ok (.i2l, 1) := by decide +kernel
theorem d1_34 : decode prog_177_method_5_code 34 = .ok (.ldc2_w 29, 3) := by decide +kernel
theorem d1_37 : decode prog_177_method_5_code 37 = .ok (.lmul, 1) := by decide +kernel
theorem d1_38 : decode prog_177_method_5_code 38 = .ok (.ladd, 1) := by decide +kernel
theorem d1_39 : decode prog_177_method_5_code 39 = .ok (.lreturn, 1) := by decide +kernel
theorem pn_com_example_vetted_envelope_vettedenvelope_util_ChunkLayout : plainName "com/example/vetted_envelope/vettedenvelope/util/ChunkLayout" = true := by first | (simp [plainName, overriddenIn]; done) | decide +kernel
def f1 (p1 : Int32) : Int64 := (if p1 = (0 : Int32) then (0 : Int64) else (if (9 : Int32) < p1 then ((16777072 : Int64) + (((p1 - (9 : Int32)).toInt64) * (16777200 : Int64))) else (((1 : Int64) <<< (((15 : Int32) + p1) &&& 0x3f).toInt64) - ((16 : Int64) * (p1.toInt64)))))
theorem ef_1 (m : MethodId) (p1 : Int32) : entryFrame m #[(.int p1)] 1 = (mkF m 0 #[.val (.int p1)] []) := by first | (simp [entryFrame, mkF, argsToLocals, Value.category]; done) | rfl
abbrev Q1 (p1 : Int32) (h0 : Heap) : Option Value → Heap → List Loc → Prop := (fun v h L => v = some (.long (f1 p1)) ∧ L = [] ∧ h = h0)
set_option maxRecDepth 65536 in
set_option maxHeartbeats 40000000 in
theorem rm1 (l : Launch) (Z : State) (a0 : Array Value) (hw : ∀ d ∈ tables_1, d.before a0 Z = true) (ws : List Jvm.Cond) (p1 : Int32) (h0 : Heap) (S_G : Sta Z h0 "com/example/vetted_envelope/vettedenvelope/util/ChunkLayout" "GROWN_START" "J" (.long (16777072 : Int64))) :
    OMet l Z (⟨"com/example/vetted_envelope/vettedenvelope/util/ChunkLayout", "start", "(I)J"⟩ : MethodName) prog_177_method_5_code 1 (some .long) ws ({ frames := 0, cells := 0, slots := 0, locals := 0 } : Room) #[(.int p1)] h0 (Q1 p1 h0) := by
  refine own_enter pn_com_example_vetted_envelope_vettedenvelope_util_ChunkLayout ?_
  intro p e s m below meth c s₁ hx hby hml0 hown hret hlk hnm hZ X0 e0
  have hml : c.maxLocals = 1 := hml0
  refine own_cast (ef_1 m p1) ?_
  show OG p e ({ frames := 0, cells := 0, slots := 0, locals := 0 } : Room) s below (fun v h L => v = some (.long (f1 p1)) ∧ L = [] ∧ h = h0) s₁ (mkF m 0 #[.val (.int p1)] [])
  refine own_st (fun t k => XS.iloadN X0.here hx rfl (hb hby d1_0) rfl k) ?_
  show OG p e _ s below _ s₁ (mkF m 1 #[.val (.int p1)] [(.int p1)])
  by_cases c1 : p1 = (0 : Int32)
  · refine own_st (fun t k => XS.ifNo X0.here hx rfl (hb hby d1_1) rfl (own_if0 (teq c1).2) k) ?_
    show OG p e _ s below _ s₁ (mkF m 4 #[.val (.int p1)] [])
    refine own_st (fun t k => XS.lconst X0.here hx rfl (hb hby d1_4) k) ?_
    show OG p e _ s below _ s₁ (mkF m 5 #[.val (.int p1)] [(.long (0 : Int64))])
    exact own_retL X0 hx hret hlk (hb hby d1_5) (by decide) (by decide) ⟨congrArg (fun z => some (Value.long z)) (show f1 p1 = (0 : Int64) from (by rw [f1, if_pos c1])).symm, rfl, e0⟩
  · refine own_st (fun t k => XS.ifYes X0.here hx rfl (pc0 := 1) (pc' := 6) rfl (hb hby d1_1) rfl (own_if0 (feq c1).2) (by decide) (by decide) k) ?_
    show OG p e _ s below _ s₁ (mkF m 6 #[.val (.int p1)] [])
    refine own_st (fun t k => XS.iloadN X0.here hx rfl (hb hby d1_6) rfl k) ?_
    show OG p e _ s below _ s₁ (mkF m 7 #[.val (.int p1)] [(.int p1)])
    refine own_st (fun t k => XS.bipush X0.here hx rfl (hb hby d1_7) k) ?_
    show OG p e _ s below _ s₁ (mkF m 9 #[.val (.int p1)] [(.int (9 : Int32)), (.int p1)])
    by_cases c2 : (9 : Int32) < p1
    · refine own_st (fun t k => XS.icmpYes X0.here hx rfl (pc0 := 9) (pc' := 26) rfl (hb hby d1_9) rfl (tlt c2).2.2.1 (by decide) (by decide) k) ?_
      show OG p e _ s below _ s₁ (mkF m 26 #[.val (.int p1)] [])
      obtain ⟨T3, X3, e3, st3⟩ := getS X0 hx hZ (host := "") hown (hw _ (List.mem_of_getElem? (i := 11) rfl)) Via.refl e0 S_G (g := (mkF m 26 #[.val (.int p1)] [])) rfl (hb hby d1_26)
      refine own_st st3 ?_
      show OG p e _ s below _ T3 (mkF m 29 #[.val (.int p1)] [(.long (16777072 : Int64))])
      refine own_st (fun t k => XS.iloadN X3.here hx rfl (hb hby d1_29) rfl k) ?_
      show OG p e _ s below _ T3 (mkF m 30 #[.val (.int p1)] [(.int p1), (.long (16777072 : Int64))])
      refine own_st (fun t k => XS.bipush X3.here hx rfl (hb hby d1_30) k) ?_
      show OG p e _ s below _ T3 (mkF m 32 #[.val (.int p1)] [(.int (9 : Int32)), (.int p1), (.long (16777072 : Int64))])
      refine own_st (fun t k => XS.isub X3.here hx rfl (hb hby d1_32) rfl k) ?_
      show OG p e _ s below _ T3 (mkF m 33 #[.val (.int p1)] [(.int (p1 - (9 : Int32))), (.long (16777072 : Int64))])
      refine own_st (fun t k => XS.i2l X3.here hx rfl (hb hby d1_33) rfl k) ?_
      show OG p e _ s below _ T3 (mkF m 34 #[.val (.int p1)] [(.long ((p1 - (9 : Int32)).toInt64)), (.long (16777072 : Int64))])
      refine own_st (fun t k => X3.ldc2Long hx hown (mvT hZ (hw _ (List.mem_of_getElem? (i := 13) rfl))) (g := (mkF m 34 #[.val (.int p1)] [(.long ((p1 - (9 : Int32)).toInt64)), (.long (16777072 : Int64))])) rfl (hb hby d1_34) _ k) ?_
      show OG p e _ s below _ T3 (mkF m 37 #[.val (.int p1)] [(.long (16777200 : Int64)), (.long ((p1 - (9 : Int32)).toInt64)), (.long (16777072 : Int64))])
      refine own_st (fun t k => XS.lmul X3.here hx rfl (hb hby d1_37) rfl k) ?_
      show OG p e _ s below _ T3 (mkF m 38 #[.val (.int p1)] [(.long (((p1 - (9 : Int32)).toInt64) * (16777200 : Int64))), (.long (16777072 : Int64))])
      refine own_st (fun t k => XS.ladd X3.here hx rfl (hb hby d1_38) rfl k) ?_
      show OG p e _ s below _ T3 (mkF m 39 #[.val (.int p1)] [(.long ((16777072 : Int64) + (((p1 - (9 : Int32)).toInt64) * (16777200 : Int64))))])
      exact own_retL X3 hx hret hlk (hb hby d1_39) (by decide) (by decide) ⟨congrArg (fun z => some (Value.long z)) (show f1 p1 = ((16777072 : Int64) + (((p1 - (9 : Int32)).toInt64) * (16777200 : Int64))) from (by rw [f1, if_neg c1, if_pos c2])).symm, rfl, e3⟩
    · refine own_st (fun t k => XS.icmpNo X0.here hx rfl (hb hby d1_9) rfl (flt c2).2.2.1 k) ?_
      show OG p e _ s below _ s₁ (mkF m 12 #[.val (.int p1)] [])
      refine own_st (fun t k => XS.lconst X0.here hx rfl (hb hby d1_12) k) ?_
      show OG p e _ s below _ s₁ (mkF m 13 #[.val (.int p1)] [(.long (1 : Int64))])
      refine own_st (fun t k => XS.bipush X0.here hx rfl (hb hby d1_13) k) ?_
      show OG p e _ s below _ s₁ (mkF m 15 #[.val (.int p1)] [(.int (15 : Int32)), (.long (1 : Int64))])
      refine own_st (fun t k => XS.iloadN X0.here hx rfl (hb hby d1_15) rfl k) ?_
      show OG p e _ s below _ s₁ (mkF m 16 #[.val (.int p1)] [(.int p1), (.int (15 : Int32)), (.long (1 : Int64))])
      refine own_st (fun t k => XS.iadd X0.here hx rfl (hb hby d1_16) rfl k) ?_
      show OG p e _ s below _ s₁ (mkF m 17 #[.val (.int p1)] [(.int ((15 : Int32) + p1)), (.long (1 : Int64))])
      refine own_st (fun t k => XS.lshl X0.here hx rfl (hb hby d1_17) rfl k) ?_
      show OG p e _ s below _ s₁ (mkF m 18 #[.val (.int p1)] [(.long ((1 : Int64) <<< (((15 : Int32) + p1) &&& 0x3f).toInt64))])
      refine own_st (fun t k => X0.ldc2Long hx hown (mvT hZ (hw _ (List.mem_of_getElem? (i := 5) rfl))) (g := (mkF m 18 #[.val (.int p1)] [(.long ((1 : Int64) <<< (((15 : Int32) + p1) &&& 0x3f).toInt64))])) rfl (hb hby d1_18) _ k) ?_
      show OG p e _ s below _ s₁ (mkF m 21 #[.val (.int p1)] [(.long (16 : Int64)), (.long ((1 : Int64) <<< (((15 : Int32) + p1) &&& 0x3f).toInt64))])
      refine own_st (fun t k => XS.iloadN X0.here hx rfl (hb hby d1_21) rfl k) ?_
      show OG p e _ s below _ s₁ (mkF m 22 #[.val (.int p1)] [(.int p1), (.long (16 : Int64)), (.long ((1 : Int64) <<< (((15 : Int32) + p1) &&& 0x3f).toInt64))])
      refine own_st (fun t k => XS.i2l X0.here hx rfl (hb hby d1_22) rfl k) ?_
      show OG p e _ s below _ s₁ (mkF m 23 #[.val (.int p1)] [(.long (p1.toInt64)), (.long (16 : Int64)), (.long ((1 : Int64) <<< (((15 : Int32) + p1) &&& 0x3f).toInt64))])
      refine own_st (fun t k => XS.lmul X0.here hx rfl (hb hby d1_23) rfl k) ?_
      show OG p e _ s below _ s₁ (mkF m 24 #[.val (.int p1)] [(.long ((16 : Int64) * (p1.toInt64))), (.long ((1 : Int64) <<< (((15 : Int32) + p1) &&& 0x3f).toInt64))])
      refine own_st (fun t k => XS.lsub X0.here hx rfl (hb hby d1_24) rfl k) ?_
      show OG p e _ s below _ s₁ (mkF m 25 #[.val (.int p1)] [(.long (((1 : Int64) <<< (((15 : Int32) + p1) &&& 0x3f).toInt64) - ((16 : Int64) * (p1.toInt64))))])
      exact own_retL X0 hx hret hlk (hb hby d1_25) (by decide) (by decide) ⟨congrArg (fun z => some (Value.long z)) (show f1 p1 = (((1 : Int64) <<< (((15 : Int32) + p1) &&& 0x3f).toInt64) - ((16 : Int64) * (p1.toInt64))) from (by rw [f1, if_neg c1, if_neg c2])).symm, rfl, e0⟩
theorem d2_0 : decode method_2_code 0 = .ok (.iload_n 0, 1) := by decide +kernel
theorem d2_1 : decode method_2_code 1 = .ok (.ifCond .ne 7, 3) := by decide +kernel
theorem d2_4 : decode method_2_code 4 = .ok (.ldc2_w 7, 3) := by decide +kernel
theorem d2_7 : decode method_2_code 7 = .ok (.lreturn, 1) := by decide +kernel
theorem d2_8 : decode method_2_code 8 = .ok (.iload_n 0, 1) := by decide +kernel
theorem d2_9 : decode method_2_code 9 = .ok (.bipush 8, 2) := by decide +kernel
theorem d2_11 : decode method_2_code 11 = .ok (.if_icmp .gt 14, 3) := by decide +kernel
theorem d2_14 : decode method_2_code 14 = .ok (.lconst 1, 1) := by decide +kernel
theorem d2_15 : decode method_2_code 15 = .ok (.bipush 15, 2) := by decide +kernel
theorem d2_17 : decode method_2_code 17 = .ok (.iload_n 0, 1) := by decide +kernel
theorem d2_18 : decode method_2_code 18 = .ok (.iadd, 1) := by decide +kernel
theorem d2_19 : decode method_2_code 19 = .ok (.lshl, 1) := by decide +kernel
theorem d2_20 : decode method_2_code 20 = .ok (.ldc2_w 9, 3) := by decide +kernel
theorem d2_23 : decode method_2_code 23 = .ok (.lsub, 1) := by decide +kernel
theorem d2_24 : decode method_2_code 24 = .ok (.lreturn, 1) := by decide +kernel
theorem d2_25 : decode method_2_code 25 = .ok (.ldc2_w 11, 3) := by decide +kernel
theorem d2_28 : decode method_2_code 28 = .ok (.lreturn, 1) := by decide +kernel
theorem pn_com_example_vetted_envelope_vettedenvelope_util_ChunkLayoutStartPinLaw : plainName "com/example/vetted_envelope/vettedenvelope/util/ChunkLayoutStartPinLaw" = true := by first | (simp [plainName, overriddenIn]; done) | decide +kernel
def f2 (p1 : Int32) : Int64 := (if p1 = (0 : Int32) then (65520 : Int64) else (if (8 : Int32) < p1 then (16777200 : Int64) else (((1 : Int64) <<< (((15 : Int32) + p1) &&& 0x3f).toInt64) - (16 : Int64))))
theorem ef_2 (m : MethodId) (p1 : Int32) : entryFrame m #[(.int p1)] 1 = (mkF m 0 #[.val (.int p1)] []) := by first | (simp [entryFrame, mkF, argsToLocals, Value.category]; done) | rfl
abbrev Q2 (p1 : Int32) (h0 : Heap) : Option Value → Heap → List Loc → Prop := (fun v h L => v = some (.long (f2 p1)) ∧ L = [] ∧ h = h0)
set_option maxRecDepth 65536 in
set_option maxHeartbeats 40000000 in
theorem rm2 (l : Launch) (Z : State) (a0 : Array Value) (hw : ∀ d ∈ tables_1, d.before a0 Z = true) (ws : List Jvm.Cond) (p1 : Int32) (h0 : Heap)  :
    OMet l Z (⟨"com/example/vetted_envelope/vettedenvelope/util/ChunkLayoutStartPinLaw", "expectedLength", "(I)J"⟩ : MethodName) method_2_code 1 (some .long) ws ({ frames := 0, cells := 0, slots := 0, locals := 0 } : Room) #[(.int p1)] h0 (Q2 p1 h0) := by
  refine own_enter pn_com_example_vetted_envelope_vettedenvelope_util_ChunkLayoutStartPinLaw ?_
  intro p e s m below meth c s₁ hx hby hml0 hown hret hlk hnm hZ X0 e0
  have hml : c.maxLocals = 1 := hml0
  refine own_cast (ef_2 m p1) ?_
  show OG p e ({ frames := 0, cells := 0, slots := 0, locals := 0 } : Room) s below (fun v h L => v = some (.long (f2 p1)) ∧ L = [] ∧ h = h0) s₁ (mkF m 0 #[.val (.int p1)] [])
  refine own_st (fun t k => XS.iloadN X0.here hx rfl (hb hby d2_0) rfl k) ?_
  show OG p e _ s below _ s₁ (mkF m 1 #[.val (.int p1)] [(.int p1)])
  by_cases c1 : p1 = (0 : Int32)
  · refine own_st (fun t k => XS.ifNo X0.here hx rfl (hb hby d2_1) rfl (own_if0 (teq c1).2) k) ?_
    show OG p e _ s below _ s₁ (mkF m 4 #[.val (.int p1)] [])
    refine own_st (fun t k => X0.ldc2Long hx hown (mvT hZ (hw _ (List.mem_of_getElem? (i := 10) rfl))) (g := (mkF m 4 #[.val (.int p1)] [])) rfl (hb hby d2_4) _ k) ?_
    show OG p e _ s below _ s₁ (mkF m 7 #[.val (.int p1)] [(.long (65520 : Int64))])
    exact own_retL X0 hx hret hlk (hb hby d2_7) (by decide) (by decide) ⟨congrArg (fun z => some (Value.long z)) (show f2 p1 = (65520 : Int64) from (by rw [f2, if_pos c1])).symm, rfl, e0⟩
  · refine own_st (fun t k => XS.ifYes X0.here hx rfl (pc0 := 1) (pc' := 8) rfl (hb hby d2_1) rfl (own_if0 (feq c1).2) (by decide) (by decide) k) ?_
    show OG p e _ s below _ s₁ (mkF m 8 #[.val (.int p1)] [])
    refine own_st (fun t k => XS.iloadN X0.here hx rfl (hb hby d2_8) rfl k) ?_
    show OG p e _ s below _ s₁ (mkF m 9 #[.val (.int p1)] [(.int p1)])
    refine own_st (fun t k => XS.bipush X0.here hx rfl (hb hby d2_9) k) ?_
    show OG p e _ s below _ s₁ (mkF m 11 #[.val (.int p1)] [(.int (8 : Int32)), (.int p1)])
    by_cases c2 : (8 : Int32) < p1
    · refine own_st (fun t k => XS.icmpYes X0.here hx rfl (pc0 := 11) (pc' := 25) rfl (hb hby d2_11) rfl (tlt c2).2.2.1 (by decide) (by decide) k) ?_
      show OG p e _ s below _ s₁ (mkF m 25 #[.val (.int p1)] [])
      refine own_st (fun t k => X0.ldc2Long hx hown (mvT hZ (hw _ (List.mem_of_getElem? (i := 14) rfl))) (g := (mkF m 25 #[.val (.int p1)] [])) rfl (hb hby d2_25) _ k) ?_
      show OG p e _ s below _ s₁ (mkF m 28 #[.val (.int p1)] [(.long (16777200 : Int64))])
      exact own_retL X0 hx hret hlk (hb hby d2_28) (by decide) (by decide) ⟨congrArg (fun z => some (Value.long z)) (show f2 p1 = (16777200 : Int64) from (by rw [f2, if_neg c1, if_pos c2])).symm, rfl, e0⟩
    · refine own_st (fun t k => XS.icmpNo X0.here hx rfl (hb hby d2_11) rfl (flt c2).2.2.1 k) ?_
      show OG p e _ s below _ s₁ (mkF m 14 #[.val (.int p1)] [])
      refine own_st (fun t k => XS.lconst X0.here hx rfl (hb hby d2_14) k) ?_
      show OG p e _ s below _ s₁ (mkF m 15 #[.val (.int p1)] [(.long (1 : Int64))])
      refine own_st (fun t k => XS.bipush X0.here hx rfl (hb hby d2_15) k) ?_
      show OG p e _ s below _ s₁ (mkF m 17 #[.val (.int p1)] [(.int (15 : Int32)), (.long (1 : Int64))])
      refine own_st (fun t k => XS.iloadN X0.here hx rfl (hb hby d2_17) rfl k) ?_
      show OG p e _ s below _ s₁ (mkF m 18 #[.val (.int p1)] [(.int p1), (.int (15 : Int32)), (.long (1 : Int64))])
      refine own_st (fun t k => XS.iadd X0.here hx rfl (hb hby d2_18) rfl k) ?_
      show OG p e _ s below _ s₁ (mkF m 19 #[.val (.int p1)] [(.int ((15 : Int32) + p1)), (.long (1 : Int64))])
      refine own_st (fun t k => XS.lshl X0.here hx rfl (hb hby d2_19) rfl k) ?_
      show OG p e _ s below _ s₁ (mkF m 20 #[.val (.int p1)] [(.long ((1 : Int64) <<< (((15 : Int32) + p1) &&& 0x3f).toInt64))])
      refine own_st (fun t k => X0.ldc2Long hx hown (mvT hZ (hw _ (List.mem_of_getElem? (i := 15) rfl))) (g := (mkF m 20 #[.val (.int p1)] [(.long ((1 : Int64) <<< (((15 : Int32) + p1) &&& 0x3f).toInt64))])) rfl (hb hby d2_20) _ k) ?_
      show OG p e _ s below _ s₁ (mkF m 23 #[.val (.int p1)] [(.long (16 : Int64)), (.long ((1 : Int64) <<< (((15 : Int32) + p1) &&& 0x3f).toInt64))])
      refine own_st (fun t k => XS.lsub X0.here hx rfl (hb hby d2_23) rfl k) ?_
      show OG p e _ s below _ s₁ (mkF m 24 #[.val (.int p1)] [(.long (((1 : Int64) <<< (((15 : Int32) + p1) &&& 0x3f).toInt64) - (16 : Int64)))])
      exact own_retL X0 hx hret hlk (hb hby d2_24) (by decide) (by decide) ⟨congrArg (fun z => some (Value.long z)) (show f2 p1 = (((1 : Int64) <<< (((15 : Int32) + p1) &&& 0x3f).toInt64) - (16 : Int64)) from (by rw [f2, if_neg c1, if_neg c2])).symm, rfl, e0⟩
theorem pd__I_J : parseMethodDescriptor "(I)J" = some ⟨[.int], some .long⟩ := by decide +kernel
def g0_1 (p1 : Int32) (p2 : Int32) : Int32 := ((p1 &&& (2147483647 : Int32)) % (2147483647 : Int32))
def g0_2 (p1 : Int32) (p2 : Int32) : Int32 := ((p1 &&& (2147483647 : Int32)) % (16 : Int32))
def f0 (p1 : Int32) (p2 : Int32) : Int32 := (if (p2 &&& (1 : Int32)) = (0 : Int32) then (if (f1 (0 : Int32)) = (0 : Int64) then (if ((f1 ((g0_1 p1 p2) + (1 : Int32))) - (f1 (g0_1 p1 p2))) = (f2 (g0_1 p1 p2)) then (1 : Int32) else (0 : Int32)) else (0 : Int32)) else (if (f1 (0 : Int32)) = (0 : Int64) then (if ((f1 ((g0_2 p1 p2) + (1 : Int32))) - (f1 (g0_2 p1 p2))) = (f2 (g0_2 p1 p2)) then (1 : Int32) else (0 : Int32)) else (0 : Int32)))
theorem ef_0 (m : MethodId) (p1 : Int32) (p2 : Int32) : entryFrame m #[(.int p1), (.int p2)] 7 = (mkF m 0 #[.val (.int p1), .val (.int p2), .unset, .unset, .unset, .unset, .unset] []) := by first | (simp [entryFrame, mkF, argsToLocals, Value.category]; done) | rfl
abbrev Q0 (p1 : Int32) (p2 : Int32) (h0 : Heap) : Option Value → Heap → List Loc → Prop := (fun v h L => v = some (.int (f0 p1 p2)) ∧ L = [] ∧ h = h0)
set_option maxRecDepth 65536 in
set_option maxHeartbeats 40000000 in
theorem rm0 (l : Launch) (Z : State) (a0 : Array Value) (hw : ∀ d ∈ tables_1, d.before a0 Z = true) (ws : List Jvm.Cond) (p1 : Int32) (p2 : Int32) (h0 : Heap) (S_G : Sta Z h0 "com/example/vetted_envelope/vettedenvelope/util/ChunkLayout" "GROWN_START" "J" (.long (16777072 : Int64))) :
    OMet l Z x code maxLocals ret ws room_1 #[(.int p1), (.int p2)] h0 (Q0 p1 p2 h0) := by
  refine own_enter pn_com_example_vetted_envelope_vettedenvelope_util_ChunkLayoutStartPinLaw ?_
  intro p e s m below meth c s₁ hx hby hml0 hown hret hlk hnm hZ X0 e0
  have hml : c.maxLocals = 7 := hml0
  refine own_cast (ef_0 m p1 p2) ?_
  show OG p e room_1 s below (fun v h L => v = some (.int (f0 p1 p2)) ∧ L = [] ∧ h = h0) s₁ (mkF m 0 #[.val (.int p1), .val (.int p2), .unset, .unset, .unset, .unset, .unset] [])
  refine own_st (fun t k => XS.iloadN X0.here hx rfl (hb hby at_0) rfl k) ?_
  show OG p e _ s below _ s₁ (mkF m 1 #[.val (.int p1), .val (.int p2), .unset, .unset, .unset, .unset, .unset] [(.int p2)])
  refine own_st (fun t k => XS.iconst X0.here hx rfl (hb hby at_1) k) ?_
  show OG p e _ s below _ s₁ (mkF m 2 #[.val (.int p1), .val (.int p2), .unset, .unset, .unset, .unset, .unset] [(.int (1 : Int32)), (.int p2)])
  refine own_st (fun t k => XS.iand X0.here hx rfl (hb hby at_2) rfl k) ?_
  show OG p e _ s below _ s₁ (mkF m 3 #[.val (.int p1), .val (.int p2), .unset, .unset, .unset, .unset, .unset] [(.int (p2 &&& (1 : Int32)))])
  by_cases c1 : (p2 &&& (1 : Int32)) = (0 : Int32)
  · refine own_st (fun t k => XS.ifYes X0.here hx rfl (pc0 := 3) (pc' := 17) rfl (hb hby at_3) rfl (own_if0 (teq c1).1) (by decide) (by decide) k) ?_
    show OG p e _ s below _ s₁ (mkF m 17 #[.val (.int p1), .val (.int p2), .unset, .unset, .unset, .unset, .unset] [])
    refine own_st (fun t k => XS.iloadN X0.here hx rfl (hb hby at_17) rfl k) ?_
    show OG p e _ s below _ s₁ (mkF m 18 #[.val (.int p1), .val (.int p2), .unset, .unset, .unset, .unset, .unset] [(.int p1)])
    refine own_st (fun t k => X0.ldcInt hx hown (mvT hZ (hw _ (List.mem_of_getElem? (i := 0) rfl))) (g := (mkF m 18 #[.val (.int p1), .val (.int p2), .unset, .unset, .unset, .unset, .unset] [(.int p1)])) rfl (hb hby at_18) _ k) ?_
    show OG p e _ s below _ s₁ (mkF m 20 #[.val (.int p1), .val (.int p2), .unset, .unset, .unset, .unset, .unset] [(.int (2147483647 : Int32)), (.int p1)])
    refine own_st (fun t k => XS.iand X0.here hx rfl (hb hby at_20) rfl k) ?_
    show OG p e _ s below _ s₁ (mkF m 21 #[.val (.int p1), .val (.int p2), .unset, .unset, .unset, .unset, .unset] [(.int (p1 &&& (2147483647 : Int32)))])
    refine own_st (fun t k => X0.ldcInt hx hown (mvT hZ (hw _ (List.mem_of_getElem? (i := 0) rfl))) (g := (mkF m 21 #[.val (.int p1), .val (.int p2), .unset, .unset, .unset, .unset, .unset] [(.int (p1 &&& (2147483647 : Int32)))])) rfl (hb hby at_21) _ k) ?_
    show OG p e _ s below _ s₁ (mkF m 23 #[.val (.int p1), .val (.int p2), .unset, .unset, .unset, .unset, .unset] [(.int (2147483647 : Int32)), (.int (p1 &&& (2147483647 : Int32)))])
    refine own_st (fun t k => iremM X0 hx rfl (hb hby at_23) rfl (by decide) k) ?_
    show OG p e _ s below _ s₁ (mkF m 24 #[.val (.int p1), .val (.int p2), .unset, .unset, .unset, .unset, .unset] [(.int ((p1 &&& (2147483647 : Int32)) % (2147483647 : Int32)))])
    refine own_st (fun t k => XS.istoreN X0.here hx rfl (hb hby at_24) rfl (l' := #[.val (.int p1), .val (.int p2), .val (.int (g0_1 p1 p2)), .unset, .unset, .unset, .unset]) rfl k) ?_
    show OG p e _ s below _ s₁ (mkF m 25 #[.val (.int p1), .val (.int p2), .val (.int (g0_1 p1 p2)), .unset, .unset, .unset, .unset] [])
    refine own_st (fun t k => XS.iconst X0.here hx rfl (hb hby at_25) k) ?_
    show OG p e _ s below _ s₁ (mkF m 26 #[.val (.int p1), .val (.int p2), .val (.int (g0_1 p1 p2)), .unset, .unset, .unset, .unset] [(.int (0 : Int32))])
    obtain ⟨_, _, ⟨T2, L2, k2, n2⟩, -, X2, ⟨Lc2, hQ2, l2, y2, z2⟩, st2⟩ := Jvm.LawKit.callS X0 hx (y := (⟨"com/example/vetted_envelope/vettedenvelope/util/ChunkLayout", "start", "(I)J"⟩ : MethodName)) hown (mvT hZ (hw _ (List.mem_of_getElem? (i := 1) rfl))) (mvT hZ (hw _ (List.mem_of_getElem? (i := 2) rfl))) (mvT hZ (hw _ (List.mem_of_getElem? (i := 3) rfl))) (mvT hZ (hw _ (List.mem_of_getElem? (i := 4) rfl))) (by decide) (backOf (W := 0) (rm := ({ frames := 0, cells := 0, slots := 0, locals := 0 } : Room)) (rm1 l Z a0 hw [] (0 : Int32) h0 S_G) hZ (hw _ (List.mem_of_getElem? (i := 4) rfl)) (hw _ (List.mem_of_getElem? (i := 3) rfl)) (by decide) (by decide)) (g := (mkF m 26 #[.val (.int p1), .val (.int p2), .val (.int (g0_1 p1 p2)), .unset, .unset, .unset, .unset] [(.int (0 : Int32))])) rfl (by rw [hml]; rfl) (argsL := [(.int (0 : Int32))]) (rest := []) (lenOf pd__I_J rfl) rfl (by show 2 * 0 + _ ≤ _; exact Nat.le_of_eq rfl) (hb hby at_26) (fun _ _ => ⟨rfl, e0, (by decide : 0 + 0 ≤ _), (by decide : 0 + 0 ≤ _)⟩)
    dsimp only [Pt.U, Pt.locs, Pt.cells, Pt.slots] at X2 l2 y2 z2 st2 hQ2
    subst l2 y2 z2
    obtain ⟨rfl, rfl, e2⟩ := hQ2
    refine own_st st2 ?_
    show OG p e _ s below _ T2 (mkF m 29 #[.val (.int p1), .val (.int p2), .val (.int (g0_1 p1 p2)), .unset, .unset, .unset, .unset] [(.long (f1 (0 : Int32)))])
    refine own_st (fun t k => XS.lconst X2.here hx rfl (hb hby at_29) k) ?_
    show OG p e _ s below _ T2 (mkF m 30 #[.val (.int p1), .val (.int p2), .val (.int (g0_1 p1 p2)), .unset, .unset, .unset, .unset] [(.long (0 : Int64)), (.long (f1 (0 : Int32)))])
    refine own_st (fun t k => XS.lcmp X2.here hx rfl (hb hby at_30) rfl k) ?_
    show OG p e _ s below _ T2 (mkF m 31 #[.val (.int p1), .val (.int p2), .val (.int (g0_1 p1 p2)), .unset, .unset, .unset, .unset] [(.int (lcmpW (f1 (0 : Int32)) (0 : Int64)))])
    by_cases c3 : (f1 (0 : Int32)) = (0 : Int64)
    · refine own_st (fun t k => XS.ifYes X2.here hx rfl (pc0 := 31) (pc' := 36) rfl (hb hby at_31) rfl (own_if0 (teq ((lw_eq _ _).mpr c3)).1) (by decide) (by decide) k) ?_
      show OG p e _ s below _ T2 (mkF m 36 #[.val (.int p1), .val (.int p2), .val (.int (g0_1 p1 p2)), .unset, .unset, .unset, .unset] [])
      refine own_st (fun t k => XS.iloadN X2.here hx rfl (hb hby at_36) rfl k) ?_
      show OG p e _ s below _ T2 (mkF m 37 #[.val (.int p1), .val (.int p2), .val (.int (g0_1 p1 p2)), .unset, .unset, .unset, .unset] [(.int (g0_1 p1 p2))])
      obtain ⟨_, _, ⟨T4, L4, k4, n4⟩, -, X4, ⟨Lc4, hQ4, l4, y4, z4⟩, st4⟩ := Jvm.LawKit.callS X2 hx (y := (⟨"com/example/vetted_envelope/vettedenvelope/util/ChunkLayout", "start", "(I)J"⟩ : MethodName)) hown (mvT hZ (hw _ (List.mem_of_getElem? (i := 1) rfl))) (mvT hZ (hw _ (List.mem_of_getElem? (i := 2) rfl))) (mvT hZ (hw _ (List.mem_of_getElem? (i := 3) rfl))) (mvT hZ (hw _ (List.mem_of_getElem? (i := 4) rfl))) (by decide) (backOf (W := 0) (rm := ({ frames := 0, cells := 0, slots := 0, locals := 0 } : Room)) (rm1 l Z a0 hw [] (g0_1 p1 p2) h0 S_G) hZ (hw _ (List.mem_of_getElem? (i := 4) rfl)) (hw _ (List.mem_of_getElem? (i := 3) rfl)) (by decide) (by decide)) (g := (mkF m 37 #[.val (.int p1), .val (.int p2), .val (.int (g0_1 p1 p2)), .unset, .unset, .unset, .unset] [(.int (g0_1 p1 p2))])) rfl (by rw [hml]; rfl) (argsL := [(.int (g0_1 p1 p2))]) (rest := []) (lenOf pd__I_J rfl) rfl (by show 2 * 0 + _ ≤ _; exact Nat.le_of_eq rfl) (hb hby at_37) (fun _ _ => ⟨rfl, e2, (by decide : 0 + 0 ≤ _), (by decide : 0 + 0 ≤ _)⟩)
      dsimp only [Pt.U, Pt.locs, Pt.cells, Pt.slots] at X4 l4 y4 z4 st4 hQ4
      subst l4 y4 z4
      obtain ⟨rfl, rfl, e4⟩ := hQ4
      refine own_st st4 ?_
      show OG p e _ s below _ T4 (mkF m 40 #[.val (.int p1), .val (.int p2), .val (.int (g0_1 p1 p2)), .unset, .unset, .unset, .unset] [(.long (f1 (g0_1 p1 p2)))])
      refine own_st (fun t k => XS.lstoreN X4.here hx rfl (hb hby at_40) rfl (l' := #[.val (.int p1), .val (.int p2), .val (.int (g0_1 p1 p2)), .val (.long (f1 (g0_1 p1 p2))), .second, .unset, .unset]) rfl k) ?_
      show OG p e _ s below _ T4 (mkF m 41 #[.val (.int p1), .val (.int p2), .val (.int (g0_1 p1 p2)), .val (.long (f1 (g0_1 p1 p2))), .second, .unset, .unset] [])
      refine own_st (fun t k => XS.iloadN X4.here hx rfl (hb hby at_41) rfl k) ?_
      show OG p e _ s below _ T4 (mkF m 42 #[.val (.int p1), .val (.int p2), .val (.int (g0_1 p1 p2)), .val (.long (f1 (g0_1 p1 p2))), .second, .unset, .unset] [(.int (g0_1 p1 p2))])
      refine own_st (fun t k => XS.iconst X4.here hx rfl (hb hby at_42) k) ?_
      show OG p e _ s below _ T4 (mkF m 43 #[.val (.int p1), .val (.int p2), .val (.int (g0_1 p1 p2)), .val (.long (f1 (g0_1 p1 p2))), .second, .unset, .unset] [(.int (1 : Int32)), (.int (g0_1 p1 p2))])
      refine own_st (fun t k => XS.iadd X4.here hx rfl (hb hby at_43) rfl k) ?_
      show OG p e _ s below _ T4 (mkF m 44 #[.val (.int p1), .val (.int p2), .val (.int (g0_1 p1 p2)), .val (.long (f1 (g0_1 p1 p2))), .second, .unset, .unset] [(.int ((g0_1 p1 p2) + (1 : Int32)))])
      obtain ⟨_, _, ⟨T5, L5, k5, n5⟩, -, X5, ⟨Lc5, hQ5, l5, y5, z5⟩, st5⟩ := Jvm.LawKit.callS X4 hx (y := (⟨"com/example/vetted_envelope/vettedenvelope/util/ChunkLayout", "start", "(I)J"⟩ : MethodName)) hown (mvT hZ (hw _ (List.mem_of_getElem? (i := 1) rfl))) (mvT hZ (hw _ (List.mem_of_getElem? (i := 2) rfl))) (mvT hZ (hw _ (List.mem_of_getElem? (i := 3) rfl))) (mvT hZ (hw _ (List.mem_of_getElem? (i := 4) rfl))) (by decide) (backOf (W := 0) (rm := ({ frames := 0, cells := 0, slots := 0, locals := 0 } : Room)) (rm1 l Z a0 hw [] ((g0_1 p1 p2) + (1 : Int32)) h0 S_G) hZ (hw _ (List.mem_of_getElem? (i := 4) rfl)) (hw _ (List.mem_of_getElem? (i := 3) rfl)) (by decide) (by decide)) (g := (mkF m 44 #[.val (.int p1), .val (.int p2), .val (.int (g0_1 p1 p2)), .val (.long (f1 (g0_1 p1 p2))), .second, .unset, .unset] [(.int ((g0_1 p1 p2) + (1 : Int32)))])) rfl (by rw [hml]; rfl) (argsL := [(.int ((g0_1 p1 p2) + (1 : Int32)))]) (rest := []) (lenOf pd__I_J rfl) rfl (by show 2 * 0 + _ ≤ _; exact Nat.le_of_eq rfl) (hb hby at_44) (fun _ _ => ⟨rfl, e4, (by decide : 0 + 0 ≤ _), (by decide : 0 + 0 ≤ _)⟩)
      dsimp only [Pt.U, Pt.locs, Pt.cells, Pt.slots] at X5 l5 y5 z5 st5 hQ5
      subst l5 y5 z5
      obtain ⟨rfl, rfl, e5⟩ := hQ5
      refine own_st st5 ?_
      show OG p e _ s below _ T5 (mkF m 47 #[.val (.int p1), .val (.int p2), .val (.int (g0_1 p1 p2)), .val (.long (f1 (g0_1 p1 p2))), .second, .unset, .unset] [(.long (f1 ((g0_1 p1 p2) + (1 : Int32))))])
      refine own_st (fun t k => XS.lstore X5.here hx rfl (hb hby at_47) rfl (l' := #[.val (.int p1), .val (.int p2), .val (.int (g0_1 p1 p2)), .val (.long (f1 (g0_1 p1 p2))), .second, .val (.long (f1 ((g0_1 p1 p2) + (1 : Int32)))), .second]) rfl k) ?_
      show OG p e _ s below _ T5 (mkF m 49 #[.val (.int p1), .val (.int p2), .val (.int (g0_1 p1 p2)), .val (.long (f1 (g0_1 p1 p2))), .second, .val (.long (f1 ((g0_1 p1 p2) + (1 : Int32)))), .second] [])
      refine own_st (fun t k => XS.lload X5.here hx rfl (hb hby at_49) rfl k) ?_
      show OG p e _ s below _ T5 (mkF m 51 #[.val (.int p1), .val (.int p2), .val (.int (g0_1 p1 p2)), .val (.long (f1 (g0_1 p1 p2))), .second, .val (.long (f1 ((g0_1 p1 p2) + (1 : Int32)))), .second] [(.long (f1 ((g0_1 p1 p2) + (1 : Int32))))])
      refine own_st (fun t k => XS.lloadN X5.here hx rfl (hb hby at_51) rfl k) ?_
      show OG p e _ s below _ T5 (mkF m 52 #[.val (.int p1), .val (.int p2), .val (.int (g0_1 p1 p2)), .val (.long (f1 (g0_1 p1 p2))), .second, .val (.long (f1 ((g0_1 p1 p2) + (1 : Int32)))), .second] [(.long (f1 (g0_1 p1 p2))), (.long (f1 ((g0_1 p1 p2) + (1 : Int32))))])
      refine own_st (fun t k => XS.lsub X5.here hx rfl (hb hby at_52) rfl k) ?_
      show OG p e _ s below _ T5 (mkF m 53 #[.val (.int p1), .val (.int p2), .val (.int (g0_1 p1 p2)), .val (.long (f1 (g0_1 p1 p2))), .second, .val (.long (f1 ((g0_1 p1 p2) + (1 : Int32)))), .second] [(.long ((f1 ((g0_1 p1 p2) + (1 : Int32))) - (f1 (g0_1 p1 p2))))])
      refine own_st (fun t k => XS.iloadN X5.here hx rfl (hb hby at_53) rfl k) ?_
      show OG p e _ s below _ T5 (mkF m 54 #[.val (.int p1), .val (.int p2), .val (.int (g0_1 p1 p2)), .val (.long (f1 (g0_1 p1 p2))), .second, .val (.long (f1 ((g0_1 p1 p2) + (1 : Int32)))), .second] [(.int (g0_1 p1 p2)), (.long ((f1 ((g0_1 p1 p2) + (1 : Int32))) - (f1 (g0_1 p1 p2))))])
      obtain ⟨_, _, ⟨T6, L6, k6, n6⟩, -, X6, ⟨Lc6, hQ6, l6, y6, z6⟩, st6⟩ := Jvm.LawKit.callS X5 hx (y := (⟨"com/example/vetted_envelope/vettedenvelope/util/ChunkLayoutStartPinLaw", "expectedLength", "(I)J"⟩ : MethodName)) hown (mvT hZ (hw _ (List.mem_of_getElem? (i := 6) rfl))) (mvT hZ (hw _ (List.mem_of_getElem? (i := 7) rfl))) (mvT hZ (hw _ (List.mem_of_getElem? (i := 8) rfl))) (mvT hZ (hw _ (List.mem_of_getElem? (i := 9) rfl))) (by decide) (backOf (W := 2) (rm := ({ frames := 0, cells := 0, slots := 0, locals := 0 } : Room)) (rm2 l Z a0 hw [] (g0_1 p1 p2) h0) hZ (hw _ (List.mem_of_getElem? (i := 9) rfl)) (hw _ (List.mem_of_getElem? (i := 8) rfl)) (by decide) (by decide)) (g := (mkF m 54 #[.val (.int p1), .val (.int p2), .val (.int (g0_1 p1 p2)), .val (.long (f1 (g0_1 p1 p2))), .second, .val (.long (f1 ((g0_1 p1 p2) + (1 : Int32)))), .second] [(.int (g0_1 p1 p2)), (.long ((f1 ((g0_1 p1 p2) + (1 : Int32))) - (f1 (g0_1 p1 p2))))])) rfl (by rw [hml]; rfl) (argsL := [(.int (g0_1 p1 p2))]) (rest := [(.long ((f1 ((g0_1 p1 p2) + (1 : Int32))) - (f1 (g0_1 p1 p2))))]) (lenOf pd__I_J rfl) rfl (by show 2 * 0 + _ ≤ _; exact Nat.le_of_eq rfl) (hb hby at_54) (fun _ _ => ⟨rfl, e5, (by decide : 0 + 0 ≤ _), (by decide : 0 + 0 ≤ _)⟩)
      dsimp only [Pt.U, Pt.locs, Pt.cells, Pt.slots] at X6 l6 y6 z6 st6 hQ6
      subst l6 y6 z6
      obtain ⟨rfl, rfl, e6⟩ := hQ6
      refine own_st st6 ?_
      show OG p e _ s below _ T6 (mkF m 57 #[.val (.int p1), .val (.int p2), .val (.int (g0_1 p1 p2)), .val (.long (f1 (g0_1 p1 p2))), .second, .val (.long (f1 ((g0_1 p1 p2) + (1 : Int32)))), .second] [(.long (f2 (g0_1 p1 p2))), (.long ((f1 ((g0_1 p1 p2) + (1 : Int32))) - (f1 (g0_1 p1 p2))))])
      refine own_st (fun t k => XS.lcmp X6.here hx rfl (hb hby at_57) rfl k) ?_
      show OG p e _ s below _ T6 (mkF m 58 #[.val (.int p1), .val (.int p2), .val (.int (g0_1 p1 p2)), .val (.long (f1 (g0_1 p1 p2))), .second, .val (.long (f1 ((g0_1 p1 p2) + (1 : Int32)))), .second] [(.int (lcmpW ((f1 ((g0_1 p1 p2) + (1 : Int32))) - (f1 (g0_1 p1 p2))) (f2 (g0_1 p1 p2))))])
      by_cases c7 : ((f1 ((g0_1 p1 p2) + (1 : Int32))) - (f1 (g0_1 p1 p2))) = (f2 (g0_1 p1 p2))
      · refine own_st (fun t k => XS.ifNo X6.here hx rfl (hb hby at_58) rfl (own_if0 (teq ((lw_eq _ _).mpr c7)).2) k) ?_
        show OG p e _ s below _ T6 (mkF m 61 #[.val (.int p1), .val (.int p2), .val (.int (g0_1 p1 p2)), .val (.long (f1 (g0_1 p1 p2))), .second, .val (.long (f1 ((g0_1 p1 p2) + (1 : Int32)))), .second] [])
        refine own_st (fun t k => XS.iconst X6.here hx rfl (hb hby at_61) k) ?_
        show OG p e _ s below _ T6 (mkF m 62 #[.val (.int p1), .val (.int p2), .val (.int (g0_1 p1 p2)), .val (.long (f1 (g0_1 p1 p2))), .second, .val (.long (f1 ((g0_1 p1 p2) + (1 : Int32)))), .second] [(.int (1 : Int32))])
        refine own_st (fun t k => XS.goto X6.here hx rfl (pc0 := 62) (pc' := 66) rfl (hb hby at_62) (by decide) (by decide) k) ?_
        show OG p e _ s below _ T6 (mkF m 66 #[.val (.int p1), .val (.int p2), .val (.int (g0_1 p1 p2)), .val (.long (f1 (g0_1 p1 p2))), .second, .val (.long (f1 ((g0_1 p1 p2) + (1 : Int32)))), .second] [(.int (1 : Int32))])
        exact own_retZ X6 hx (t := .boolean) hret (by simp) hlk (hb hby at_66) (by decide) (by decide) (w := (1 : Int32)) rfl ⟨congrArg (fun z => some (Value.int z)) (show f0 p1 p2 = (1 : Int32) from (by rw [f0, if_pos c1, if_pos c3, if_pos c7])).symm, rfl, e6⟩
      · refine own_st (fun t k => XS.ifYes X6.here hx rfl (pc0 := 58) (pc' := 65) rfl (hb hby at_58) rfl (own_if0 (feq (fun q => c7 ((lw_eq _ _).mp q))).2) (by decide) (by decide) k) ?_
        show OG p e _ s below _ T6 (mkF m 65 #[.val (.int p1), .val (.int p2), .val (.int (g0_1 p1 p2)), .val (.long (f1 (g0_1 p1 p2))), .second, .val (.long (f1 ((g0_1 p1 p2) + (1 : Int32)))), .second] [])
        refine own_st (fun t k => XS.iconst X6.here hx rfl (hb hby at_65) k) ?_
        show OG p e _ s below _ T6 (mkF m 66 #[.val (.int p1), .val (.int p2), .val (.int (g0_1 p1 p2)), .val (.long (f1 (g0_1 p1 p2))), .second, .val (.long (f1 ((g0_1 p1 p2) + (1 : Int32)))), .second] [(.int (0 : Int32))])
        exact own_retZ X6 hx (t := .boolean) hret (by simp) hlk (hb hby at_66) (by decide) (by decide) (w := (0 : Int32)) rfl ⟨congrArg (fun z => some (Value.int z)) (show f0 p1 p2 = (0 : Int32) from (by rw [f0, if_pos c1, if_pos c3, if_neg c7])).symm, rfl, e6⟩
    · refine own_st (fun t k => XS.ifNo X2.here hx rfl (hb hby at_31) rfl (own_if0 (feq (fun q => c3 ((lw_eq _ _).mp q))).1) k) ?_
      show OG p e _ s below _ T2 (mkF m 34 #[.val (.int p1), .val (.int p2), .val (.int (g0_1 p1 p2)), .unset, .unset, .unset, .unset] [])
      refine own_st (fun t k => XS.iconst X2.here hx rfl (hb hby at_34) k) ?_
      show OG p e _ s below _ T2 (mkF m 35 #[.val (.int p1), .val (.int p2), .val (.int (g0_1 p1 p2)), .unset, .unset, .unset, .unset] [(.int (0 : Int32))])
      exact own_retZ X2 hx (t := .boolean) hret (by simp) hlk (hb hby at_35) (by decide) (by decide) (w := (0 : Int32)) rfl ⟨congrArg (fun z => some (Value.int z)) (show f0 p1 p2 = (0 : Int32) from (by rw [f0, if_pos c1, if_neg c3])).symm, rfl, e2⟩
  · refine own_st (fun t k => XS.ifNo X0.here hx rfl (hb hby at_3) rfl (own_if0 (feq c1).1) k) ?_
    show OG p e _ s below _ s₁ (mkF m 6 #[.val (.int p1), .val (.int p2), .unset, .unset, .unset, .unset, .unset] [])
    refine own_st (fun t k => XS.iloadN X0.here hx rfl (hb hby at_6) rfl k) ?_
    show OG p e _ s below _ s₁ (mkF m 7 #[.val (.int p1), .val (.int p2), .unset, .unset, .unset, .unset, .unset] [(.int p1)])
    refine own_st (fun t k => X0.ldcInt hx hown (mvT hZ (hw _ (List.mem_of_getElem? (i := 0) rfl))) (g := (mkF m 7 #[.val (.int p1), .val (.int p2), .unset, .unset, .unset, .unset, .unset] [(.int p1)])) rfl (hb hby at_7) _ k) ?_
    show OG p e _ s below _ s₁ (mkF m 9 #[.val (.int p1), .val (.int p2), .unset, .unset, .unset, .unset, .unset] [(.int (2147483647 : Int32)), (.int p1)])
    refine own_st (fun t k => XS.iand X0.here hx rfl (hb hby at_9) rfl k) ?_
    show OG p e _ s below _ s₁ (mkF m 10 #[.val (.int p1), .val (.int p2), .unset, .unset, .unset, .unset, .unset] [(.int (p1 &&& (2147483647 : Int32)))])
    refine own_st (fun t k => XS.bipush X0.here hx rfl (hb hby at_10) k) ?_
    show OG p e _ s below _ s₁ (mkF m 12 #[.val (.int p1), .val (.int p2), .unset, .unset, .unset, .unset, .unset] [(.int (16 : Int32)), (.int (p1 &&& (2147483647 : Int32)))])
    refine own_st (fun t k => iremM X0 hx rfl (hb hby at_12) rfl (by decide) k) ?_
    show OG p e _ s below _ s₁ (mkF m 13 #[.val (.int p1), .val (.int p2), .unset, .unset, .unset, .unset, .unset] [(.int ((p1 &&& (2147483647 : Int32)) % (16 : Int32)))])
    refine own_st (fun t k => XS.istoreN X0.here hx rfl (hb hby at_13) rfl (l' := #[.val (.int p1), .val (.int p2), .val (.int (g0_2 p1 p2)), .unset, .unset, .unset, .unset]) rfl k) ?_
    show OG p e _ s below _ s₁ (mkF m 14 #[.val (.int p1), .val (.int p2), .val (.int (g0_2 p1 p2)), .unset, .unset, .unset, .unset] [])
    refine own_st (fun t k => XS.goto X0.here hx rfl (pc0 := 14) (pc' := 25) rfl (hb hby at_14) (by decide) (by decide) k) ?_
    show OG p e _ s below _ s₁ (mkF m 25 #[.val (.int p1), .val (.int p2), .val (.int (g0_2 p1 p2)), .unset, .unset, .unset, .unset] [])
    refine own_st (fun t k => XS.iconst X0.here hx rfl (hb hby at_25) k) ?_
    show OG p e _ s below _ s₁ (mkF m 26 #[.val (.int p1), .val (.int p2), .val (.int (g0_2 p1 p2)), .unset, .unset, .unset, .unset] [(.int (0 : Int32))])
    obtain ⟨_, _, ⟨T8, L8, k8, n8⟩, -, X8, ⟨Lc8, hQ8, l8, y8, z8⟩, st8⟩ := Jvm.LawKit.callS X0 hx (y := (⟨"com/example/vetted_envelope/vettedenvelope/util/ChunkLayout", "start", "(I)J"⟩ : MethodName)) hown (mvT hZ (hw _ (List.mem_of_getElem? (i := 1) rfl))) (mvT hZ (hw _ (List.mem_of_getElem? (i := 2) rfl))) (mvT hZ (hw _ (List.mem_of_getElem? (i := 3) rfl))) (mvT hZ (hw _ (List.mem_of_getElem? (i := 4) rfl))) (by decide) (backOf (W := 0) (rm := ({ frames := 0, cells := 0, slots := 0, locals := 0 } : Room)) (rm1 l Z a0 hw [] (0 : Int32) h0 S_G) hZ (hw _ (List.mem_of_getElem? (i := 4) rfl)) (hw _ (List.mem_of_getElem? (i := 3) rfl)) (by decide) (by decide)) (g := (mkF m 26 #[.val (.int p1), .val (.int p2), .val (.int (g0_2 p1 p2)), .unset, .unset, .unset, .unset] [(.int (0 : Int32))])) rfl (by rw [hml]; rfl) (argsL := [(.int (0 : Int32))]) (rest := []) (lenOf pd__I_J rfl) rfl (by show 2 * 0 + _ ≤ _; exact Nat.le_of_eq rfl) (hb hby at_26) (fun _ _ => ⟨rfl, e0, (by decide : 0 + 0 ≤ _), (by decide : 0 + 0 ≤ _)⟩)
    dsimp only [Pt.U, Pt.locs, Pt.cells, Pt.slots] at X8 l8 y8 z8 st8 hQ8
    subst l8 y8 z8
    obtain ⟨rfl, rfl, e8⟩ := hQ8
    refine own_st st8 ?_
    show OG p e _ s below _ T8 (mkF m 29 #[.val (.int p1), .val (.int p2), .val (.int (g0_2 p1 p2)), .unset, .unset, .unset, .unset] [(.long (f1 (0 : Int32)))])
    refine own_st (fun t k => XS.lconst X8.here hx rfl (hb hby at_29) k) ?_
    show OG p e _ s below _ T8 (mkF m 30 #[.val (.int p1), .val (.int p2), .val (.int (g0_2 p1 p2)), .unset, .unset, .unset, .unset] [(.long (0 : Int64)), (.long (f1 (0 : Int32)))])
    refine own_st (fun t k => XS.lcmp X8.here hx rfl (hb hby at_30) rfl k) ?_
    show OG p e _ s below _ T8 (mkF m 31 #[.val (.int p1), .val (.int p2), .val (.int (g0_2 p1 p2)), .unset, .unset, .unset, .unset] [(.int (lcmpW (f1 (0 : Int32)) (0 : Int64)))])
    by_cases c9 : (f1 (0 : Int32)) = (0 : Int64)
    · refine own_st (fun t k => XS.ifYes X8.here hx rfl (pc0 := 31) (pc' := 36) rfl (hb hby at_31) rfl (own_if0 (teq ((lw_eq _ _).mpr c9)).1) (by decide) (by decide) k) ?_
      show OG p e _ s below _ T8 (mkF m 36 #[.val (.int p1), .val (.int p2), .val (.int (g0_2 p1 p2)), .unset, .unset, .unset, .unset] [])
      refine own_st (fun t k => XS.iloadN X8.here hx rfl (hb hby at_36) rfl k) ?_
      show OG p e _ s below _ T8 (mkF m 37 #[.val (.int p1), .val (.int p2), .val (.int (g0_2 p1 p2)), .unset, .unset, .unset, .unset] [(.int (g0_2 p1 p2))])
      obtain ⟨_, _, ⟨T10, L10, k10, n10⟩, -, X10, ⟨Lc10, hQ10, l10, y10, z10⟩, st10⟩ := Jvm.LawKit.callS X8 hx (y := (⟨"com/example/vetted_envelope/vettedenvelope/util/ChunkLayout", "start", "(I)J"⟩ : MethodName)) hown (mvT hZ (hw _ (List.mem_of_getElem? (i := 1) rfl))) (mvT hZ (hw _ (List.mem_of_getElem? (i := 2) rfl))) (mvT hZ (hw _ (List.mem_of_getElem? (i := 3) rfl))) (mvT hZ (hw _ (List.mem_of_getElem? (i := 4) rfl))) (by decide) (backOf (W := 0) (rm := ({ frames := 0, cells := 0, slots := 0, locals := 0 } : Room)) (rm1 l Z a0 hw [] (g0_2 p1 p2) h0 S_G) hZ (hw _ (List.mem_of_getElem? (i := 4) rfl)) (hw _ (List.mem_of_getElem? (i := 3) rfl)) (by decide) (by decide)) (g := (mkF m 37 #[.val (.int p1), .val (.int p2), .val (.int (g0_2 p1 p2)), .unset, .unset, .unset, .unset] [(.int (g0_2 p1 p2))])) rfl (by rw [hml]; rfl) (argsL := [(.int (g0_2 p1 p2))]) (rest := []) (lenOf pd__I_J rfl) rfl (by show 2 * 0 + _ ≤ _; exact Nat.le_of_eq rfl) (hb hby at_37) (fun _ _ => ⟨rfl, e8, (by decide : 0 + 0 ≤ _), (by decide : 0 + 0 ≤ _)⟩)
      dsimp only [Pt.U, Pt.locs, Pt.cells, Pt.slots] at X10 l10 y10 z10 st10 hQ10
      subst l10 y10 z10
      obtain ⟨rfl, rfl, e10⟩ := hQ10
      refine own_st st10 ?_
      show OG p e _ s below _ T10 (mkF m 40 #[.val (.int p1), .val (.int p2), .val (.int (g0_2 p1 p2)), .unset, .unset, .unset, .unset] [(.long (f1 (g0_2 p1 p2)))])
      refine own_st (fun t k => XS.lstoreN X10.here hx rfl (hb hby at_40) rfl (l' := #[.val (.int p1), .val (.int p2), .val (.int (g0_2 p1 p2)), .val (.long (f1 (g0_2 p1 p2))), .second, .unset, .unset]) rfl k) ?_
      show OG p e _ s below _ T10 (mkF m 41 #[.val (.int p1), .val (.int p2), .val (.int (g0_2 p1 p2)), .val (.long (f1 (g0_2 p1 p2))), .second, .unset, .unset] [])
      refine own_st (fun t k => XS.iloadN X10.here hx rfl (hb hby at_41) rfl k) ?_
      show OG p e _ s below _ T10 (mkF m 42 #[.val (.int p1), .val (.int p2), .val (.int (g0_2 p1 p2)), .val (.long (f1 (g0_2 p1 p2))), .second, .unset, .unset] [(.int (g0_2 p1 p2))])
      refine own_st (fun t k => XS.iconst X10.here hx rfl (hb hby at_42) k) ?_
      show OG p e _ s below _ T10 (mkF m 43 #[.val (.int p1), .val (.int p2), .val (.int (g0_2 p1 p2)), .val (.long (f1 (g0_2 p1 p2))), .second, .unset, .unset] [(.int (1 : Int32)), (.int (g0_2 p1 p2))])
      refine own_st (fun t k => XS.iadd X10.here hx rfl (hb hby at_43) rfl k) ?_
      show OG p e _ s below _ T10 (mkF m 44 #[.val (.int p1), .val (.int p2), .val (.int (g0_2 p1 p2)), .val (.long (f1 (g0_2 p1 p2))), .second, .unset, .unset] [(.int ((g0_2 p1 p2) + (1 : Int32)))])
      obtain ⟨_, _, ⟨T11, L11, k11, n11⟩, -, X11, ⟨Lc11, hQ11, l11, y11, z11⟩, st11⟩ := Jvm.LawKit.callS X10 hx (y := (⟨"com/example/vetted_envelope/vettedenvelope/util/ChunkLayout", "start", "(I)J"⟩ : MethodName)) hown (mvT hZ (hw _ (List.mem_of_getElem? (i := 1) rfl))) (mvT hZ (hw _ (List.mem_of_getElem? (i := 2) rfl))) (mvT hZ (hw _ (List.mem_of_getElem? (i := 3) rfl))) (mvT hZ (hw _ (List.mem_of_getElem? (i := 4) rfl))) (by decide) (backOf (W := 0) (rm := ({ frames := 0, cells := 0, slots := 0, locals := 0 } : Room)) (rm1 l Z a0 hw [] ((g0_2 p1 p2) + (1 : Int32)) h0 S_G) hZ (hw _ (List.mem_of_getElem? (i := 4) rfl)) (hw _ (List.mem_of_getElem? (i := 3) rfl)) (by decide) (by decide)) (g := (mkF m 44 #[.val (.int p1), .val (.int p2), .val (.int (g0_2 p1 p2)), .val (.long (f1 (g0_2 p1 p2))), .second, .unset, .unset] [(.int ((g0_2 p1 p2) + (1 : Int32)))])) rfl (by rw [hml]; rfl) (argsL := [(.int ((g0_2 p1 p2) + (1 : Int32)))]) (rest := []) (lenOf pd__I_J rfl) rfl (by show 2 * 0 + _ ≤ _; exact Nat.le_of_eq rfl) (hb hby at_44) (fun _ _ => ⟨rfl, e10, (by decide : 0 + 0 ≤ _), (by decide : 0 + 0 ≤ _)⟩)
      dsimp only [Pt.U, Pt.locs, Pt.cells, Pt.slots] at X11 l11 y11 z11 st11 hQ11
      subst l11 y11 z11
      obtain ⟨rfl, rfl, e11⟩ := hQ11
      refine own_st st11 ?_
      show OG p e _ s below _ T11 (mkF m 47 #[.val (.int p1), .val (.int p2), .val (.int (g0_2 p1 p2)), .val (.long (f1 (g0_2 p1 p2))), .second, .unset, .unset] [(.long (f1 ((g0_2 p1 p2) + (1 : Int32))))])
      refine own_st (fun t k => XS.lstore X11.here hx rfl (hb hby at_47) rfl (l' := #[.val (.int p1), .val (.int p2), .val (.int (g0_2 p1 p2)), .val (.long (f1 (g0_2 p1 p2))), .second, .val (.long (f1 ((g0_2 p1 p2) + (1 : Int32)))), .second]) rfl k) ?_
      show OG p e _ s below _ T11 (mkF m 49 #[.val (.int p1), .val (.int p2), .val (.int (g0_2 p1 p2)), .val (.long (f1 (g0_2 p1 p2))), .second, .val (.long (f1 ((g0_2 p1 p2) + (1 : Int32)))), .second] [])
      refine own_st (fun t k => XS.lload X11.here hx rfl (hb hby at_49) rfl k) ?_
      show OG p e _ s below _ T11 (mkF m 51 #[.val (.int p1), .val (.int p2), .val (.int (g0_2 p1 p2)), .val (.long (f1 (g0_2 p1 p2))), .second, .val (.long (f1 ((g0_2 p1 p2) + (1 : Int32)))), .second] [(.long (f1 ((g0_2 p1 p2) + (1 : Int32))))])
      refine own_st (fun t k => XS.lloadN X11.here hx rfl (hb hby at_51) rfl k) ?_
      show OG p e _ s below _ T11 (mkF m 52 #[.val (.int p1), .val (.int p2), .val (.int (g0_2 p1 p2)), .val (.long (f1 (g0_2 p1 p2))), .second, .val (.long (f1 ((g0_2 p1 p2) + (1 : Int32)))), .second] [(.long (f1 (g0_2 p1 p2))), (.long (f1 ((g0_2 p1 p2) + (1 : Int32))))])
      refine own_st (fun t k => XS.lsub X11.here hx rfl (hb hby at_52) rfl k) ?_
      show OG p e _ s below _ T11 (mkF m 53 #[.val (.int p1), .val (.int p2), .val (.int (g0_2 p1 p2)), .val (.long (f1 (g0_2 p1 p2))), .second, .val (.long (f1 ((g0_2 p1 p2) + (1 : Int32)))), .second] [(.long ((f1 ((g0_2 p1 p2) + (1 : Int32))) - (f1 (g0_2 p1 p2))))])
      refine own_st (fun t k => XS.iloadN X11.here hx rfl (hb hby at_53) rfl k) ?_
      show OG p e _ s below _ T11 (mkF m 54 #[.val (.int p1), .val (.int p2), .val (.int (g0_2 p1 p2)), .val (.long (f1 (g0_2 p1 p2))), .second, .val (.long (f1 ((g0_2 p1 p2) + (1 : Int32)))), .second] [(.int (g0_2 p1 p2)), (.long ((f1 ((g0_2 p1 p2) + (1 : Int32))) - (f1 (g0_2 p1 p2))))])
      obtain ⟨_, _, ⟨T12, L12, k12, n12⟩, -, X12, ⟨Lc12, hQ12, l12, y12, z12⟩, st12⟩ := Jvm.LawKit.callS X11 hx (y := (⟨"com/example/vetted_envelope/vettedenvelope/util/ChunkLayoutStartPinLaw", "expectedLength", "(I)J"⟩ : MethodName)) hown (mvT hZ (hw _ (List.mem_of_getElem? (i := 6) rfl))) (mvT hZ (hw _ (List.mem_of_getElem? (i := 7) rfl))) (mvT hZ (hw _ (List.mem_of_getElem? (i := 8) rfl))) (mvT hZ (hw _ (List.mem_of_getElem? (i := 9) rfl))) (by decide) (backOf (W := 2) (rm := ({ frames := 0, cells := 0, slots := 0, locals := 0 } : Room)) (rm2 l Z a0 hw [] (g0_2 p1 p2) h0) hZ (hw _ (List.mem_of_getElem? (i := 9) rfl)) (hw _ (List.mem_of_getElem? (i := 8) rfl)) (by decide) (by decide)) (g := (mkF m 54 #[.val (.int p1), .val (.int p2), .val (.int (g0_2 p1 p2)), .val (.long (f1 (g0_2 p1 p2))), .second, .val (.long (f1 ((g0_2 p1 p2) + (1 : Int32)))), .second] [(.int (g0_2 p1 p2)), (.long ((f1 ((g0_2 p1 p2) + (1 : Int32))) - (f1 (g0_2 p1 p2))))])) rfl (by rw [hml]; rfl) (argsL := [(.int (g0_2 p1 p2))]) (rest := [(.long ((f1 ((g0_2 p1 p2) + (1 : Int32))) - (f1 (g0_2 p1 p2))))]) (lenOf pd__I_J rfl) rfl (by show 2 * 0 + _ ≤ _; exact Nat.le_of_eq rfl) (hb hby at_54) (fun _ _ => ⟨rfl, e11, (by decide : 0 + 0 ≤ _), (by decide : 0 + 0 ≤ _)⟩)
      dsimp only [Pt.U, Pt.locs, Pt.cells, Pt.slots] at X12 l12 y12 z12 st12 hQ12
      subst l12 y12 z12
      obtain ⟨rfl, rfl, e12⟩ := hQ12
      refine own_st st12 ?_
      show OG p e _ s below _ T12 (mkF m 57 #[.val (.int p1), .val (.int p2), .val (.int (g0_2 p1 p2)), .val (.long (f1 (g0_2 p1 p2))), .second, .val (.long (f1 ((g0_2 p1 p2) + (1 : Int32)))), .second] [(.long (f2 (g0_2 p1 p2))), (.long ((f1 ((g0_2 p1 p2) + (1 : Int32))) - (f1 (g0_2 p1 p2))))])
      refine own_st (fun t k => XS.lcmp X12.here hx rfl (hb hby at_57) rfl k) ?_
      show OG p e _ s below _ T12 (mkF m 58 #[.val (.int p1), .val (.int p2), .val (.int (g0_2 p1 p2)), .val (.long (f1 (g0_2 p1 p2))), .second, .val (.long (f1 ((g0_2 p1 p2) + (1 : Int32)))), .second] [(.int (lcmpW ((f1 ((g0_2 p1 p2) + (1 : Int32))) - (f1 (g0_2 p1 p2))) (f2 (g0_2 p1 p2))))])
      by_cases c13 : ((f1 ((g0_2 p1 p2) + (1 : Int32))) - (f1 (g0_2 p1 p2))) = (f2 (g0_2 p1 p2))
      · refine own_st (fun t k => XS.ifNo X12.here hx rfl (hb hby at_58) rfl (own_if0 (teq ((lw_eq _ _).mpr c13)).2) k) ?_
        show OG p e _ s below _ T12 (mkF m 61 #[.val (.int p1), .val (.int p2), .val (.int (g0_2 p1 p2)), .val (.long (f1 (g0_2 p1 p2))), .second, .val (.long (f1 ((g0_2 p1 p2) + (1 : Int32)))), .second] [])
        refine own_st (fun t k => XS.iconst X12.here hx rfl (hb hby at_61) k) ?_
        show OG p e _ s below _ T12 (mkF m 62 #[.val (.int p1), .val (.int p2), .val (.int (g0_2 p1 p2)), .val (.long (f1 (g0_2 p1 p2))), .second, .val (.long (f1 ((g0_2 p1 p2) + (1 : Int32)))), .second] [(.int (1 : Int32))])
        refine own_st (fun t k => XS.goto X12.here hx rfl (pc0 := 62) (pc' := 66) rfl (hb hby at_62) (by decide) (by decide) k) ?_
        show OG p e _ s below _ T12 (mkF m 66 #[.val (.int p1), .val (.int p2), .val (.int (g0_2 p1 p2)), .val (.long (f1 (g0_2 p1 p2))), .second, .val (.long (f1 ((g0_2 p1 p2) + (1 : Int32)))), .second] [(.int (1 : Int32))])
        exact own_retZ X12 hx (t := .boolean) hret (by simp) hlk (hb hby at_66) (by decide) (by decide) (w := (1 : Int32)) rfl ⟨congrArg (fun z => some (Value.int z)) (show f0 p1 p2 = (1 : Int32) from (by rw [f0, if_neg c1, if_pos c9, if_pos c13])).symm, rfl, e12⟩
      · refine own_st (fun t k => XS.ifYes X12.here hx rfl (pc0 := 58) (pc' := 65) rfl (hb hby at_58) rfl (own_if0 (feq (fun q => c13 ((lw_eq _ _).mp q))).2) (by decide) (by decide) k) ?_
        show OG p e _ s below _ T12 (mkF m 65 #[.val (.int p1), .val (.int p2), .val (.int (g0_2 p1 p2)), .val (.long (f1 (g0_2 p1 p2))), .second, .val (.long (f1 ((g0_2 p1 p2) + (1 : Int32)))), .second] [])
        refine own_st (fun t k => XS.iconst X12.here hx rfl (hb hby at_65) k) ?_
        show OG p e _ s below _ T12 (mkF m 66 #[.val (.int p1), .val (.int p2), .val (.int (g0_2 p1 p2)), .val (.long (f1 (g0_2 p1 p2))), .second, .val (.long (f1 ((g0_2 p1 p2) + (1 : Int32)))), .second] [(.int (0 : Int32))])
        exact own_retZ X12 hx (t := .boolean) hret (by simp) hlk (hb hby at_66) (by decide) (by decide) (w := (0 : Int32)) rfl ⟨congrArg (fun z => some (Value.int z)) (show f0 p1 p2 = (0 : Int32) from (by rw [f0, if_neg c1, if_pos c9, if_neg c13])).symm, rfl, e12⟩
    · refine own_st (fun t k => XS.ifNo X8.here hx rfl (hb hby at_31) rfl (own_if0 (feq (fun q => c9 ((lw_eq _ _).mp q))).1) k) ?_
      show OG p e _ s below _ T8 (mkF m 34 #[.val (.int p1), .val (.int p2), .val (.int (g0_2 p1 p2)), .unset, .unset, .unset, .unset] [])
      refine own_st (fun t k => XS.iconst X8.here hx rfl (hb hby at_34) k) ?_
      show OG p e _ s below _ T8 (mkF m 35 #[.val (.int p1), .val (.int p2), .val (.int (g0_2 p1 p2)), .unset, .unset, .unset, .unset] [(.int (0 : Int32))])
      exact own_retZ X8 hx (t := .boolean) hret (by simp) hlk (hb hby at_35) (by decide) (by decide) (w := (0 : Int32)) rfl ⟨congrArg (fun z => some (Value.int z)) (show f0 p1 p2 = (0 : Int32) from (by rw [f0, if_neg c1, if_neg c9])).symm, rfl, e8⟩
/-! the plain law -/
theorem own_fin : ∀ n : Fin 10, f1 (Int32.ofNat n.val + 1) - f1 (Int32.ofNat n.val) = f2 (Int32.ofNat n.val) := by decide +kernel
theorem own_big (k : Int32) (h : 9 < k.toInt) : (f1 k).toInt = 16777072 + (k.toInt - 9) * 16777200 := by
  have k0 : (0 : Int32).toInt = 0 := by decide
  have k9 : (9 : Int32).toInt = 9 := by decide
  have c1 : (16777072 : Int64).toInt = 16777072 := by decide
  have c2 : (16777200 : Int64).toInt = 16777200 := by decide
  have r := rng32 k
  have s1 := c_isub k 9
  have s2 := rng32 (k - 9)
  rw [k9] at s1
  have a1 : (k - 9).toInt = k.toInt - 9 := by omega
  have m1 := c_lmul ((k - 9).toInt64) 16777200
  rw [c_i2l, a1, c2] at m1
  have m2 := rng64 ((k - 9).toInt64 * 16777200)
  have m3 := c_ladd 16777072 ((k - 9).toInt64 * 16777200)
  have m4 := rng64 (16777072 + (k - 9).toInt64 * 16777200)
  rw [c1] at m3
  have n0 : ¬ k = 0 := fun q => by rw [q, k0] at h; omega
  have n9 : (9 : Int32) < k := by rw [Int32.lt_iff_toInt_lt, k9]; exact h
  rw [f1, if_neg n0, if_pos n9]
  generalize (k - 9).toInt64 * 16777200 = y at *
  generalize 16777072 + y = z at *
  have e1 : y.toInt = (k.toInt - 9) * 16777200 := by omega
  rw [e1] at m3
  omega
theorem own_next (k : Int32) (h0 : 0 ≤ k.toInt) (h1 : k.toInt < 2147483647) : f1 (k + 1) - f1 k = f2 k := by
  by_cases h : k.toInt < 10
  · have e : Int32.ofNat k.toInt.toNat = k := by
      apply Int32.toInt_inj.mp
      rw [Int32.toInt_ofNat_small (by omega)]; omega
    have := own_fin ⟨k.toInt.toNat, by omega⟩
    rwa [e] at this
  · have k1 : (1 : Int32).toInt = 1 := by decide
    have s1 := c_iadd k 1
    have s2 := rng32 (k + 1)
    rw [k1] at s1
    have a1 : (k + 1).toInt = k.toInt + 1 := by omega
    have b1 := own_big k (by omega)
    have b2 := own_big (k + 1) (by omega)
    rw [a1] at b2
    have d1 := c_lsub (f1 (k + 1)) (f1 k)
    have d2 := rng64 (f1 (k + 1) - f1 k)
    rw [b1, b2] at d1
    have k0 : (0 : Int32).toInt = 0 := by decide
    have k8 : (8 : Int32).toInt = 8 := by decide
    have n0 : ¬ k = 0 := fun q => by rw [q, k0] at h; omega
    have n8 : (8 : Int32) < k := by rw [Int32.lt_iff_toInt_lt, k8]; omega
    have c2 : (16777200 : Int64).toInt = 16777200 := by decide
    rw [f2, if_neg n0, if_pos n8]
    apply Int64.toInt_inj.mp
    rw [c2]
    generalize f1 (k + 1) - f1 k = z at *
    omega
theorem own_law (p1 p2 : Int32) : f0 p1 p2 = 1 := by
  have z : f1 0 = 0 := by decide
  have m := c_mask p1 2147483647 31 (by decide) (by decide)
  have hr := rng32 p1
  have e1 := (c_irem (p1 &&& 2147483647) 2147483647 2147483647 (by decide)).1
  have e2 := (c_irem (p1 &&& 2147483647) 16 16 (by decide)).1
  have q1 : f1 (g0_1 p1 p2 + 1) - f1 (g0_1 p1 p2) = f2 (g0_1 p1 p2) := own_next _ (by show 0 ≤ ((p1 &&& 2147483647) % 2147483647 : Int32).toInt; omega) (by show ((p1 &&& 2147483647) % 2147483647 : Int32).toInt < 2147483647; omega)
  have q2 : f1 (g0_2 p1 p2 + 1) - f1 (g0_2 p1 p2) = f2 (g0_2 p1 p2) := own_next _ (by show 0 ≤ ((p1 &&& 2147483647) % 16 : Int32).toInt; omega) (by show ((p1 &&& 2147483647) % 16 : Int32).toInt < 2147483647; omega)
  simp only [f0, if_pos z, if_pos q1, if_pos q2, ite_self]

theorem own_met (l : Launch) (Z : State) (a0 : Array Value) (hw : ∀ d ∈ tables_1, d.before a0 Z = true) (ws : List Jvm.Cond) (p1 : Int32) (p2 : Int32) (h0 : Heap) (S_G : Sta Z h0 "com/example/vetted_envelope/vettedenvelope/util/ChunkLayout" "GROWN_START" "J" (.long (16777072 : Int64))) :
    OMet l Z x code maxLocals ret ws room_1 #[(.int p1), (.int p2)] h0 (fun v h L => v = some (.int 1) ∧ Fr h0.size L) := by
  intro p e ha hc hk s m args below hf happ hP hK
  obtain ⟨n, o, h1, h2, h3, v, L, ho, ⟨hv, hL, hh⟩, hq⟩ := rm0 l Z a0 hw ws p1 p2 h0 S_G p e ha hc hk s m args below hf happ hP hK
  rw [own_law] at hv
  exact ⟨n, o, h1, h2, h3, v, L, ho, ⟨hv, by subst hL; exact Fr.nil _⟩, hq⟩
set_option maxRecDepth 65536 in
set_option maxHeartbeats 40000000 in
theorem comes_1 {Post : Tables → Env → Array Value → State → Outcome → State → Prop} (hpost : ∀ tb e args s v u, (limb_1_1.after args s (.returned v) u = true ∧ limb_1_2.after args s (.returned v) u = true ∧ True) → FrameEnd s (.returned v) u (Jvm.fieldLocs frame_1_writes args s ++ Jvm.arrayLocs frame_1_arrays args s ++ Jvm.staticLocs frame_1_statics s) 0 0 → Post tb e args s (.returned v) u) :
    ArmFor flags0 classFile x code maxLocals ret World_1 tables_1 room_1 Calls_1 rest_1 Pre_1 Post := by
  intro l hfl _ _ p e ha hc hk s m args below hf hA hF happ hP
  obtain ⟨hcalls, hrest, hpre⟩ := hP
  obtain ⟨-, -, -, hnamed, -, -, -, hat⟩ := (Spec.applies_iff hf).mp happ
  obtain ⟨hg, hn⟩ := and_e (Cond.before_iff.mp (show (Jvm.Cond.and given_1 narrow_1).before args s = true from hpre))
  obtain ⟨h1, g0⟩ := and_e hg
  obtain ⟨w0, w1, rfl⟩ : ∃ w0 w1 : Value, args = #[w0, w1] := by
    have hs : args.size = 2 := by simpa [Cond.value, given_1] using h1
    obtain ⟨L⟩ := args
    match L, hs with
    | [w0, w1], _ => exact ⟨w0, w1, rfl⟩
  have hw := fun d (hd : d ∈ tables_1) => atoms_spec (ws := Jvm.Cond.code x code maxLocals ret :: tables_1) hat d (List.mem_cons_of_mem _ hd)
  obtain ⟨b0, g1⟩ := and_e g0
  obtain ⟨i0, e0⟩ := is_v b0
  obtain rfl : w0 = (.int i0) := Option.some.inj e0
  obtain ⟨i1, e1⟩ := is_v g1
  obtain rfl : w1 = (.int i1) := Option.some.inj e1
  obtain ⟨xv, yv, ex, ey, -, hk2⟩ := cmp_v (Or.inl (show (Jvm.Cond.eq (Jvm.Term.static "com/example/vetted_envelope/vettedenvelope/util/ChunkLayout" "GROWN_START" "J") (Jvm.Term.long (16777072 : Int64))).value _ _ _ _ _ = some true from hn))
  have ey' : yv = .long (16777072 : Int64) := (Option.some.inj ey).symm
  subst ey'
  obtain ⟨zv, rfl⟩ := hk2
  obtain rfl : zv = 16777072 := gotT (eq_L ex ey) hn
  have S_G : Sta s s.heap "com/example/vetted_envelope/vettedenvelope/util/ChunkLayout" "GROWN_START" "J" (.long (16777072 : Int64)) := Sta.start ex (Or.inr ⟨(hw _ (List.mem_of_getElem? (i := 3) rfl)), (hw _ (List.mem_of_getElem? (i := 12) rfl))⟩)
  obtain ⟨n, o, h1, h2, h3, _, L, rfl, ⟨rfl, N⟩, hq⟩ := own_met l s _ hw tables_1 i0 i1 s.heap S_G p e ha hc hk s m _ below hf ((Spec.applies_iff_loose hf).mp happ).1 ⟨rfl, State.Warmed39.refl s, rfl⟩ trivial
  refine ⟨n, _, h1, h2, h3, hpost _ _ _ _ _ _ ⟨Cond.after_iff.mpr rfl, Cond.after_iff.mpr (eq_i res_at (Term.int_eval (1)) rfl), trivial⟩ ⟨hq.1, hq.2.1, (hq.2.2.sift fun y hy => Or.inr (N y hy)).mono (by decide) (by decide)⟩⟩
theorem main_1_1 : Claimed_1_1 := comes_1 fun _ _ _ _ _ _ h hF => ⟨h.1, hF⟩
theorem main_1_2 : Claimed_1_2 := comes_1 fun _ _ _ _ _ _ h hF => ⟨h.2.1, hF⟩
end Jvm.Pilot.@@N@@
namespace Jvm.Pilot.@@N@@
open Jvm Jvm.ClassFile Sem Op Lib Jvm.Free Jvm.Stand Jvm.Pilot.@@N@@.Jvm.D
/-! MADE BY PROGRAM (witnessworld.py) out of the Statement's table words and the real class files: 9 classes; the members and pool entries that the words name. The judged class is class 1, her method 2. -/
namespace start1
open Jvm.ClassFile
def u (s : String) : CpInfo := .utf8 (stringToUtf16 s)
/-- a pool by its gaps: so many unusable entries, then the entry; so many at the end -/
def gap : Nat → List CpInfo → List CpInfo
  | 0, r => r
  | n + 1, r => .unusable :: gap n r
def poolList (es : List (Nat × CpInfo)) (last : Nat) : List CpInfo := es.foldr (fun e r => gap e.1 (e.2 :: r)) (gap last [])
def pool (es : List (Nat × CpInfo)) (last : Nat) : Array CpInfo := ⟨poolList es last⟩
def fileOf (pool : Array CpInfo) (this : Nat) (attrs : Array Attribute := #[]) (ms : Array MethodInfo := #[]) (fl : Nat := 33) (sup : Nat := 0) (ifs : Array Nat := #[]) (fds : Array FieldInfo := #[]) : ClassFile where
  minorVersion := 0
  majorVersion := 65
  constantPool := pool
  accessFlags := fl
  thisClass := this
  superClass := sup
  interfaces := ifs
  fields := fds
  methods := ms
  attributes := attrs
def plain (name : String) (sup : Option ClassId) : Class where
  name := name
  kind := .ordinary
  loader := none
  accessFlags := 33
  super := sup
  interfaces := #[]
  cf := none
  fields := #[]
  methods := #[]
  instanceTypes := #[]
  staticTypes := #[]
  resolved := #[]
  callSites := []
  init := .initialized
  statics := none
  mirror := none

def pool0 : Array CpInfo := pool [(5, u "<init>"), (0, u "()V"), (1, .class_ 10), (1, u "java/lang/Object")] 113

def k0m0 : Method := { name := "<init>", desc := "()V", sig := { parameters := [], returnType := none }, accessFlags := 1, code := none }
/-- java/lang/Object -/
def k0 : Class := { plain "java/lang/Object" none with
  accessFlags := 33
  interfaces := #[]
  cf := some (fileOf pool0 8 #[] #[{ accessFlags := 1, nameIndex := 5, descriptorIndex := 6, attributes := #[] }] 33 0 #[] #[])
  fields := #[]
  methods := #[k0m0]
  instanceTypes := #[]
  staticTypes := #[]
  resolved := Array.replicate 124 none
  statics := none }

def pool1 : Array CpInfo := pool [(2, .class_ 4), (1, u "java/lang/Object"), (0, u "<init>"), (0, u "()V"), (0, .long 65520), (1, .long 16), (1, .long 16777200), (1, .integer 2147483647), (0, .methodref 15 16), (0, .class_ 17), (0, .nameAndType 18 19), (0, u "com/example/vetted_envelope/vettedenvelope/util/ChunkLayout"), (0, u "start"), (0, u "(I)J"), (0, .methodref 21 22), (0, .class_ 23), (0, .nameAndType 24 19), (0, u "com/example/vetted_envelope/vettedenvelope/util/ChunkLayoutStartPinLaw"), (0, u "expectedLength"), (3, u "law"), (0, u "(II)Z")] 2

def k1m0 : Method := { name := "<init>", desc := "()V", sig := { parameters := [], returnType := none }, accessFlags := 2, code := none }
def k1c1 : Code := { maxStack := 4, maxLocals := 1, code := method_2_code, exceptionTable := #[], attributes := #[] }
def k1m1 : Method := { name := "expectedLength", desc := "(I)J", sig := { parameters := [.int], returnType := some .long }, accessFlags := 10, code := some k1c1 }
def k1c2 : Code := { maxStack := 4, maxLocals := 7, code := code, exceptionTable := #[], attributes := #[] }
def k1m2 : Method := { name := "law", desc := "(II)Z", sig := { parameters := [.int, .int], returnType := some .boolean }, accessFlags := 9, code := some k1c2 }
/-- com/example/vetted_envelope/vettedenvelope/util/ChunkLayoutStartPinLaw -/
def k1 : Class := { plain "com/example/vetted_envelope/vettedenvelope/util/ChunkLayoutStartPinLaw" (some 0) with
  accessFlags := 49
  interfaces := #[]
  cf := some (fileOf pool1 21 #[] #[{ accessFlags := 2, nameIndex := 5, descriptorIndex := 6, attributes := #[] }, { accessFlags := 10, nameIndex := 24, descriptorIndex := 19, attributes := #[] }, { accessFlags := 9, nameIndex := 28, descriptorIndex := 29, attributes := #[] }] 49 2 #[] #[])
  fields := #[]
  methods := #[k1m0, k1m1, k1m2]
  instanceTypes := #[]
  staticTypes := #[]
  resolved := Array.replicate 32 none
  statics := none }

def pool2 : Array CpInfo := pool [(1, .class_ 2), (0, u "com/example/vetted_envelope/vettedenvelope/util/ChunkLayout"), (1, .class_ 6), (1, u "java/lang/Object"), (0, u "<init>"), (0, u "()V"), (4, .long 16), (9, u "start"), (0, u "(I)J"), (0, .fieldref 1 26), (0, .nameAndType 27 28), (0, u "GROWN_START"), (0, u "J"), (0, .long 16777200), (11, u "HEADER"), (0, u "I"), (2, u "FIRST_ROOM"), (0, u "FIRST"), (1, u "LARGEST"), (1, u "GROWN")] 13

def k2m0 : Method := { name := "<init>", desc := "()V", sig := { parameters := [], returnType := none }, accessFlags := 2, code := none }
def k2c1 : Code := { maxStack := 6, maxLocals := 1, code := prog_177_method_5_code, exceptionTable := #[], attributes := #[] }
def k2m1 : Method := { name := "start", desc := "(I)J", sig := { parameters := [.int], returnType := some .long }, accessFlags := 8, code := some k2c1 }
/-- com/example/vetted_envelope/vettedenvelope/util/ChunkLayout -/
def k2 : Class := { plain "com/example/vetted_envelope/vettedenvelope/util/ChunkLayout" (some 0) with
  accessFlags := 48
  interfaces := #[]
  cf := some (fileOf pool2 1 #[] #[{ accessFlags := 2, nameIndex := 7, descriptorIndex := 8, attributes := #[] }, { accessFlags := 8, nameIndex := 23, descriptorIndex := 24, attributes := #[] }] 48 4 #[] #[{ accessFlags := 24, nameIndex := 41, descriptorIndex := 42, attributes := #[] }, { accessFlags := 24, nameIndex := 45, descriptorIndex := 42, attributes := #[] }, { accessFlags := 26, nameIndex := 46, descriptorIndex := 42, attributes := #[] }, { accessFlags := 26, nameIndex := 48, descriptorIndex := 42, attributes := #[] }, { accessFlags := 26, nameIndex := 50, descriptorIndex := 42, attributes := #[] }, { accessFlags := 26, nameIndex := 27, descriptorIndex := 28, attributes := #[] }])
  fields := #[{ name := "HEADER", type := .int, accessFlags := 24, slot := 0, constantValue := 0 }, { name := "FIRST_ROOM", type := .int, accessFlags := 24, slot := 1, constantValue := 0 }, { name := "FIRST", type := .int, accessFlags := 26, slot := 2, constantValue := 0 }, { name := "LARGEST", type := .int, accessFlags := 26, slot := 3, constantValue := 0 }, { name := "GROWN", type := .int, accessFlags := 26, slot := 4, constantValue := 0 }, { name := "GROWN_START", type := .long, accessFlags := 26, slot := 5, constantValue := 0 }]
  methods := #[k2m0, k2m1]
  instanceTypes := #[]
  staticTypes := #[.int, .int, .int, .int, .int, .long]
  resolved := Array.replicate 64 none
  statics := some 0 }

def pool3 : Array CpInfo := pool [(1, u "java/lang/Cloneable"), (0, .class_ 1), (0, u "java/lang/Object"), (0, .class_ 3)] 3

/-- java/lang/Cloneable -/
def k3 : Class := { plain "java/lang/Cloneable" (some 0) with
  accessFlags := 1537
  interfaces := #[]
  cf := some (fileOf pool3 2 #[] #[] 1537 4 #[] #[])
  fields := #[]
  methods := #[]
  instanceTypes := #[]
  staticTypes := #[]
  resolved := Array.replicate 8 none
  statics := none }

def pool4 : Array CpInfo := pool [(1, u "java/io/Serializable"), (0, .class_ 1), (0, u "java/lang/Object"), (0, .class_ 3)] 3

/-- java/io/Serializable -/
def k4 : Class := { plain "java/io/Serializable" (some 0) with
  accessFlags := 1537
  interfaces := #[]
  cf := some (fileOf pool4 2 #[] #[] 1537 4 #[] #[])
  fields := #[]
  methods := #[]
  instanceTypes := #[]
  staticTypes := #[]
  resolved := Array.replicate 8 none
  statics := none }

/-- the primitive byte -/
def k5 : Class := { plain "byte" none with kind := .primitive 'B', accessFlags := 0x411 }
/-- [B -/
def k6 : Class := { plain "[B" (some 0) with kind := .array 5 .byte, interfaces := #[3, 4], accessFlags := 1041 }

/-- the primitive int -/
def k7 : Class := { plain "int" none with kind := .primitive 'I', accessFlags := 0x411 }
/-- [I -/
def k8 : Class := { plain "[I" (some 0) with kind := .array 7 .int, interfaces := #[3, 4], accessFlags := 1041 }

def heap : Heap := #[{ cls := 2, slots := #[.int 0, .int 0, .int 0, .int 0, .int 0, .long 16777072], vm := .statics 2 }]
def classes : Array Class := #[k0, k1, k2, k3, k4, k5, k6, k7, k8]
def interned : List (Array UInt16 × Addr) := []
def slotsUsed : Nat := 6
def theMethod : MethodId := ⟨1, 2⟩
def args0 : Array Value := #[.int 5, .int 0]
def aboutOver (below : List Frame) : State where
  vm := { classes := classes, interned := interned.toArray }
  heap := heap
  slotsUsed := slotsUsed
  threads := #[{ frames := .invoking theMethod args0 :: below }]
def below0 : List Frame := [.native { method := ⟨0, 0⟩, args := #[] }]
def about1 : State := aboutOver below0
def p0 : Program := .bare "" "" ""
def e0 : Env := launch0.env 0 0 0
theorem w_frames : about1.frames = Frame.invoking theMethod args0 :: below0 := rfl
set_option maxRecDepth 65536 in
theorem w_args : argsFit about1.vm theMethod args0 = true := by decide +kernel
set_option maxRecDepth 65536 in
theorem w_heap : heapFits about1 = true := by decide +kernel
set_option maxRecDepth 65536 in
theorem w_runnable : about1.curStatus? = some .runnable := by decide +kernel
set_option maxRecDepth 65536 in
theorem w_alone : about1.alone = true := by decide +kernel
set_option maxRecDepth 65536 in
theorem w_named : about1.methodNamed? x = some theMethod := by decide +kernel
set_option maxRecDepth 65536 in
theorem w_hears : about1.hears theMethod below0 = true := by decide +kernel
set_option maxRecDepth 65536 in
theorem w_ripe : about1.ripe theMethod args0 below0 = true := by decide +kernel
theorem w_running : about1.status = .running := rfl
set_option maxRecDepth 65536 in
theorem w_room : about1.hasRoom e0.platform room_1 = true :=
  launch0.hasRoom_least _ room_1 (by decide +kernel) (by decide +kernel) (by decide +kernel) (by decide +kernel) (by decide +kernel) (by decide +kernel)
theorem allAtoms_all (ts : List Jvm.Cond) (a : Array Jvm.Value) (st : Jvm.State) : (allAtoms ts).before a st = ts.all (fun c => c.before a st) := by
  induction ts with
  | nil => rfl
  | cons c t ih =>
    show (Jvm.Cond.and c (allAtoms t)).before a st = _
    rw [Jvm.Cond.before_and, ih, List.all_cons]
def words1 : List Jvm.Cond := Jvm.Cond.code x code maxLocals ret :: tables_1
/-- a 'code' word, met by the world's own term for the bytes: nothing is compared byte by byte -/
theorem code_word {y : MethodName} {bytes : ByteArray} {mx : Nat} {rt : Option FieldType} {a : Array Value} {s : State} {m : MethodId} {meth : Method} {c : Code} (h1 : s.methodNamed? y = some m) (h2 : s.vm.method? m = some meth) (h3 : meth.code = some c) (h4 : c.code = bytes)
    (h5 : (c.maxLocals == mx && c.exceptionTable.isEmpty && decide (c.maxStack ≤ mostOperands) && decide (meth.sig.returnType = rt) && !meth.locks && decide (parseMethodDescriptor y.desc = some meth.sig)) = true) : (Jvm.Cond.code y bytes mx rt).before a s = true := by
  simp only [Bool.and_eq_true, beq_iff_eq, Bool.not_eq_true', decide_eq_true_eq] at h5
  obtain ⟨⟨⟨⟨⟨g1, g2⟩, g3⟩, g4⟩, g5⟩, g6⟩ := h5
  simp [Cond.before, Cond.holds, Cond.value, h1, h2, h3, h4, g1, g2, g3, g4, g5, g6]
def isCode : Jvm.Cond → Bool
  | .code _ _ _ _ => true
  | _ => false
theorem all_split {L : List Jvm.Cond} {P : Jvm.Cond → Bool} (h1 : L.all (fun c => isCode c || P c) = true) (h2 : ∀ c ∈ L.filter isCode, P c = true) : L.all P = true := by
  refine List.all_eq_true.mpr fun c hc => ?_
  have h := List.all_eq_true.mp h1 c hc
  rcases Bool.eq_false_or_eq_true (isCode c) with hi | hi
  · exact h2 c (List.mem_filter.mpr ⟨hc, hi⟩)
  · simpa [hi] using h
set_option maxRecDepth 65536 in
theorem w_c0 : (Jvm.Cond.code x code maxLocals ret).before args0 about1 = true := code_word (m := ⟨1, 2⟩) (meth := k1m2) (c := k1c2) (by decide +kernel) rfl rfl rfl (by decide +kernel)
set_option maxRecDepth 65536 in
theorem w_c1 : (Jvm.Cond.code ({ cls := "com/example/vetted_envelope/vettedenvelope/util/ChunkLayout", name := "start", desc := "(I)J" } : Jvm.MethodName) prog_177_method_5_code (1 : Nat) (Option.some Jvm.ClassFile.FieldType.long)).before args0 about1 = true := code_word (m := ⟨2, 1⟩) (meth := k2m1) (c := k2c1) (by decide +kernel) rfl rfl rfl (by decide +kernel)
set_option maxRecDepth 65536 in
theorem w_c2 : (Jvm.Cond.code ({ cls := "com/example/vetted_envelope/vettedenvelope/util/ChunkLayoutStartPinLaw", name := "expectedLength", desc := "(I)J" } : Jvm.MethodName) method_2_code (1 : Nat) (Option.some Jvm.ClassFile.FieldType.long)).before args0 about1 = true := code_word (m := ⟨1, 1⟩) (meth := k1m1) (c := k1c1) (by decide +kernel) rfl rfl rfl (by decide +kernel)
def codes1 : List Jvm.Cond := [Jvm.Cond.code x code maxLocals ret, Jvm.Cond.code ({ cls := "com/example/vetted_envelope/vettedenvelope/util/ChunkLayout", name := "start", desc := "(I)J" } : Jvm.MethodName) prog_177_method_5_code (1 : Nat) (Option.some Jvm.ClassFile.FieldType.long), Jvm.Cond.code ({ cls := "com/example/vetted_envelope/vettedenvelope/util/ChunkLayoutStartPinLaw", name := "expectedLength", desc := "(I)J" } : Jvm.MethodName) method_2_code (1 : Nat) (Option.some Jvm.ClassFile.FieldType.long)]
set_option maxRecDepth 65536 in
theorem codes_eq : words1.filter isCode = codes1 := rfl
theorem w_codes : ∀ c ∈ words1.filter isCode, c.before args0 about1 = true := by
  rw [codes_eq]
  intro c hc
  simp only [codes1, List.mem_cons, List.not_mem_nil, or_false] at hc
  rcases hc with rfl | rfl | rfl
  · exact w_c0
  · exact w_c1
  · exact w_c2
set_option maxRecDepth 65536 in
theorem w_t1 : words1.all (fun c => isCode c || c.before args0 about1) = true := by decide +kernel
theorem w_tables : (allAtoms (Jvm.Cond.code x code maxLocals ret :: tables_1)).before args0 about1 = true := by
  rw [allAtoms_all]
  show words1.all (fun c => c.before args0 about1) = true
  refine all_split ?_ w_codes
  rw [w_t1]
set_option maxRecDepth 65536 in
theorem w_case : (Jvm.Cond.and given_1 narrow_1).before args0 about1 = true := by decide +kernel
theorem w_applies : (headSpec (Jvm.Cond.code x code maxLocals ret :: tables_1) room_1).applies x e0.platform about1 = true :=
  (Spec.applies_iff w_frames).mpr ⟨w_running, w_runnable, w_alone, w_named, w_hears, w_ripe, w_room, w_tables⟩
theorem atStart : AtStart classFile x code maxLocals ret World_1 tables_1 room_1 Calls_1 rest_1 Pre_1 launch0 p0 e0 about1 theMethod args0 below0 :=
  ⟨lists_1, trivial, launch0.admits_env _ _ _, launch0.least_env, fairChoices_fair.cas, fairChoices_fair.clock, w_frames, w_args, w_heap, w_applies, trivial, trivial, w_case⟩
end start1
theorem witness_1 : WitnessClaimed_1 := ⟨start1.p0, start1.e0, start1.about1, start1.theMethod, start1.args0, start1.below0, start1.atStart⟩
end Jvm.Pilot.@@N@@
