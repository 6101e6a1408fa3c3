import JvmDerived
import JvmDerived.Pilot.@@N@@Statement
import JvmDerived.Pilot.@@N@@Code
set_option linter.unusedVariables false
set_option linter.unusedSimpArgs false
namespace Jvm.Pilot.@@N@@
open Jvm Jvm.ClassFile Sem Op Lib Jvm.Free Jvm.Stand Jvm.LawKit Jvm.RoadKit Bundle Jvm.Pilot.@@N@@.Jvm.D
/-! what a body's walk owes, in the manner of a continuation -/
section Own
variable {p : Program} {l : Launch} {e : Env} {R : Room} {s : State} {m : MethodId} {args : Array Value} {below : List Frame} {meth : Method} {c : Code} {T T' : State} {locs : List Loc} {cells slots : Nat} {Q Q' : Option Value → Heap → List Loc → Prop}
abbrev OMet (l : Launch) (Z : State) (y : MethodName) (bytes : ByteArray) (maxL : Nat) (ret : Option FieldType) (ws : List Jvm.Cond) (rm : Room) (as : Array Value) (h0 : Heap) (Q : Option Value → Heap → List Loc → Prop) : Prop :=
  MetFree l y (head1 (Jvm.Cond.code y bytes maxL ret :: ws) rm) (fun a U => a = as ∧ Z.Warmed39 U.vm ∧ U.heap = h0) (fun _ _ _ _ _ => True) (fun _ U o U' => ∃ v L, o = .returned v ∧ Q v U'.heap L ∧ FrameEnd U o U' L rm.cells rm.slots)
def OG (p : Program) (e : Env) (R : Room) (s : State) (below : List Frame) (Q : Option Value → Heap → List Loc → Prop) (T : State) (g : JFrame) : Prop :=
  ∃ s₂ o, Steps p.tables e below (T.setTop g) s₂ ∧ s₂.status = .running ∧ Ended s₂ below o ∧ ∃ v L, o = .returned v ∧ Q v s₂.heap L ∧ FrameEnd s o s₂ L R.cells R.slots
theorem own_st {g g' : JFrame} (h : ∀ t, Steps p.tables e below (T'.setTop g') t → Steps p.tables e below (T.setTop g) t) (k : OG p e R s below Q T' g') : OG p e R s below Q T g := by
  obtain ⟨s₂, o, h1, h2⟩ := k
  exact ⟨s₂, o, h _ h1, h2⟩
theorem own_sp {g g' : JFrame} {t : State} (h : ∀ t, Steps p.tables e below (T'.setTop g') t → Steps p.tables e below (T.setTop g) t) (k : Steps p.tables e below (T'.setTop g') t) : Steps p.tables e below (T.setTop g) t := h _ k
theorem own_cast {g g' : JFrame} (q : g = g') (k : OG p e R s below Q T g') : OG p e R s below Q T g := q ▸ k
theorem own_irr {x : Int64} : ¬ x < x := Int64.lt_irrefl
theorem own_if0 {cd : ClassFile.Cond} {x : Int32} {b : Bool} (h : if_icmp.holds cd x 0 = b) : ifCond.holds cd x = b := by rw [if0]; exact h
theorem own_retZ (X : Stand p l e R s m args below meth c T locs cells slots) (hx : p.tables.exec = Jvm.exec) {t : FieldType} (hret : meth.sig.returnType = some t) (ht : t = .boolean ∨ t = .byte ∨ t = .char ∨ t = .short) (hlk : meth.locks = false) {pc : Nat} {Ls : Array Slot} {z : Int32} {rest : List Value}
    (hd : decode c.code pc = .ok (.ireturn, 1)) (hc : cells ≤ R.cells) (hs : slots ≤ R.slots) {w : Int32} (hn : nar t z = w) (hq : Q (some (.int w)) T.heap locs) : OG p e R s below Q T (mkF m pc Ls (.int z :: rest)) := by
  subst hn
  obtain ⟨fs, hr, hrun, hended, hW, hsame⟩ := X.leave (v := some (.int (nar t z))) (fun h => by rw [hret] at h; cases h) hlk
  exact ⟨_, _, retN X hx hret ht hd hr, hrun, hended, _, _, rfl, hq, ⟨_, rfl⟩, hW, hsame.mono hc hs⟩
theorem own_retV (X : Stand p l e R s m args below meth c T locs cells slots) (hx : p.tables.exec = Jvm.exec) {t : FieldType} {i : Instr} {w : Value} (hret : meth.sig.returnType = some t) (hn : narrow t w = w)
    (hi : (i = .ireturn ∧ (t = .int ∨ t = .boolean ∨ t = .byte ∨ t = .char ∨ t = .short) ∧ ∃ z, w = .int z) ∨ (i = .lreturn ∧ t = .long ∧ ∃ z, w = .long z) ∨ (i = .dreturn ∧ t = .double ∧ ∃ z, w = .double z) ∨ (i = .freturn ∧ t = .float ∧ ∃ z, w = .float z) ∨ (i = .areturn ∧ t.isReference = true ∧ w.isRef = true))
    (hlk : meth.locks = false) {pc : Nat} {Ls : Array Slot} {rest : List Value}
    (hd : decode c.code pc = .ok (i, 1)) (hc : cells ≤ R.cells) (hs : slots ≤ R.slots) (hq : Q (some w) T.heap locs) : OG p e R s below Q T (mkF m pc Ls (w :: rest)) := by
  obtain ⟨fs, hr, hrun, hended, hW, hsame⟩ := X.leave (v := some w) (fun h => by rw [hret] at h; cases h) hlk
  exact ⟨_, _, retOut X hx hret hn hi hd hr, hrun, hended, _, _, rfl, hq, ⟨_, rfl⟩, hW, hsame.mono hc hs⟩
theorem own_retI (X : Stand p l e R s m args below meth c T locs cells slots) (hx : p.tables.exec = Jvm.exec) (hret : meth.sig.returnType = some .int) (hlk : meth.locks = false) {pc : Nat} {Ls : Array Slot} {z : Int32} {rest : List Value}
    (hd : decode c.code pc = .ok (.ireturn, 1)) (hc : cells ≤ R.cells) (hs : slots ≤ R.slots) (hq : Q (some (.int z)) T.heap locs) : OG p e R s below Q T (mkF m pc Ls (.int z :: rest)) :=
  own_retV X hx hret rfl (Or.inl ⟨rfl, Or.inl rfl, _, rfl⟩) hlk hd hc hs hq
theorem own_retL (X : Stand p l e R s m args below meth c T locs cells slots) (hx : p.tables.exec = Jvm.exec) (hret : meth.sig.returnType = some .long) (hlk : meth.locks = false) {pc : Nat} {Ls : Array Slot} {z : Int64} {rest : List Value}
    (hd : decode c.code pc = .ok (.lreturn, 1)) (hc : cells ≤ R.cells) (hs : slots ≤ R.slots) (hq : Q (some (.long z)) T.heap locs) : OG p e R s below Q T (mkF m pc Ls (.long z :: rest)) :=
  own_retV X hx hret rfl (Or.inr (Or.inl ⟨rfl, rfl, _, rfl⟩)) hlk hd hc hs hq
theorem own_ret0 (X : Stand p l e R s m args below meth c T locs cells slots) (hx : p.tables.exec = Jvm.exec) (hret : meth.sig.returnType = none) (hlk : meth.locks = false) {pc : Nat} {Ls : Array Slot}
    (hd : decode c.code pc = .ok (.return_, 1)) (hc : cells ≤ R.cells) (hs : slots ≤ R.slots) (hq : Q none T.heap locs) : OG p e R s below Q T (mkF m pc Ls []) := by
  obtain ⟨fs, hr, hrun, hended, hW, hsame⟩ := X.leave (v := none) (fun _ => rfl) hlk
  exact ⟨_, _, X.returnOut hx hret hd hr, hrun, hended, _, _, rfl, hq, ⟨_, rfl⟩, hW, hsame.mono hc hs⟩
theorem own_enter {Z : State} {y : MethodName} {bytes : ByteArray} {maxL : Nat} {ret : Option FieldType} {ws : List Jvm.Cond} {rm : Room} {as : Array Value} {h0 : Heap} (hp : plainName y.cls = true)
    (body : ∀ (p : Program) (e : Env) (s : State) (m : MethodId) (below : List Frame) (meth : Method) (c : Code) (s₁ : State), p.tables.exec = Jvm.exec → c.code = bytes → c.maxLocals = maxL → s.vm.findClass y.cls = some m.cls → meth.sig.returnType = ret → meth.locks = false → meth.name = y.name → Z.Warmed39 s.vm →
      Stand p l e rm s m as below meth c s₁ [] 0 0 → s₁.heap = h0 → OG p e rm s below Q s₁ (entryFrame m as maxL)) : OMet l Z y bytes maxL ret ws rm as h0 Q := by
  refine MetFree.of_bodySF (plainFor_of_name hp) hisR ?_
  intro p e s m args below meth c s₁ Bd hml0 hP hK
  obtain ⟨rfl, hZ, hh⟩ := hP
  exact body p e s m below meth c s₁ Bd.exec Bd.bytes hml0 (findClass_of_methodNamed Bd.named) Bd.returns Bd.notSynchronized (name_of_methodNamed Bd.named Bd.method).1 hZ (Stand.of_body Bd) (by rw [← hh, Bd.state]; rfl)
end Own
theorem d1_0 : decode prog_166_method_2_code 0 = .ok (.iload_n 0, 1) := by decide +kernel
theorem d1_1 : decode prog_166_method_2_code 1 = .ok (.bipush 65, 2) := by decide +kernel
theorem d1_3 : decode prog_166_method_2_code 3 = .ok (.if_icmp .lt 9, 3) := by decide +kernel
theorem d1_6 : decode prog_166_method_2_code 6 = .ok (.iload_n 0, 1) := by decide +kernel
theorem d1_7 : decode prog_166_method_2_code 7 = .ok (.bipush 90, 2) := by decide +kernel
theorem d1_9 : decode prog_166_method_2_code 9 = .ok (.if_icmp .le 51, 3) := by decide +kernel
theorem d1_12 : decode prog_166_method_2_code 12 = .ok (.iload_n 0, 1) := by decide +kernel
theorem d1_13 : decode prog_166_method_2_code 13 = .ok (.bipush 97, 2) := by decide +kernel
theorem d1_15 : decode prog_166_method_2_code 15 = .ok (.if_icmp .lt 9, 3) := by decide +kernel
theorem d1_18 : decode prog_166_method_2_code 18 = .ok (.iload_n 0, 1) := by decide +kernel
theorem d1_19 : decode prog_166_method_2_code 19 = .ok (.bipush 122, 2) := by decide +kernel
theorem d1_21 : decode prog_166_method_2_code 21 = .ok (.if_icmp .le 39, 3) := by decide +kernel
theorem d1_24 : decode prog_166_method_2_code 24 = .ok (.iload_n 0, 1) := by decide +kernel
theorem d1_25 : decode prog_166_method_2_code 25 = .ok (.bipush 48, 2) := by decide +kernel
theorem d1_27 : decode prog_166_method_2_code 27 = .ok (.if_icmp .lt 9, 3) := by decide +kernel
theorem d1_30 : decode prog_166_method_2_code 30 = .ok (.iload_n 0, 1) := by decide +kernel
theorem d1_31 : decode prog_166_method_2_code 31 = .ok (.bipush 57, 2) := by decide +kernel
theorem d1_33 : decode prog_166_method_2_code 33 = .ok (.if_icmp .le 27, 3) := by decide +kernel
theorem d1_36 : decode prog_166_method_2_code 36 = .ok (.iload_n 0, 1) := by decide +kernel
theorem d1_37 : decode prog_166_method_2_code 37 = .ok (.bipush 45, 2) := by decide +kernel
theorem d1_39 : decode prog_166_method_2_code 39 = .ok (.if_icmp .eq 21, 3) := by decide +kernel
theorem d1_42 : decode prog_166_method_2_code 42 = .ok (.iload_n 0, 1) := by decide +kernel
theorem d1_43 : decode prog_166_method_2_code 43 = .ok (.bipush 46, 2) := by decide +kernel
theorem d1_45 : decode prog_166_method_2_code 45 = .ok (.if_icmp .eq 15, 3) := by decide +kernel
theorem d1_48 : decode prog_166_method_2_code 48 = .ok (.iload_n 0, 1) := by decide +kernel
theorem d1_49 : decode prog_166_method_2_code 49 = .ok (.bipush 95, 2) := by decide +kernel
theorem d1_51 : decode prog_166_method_2_code 51 = .ok (.if_icmp .eq 9, 3) := by decide +kernel
theorem d1_54 : decode prog_166_method_2_code 54 = .ok (.iload_n 0, 1) := by decide +kernel
theorem d1_55 : decode prog_166_method_2_code 55 = .ok (.bipush 126, 2) := by decide +kernel
theorem d1_57 : decode prog_166_method_2_code 57 = .ok (.if_icmp .ne 7, 3) := by decide +kernel
theorem d1_60 : decode prog_166_method_2_code 60 = .ok (.iconst 1, 1) := by decide +kernel
theorem d1_61 : decode prog_166_method_2_code 61 = .ok (.goto 4, 3) := by decide +kernel
theorem d1_64 : decode prog_166_method_2_code 64 = .ok (.iconst 0, 1) := by decide +kernel
theorem d1_65 : decode prog_166_method_2_code 65 = .ok (.ireturn, 1) := by decide +kernel
theorem pn_com_example_vetted_envelope_vettedenvelope_standard_PercentEncoding : plainName "com/example/vetted_envelope/vettedenvelope/standard/PercentEncoding" = true := by first | (simp [plainName, overriddenIn]; done) | decide +kernel
def f1_36 (p1 : Int32) : Int32 := (if p1 = (45 : Int32) then (1 : Int32) else (if p1 = (46 : Int32) then (1 : Int32) else (if p1 = (95 : Int32) then (1 : Int32) else (if p1 = (126 : Int32) then (1 : Int32) else (0 : Int32)))))
def f1_24 (p1 : Int32) : Int32 := (if p1 < (48 : Int32) then f1_36 p1 else (if (57 : Int32) < p1 then f1_36 p1 else (1 : Int32)))
def f1_12 (p1 : Int32) : Int32 := (if p1 < (97 : Int32) then f1_24 p1 else (if (122 : Int32) < p1 then f1_24 p1 else (1 : Int32)))
def f1 (p1 : Int32) : Int32 := (if p1 < (65 : Int32) then f1_12 p1 else (if (90 : Int32) < p1 then f1_12 p1 else (1 : Int32)))
theorem ef_1 (m : MethodId) (p1 : Int32) : entryFrame m #[(.int p1)] 1 = (mkF m 0 #[.val (.int p1)] []) := by first | (simp [entryFrame, mkF, argsToLocals, Value.category]; done) | rfl
abbrev Q1 (p1 : Int32) (h0 : Heap) : Option Value → Heap → List Loc → Prop := (fun v h L => v = some (.int (f1 p1)) ∧ L = [] ∧ h = h0)
set_option maxRecDepth 65536 in
set_option maxHeartbeats 40000000 in
theorem rm1 (l : Launch) (Z : State) (a0 : Array Value) (hw : ∀ d ∈ tables_1, d.before a0 Z = true) (ws : List Jvm.Cond) (p1 : Int32) (h0 : Heap)  :
    OMet l Z (⟨"com/example/vetted_envelope/vettedenvelope/standard/PercentEncoding", "isUnreserved", "(I)Z"⟩ : MethodName) prog_166_method_2_code 1 (some .boolean) ws ({ frames := 0, cells := 0, slots := 0, locals := 0 } : Room) #[(.int p1)] h0 (Q1 p1 h0) := by
  refine own_enter pn_com_example_vetted_envelope_vettedenvelope_standard_PercentEncoding ?_
  intro p e s m below meth c s₁ hx hby hml0 hown hret hlk hnm hZ X0 e0
  have hml : c.maxLocals = 1 := hml0
  refine own_cast (ef_1 m p1) ?_
  have J36 : OG p e ({ frames := 0, cells := 0, slots := 0, locals := 0 } : Room) s below (fun v h L => v = some (.int (f1_36 p1)) ∧ L = [] ∧ h = h0) s₁ (mkF m 36 #[.val (.int p1)] []) := by
    refine own_st (fun t k => XS.iloadN X0.here hx rfl (hb hby d1_36) rfl k) ?_
    show OG p e _ s below _ s₁ (mkF m 37 #[.val (.int p1)] [(.int p1)])
    refine own_st (fun t k => XS.bipush X0.here hx rfl (hb hby d1_37) k) ?_
    show OG p e _ s below _ s₁ (mkF m 39 #[.val (.int p1)] [(.int (45 : Int32)), (.int p1)])
    by_cases c1 : p1 = (45 : Int32)
    · refine own_st (fun t k => XS.icmpYes X0.here hx rfl (pc0 := 39) (pc' := 60) rfl (hb hby d1_39) rfl (teq c1).1 (by decide) (by decide) k) ?_
      show OG p e _ s below _ s₁ (mkF m 60 #[.val (.int p1)] [])
      refine own_st (fun t k => XS.iconst X0.here hx rfl (hb hby d1_60) k) ?_
      show OG p e _ s below _ s₁ (mkF m 61 #[.val (.int p1)] [(.int (1 : Int32))])
      refine own_st (fun t k => XS.goto X0.here hx rfl (pc0 := 61) (pc' := 65) rfl (hb hby d1_61) (by decide) (by decide) k) ?_
      show OG p e _ s below _ s₁ (mkF m 65 #[.val (.int p1)] [(.int (1 : Int32))])
      exact own_retZ X0 hx (t := .boolean) hret (by simp) hlk (hb hby d1_65) (by decide) (by decide) (w := (1 : Int32)) rfl ⟨congrArg (fun z => some (Value.int z)) (show f1_36 p1 = (1 : Int32) from (by rw [f1_36, if_pos c1])).symm, rfl, e0⟩
    · refine own_st (fun t k => XS.icmpNo X0.here hx rfl (hb hby d1_39) rfl (feq c1).1 k) ?_
      show OG p e _ s below _ s₁ (mkF m 42 #[.val (.int p1)] [])
      refine own_st (fun t k => XS.iloadN X0.here hx rfl (hb hby d1_42) rfl k) ?_
      show OG p e _ s below _ s₁ (mkF m 43 #[.val (.int p1)] [(.int p1)])
      refine own_st (fun t k => XS.bipush X0.here hx rfl (hb hby d1_43) k) ?_
      show OG p e _ s below _ s₁ (mkF m 45 #[.val (.int p1)] [(.int (46 : Int32)), (.int p1)])
      by_cases c2 : p1 = (46 : Int32)
      · refine own_st (fun t k => XS.icmpYes X0.here hx rfl (pc0 := 45) (pc' := 60) rfl (hb hby d1_45) rfl (teq c2).1 (by decide) (by decide) k) ?_
        show OG p e _ s below _ s₁ (mkF m 60 #[.val (.int p1)] [])
        refine own_st (fun t k => XS.iconst X0.here hx rfl (hb hby d1_60) k) ?_
        show OG p e _ s below _ s₁ (mkF m 61 #[.val (.int p1)] [(.int (1 : Int32))])
        refine own_st (fun t k => XS.goto X0.here hx rfl (pc0 := 61) (pc' := 65) rfl (hb hby d1_61) (by decide) (by decide) k) ?_
        show OG p e _ s below _ s₁ (mkF m 65 #[.val (.int p1)] [(.int (1 : Int32))])
        exact own_retZ X0 hx (t := .boolean) hret (by simp) hlk (hb hby d1_65) (by decide) (by decide) (w := (1 : Int32)) rfl ⟨congrArg (fun z => some (Value.int z)) (show f1_36 p1 = (1 : Int32) from (by rw [f1_36, if_neg c1, if_pos c2])).symm, rfl, e0⟩
      · refine own_st (fun t k => XS.icmpNo X0.here hx rfl (hb hby d1_45) rfl (feq c2).1 k) ?_
        show OG p e _ s below _ s₁ (mkF m 48 #[.val (.int p1)] [])
        refine own_st (fun t k => XS.iloadN X0.here hx rfl (hb hby d1_48) rfl k) ?_
        show OG p e _ s below _ s₁ (mkF m 49 #[.val (.int p1)] [(.int p1)])
        refine own_st (fun t k => XS.bipush X0.here hx rfl (hb hby d1_49) k) ?_
        show OG p e _ s below _ s₁ (mkF m 51 #[.val (.int p1)] [(.int (95 : Int32)), (.int p1)])
        by_cases c3 : p1 = (95 : Int32)
        · refine own_st (fun t k => XS.icmpYes X0.here hx rfl (pc0 := 51) (pc' := 60) rfl (hb hby d1_51) rfl (teq c3).1 (by decide) (by decide) k) ?_
          show OG p e _ s below _ s₁ (mkF m 60 #[.val (.int p1)] [])
          refine own_st (fun t k => XS.iconst X0.here hx rfl (hb hby d1_60) k) ?_
          show OG p e _ s below _ s₁ (mkF m 61 #[.val (.int p1)] [(.int (1 : Int32))])
          refine own_st (fun t k => XS.goto X0.here hx rfl (pc0 := 61) (pc' := 65) rfl (hb hby d1_61) (by decide) (by decide) k) ?_
          show OG p e _ s below _ s₁ (mkF m 65 #[.val (.int p1)] [(.int (1 : Int32))])
          exact own_retZ X0 hx (t := .boolean) hret (by simp) hlk (hb hby d1_65) (by decide) (by decide) (w := (1 : Int32)) rfl ⟨congrArg (fun z => some (Value.int z)) (show f1_36 p1 = (1 : Int32) from (by rw [f1_36, if_neg c1, if_neg c2, if_pos c3])).symm, rfl, e0⟩
        · refine own_st (fun t k => XS.icmpNo X0.here hx rfl (hb hby d1_51) rfl (feq c3).1 k) ?_
          show OG p e _ s below _ s₁ (mkF m 54 #[.val (.int p1)] [])
          refine own_st (fun t k => XS.iloadN X0.here hx rfl (hb hby d1_54) rfl k) ?_
          show OG p e _ s below _ s₁ (mkF m 55 #[.val (.int p1)] [(.int p1)])
          refine own_st (fun t k => XS.bipush X0.here hx rfl (hb hby d1_55) k) ?_
          show OG p e _ s below _ s₁ (mkF m 57 #[.val (.int p1)] [(.int (126 : Int32)), (.int p1)])
          by_cases c4 : p1 = (126 : Int32)
          · refine own_st (fun t k => XS.icmpNo X0.here hx rfl (hb hby d1_57) rfl (teq c4).2 k) ?_
            show OG p e _ s below _ s₁ (mkF m 60 #[.val (.int p1)] [])
            refine own_st (fun t k => XS.iconst X0.here hx rfl (hb hby d1_60) k) ?_
            show OG p e _ s below _ s₁ (mkF m 61 #[.val (.int p1)] [(.int (1 : Int32))])
            refine own_st (fun t k => XS.goto X0.here hx rfl (pc0 := 61) (pc' := 65) rfl (hb hby d1_61) (by decide) (by decide) k) ?_
            show OG p e _ s below _ s₁ (mkF m 65 #[.val (.int p1)] [(.int (1 : Int32))])
            exact own_retZ X0 hx (t := .boolean) hret (by simp) hlk (hb hby d1_65) (by decide) (by decide) (w := (1 : Int32)) rfl ⟨congrArg (fun z => some (Value.int z)) (show f1_36 p1 = (1 : Int32) from (by rw [f1_36, if_neg c1, if_neg c2, if_neg c3, if_pos c4])).symm, rfl, e0⟩
          · refine own_st (fun t k => XS.icmpYes X0.here hx rfl (pc0 := 57) (pc' := 64) rfl (hb hby d1_57) rfl (feq c4).2 (by decide) (by decide) k) ?_
            show OG p e _ s below _ s₁ (mkF m 64 #[.val (.int p1)] [])
            refine own_st (fun t k => XS.iconst X0.here hx rfl (hb hby d1_64) k) ?_
            show OG p e _ s below _ s₁ (mkF m 65 #[.val (.int p1)] [(.int (0 : Int32))])
            exact own_retZ X0 hx (t := .boolean) hret (by simp) hlk (hb hby d1_65) (by decide) (by decide) (w := (0 : Int32)) rfl ⟨congrArg (fun z => some (Value.int z)) (show f1_36 p1 = (0 : Int32) from (by rw [f1_36, if_neg c1, if_neg c2, if_neg c3, if_neg c4])).symm, rfl, e0⟩
  have J24 : OG p e ({ frames := 0, cells := 0, slots := 0, locals := 0 } : Room) s below (fun v h L => v = some (.int (f1_24 p1)) ∧ L = [] ∧ h = h0) s₁ (mkF m 24 #[.val (.int p1)] []) := by
    refine own_st (fun t k => XS.iloadN X0.here hx rfl (hb hby d1_24) rfl k) ?_
    show OG p e _ s below _ s₁ (mkF m 25 #[.val (.int p1)] [(.int p1)])
    refine own_st (fun t k => XS.bipush X0.here hx rfl (hb hby d1_25) k) ?_
    show OG p e _ s below _ s₁ (mkF m 27 #[.val (.int p1)] [(.int (48 : Int32)), (.int p1)])
    by_cases c5 : p1 < (48 : Int32)
    · refine own_st (fun t k => XS.icmpYes X0.here hx rfl (pc0 := 27) (pc' := 36) rfl (hb hby d1_27) rfl (tlt c5).1 (by decide) (by decide) k) ?_
      show OG p e _ s below _ s₁ (mkF m 36 #[.val (.int p1)] [])
      rw [show f1_24 p1 = f1_36 p1 from (by rw [f1_24, if_pos c5])]
      exact J36
    · refine own_st (fun t k => XS.icmpNo X0.here hx rfl (hb hby d1_27) rfl (flt c5).1 k) ?_
      show OG p e _ s below _ s₁ (mkF m 30 #[.val (.int p1)] [])
      refine own_st (fun t k => XS.iloadN X0.here hx rfl (hb hby d1_30) rfl k) ?_
      show OG p e _ s below _ s₁ (mkF m 31 #[.val (.int p1)] [(.int p1)])
      refine own_st (fun t k => XS.bipush X0.here hx rfl (hb hby d1_31) k) ?_
      show OG p e _ s below _ s₁ (mkF m 33 #[.val (.int p1)] [(.int (57 : Int32)), (.int p1)])
      by_cases c6 : (57 : Int32) < p1
      · refine own_st (fun t k => XS.icmpNo X0.here hx rfl (hb hby d1_33) rfl (tlt c6).2.2.2 k) ?_
        show OG p e _ s below _ s₁ (mkF m 36 #[.val (.int p1)] [])
        rw [show f1_24 p1 = f1_36 p1 from (by rw [f1_24, if_neg c5, if_pos c6])]
        exact J36
      · refine own_st (fun t k => XS.icmpYes X0.here hx rfl (pc0 := 33) (pc' := 60) rfl (hb hby d1_33) rfl (flt c6).2.2.2 (by decide) (by decide) k) ?_
        show OG p e _ s below _ s₁ (mkF m 60 #[.val (.int p1)] [])
        refine own_st (fun t k => XS.iconst X0.here hx rfl (hb hby d1_60) k) ?_
        show OG p e _ s below _ s₁ (mkF m 61 #[.val (.int p1)] [(.int (1 : Int32))])
        refine own_st (fun t k => XS.goto X0.here hx rfl (pc0 := 61) (pc' := 65) rfl (hb hby d1_61) (by decide) (by decide) k) ?_
        show OG p e _ s below _ s₁ (mkF m 65 #[.val (.int p1)] [(.int (1 : Int32))])
        exact own_retZ X0 hx (t := .boolean) hret (by simp) hlk (hb hby d1_65) (by decide) (by decide) (w := (1 : Int32)) rfl ⟨congrArg (fun z => some (Value.int z)) (show f1_24 p1 = (1 : Int32) from (by rw [f1_24, if_neg c5, if_neg c6])).symm, rfl, e0⟩
  have J12 : OG p e ({ frames := 0, cells := 0, slots := 0, locals := 0 } : Room) s below (fun v h L => v = some (.int (f1_12 p1)) ∧ L = [] ∧ h = h0) s₁ (mkF m 12 #[.val (.int p1)] []) := by
    refine own_st (fun t k => XS.iloadN X0.here hx rfl (hb hby d1_12) rfl k) ?_
    show OG p e _ s below _ s₁ (mkF m 13 #[.val (.int p1)] [(.int p1)])
    refine own_st (fun t k => XS.bipush X0.here hx rfl (hb hby d1_13) k) ?_
    show OG p e _ s below _ s₁ (mkF m 15 #[.val (.int p1)] [(.int (97 : Int32)), (.int p1)])
    by_cases c7 : p1 < (97 : Int32)
    · refine own_st (fun t k => XS.icmpYes X0.here hx rfl (pc0 := 15) (pc' := 24) rfl (hb hby d1_15) rfl (tlt c7).1 (by decide) (by decide) k) ?_
      show OG p e _ s below _ s₁ (mkF m 24 #[.val (.int p1)] [])
      rw [show f1_12 p1 = f1_24 p1 from (by rw [f1_12, if_pos c7])]
      exact J24
    · refine own_st (fun t k => XS.icmpNo X0.here hx rfl (hb hby d1_15) rfl (flt c7).1 k) ?_
      show OG p e _ s below _ s₁ (mkF m 18 #[.val (.int p1)] [])
      refine own_st (fun t k => XS.iloadN X0.here hx rfl (hb hby d1_18) rfl k) ?_
      show OG p e _ s below _ s₁ (mkF m 19 #[.val (.int p1)] [(.int p1)])
      refine own_st (fun t k => XS.bipush X0.here hx rfl (hb hby d1_19) k) ?_
      show OG p e _ s below _ s₁ (mkF m 21 #[.val (.int p1)] [(.int (122 : Int32)), (.int p1)])
      by_cases c8 : (122 : Int32) < p1
      · refine own_st (fun t k => XS.icmpNo X0.here hx rfl (hb hby d1_21) rfl (tlt c8).2.2.2 k) ?_
        show OG p e _ s below _ s₁ (mkF m 24 #[.val (.int p1)] [])
        rw [show f1_12 p1 = f1_24 p1 from (by rw [f1_12, if_neg c7, if_pos c8])]
        exact J24
      · refine own_st (fun t k => XS.icmpYes X0.here hx rfl (pc0 := 21) (pc' := 60) rfl (hb hby d1_21) rfl (flt c8).2.2.2 (by decide) (by decide) k) ?_
        show OG p e _ s below _ s₁ (mkF m 60 #[.val (.int p1)] [])
        refine own_st (fun t k => XS.iconst X0.here hx rfl (hb hby d1_60) k) ?_
        show OG p e _ s below _ s₁ (mkF m 61 #[.val (.int p1)] [(.int (1 : Int32))])
        refine own_st (fun t k => XS.goto X0.here hx rfl (pc0 := 61) (pc' := 65) rfl (hb hby d1_61) (by decide) (by decide) k) ?_
        show OG p e _ s below _ s₁ (mkF m 65 #[.val (.int p1)] [(.int (1 : Int32))])
        exact own_retZ X0 hx (t := .boolean) hret (by simp) hlk (hb hby d1_65) (by decide) (by decide) (w := (1 : Int32)) rfl ⟨congrArg (fun z => some (Value.int z)) (show f1_12 p1 = (1 : Int32) from (by rw [f1_12, if_neg c7, if_neg c8])).symm, rfl, e0⟩
  show OG p e ({ frames := 0, cells := 0, slots := 0, locals := 0 } : Room) s below (fun v h L => v = some (.int (f1 p1)) ∧ L = [] ∧ h = h0) s₁ (mkF m 0 #[.val (.int p1)] [])
  refine own_st (fun t k => XS.iloadN X0.here hx rfl (hb hby d1_0) rfl k) ?_
  show OG p e _ s below _ s₁ (mkF m 1 #[.val (.int p1)] [(.int p1)])
  refine own_st (fun t k => XS.bipush X0.here hx rfl (hb hby d1_1) k) ?_
  show OG p e _ s below _ s₁ (mkF m 3 #[.val (.int p1)] [(.int (65 : Int32)), (.int p1)])
  by_cases c9 : p1 < (65 : Int32)
  · refine own_st (fun t k => XS.icmpYes X0.here hx rfl (pc0 := 3) (pc' := 12) rfl (hb hby d1_3) rfl (tlt c9).1 (by decide) (by decide) k) ?_
    show OG p e _ s below _ s₁ (mkF m 12 #[.val (.int p1)] [])
    rw [show f1 p1 = f1_12 p1 from (by rw [f1, if_pos c9])]
    exact J12
  · refine own_st (fun t k => XS.icmpNo X0.here hx rfl (hb hby d1_3) rfl (flt c9).1 k) ?_
    show OG p e _ s below _ s₁ (mkF m 6 #[.val (.int p1)] [])
    refine own_st (fun t k => XS.iloadN X0.here hx rfl (hb hby d1_6) rfl k) ?_
    show OG p e _ s below _ s₁ (mkF m 7 #[.val (.int p1)] [(.int p1)])
    refine own_st (fun t k => XS.bipush X0.here hx rfl (hb hby d1_7) k) ?_
    show OG p e _ s below _ s₁ (mkF m 9 #[.val (.int p1)] [(.int (90 : Int32)), (.int p1)])
    by_cases c10 : (90 : Int32) < p1
    · refine own_st (fun t k => XS.icmpNo X0.here hx rfl (hb hby d1_9) rfl (tlt c10).2.2.2 k) ?_
      show OG p e _ s below _ s₁ (mkF m 12 #[.val (.int p1)] [])
      rw [show f1 p1 = f1_12 p1 from (by rw [f1, if_neg c9, if_pos c10])]
      exact J12
    · refine own_st (fun t k => XS.icmpYes X0.here hx rfl (pc0 := 9) (pc' := 60) rfl (hb hby d1_9) rfl (flt c10).2.2.2 (by decide) (by decide) k) ?_
      show OG p e _ s below _ s₁ (mkF m 60 #[.val (.int p1)] [])
      refine own_st (fun t k => XS.iconst X0.here hx rfl (hb hby d1_60) k) ?_
      show OG p e _ s below _ s₁ (mkF m 61 #[.val (.int p1)] [(.int (1 : Int32))])
      refine own_st (fun t k => XS.goto X0.here hx rfl (pc0 := 61) (pc' := 65) rfl (hb hby d1_61) (by decide) (by decide) k) ?_
      show OG p e _ s below _ s₁ (mkF m 65 #[.val (.int p1)] [(.int (1 : Int32))])
      exact own_retZ X0 hx (t := .boolean) hret (by simp) hlk (hb hby d1_65) (by decide) (by decide) (w := (1 : Int32)) rfl ⟨congrArg (fun z => some (Value.int z)) (show f1 p1 = (1 : Int32) from (by rw [f1, if_neg c9, if_neg c10])).symm, rfl, e0⟩
theorem d2_0 : decode method_2_code 0 = .ok (.iload_n 0, 1) := by decide +kernel
theorem d2_1 : decode method_2_code 1 = .ok (.ifCond .lt 27, 3) := by decide +kernel
theorem d2_4 : decode method_2_code 4 = .ok (.iload_n 0, 1) := by decide +kernel
theorem d2_5 : decode method_2_code 5 = .ok (.bipush 64, 2) := by decide +kernel
theorem d2_7 : decode method_2_code 7 = .ok (.if_icmp .ge 21, 3) := by decide +kernel
theorem d2_10 : decode method_2_code 10 = .ok (.ldc2_w 9, 3) := by decide +kernel
theorem d2_13 : decode method_2_code 13 = .ok (.iload_n 0, 1) := by decide +kernel
theorem d2_14 : decode method_2_code 14 = .ok (.lushr, 1) := by decide +kernel
theorem d2_15 : decode method_2_code 15 = .ok (.lconst 1, 1) := by decide +kernel
theorem d2_16 : decode method_2_code 16 = .ok (.land, 1) := by decide +kernel
theorem d2_17 : decode method_2_code 17 = .ok (.lconst 0, 1) := by decide +kernel
theorem d2_18 : decode method_2_code 18 = .ok (.lcmp, 1) := by decide +kernel
theorem d2_19 : decode method_2_code 19 = .ok (.ifCond .eq 7, 3) := by decide +kernel
theorem d2_22 : decode method_2_code 22 = .ok (.iconst 1, 1) := by decide +kernel
theorem d2_23 : decode method_2_code 23 = .ok (.goto 4, 3) := by decide +kernel
theorem d2_26 : decode method_2_code 26 = .ok (.iconst 0, 1) := by decide +kernel
theorem d2_27 : decode method_2_code 27 = .ok (.ireturn, 1) := by decide +kernel
theorem d2_28 : decode method_2_code 28 = .ok (.iload_n 0, 1) := by decide +kernel
theorem d2_29 : decode method_2_code 29 = .ok (.bipush 64, 2) := by decide +kernel
theorem d2_31 : decode method_2_code 31 = .ok (.if_icmp .lt 31, 3) := by decide +kernel
theorem d2_34 : decode method_2_code 34 = .ok (.iload_n 0, 1) := by decide +kernel
theorem d2_35 : decode method_2_code 35 = .ok (.sipush 128, 3) := by decide +kernel
theorem d2_38 : decode method_2_code 38 = .ok (.if_icmp .ge 24, 3) := by decide +kernel
theorem d2_41 : decode method_2_code 41 = .ok (.ldc2_w 11, 3) := by decide +kernel
theorem d2_44 : decode method_2_code 44 = .ok (.iload_n 0, 1) := by decide +kernel
theorem d2_45 : decode method_2_code 45 = .ok (.bipush 64, 2) := by decide +kernel
theorem d2_47 : decode method_2_code 47 = .ok (.isub, 1) := by decide +kernel
theorem d2_48 : decode method_2_code 48 = .ok (.lushr, 1) := by decide +kernel
theorem d2_49 : decode method_2_code 49 = .ok (.lconst 1, 1) := by decide +kernel
theorem d2_50 : decode method_2_code 50 = .ok (.land, 1) := by decide +kernel
theorem d2_51 : decode method_2_code 51 = .ok (.lconst 0, 1) := by decide +kernel
theorem d2_52 : decode method_2_code 52 = .ok (.lcmp, 1) := by decide +kernel
theorem d2_53 : decode method_2_code 53 = .ok (.ifCond .eq 7, 3) := by decide +kernel
theorem d2_56 : decode method_2_code 56 = .ok (.iconst 1, 1) := by decide +kernel
theorem d2_57 : decode method_2_code 57 = .ok (.goto 4, 3) := by decide +kernel
theorem d2_60 : decode method_2_code 60 = .ok (.iconst 0, 1) := by decide +kernel
theorem d2_61 : decode method_2_code 61 = .ok (.ireturn, 1) := by decide +kernel
theorem d2_62 : decode method_2_code 62 = .ok (.iconst 0, 1) := by decide +kernel
theorem d2_63 : decode method_2_code 63 = .ok (.ireturn, 1) := by decide +kernel
theorem pn_com_example_vetted_envelope_vettedenvelope_standard_PercentEncodingIsUnreservedPinLaw : plainName "com/example/vetted_envelope/vettedenvelope/standard/PercentEncodingIsUnreservedPinLaw" = true := by first | (simp [plainName, overriddenIn]; done) | decide +kernel
def f2_28 (p1 : Int32) : Int32 := (if p1 < (64 : Int32) then (0 : Int32) else (if p1 < (128 : Int32) then (if ((((5188146764422578174 : Int64).toUInt64 >>> ((p1 - (64 : Int32)) &&& 0x3f).toInt64.toUInt64).toInt64) &&& (1 : Int64)) = (0 : Int64) then (0 : Int32) else (1 : Int32)) else (0 : Int32)))
def f2 (p1 : Int32) : Int32 := (if p1 < (0 : Int32) then f2_28 p1 else (if p1 < (64 : Int32) then (if ((((288054454291267584 : Int64).toUInt64 >>> (p1 &&& 0x3f).toInt64.toUInt64).toInt64) &&& (1 : Int64)) = (0 : Int64) then (0 : Int32) else (1 : Int32)) else f2_28 p1))
theorem ef_2 (m : MethodId) (p1 : Int32) : entryFrame m #[(.int p1)] 1 = (mkF m 0 #[.val (.int p1)] []) := by first | (simp [entryFrame, mkF, argsToLocals, Value.category]; done) | rfl
abbrev Q2 (p1 : Int32) (h0 : Heap) : Option Value → Heap → List Loc → Prop := (fun v h L => v = some (.int (f2 p1)) ∧ L = [] ∧ h = h0)
set_option maxRecDepth 65536 in
set_option maxHeartbeats 40000000 in
theorem rm2 (l : Launch) (Z : State) (a0 : Array Value) (hw : ∀ d ∈ tables_1, d.before a0 Z = true) (ws : List Jvm.Cond) (p1 : Int32) (h0 : Heap)  :
    OMet l Z (⟨"com/example/vetted_envelope/vettedenvelope/standard/PercentEncodingIsUnreservedPinLaw", "expected", "(I)Z"⟩ : MethodName) method_2_code 1 (some .boolean) ws ({ frames := 0, cells := 0, slots := 0, locals := 0 } : Room) #[(.int p1)] h0 (Q2 p1 h0) := by
  refine own_enter pn_com_example_vetted_envelope_vettedenvelope_standard_PercentEncodingIsUnreservedPinLaw ?_
  intro p e s m below meth c s₁ hx hby hml0 hown hret hlk hnm hZ X0 e0
  have hml : c.maxLocals = 1 := hml0
  refine own_cast (ef_2 m p1) ?_
  have J28 : OG p e ({ frames := 0, cells := 0, slots := 0, locals := 0 } : Room) s below (fun v h L => v = some (.int (f2_28 p1)) ∧ L = [] ∧ h = h0) s₁ (mkF m 28 #[.val (.int p1)] []) := by
    refine own_st (fun t k => XS.iloadN X0.here hx rfl (hb hby d2_28) rfl k) ?_
    show OG p e _ s below _ s₁ (mkF m 29 #[.val (.int p1)] [(.int p1)])
    refine own_st (fun t k => XS.bipush X0.here hx rfl (hb hby d2_29) k) ?_
    show OG p e _ s below _ s₁ (mkF m 31 #[.val (.int p1)] [(.int (64 : Int32)), (.int p1)])
    by_cases c1 : p1 < (64 : Int32)
    · refine own_st (fun t k => XS.icmpYes X0.here hx rfl (pc0 := 31) (pc' := 62) rfl (hb hby d2_31) rfl (tlt c1).1 (by decide) (by decide) k) ?_
      show OG p e _ s below _ s₁ (mkF m 62 #[.val (.int p1)] [])
      refine own_st (fun t k => XS.iconst X0.here hx rfl (hb hby d2_62) k) ?_
      show OG p e _ s below _ s₁ (mkF m 63 #[.val (.int p1)] [(.int (0 : Int32))])
      exact own_retZ X0 hx (t := .boolean) hret (by simp) hlk (hb hby d2_63) (by decide) (by decide) (w := (0 : Int32)) rfl ⟨congrArg (fun z => some (Value.int z)) (show f2_28 p1 = (0 : Int32) from (by rw [f2_28, if_pos c1])).symm, rfl, e0⟩
    · refine own_st (fun t k => XS.icmpNo X0.here hx rfl (hb hby d2_31) rfl (flt c1).1 k) ?_
      show OG p e _ s below _ s₁ (mkF m 34 #[.val (.int p1)] [])
      refine own_st (fun t k => XS.iloadN X0.here hx rfl (hb hby d2_34) rfl k) ?_
      show OG p e _ s below _ s₁ (mkF m 35 #[.val (.int p1)] [(.int p1)])
      refine own_st (fun t k => XS.sipush X0.here hx rfl (hb hby d2_35) k) ?_
      show OG p e _ s below _ s₁ (mkF m 38 #[.val (.int p1)] [(.int (128 : Int32)), (.int p1)])
      by_cases c2 : p1 < (128 : Int32)
      · refine own_st (fun t k => XS.icmpNo X0.here hx rfl (hb hby d2_38) rfl (tlt c2).2.1 k) ?_
        show OG p e _ s below _ s₁ (mkF m 41 #[.val (.int p1)] [])
        refine own_st (fun t k => X0.ldc2Long hx hown (mvT hZ (hw _ (List.mem_of_getElem? (i := 9) rfl))) (g := (mkF m 41 #[.val (.int p1)] [])) rfl (hb hby d2_41) _ k) ?_
        show OG p e _ s below _ s₁ (mkF m 44 #[.val (.int p1)] [(.long (5188146764422578174 : Int64))])
        refine own_st (fun t k => XS.iloadN X0.here hx rfl (hb hby d2_44) rfl k) ?_
        show OG p e _ s below _ s₁ (mkF m 45 #[.val (.int p1)] [(.int p1), (.long (5188146764422578174 : Int64))])
        refine own_st (fun t k => XS.bipush X0.here hx rfl (hb hby d2_45) k) ?_
        show OG p e _ s below _ s₁ (mkF m 47 #[.val (.int p1)] [(.int (64 : Int32)), (.int p1), (.long (5188146764422578174 : Int64))])
        refine own_st (fun t k => XS.isub X0.here hx rfl (hb hby d2_47) rfl k) ?_
        show OG p e _ s below _ s₁ (mkF m 48 #[.val (.int p1)] [(.int (p1 - (64 : Int32))), (.long (5188146764422578174 : Int64))])
        refine own_st (fun t k => XS.lushr X0.here hx rfl (hb hby d2_48) rfl k) ?_
        show OG p e _ s below _ s₁ (mkF m 49 #[.val (.int p1)] [(.long (((5188146764422578174 : Int64).toUInt64 >>> ((p1 - (64 : Int32)) &&& 0x3f).toInt64.toUInt64).toInt64))])
        refine own_st (fun t k => XS.lconst X0.here hx rfl (hb hby d2_49) k) ?_
        show OG p e _ s below _ s₁ (mkF m 50 #[.val (.int p1)] [(.long (1 : Int64)), (.long (((5188146764422578174 : Int64).toUInt64 >>> ((p1 - (64 : Int32)) &&& 0x3f).toInt64.toUInt64).toInt64))])
        refine own_st (fun t k => XS.land X0.here hx rfl (hb hby d2_50) rfl k) ?_
        show OG p e _ s below _ s₁ (mkF m 51 #[.val (.int p1)] [(.long ((((5188146764422578174 : Int64).toUInt64 >>> ((p1 - (64 : Int32)) &&& 0x3f).toInt64.toUInt64).toInt64) &&& (1 : Int64)))])
        refine own_st (fun t k => XS.lconst X0.here hx rfl (hb hby d2_51) k) ?_
        show OG p e _ s below _ s₁ (mkF m 52 #[.val (.int p1)] [(.long (0 : Int64)), (.long ((((5188146764422578174 : Int64).toUInt64 >>> ((p1 - (64 : Int32)) &&& 0x3f).toInt64.toUInt64).toInt64) &&& (1 : Int64)))])
        refine own_st (fun t k => XS.lcmp X0.here hx rfl (hb hby d2_52) rfl k) ?_
        show OG p e _ s below _ s₁ (mkF m 53 #[.val (.int p1)] [(.int (lcmpW ((((5188146764422578174 : Int64).toUInt64 >>> ((p1 - (64 : Int32)) &&& 0x3f).toInt64.toUInt64).toInt64) &&& (1 : Int64)) (0 : Int64)))])
        by_cases c3 : ((((5188146764422578174 : Int64).toUInt64 >>> ((p1 - (64 : Int32)) &&& 0x3f).toInt64.toUInt64).toInt64) &&& (1 : Int64)) = (0 : Int64)
        · refine own_st (fun t k => XS.ifYes X0.here hx rfl (pc0 := 53) (pc' := 60) rfl (hb hby d2_53) rfl (own_if0 (teq ((lw_eq _ _).mpr c3)).1) (by decide) (by decide) k) ?_
          show OG p e _ s below _ s₁ (mkF m 60 #[.val (.int p1)] [])
          refine own_st (fun t k => XS.iconst X0.here hx rfl (hb hby d2_60) k) ?_
          show OG p e _ s below _ s₁ (mkF m 61 #[.val (.int p1)] [(.int (0 : Int32))])
          exact own_retZ X0 hx (t := .boolean) hret (by simp) hlk (hb hby d2_61) (by decide) (by decide) (w := (0 : Int32)) rfl ⟨congrArg (fun z => some (Value.int z)) (show f2_28 p1 = (0 : Int32) from (by rw [f2_28, if_neg c1, if_pos c2, if_pos c3])).symm, rfl, e0⟩
        · refine own_st (fun t k => XS.ifNo X0.here hx rfl (hb hby d2_53) rfl (own_if0 (feq (fun q => c3 ((lw_eq _ _).mp q))).1) k) ?_
          show OG p e _ s below _ s₁ (mkF m 56 #[.val (.int p1)] [])
          refine own_st (fun t k => XS.iconst X0.here hx rfl (hb hby d2_56) k) ?_
          show OG p e _ s below _ s₁ (mkF m 57 #[.val (.int p1)] [(.int (1 : Int32))])
          refine own_st (fun t k => XS.goto X0.here hx rfl (pc0 := 57) (pc' := 61) rfl (hb hby d2_57) (by decide) (by decide) k) ?_
          show OG p e _ s below _ s₁ (mkF m 61 #[.val (.int p1)] [(.int (1 : Int32))])
          exact own_retZ X0 hx (t := .boolean) hret (by simp) hlk (hb hby d2_61) (by decide) (by decide) (w := (1 : Int32)) rfl ⟨congrArg (fun z => some (Value.int z)) (show f2_28 p1 = (1 : Int32) from (by rw [f2_28, if_neg c1, if_pos c2, if_neg c3])).symm, rfl, e0⟩
      · refine own_st (fun t k => XS.icmpYes X0.here hx rfl (pc0 := 38) (pc' := 62) rfl (hb hby d2_38) rfl (flt c2).2.1 (by decide) (by decide) k) ?_
        show OG p e _ s below _ s₁ (mkF m 62 #[.val (.int p1)] [])
        refine own_st (fun t k => XS.iconst X0.here hx rfl (hb hby d2_62) k) ?_
        show OG p e _ s below _ s₁ (mkF m 63 #[.val (.int p1)] [(.int (0 : Int32))])
        exact own_retZ X0 hx (t := .boolean) hret (by simp) hlk (hb hby d2_63) (by decide) (by decide) (w := (0 : Int32)) rfl ⟨congrArg (fun z => some (Value.int z)) (show f2_28 p1 = (0 : Int32) from (by rw [f2_28, if_neg c1, if_neg c2])).symm, rfl, e0⟩
  show OG p e ({ frames := 0, cells := 0, slots := 0, locals := 0 } : Room) s below (fun v h L => v = some (.int (f2 p1)) ∧ L = [] ∧ h = h0) s₁ (mkF m 0 #[.val (.int p1)] [])
  refine own_st (fun t k => XS.iloadN X0.here hx rfl (hb hby d2_0) rfl k) ?_
  show OG p e _ s below _ s₁ (mkF m 1 #[.val (.int p1)] [(.int p1)])
  by_cases c4 : p1 < (0 : Int32)
  · refine own_st (fun t k => XS.ifYes X0.here hx rfl (pc0 := 1) (pc' := 28) rfl (hb hby d2_1) rfl (own_if0 (tlt c4).1) (by decide) (by decide) k) ?_
    show OG p e _ s below _ s₁ (mkF m 28 #[.val (.int p1)] [])
    rw [show f2 p1 = f2_28 p1 from (by rw [f2, if_pos c4])]
    exact J28
  · refine own_st (fun t k => XS.ifNo X0.here hx rfl (hb hby d2_1) rfl (own_if0 (flt c4).1) k) ?_
    show OG p e _ s below _ s₁ (mkF m 4 #[.val (.int p1)] [])
    refine own_st (fun t k => XS.iloadN X0.here hx rfl (hb hby d2_4) rfl k) ?_
    show OG p e _ s below _ s₁ (mkF m 5 #[.val (.int p1)] [(.int p1)])
    refine own_st (fun t k => XS.bipush X0.here hx rfl (hb hby d2_5) k) ?_
    show OG p e _ s below _ s₁ (mkF m 7 #[.val (.int p1)] [(.int (64 : Int32)), (.int p1)])
    by_cases c5 : p1 < (64 : Int32)
    · refine own_st (fun t k => XS.icmpNo X0.here hx rfl (hb hby d2_7) rfl (tlt c5).2.1 k) ?_
      show OG p e _ s below _ s₁ (mkF m 10 #[.val (.int p1)] [])
      refine own_st (fun t k => X0.ldc2Long hx hown (mvT hZ (hw _ (List.mem_of_getElem? (i := 8) rfl))) (g := (mkF m 10 #[.val (.int p1)] [])) rfl (hb hby d2_10) _ k) ?_
      show OG p e _ s below _ s₁ (mkF m 13 #[.val (.int p1)] [(.long (288054454291267584 : Int64))])
      refine own_st (fun t k => XS.iloadN X0.here hx rfl (hb hby d2_13) rfl k) ?_
      show OG p e _ s below _ s₁ (mkF m 14 #[.val (.int p1)] [(.int p1), (.long (288054454291267584 : Int64))])
      refine own_st (fun t k => XS.lushr X0.here hx rfl (hb hby d2_14) rfl k) ?_
      show OG p e _ s below _ s₁ (mkF m 15 #[.val (.int p1)] [(.long (((288054454291267584 : Int64).toUInt64 >>> (p1 &&& 0x3f).toInt64.toUInt64).toInt64))])
      refine own_st (fun t k => XS.lconst X0.here hx rfl (hb hby d2_15) k) ?_
      show OG p e _ s below _ s₁ (mkF m 16 #[.val (.int p1)] [(.long (1 : Int64)), (.long (((288054454291267584 : Int64).toUInt64 >>> (p1 &&& 0x3f).toInt64.toUInt64).toInt64))])
      refine own_st (fun t k => XS.land X0.here hx rfl (hb hby d2_16) rfl k) ?_
      show OG p e _ s below _ s₁ (mkF m 17 #[.val (.int p1)] [(.long ((((288054454291267584 : Int64).toUInt64 >>> (p1 &&& 0x3f).toInt64.toUInt64).toInt64) &&& (1 : Int64)))])
      refine own_st (fun t k => XS.lconst X0.here hx rfl (hb hby d2_17) k) ?_
      show OG p e _ s below _ s₁ (mkF m 18 #[.val (.int p1)] [(.long (0 : Int64)), (.long ((((288054454291267584 : Int64).toUInt64 >>> (p1 &&& 0x3f).toInt64.toUInt64).toInt64) &&& (1 : Int64)))])
      refine own_st (fun t k => XS.lcmp X0.here hx rfl (hb hby d2_18) rfl k) ?_
      show OG p e _ s below _ s₁ (mkF m 19 #[.val (.int p1)] [(.int (lcmpW ((((288054454291267584 : Int64).toUInt64 >>> (p1 &&& 0x3f).toInt64.toUInt64).toInt64) &&& (1 : Int64)) (0 : Int64)))])
      by_cases c6 : ((((288054454291267584 : Int64).toUInt64 >>> (p1 &&& 0x3f).toInt64.toUInt64).toInt64) &&& (1 : Int64)) = (0 : Int64)
      · refine own_st (fun t k => XS.ifYes X0.here hx rfl (pc0 := 19) (pc' := 26) rfl (hb hby d2_19) rfl (own_if0 (teq ((lw_eq _ _).mpr c6)).1) (by decide) (by decide) k) ?_
        show OG p e _ s below _ s₁ (mkF m 26 #[.val (.int p1)] [])
        refine own_st (fun t k => XS.iconst X0.here hx rfl (hb hby d2_26) k) ?_
        show OG p e _ s below _ s₁ (mkF m 27 #[.val (.int p1)] [(.int (0 : Int32))])
        exact own_retZ X0 hx (t := .boolean) hret (by simp) hlk (hb hby d2_27) (by decide) (by decide) (w := (0 : Int32)) rfl ⟨congrArg (fun z => some (Value.int z)) (show f2 p1 = (0 : Int32) from (by rw [f2, if_neg c4, if_pos c5, if_pos c6])).symm, rfl, e0⟩
      · refine own_st (fun t k => XS.ifNo X0.here hx rfl (hb hby d2_19) rfl (own_if0 (feq (fun q => c6 ((lw_eq _ _).mp q))).1) k) ?_
        show OG p e _ s below _ s₁ (mkF m 22 #[.val (.int p1)] [])
        refine own_st (fun t k => XS.iconst X0.here hx rfl (hb hby d2_22) k) ?_
        show OG p e _ s below _ s₁ (mkF m 23 #[.val (.int p1)] [(.int (1 : Int32))])
        refine own_st (fun t k => XS.goto X0.here hx rfl (pc0 := 23) (pc' := 27) rfl (hb hby d2_23) (by decide) (by decide) k) ?_
        show OG p e _ s below _ s₁ (mkF m 27 #[.val (.int p1)] [(.int (1 : Int32))])
        exact own_retZ X0 hx (t := .boolean) hret (by simp) hlk (hb hby d2_27) (by decide) (by decide) (w := (1 : Int32)) rfl ⟨congrArg (fun z => some (Value.int z)) (show f2 p1 = (1 : Int32) from (by rw [f2, if_neg c4, if_pos c5, if_neg c6])).symm, rfl, e0⟩
    · refine own_st (fun t k => XS.icmpYes X0.here hx rfl (pc0 := 7) (pc' := 28) rfl (hb hby d2_7) rfl (flt c5).2.1 (by decide) (by decide) k) ?_
      show OG p e _ s below _ s₁ (mkF m 28 #[.val (.int p1)] [])
      rw [show f2 p1 = f2_28 p1 from (by rw [f2, if_neg c4, if_neg c5])]
      exact J28
theorem pd__I_Z : parseMethodDescriptor "(I)Z" = some ⟨[.int], some .boolean⟩ := by decide +kernel
def f0 (p1 : Int32) (p2 : Int32) : Int32 := (if (p2 &&& (1 : Int32)) = (0 : Int32) then (if (f1 (p1 &&& (255 : Int32))) = (f2 (p1 &&& (255 : Int32))) then (1 : Int32) else (0 : Int32)) else (if (f1 p1) = (f2 p1) then (1 : Int32) else (0 : Int32)))
theorem ef_0 (m : MethodId) (p1 : Int32) (p2 : Int32) : entryFrame m #[(.int p1), (.int p2)] 3 = (mkF m 0 #[.val (.int p1), .val (.int p2), .unset] []) := by first | (simp [entryFrame, mkF, argsToLocals, Value.category]; done) | rfl
abbrev Q0 (p1 : Int32) (p2 : Int32) (h0 : Heap) : Option Value → Heap → List Loc → Prop := (fun v h L => v = some (.int (f0 p1 p2)) ∧ L = [] ∧ h = h0)
set_option maxRecDepth 65536 in
set_option maxHeartbeats 40000000 in
theorem rm0 (l : Launch) (Z : State) (a0 : Array Value) (hw : ∀ d ∈ tables_1, d.before a0 Z = true) (ws : List Jvm.Cond) (p1 : Int32) (p2 : Int32) (h0 : Heap)  :
    OMet l Z x code maxLocals ret ws room_1 #[(.int p1), (.int p2)] h0 (Q0 p1 p2 h0) := by
  refine own_enter pn_com_example_vetted_envelope_vettedenvelope_standard_PercentEncodingIsUnreservedPinLaw ?_
  intro p e s m below meth c s₁ hx hby hml0 hown hret hlk hnm hZ X0 e0
  have hml : c.maxLocals = 3 := hml0
  refine own_cast (ef_0 m p1 p2) ?_
  show OG p e room_1 s below (fun v h L => v = some (.int (f0 p1 p2)) ∧ L = [] ∧ h = h0) s₁ (mkF m 0 #[.val (.int p1), .val (.int p2), .unset] [])
  refine own_st (fun t k => XS.iloadN X0.here hx rfl (hb hby at_0) rfl k) ?_
  show OG p e _ s below _ s₁ (mkF m 1 #[.val (.int p1), .val (.int p2), .unset] [(.int p2)])
  refine own_st (fun t k => XS.iconst X0.here hx rfl (hb hby at_1) k) ?_
  show OG p e _ s below _ s₁ (mkF m 2 #[.val (.int p1), .val (.int p2), .unset] [(.int (1 : Int32)), (.int p2)])
  refine own_st (fun t k => XS.iand X0.here hx rfl (hb hby at_2) rfl k) ?_
  show OG p e _ s below _ s₁ (mkF m 3 #[.val (.int p1), .val (.int p2), .unset] [(.int (p2 &&& (1 : Int32)))])
  by_cases c1 : (p2 &&& (1 : Int32)) = (0 : Int32)
  · refine own_st (fun t k => XS.ifNo X0.here hx rfl (hb hby at_3) rfl (own_if0 (teq c1).2) k) ?_
    show OG p e _ s below _ s₁ (mkF m 6 #[.val (.int p1), .val (.int p2), .unset] [])
    refine own_st (fun t k => XS.iloadN X0.here hx rfl (hb hby at_6) rfl k) ?_
    show OG p e _ s below _ s₁ (mkF m 7 #[.val (.int p1), .val (.int p2), .unset] [(.int p1)])
    refine own_st (fun t k => XS.sipush X0.here hx rfl (hb hby at_7) k) ?_
    show OG p e _ s below _ s₁ (mkF m 10 #[.val (.int p1), .val (.int p2), .unset] [(.int (255 : Int32)), (.int p1)])
    refine own_st (fun t k => XS.iand X0.here hx rfl (hb hby at_10) rfl k) ?_
    show OG p e _ s below _ s₁ (mkF m 11 #[.val (.int p1), .val (.int p2), .unset] [(.int (p1 &&& (255 : Int32)))])
    refine own_st (fun t k => XS.goto X0.here hx rfl (pc0 := 11) (pc' := 15) rfl (hb hby at_11) (by decide) (by decide) k) ?_
    show OG p e _ s below _ s₁ (mkF m 15 #[.val (.int p1), .val (.int p2), .unset] [(.int (p1 &&& (255 : Int32)))])
    refine own_st (fun t k => XS.istoreN X0.here hx rfl (hb hby at_15) rfl (l' := #[.val (.int p1), .val (.int p2), .val (.int (p1 &&& (255 : Int32)))]) rfl k) ?_
    show OG p e _ s below _ s₁ (mkF m 16 #[.val (.int p1), .val (.int p2), .val (.int (p1 &&& (255 : Int32)))] [])
    refine own_st (fun t k => XS.iloadN X0.here hx rfl (hb hby at_16) rfl k) ?_
    show OG p e _ s below _ s₁ (mkF m 17 #[.val (.int p1), .val (.int p2), .val (.int (p1 &&& (255 : Int32)))] [(.int (p1 &&& (255 : Int32)))])
    obtain ⟨_, _, ⟨T2, L2, k2, n2⟩, -, X2, ⟨Lc2, hQ2, l2, y2, z2⟩, st2⟩ := Jvm.LawKit.callS X0 hx (y := (⟨"com/example/vetted_envelope/vettedenvelope/standard/PercentEncoding", "isUnreserved", "(I)Z"⟩ : MethodName)) hown (mvT hZ (hw _ (List.mem_of_getElem? (i := 0) rfl))) (mvT hZ (hw _ (List.mem_of_getElem? (i := 1) rfl))) (mvT hZ (hw _ (List.mem_of_getElem? (i := 2) rfl))) (mvT hZ (hw _ (List.mem_of_getElem? (i := 3) rfl))) (by decide) (backOf (W := 0) (rm := ({ frames := 0, cells := 0, slots := 0, locals := 0 } : Room)) (rm1 l Z a0 hw [] (p1 &&& (255 : Int32)) h0) hZ (hw _ (List.mem_of_getElem? (i := 3) rfl)) (hw _ (List.mem_of_getElem? (i := 2) rfl)) (by decide) (by decide)) (g := (mkF m 17 #[.val (.int p1), .val (.int p2), .val (.int (p1 &&& (255 : Int32)))] [(.int (p1 &&& (255 : Int32)))])) rfl (by rw [hml]; rfl) (argsL := [(.int (p1 &&& (255 : Int32)))]) (rest := []) (lenOf pd__I_Z rfl) rfl (by show 2 * 0 + _ ≤ _; exact Nat.le_of_eq rfl) (hb hby at_17) (fun _ _ => ⟨rfl, e0, (by decide : 0 + 0 ≤ _), (by decide : 0 + 0 ≤ _)⟩)
    dsimp only [Pt.U, Pt.locs, Pt.cells, Pt.slots] at X2 l2 y2 z2 st2 hQ2
    subst l2 y2 z2
    obtain ⟨rfl, rfl, e2⟩ := hQ2
    refine own_st st2 ?_
    show OG p e _ s below _ T2 (mkF m 20 #[.val (.int p1), .val (.int p2), .val (.int (p1 &&& (255 : Int32)))] [(.int (f1 (p1 &&& (255 : Int32))))])
    refine own_st (fun t k => XS.iloadN X2.here hx rfl (hb hby at_20) rfl k) ?_
    show OG p e _ s below _ T2 (mkF m 21 #[.val (.int p1), .val (.int p2), .val (.int (p1 &&& (255 : Int32)))] [(.int (p1 &&& (255 : Int32))), (.int (f1 (p1 &&& (255 : Int32))))])
    obtain ⟨_, _, ⟨T3, L3, k3, n3⟩, -, X3, ⟨Lc3, hQ3, l3, y3, z3⟩, st3⟩ := Jvm.LawKit.callS X2 hx (y := (⟨"com/example/vetted_envelope/vettedenvelope/standard/PercentEncodingIsUnreservedPinLaw", "expected", "(I)Z"⟩ : MethodName)) hown (mvT hZ (hw _ (List.mem_of_getElem? (i := 4) rfl))) (mvT hZ (hw _ (List.mem_of_getElem? (i := 5) rfl))) (mvT hZ (hw _ (List.mem_of_getElem? (i := 6) rfl))) (mvT hZ (hw _ (List.mem_of_getElem? (i := 7) rfl))) (by decide) (backOf (W := 1) (rm := ({ frames := 0, cells := 0, slots := 0, locals := 0 } : Room)) (rm2 l Z a0 hw [] (p1 &&& (255 : Int32)) h0) hZ (hw _ (List.mem_of_getElem? (i := 7) rfl)) (hw _ (List.mem_of_getElem? (i := 6) rfl)) (by decide) (by decide)) (g := (mkF m 21 #[.val (.int p1), .val (.int p2), .val (.int (p1 &&& (255 : Int32)))] [(.int (p1 &&& (255 : Int32))), (.int (f1 (p1 &&& (255 : Int32))))])) rfl (by rw [hml]; rfl) (argsL := [(.int (p1 &&& (255 : Int32)))]) (rest := [(.int (f1 (p1 &&& (255 : Int32))))]) (lenOf pd__I_Z rfl) rfl (by show 2 * 0 + _ ≤ _; exact Nat.le_of_eq rfl) (hb hby at_21) (fun _ _ => ⟨rfl, e2, (by decide : 0 + 0 ≤ _), (by decide : 0 + 0 ≤ _)⟩)
    dsimp only [Pt.U, Pt.locs, Pt.cells, Pt.slots] at X3 l3 y3 z3 st3 hQ3
    subst l3 y3 z3
    obtain ⟨rfl, rfl, e3⟩ := hQ3
    refine own_st st3 ?_
    show OG p e _ s below _ T3 (mkF m 24 #[.val (.int p1), .val (.int p2), .val (.int (p1 &&& (255 : Int32)))] [(.int (f2 (p1 &&& (255 : Int32)))), (.int (f1 (p1 &&& (255 : Int32))))])
    by_cases c4 : (f1 (p1 &&& (255 : Int32))) = (f2 (p1 &&& (255 : Int32)))
    · refine own_st (fun t k => XS.icmpNo X3.here hx rfl (hb hby at_24) rfl (teq c4).2 k) ?_
      show OG p e _ s below _ T3 (mkF m 27 #[.val (.int p1), .val (.int p2), .val (.int (p1 &&& (255 : Int32)))] [])
      refine own_st (fun t k => XS.iconst X3.here hx rfl (hb hby at_27) k) ?_
      show OG p e _ s below _ T3 (mkF m 28 #[.val (.int p1), .val (.int p2), .val (.int (p1 &&& (255 : Int32)))] [(.int (1 : Int32))])
      refine own_st (fun t k => XS.goto X3.here hx rfl (pc0 := 28) (pc' := 32) rfl (hb hby at_28) (by decide) (by decide) k) ?_
      show OG p e _ s below _ T3 (mkF m 32 #[.val (.int p1), .val (.int p2), .val (.int (p1 &&& (255 : Int32)))] [(.int (1 : Int32))])
      exact own_retZ X3 hx (t := .boolean) hret (by simp) hlk (hb hby at_32) (by decide) (by decide) (w := (1 : Int32)) rfl ⟨congrArg (fun z => some (Value.int z)) (show f0 p1 p2 = (1 : Int32) from (by rw [f0, if_pos c1, if_pos c4])).symm, rfl, e3⟩
    · refine own_st (fun t k => XS.icmpYes X3.here hx rfl (pc0 := 24) (pc' := 31) rfl (hb hby at_24) rfl (feq c4).2 (by decide) (by decide) k) ?_
      show OG p e _ s below _ T3 (mkF m 31 #[.val (.int p1), .val (.int p2), .val (.int (p1 &&& (255 : Int32)))] [])
      refine own_st (fun t k => XS.iconst X3.here hx rfl (hb hby at_31) k) ?_
      show OG p e _ s below _ T3 (mkF m 32 #[.val (.int p1), .val (.int p2), .val (.int (p1 &&& (255 : Int32)))] [(.int (0 : Int32))])
      exact own_retZ X3 hx (t := .boolean) hret (by simp) hlk (hb hby at_32) (by decide) (by decide) (w := (0 : Int32)) rfl ⟨congrArg (fun z => some (Value.int z)) (show f0 p1 p2 = (0 : Int32) from (by rw [f0, if_pos c1, if_neg c4])).symm, rfl, e3⟩
  · refine own_st (fun t k => XS.ifYes X0.here hx rfl (pc0 := 3) (pc' := 14) rfl (hb hby at_3) rfl (own_if0 (feq c1).2) (by decide) (by decide) k) ?_
    show OG p e _ s below _ s₁ (mkF m 14 #[.val (.int p1), .val (.int p2), .unset] [])
    refine own_st (fun t k => XS.iloadN X0.here hx rfl (hb hby at_14) rfl k) ?_
    show OG p e _ s below _ s₁ (mkF m 15 #[.val (.int p1), .val (.int p2), .unset] [(.int p1)])
    refine own_st (fun t k => XS.istoreN X0.here hx rfl (hb hby at_15) rfl (l' := #[.val (.int p1), .val (.int p2), .val (.int p1)]) rfl k) ?_
    show OG p e _ s below _ s₁ (mkF m 16 #[.val (.int p1), .val (.int p2), .val (.int p1)] [])
    refine own_st (fun t k => XS.iloadN X0.here hx rfl (hb hby at_16) rfl k) ?_
    show OG p e _ s below _ s₁ (mkF m 17 #[.val (.int p1), .val (.int p2), .val (.int p1)] [(.int p1)])
    obtain ⟨_, _, ⟨T5, L5, k5, n5⟩, -, X5, ⟨Lc5, hQ5, l5, y5, z5⟩, st5⟩ := Jvm.LawKit.callS X0 hx (y := (⟨"com/example/vetted_envelope/vettedenvelope/standard/PercentEncoding", "isUnreserved", "(I)Z"⟩ : MethodName)) hown (mvT hZ (hw _ (List.mem_of_getElem? (i := 0) rfl))) (mvT hZ (hw _ (List.mem_of_getElem? (i := 1) rfl))) (mvT hZ (hw _ (List.mem_of_getElem? (i := 2) rfl))) (mvT hZ (hw _ (List.mem_of_getElem? (i := 3) rfl))) (by decide) (backOf (W := 0) (rm := ({ frames := 0, cells := 0, slots := 0, locals := 0 } : Room)) (rm1 l Z a0 hw [] p1 h0) hZ (hw _ (List.mem_of_getElem? (i := 3) rfl)) (hw _ (List.mem_of_getElem? (i := 2) rfl)) (by decide) (by decide)) (g := (mkF m 17 #[.val (.int p1), .val (.int p2), .val (.int p1)] [(.int p1)])) rfl (by rw [hml]; rfl) (argsL := [(.int p1)]) (rest := []) (lenOf pd__I_Z rfl) rfl (by show 2 * 0 + _ ≤ _; exact Nat.le_of_eq rfl) (hb hby at_17) (fun _ _ => ⟨rfl, e0, (by decide : 0 + 0 ≤ _), (by decide : 0 + 0 ≤ _)⟩)
    dsimp only [Pt.U, Pt.locs, Pt.cells, Pt.slots] at X5 l5 y5 z5 st5 hQ5
    subst l5 y5 z5
    obtain ⟨rfl, rfl, e5⟩ := hQ5
    refine own_st st5 ?_
    show OG p e _ s below _ T5 (mkF m 20 #[.val (.int p1), .val (.int p2), .val (.int p1)] [(.int (f1 p1))])
    refine own_st (fun t k => XS.iloadN X5.here hx rfl (hb hby at_20) rfl k) ?_
    show OG p e _ s below _ T5 (mkF m 21 #[.val (.int p1), .val (.int p2), .val (.int p1)] [(.int p1), (.int (f1 p1))])
    obtain ⟨_, _, ⟨T6, L6, k6, n6⟩, -, X6, ⟨Lc6, hQ6, l6, y6, z6⟩, st6⟩ := Jvm.LawKit.callS X5 hx (y := (⟨"com/example/vetted_envelope/vettedenvelope/standard/PercentEncodingIsUnreservedPinLaw", "expected", "(I)Z"⟩ : MethodName)) hown (mvT hZ (hw _ (List.mem_of_getElem? (i := 4) rfl))) (mvT hZ (hw _ (List.mem_of_getElem? (i := 5) rfl))) (mvT hZ (hw _ (List.mem_of_getElem? (i := 6) rfl))) (mvT hZ (hw _ (List.mem_of_getElem? (i := 7) rfl))) (by decide) (backOf (W := 1) (rm := ({ frames := 0, cells := 0, slots := 0, locals := 0 } : Room)) (rm2 l Z a0 hw [] p1 h0) hZ (hw _ (List.mem_of_getElem? (i := 7) rfl)) (hw _ (List.mem_of_getElem? (i := 6) rfl)) (by decide) (by decide)) (g := (mkF m 21 #[.val (.int p1), .val (.int p2), .val (.int p1)] [(.int p1), (.int (f1 p1))])) rfl (by rw [hml]; rfl) (argsL := [(.int p1)]) (rest := [(.int (f1 p1))]) (lenOf pd__I_Z rfl) rfl (by show 2 * 0 + _ ≤ _; exact Nat.le_of_eq rfl) (hb hby at_21) (fun _ _ => ⟨rfl, e5, (by decide : 0 + 0 ≤ _), (by decide : 0 + 0 ≤ _)⟩)
    dsimp only [Pt.U, Pt.locs, Pt.cells, Pt.slots] at X6 l6 y6 z6 st6 hQ6
    subst l6 y6 z6
    obtain ⟨rfl, rfl, e6⟩ := hQ6
    refine own_st st6 ?_
    show OG p e _ s below _ T6 (mkF m 24 #[.val (.int p1), .val (.int p2), .val (.int p1)] [(.int (f2 p1)), (.int (f1 p1))])
    by_cases c7 : (f1 p1) = (f2 p1)
    · refine own_st (fun t k => XS.icmpNo X6.here hx rfl (hb hby at_24) rfl (teq c7).2 k) ?_
      show OG p e _ s below _ T6 (mkF m 27 #[.val (.int p1), .val (.int p2), .val (.int p1)] [])
      refine own_st (fun t k => XS.iconst X6.here hx rfl (hb hby at_27) k) ?_
      show OG p e _ s below _ T6 (mkF m 28 #[.val (.int p1), .val (.int p2), .val (.int p1)] [(.int (1 : Int32))])
      refine own_st (fun t k => XS.goto X6.here hx rfl (pc0 := 28) (pc' := 32) rfl (hb hby at_28) (by decide) (by decide) k) ?_
      show OG p e _ s below _ T6 (mkF m 32 #[.val (.int p1), .val (.int p2), .val (.int p1)] [(.int (1 : Int32))])
      exact own_retZ X6 hx (t := .boolean) hret (by simp) hlk (hb hby at_32) (by decide) (by decide) (w := (1 : Int32)) rfl ⟨congrArg (fun z => some (Value.int z)) (show f0 p1 p2 = (1 : Int32) from (by rw [f0, if_neg c1, if_pos c7])).symm, rfl, e6⟩
    · refine own_st (fun t k => XS.icmpYes X6.here hx rfl (pc0 := 24) (pc' := 31) rfl (hb hby at_24) rfl (feq c7).2 (by decide) (by decide) k) ?_
      show OG p e _ s below _ T6 (mkF m 31 #[.val (.int p1), .val (.int p2), .val (.int p1)] [])
      refine own_st (fun t k => XS.iconst X6.here hx rfl (hb hby at_31) k) ?_
      show OG p e _ s below _ T6 (mkF m 32 #[.val (.int p1), .val (.int p2), .val (.int p1)] [(.int (0 : Int32))])
      exact own_retZ X6 hx (t := .boolean) hret (by simp) hlk (hb hby at_32) (by decide) (by decide) (w := (0 : Int32)) rfl ⟨congrArg (fun z => some (Value.int z)) (show f0 p1 p2 = (0 : Int32) from (by rw [f0, if_neg c1, if_neg c7])).symm, rfl, e6⟩
/-! the plain law -/
theorem own_small : ∀ n : Fin 128, f1 (Int32.ofNat n.val) = f2 (Int32.ofNat n.val) := by decide +kernel
theorem own_same (p : Int32) : f1 p = f2 p := by
  by_cases h0 : p < 0
  · have hx : ∀ k : Int32, 0 ≤ k → p < k := fun k hk => Int32.lt_of_lt_of_le h0 hk
    have hn : ∀ k : Int32, 0 ≤ k → ¬ p = k := fun k hk q => Int32.lt_irrefl (q ▸ hx k hk)
    rw [f1, if_pos (hx _ (by decide)), f1_12, if_pos (hx _ (by decide)), f1_24, if_pos (hx _ (by decide)), f1_36, if_neg (hn _ (by decide)), if_neg (hn _ (by decide)), if_neg (hn _ (by decide)), if_neg (hn _ (by decide)), f2, if_pos h0, f2_28, if_pos (hx _ (by decide))]
  · by_cases h1 : p < 128
    · rw [Int32.lt_iff_toInt_lt] at h0 h1
      have k0 : (0 : Int32).toInt = 0 := by decide
      have k128 : (128 : Int32).toInt = 128 := by decide
      rw [k0] at h0; rw [k128] at h1
      have e : Int32.ofNat p.toInt.toNat = p := by
        apply Int32.toInt_inj.mp
        rw [Int32.toInt_ofNat_small (by omega)]; omega
      have := own_small ⟨p.toInt.toNat, by omega⟩
      rwa [e] at this
    · have hx : ∀ k : Int32, k < 128 → k < p := fun k hk => Int32.lt_of_lt_of_le hk (Int32.not_lt.mp h1)
      have hy : ∀ k : Int32, k < 128 → ¬ p < k := fun k hk q => Int32.lt_irrefl (Int32.lt_trans q (hx k hk))
      have hn : ∀ k : Int32, k < 128 → ¬ p = k := fun k hk q => Int32.lt_irrefl (q ▸ hx k hk)
      rw [f1, if_neg (hy _ (by decide)), if_pos (hx _ (by decide)), f1_12, if_neg (hy _ (by decide)), if_pos (hx _ (by decide)), f1_24, if_neg (hy _ (by decide)), if_pos (hx _ (by decide)), f1_36, if_neg (hn _ (by decide)), if_neg (hn _ (by decide)), if_neg (hn _ (by decide)), if_neg (hn _ (by decide)), f2, if_neg h0, if_neg (hy _ (by decide)), f2_28, if_neg (hy _ (by decide)), if_neg h1]
theorem own_law (p1 p2 : Int32) : f0 p1 p2 = 1 := by
  rw [f0, if_pos (own_same _), if_pos (own_same _), ite_self]

theorem own_met (l : Launch) (Z : State) (a0 : Array Value) (hw : ∀ d ∈ tables_1, d.before a0 Z = true) (ws : List Jvm.Cond) (p1 : Int32) (p2 : Int32) (h0 : Heap)  :
    OMet l Z x code maxLocals ret ws room_1 #[(.int p1), (.int p2)] h0 (fun v h L => v = some (.int 1) ∧ Fr h0.size L) := by
  intro p e ha hc hk s m args below hf happ hP hK
  obtain ⟨n, o, h1, h2, h3, v, L, ho, ⟨hv, hL, hh⟩, hq⟩ := rm0 l Z a0 hw ws p1 p2 h0  p e ha hc hk s m args below hf happ hP hK
  rw [own_law] at hv
  exact ⟨n, o, h1, h2, h3, v, L, ho, ⟨hv, by subst hL; exact Fr.nil _⟩, hq⟩
set_option maxRecDepth 65536 in
set_option maxHeartbeats 40000000 in
theorem comes_1 {Post : Tables → Env → Array Value → State → Outcome → State → Prop} (hpost : ∀ tb e args s v u, (limb_1_1.after args s (.returned v) u = true ∧ limb_1_2.after args s (.returned v) u = true ∧ True) → FrameEnd s (.returned v) u (Jvm.fieldLocs frame_1_writes args s ++ Jvm.arrayLocs frame_1_arrays args s ++ Jvm.staticLocs frame_1_statics s) 0 0 → Post tb e args s (.returned v) u) :
    ArmFor flags0 classFile x code maxLocals ret World_1 tables_1 room_1 Calls_1 rest_1 Pre_1 Post := by
  intro l hfl _ _ p e ha hc hk s m args below hf hA hF happ hP
  obtain ⟨hcalls, hrest, hpre⟩ := hP
  obtain ⟨-, -, -, hnamed, -, -, -, hat⟩ := (Spec.applies_iff hf).mp happ
  obtain ⟨hg, hn⟩ := and_e (Cond.before_iff.mp (show (Jvm.Cond.and given_1 narrow_1).before args s = true from hpre))
  obtain ⟨h1, g0⟩ := and_e hg
  obtain ⟨w0, w1, rfl⟩ : ∃ w0 w1 : Value, args = #[w0, w1] := by
    have hs : args.size = 2 := by simpa [Cond.value, given_1] using h1
    obtain ⟨L⟩ := args
    match L, hs with
    | [w0, w1], _ => exact ⟨w0, w1, rfl⟩
  have hw := fun d (hd : d ∈ tables_1) => atoms_spec (ws := Jvm.Cond.code x code maxLocals ret :: tables_1) hat d (List.mem_cons_of_mem _ hd)
  obtain ⟨b0, g1⟩ := and_e g0
  obtain ⟨i0, e0⟩ := is_v b0
  obtain rfl : w0 = (.int i0) := Option.some.inj e0
  obtain ⟨i1, e1⟩ := is_v g1
  obtain rfl : w1 = (.int i1) := Option.some.inj e1
  obtain ⟨n, o, h1, h2, h3, _, L, rfl, ⟨rfl, N⟩, hq⟩ := own_met l s _ hw tables_1 i0 i1 s.heap p e ha hc hk s m _ below hf ((Spec.applies_iff_loose hf).mp happ).1 ⟨rfl, State.Warmed39.refl s, rfl⟩ trivial
  refine ⟨n, _, h1, h2, h3, hpost _ _ _ _ _ _ ⟨Cond.after_iff.mpr rfl, Cond.after_iff.mpr (eq_i res_at (Term.int_eval (1)) rfl), trivial⟩ ⟨hq.1, hq.2.1, (hq.2.2.sift fun y hy => Or.inr (N y hy)).mono (by decide) (by decide)⟩⟩
theorem main_1_1 : Claimed_1_1 := comes_1 fun _ _ _ _ _ _ h hF => ⟨h.1, hF⟩
theorem main_1_2 : Claimed_1_2 := comes_1 fun _ _ _ _ _ _ h hF => ⟨h.2.1, hF⟩
end Jvm.Pilot.@@N@@
namespace Jvm.Pilot.@@N@@
open Jvm Jvm.ClassFile Sem Op Lib Jvm.Free Jvm.Stand Jvm.Pilot.@@N@@.Jvm.D
/-! MADE BY PROGRAM (witnessworld.py) out of the Statement's table words and the real class files: 9 classes; the members and pool entries that the words name. The judged class is class 1, her method 2. -/
namespace start1
open Jvm.ClassFile
def u (s : String) : CpInfo := .utf8 (stringToUtf16 s)
/-- a pool by its gaps: so many unusable entries, then the entry; so many at the end -/
def gap : Nat → List CpInfo → List CpInfo
  | 0, r => r
  | n + 1, r => .unusable :: gap n r
def poolList (es : List (Nat × CpInfo)) (last : Nat) : List CpInfo := es.foldr (fun e r => gap e.1 (e.2 :: r)) (gap last [])
def pool (es : List (Nat × CpInfo)) (last : Nat) : Array CpInfo := ⟨poolList es last⟩
def fileOf (pool : Array CpInfo) (this : Nat) (attrs : Array Attribute := #[]) (ms : Array MethodInfo := #[]) (fl : Nat := 33) (sup : Nat := 0) (ifs : Array Nat := #[]) (fds : Array FieldInfo := #[]) : ClassFile where
  minorVersion := 0
  majorVersion := 65
  constantPool := pool
  accessFlags := fl
  thisClass := this
  superClass := sup
  interfaces := ifs
  fields := fds
  methods := ms
  attributes := attrs
def plain (name : String) (sup : Option ClassId) : Class where
  name := name
  kind := .ordinary
  loader := none
  accessFlags := 33
  super := sup
  interfaces := #[]
  cf := none
  fields := #[]
  methods := #[]
  instanceTypes := #[]
  staticTypes := #[]
  resolved := #[]
  callSites := []
  init := .initialized
  statics := none
  mirror := none

def pool0 : Array CpInfo := pool [(5, u "<init>"), (0, u "()V"), (1, .class_ 10), (1, u "java/lang/Object")] 113

def k0m0 : Method := { name := "<init>", desc := "()V", sig := { parameters := [], returnType := none }, accessFlags := 1, code := none }
/-- java/lang/Object -/
def k0 : Class := { plain "java/lang/Object" none with
  accessFlags := 33
  interfaces := #[]
  cf := some (fileOf pool0 8 #[] #[{ accessFlags := 1, nameIndex := 5, descriptorIndex := 6, attributes := #[] }] 33 0 #[] #[])
  fields := #[]
  methods := #[k0m0]
  instanceTypes := #[]
  staticTypes := #[]
  resolved := Array.replicate 124 none
  statics := none }

def pool1 : Array CpInfo := pool [(2, .class_ 4), (1, u "java/lang/Object"), (0, u "<init>"), (0, u "()V"), (0, .class_ 8), (0, u "com/example/vetted_envelope/vettedenvelope/standard/PercentEncodingIsUnreservedPinLaw"), (0, .long 288054454291267584), (1, .long 5188146764422578174), (1, .methodref 14 15), (0, .class_ 16), (0, .nameAndType 17 18), (0, u "com/example/vetted_envelope/vettedenvelope/standard/PercentEncoding"), (0, u "isUnreserved"), (0, u "(I)Z"), (0, .methodref 7 20), (0, .nameAndType 21 18), (0, u "expected"), (0, u "LOW"), (0, u "J"), (1, u "HIGH"), (3, u "law"), (0, u "(II)Z")] 2

def k1m0 : Method := { name := "<init>", desc := "()V", sig := { parameters := [], returnType := none }, accessFlags := 2, code := none }
def k1c1 : Code := { maxStack := 4, maxLocals := 1, code := method_2_code, exceptionTable := #[], attributes := #[] }
def k1m1 : Method := { name := "expected", desc := "(I)Z", sig := { parameters := [.int], returnType := some .boolean }, accessFlags := 10, code := some k1c1 }
def k1c2 : Code := { maxStack := 2, maxLocals := 3, code := code, exceptionTable := #[], attributes := #[] }
def k1m2 : Method := { name := "law", desc := "(II)Z", sig := { parameters := [.int, .int], returnType := some .boolean }, accessFlags := 9, code := some k1c2 }
/-- com/example/vetted_envelope/vettedenvelope/standard/PercentEncodingIsUnreservedPinLaw -/
def k1 : Class := { plain "com/example/vetted_envelope/vettedenvelope/standard/PercentEncodingIsUnreservedPinLaw" (some 0) with
  accessFlags := 49
  interfaces := #[]
  cf := some (fileOf pool1 7 #[] #[{ accessFlags := 2, nameIndex := 5, descriptorIndex := 6, attributes := #[] }, { accessFlags := 10, nameIndex := 21, descriptorIndex := 18, attributes := #[] }, { accessFlags := 9, nameIndex := 29, descriptorIndex := 30, attributes := #[] }] 49 2 #[] #[{ accessFlags := 26, nameIndex := 22, descriptorIndex := 23, attributes := #[] }, { accessFlags := 26, nameIndex := 25, descriptorIndex := 23, attributes := #[] }])
  fields := #[{ name := "LOW", type := .long, accessFlags := 26, slot := 0, constantValue := 0 }, { name := "HIGH", type := .long, accessFlags := 26, slot := 1, constantValue := 0 }]
  methods := #[k1m0, k1m1, k1m2]
  instanceTypes := #[]
  staticTypes := #[.long, .long]
  resolved := Array.replicate 33 none
  statics := none }

def pool2 : Array CpInfo := pool [(2, .class_ 4), (1, u "java/lang/Object"), (0, u "<init>"), (0, u "()V"), (1, .class_ 10), (1, u "com/example/vetted_envelope/vettedenvelope/standard/PercentEncoding"), (124, u "HEX_DIGITS"), (0, u "[C"), (2, u "isUnreserved"), (0, u "(I)Z")] 39

def k2m0 : Method := { name := "<init>", desc := "()V", sig := { parameters := [], returnType := none }, accessFlags := 2, code := none }
def k2c1 : Code := { maxStack := 2, maxLocals := 1, code := prog_166_method_2_code, exceptionTable := #[], attributes := #[] }
def k2m1 : Method := { name := "isUnreserved", desc := "(I)Z", sig := { parameters := [.int], returnType := some .boolean }, accessFlags := 9, code := some k2c1 }
/-- com/example/vetted_envelope/vettedenvelope/standard/PercentEncoding -/
def k2 : Class := { plain "com/example/vetted_envelope/vettedenvelope/standard/PercentEncoding" (some 0) with
  accessFlags := 49
  interfaces := #[]
  cf := some (fileOf pool2 8 #[] #[{ accessFlags := 2, nameIndex := 5, descriptorIndex := 6, attributes := #[] }, { accessFlags := 9, nameIndex := 139, descriptorIndex := 140, attributes := #[] }] 49 2 #[] #[{ accessFlags := 26, nameIndex := 135, descriptorIndex := 136, attributes := #[] }])
  fields := #[{ name := "HEX_DIGITS", type := (.array .char), accessFlags := 26, slot := 0, constantValue := 0 }]
  methods := #[k2m0, k2m1]
  instanceTypes := #[]
  staticTypes := #[(.array .char)]
  resolved := Array.replicate 180 none
  statics := none }

def pool3 : Array CpInfo := pool [(1, u "java/lang/Cloneable"), (0, .class_ 1), (0, u "java/lang/Object"), (0, .class_ 3)] 3

/-- java/lang/Cloneable -/
def k3 : Class := { plain "java/lang/Cloneable" (some 0) with
  accessFlags := 1537
  interfaces := #[]
  cf := some (fileOf pool3 2 #[] #[] 1537 4 #[] #[])
  fields := #[]
  methods := #[]
  instanceTypes := #[]
  staticTypes := #[]
  resolved := Array.replicate 8 none
  statics := none }

def pool4 : Array CpInfo := pool [(1, u "java/io/Serializable"), (0, .class_ 1), (0, u "java/lang/Object"), (0, .class_ 3)] 3

/-- java/io/Serializable -/
def k4 : Class := { plain "java/io/Serializable" (some 0) with
  accessFlags := 1537
  interfaces := #[]
  cf := some (fileOf pool4 2 #[] #[] 1537 4 #[] #[])
  fields := #[]
  methods := #[]
  instanceTypes := #[]
  staticTypes := #[]
  resolved := Array.replicate 8 none
  statics := none }

/-- the primitive byte -/
def k5 : Class := { plain "byte" none with kind := .primitive 'B', accessFlags := 0x411 }
/-- [B -/
def k6 : Class := { plain "[B" (some 0) with kind := .array 5 .byte, interfaces := #[3, 4], accessFlags := 1041 }

/-- the primitive int -/
def k7 : Class := { plain "int" none with kind := .primitive 'I', accessFlags := 0x411 }
/-- [I -/
def k8 : Class := { plain "[I" (some 0) with kind := .array 7 .int, interfaces := #[3, 4], accessFlags := 1041 }

def heap : Heap := #[]
def classes : Array Class := #[k0, k1, k2, k3, k4, k5, k6, k7, k8]
def interned : List (Array UInt16 × Addr) := []
def slotsUsed : Nat := 0
def theMethod : MethodId := ⟨1, 2⟩
def args0 : Array Value := #[.int 5, .int 0]
def aboutOver (below : List Frame) : State where
  vm := { classes := classes, interned := interned.toArray }
  heap := heap
  slotsUsed := slotsUsed
  threads := #[{ frames := .invoking theMethod args0 :: below }]
def below0 : List Frame := [.native { method := ⟨0, 0⟩, args := #[] }]
def about1 : State := aboutOver below0
def p0 : Program := .bare "" "" ""
def e0 : Env := launch0.env 0 0 0
theorem w_frames : about1.frames = Frame.invoking theMethod args0 :: below0 := rfl
set_option maxRecDepth 65536 in
theorem w_args : argsFit about1.vm theMethod args0 = true := by decide +kernel
set_option maxRecDepth 65536 in
theorem w_heap : heapFits about1 = true := by decide +kernel
set_option maxRecDepth 65536 in
theorem w_runnable : about1.curStatus? = some .runnable := by decide +kernel
set_option maxRecDepth 65536 in
theorem w_alone : about1.alone = true := by decide +kernel
set_option maxRecDepth 65536 in
theorem w_named : about1.methodNamed? x = some theMethod := by decide +kernel
set_option maxRecDepth 65536 in
theorem w_hears : about1.hears theMethod below0 = true := by decide +kernel
set_option maxRecDepth 65536 in
theorem w_ripe : about1.ripe theMethod args0 below0 = true := by decide +kernel
theorem w_running : about1.status = .running := rfl
set_option maxRecDepth 65536 in
theorem w_room : about1.hasRoom e0.platform room_1 = true :=
  launch0.hasRoom_least _ room_1 (by decide +kernel) (by decide +kernel) (by decide +kernel) (by decide +kernel) (by decide +kernel) (by decide +kernel)
theorem allAtoms_all (ts : List Jvm.Cond) (a : Array Jvm.Value) (st : Jvm.State) : (allAtoms ts).before a st = ts.all (fun c => c.before a st) := by
  induction ts with
  | nil => rfl
  | cons c t ih =>
    show (Jvm.Cond.and c (allAtoms t)).before a st = _
    rw [Jvm.Cond.before_and, ih, List.all_cons]
def words1 : List Jvm.Cond := Jvm.Cond.code x code maxLocals ret :: tables_1
/-- a 'code' word, met by the world's own term for the bytes: nothing is compared byte by byte -/
theorem code_word {y : MethodName} {bytes : ByteArray} {mx : Nat} {rt : Option FieldType} {a : Array Value} {s : State} {m : MethodId} {meth : Method} {c : Code} (h1 : s.methodNamed? y = some m) (h2 : s.vm.method? m = some meth) (h3 : meth.code = some c) (h4 : c.code = bytes)
    (h5 : (c.maxLocals == mx && c.exceptionTable.isEmpty && decide (c.maxStack ≤ mostOperands) && decide (meth.sig.returnType = rt) && !meth.locks && decide (parseMethodDescriptor y.desc = some meth.sig)) = true) : (Jvm.Cond.code y bytes mx rt).before a s = true := by
  simp only [Bool.and_eq_true, beq_iff_eq, Bool.not_eq_true', decide_eq_true_eq] at h5
  obtain ⟨⟨⟨⟨⟨g1, g2⟩, g3⟩, g4⟩, g5⟩, g6⟩ := h5
  simp [Cond.before, Cond.holds, Cond.value, h1, h2, h3, h4, g1, g2, g3, g4, g5, g6]
def isCode : Jvm.Cond → Bool
  | .code _ _ _ _ => true
  | _ => false
theorem all_split {L : List Jvm.Cond} {P : Jvm.Cond → Bool} (h1 : L.all (fun c => isCode c || P c) = true) (h2 : ∀ c ∈ L.filter isCode, P c = true) : L.all P = true := by
  refine List.all_eq_true.mpr fun c hc => ?_
  have h := List.all_eq_true.mp h1 c hc
  rcases Bool.eq_false_or_eq_true (isCode c) with hi | hi
  · exact h2 c (List.mem_filter.mpr ⟨hc, hi⟩)
  · simpa [hi] using h
set_option maxRecDepth 65536 in
theorem w_c0 : (Jvm.Cond.code x code maxLocals ret).before args0 about1 = true := code_word (m := ⟨1, 2⟩) (meth := k1m2) (c := k1c2) (by decide +kernel) rfl rfl rfl (by decide +kernel)
set_option maxRecDepth 65536 in
theorem w_c1 : (Jvm.Cond.code ({ cls := "com/example/vetted_envelope/vettedenvelope/standard/PercentEncoding", name := "isUnreserved", desc := "(I)Z" } : Jvm.MethodName) prog_166_method_2_code (1 : Nat) (Option.some Jvm.ClassFile.FieldType.boolean)).before args0 about1 = true := code_word (m := ⟨2, 1⟩) (meth := k2m1) (c := k2c1) (by decide +kernel) rfl rfl rfl (by decide +kernel)
set_option maxRecDepth 65536 in
theorem w_c2 : (Jvm.Cond.code ({ cls := "com/example/vetted_envelope/vettedenvelope/standard/PercentEncodingIsUnreservedPinLaw", name := "expected", desc := "(I)Z" } : Jvm.MethodName) method_2_code (1 : Nat) (Option.some Jvm.ClassFile.FieldType.boolean)).before args0 about1 = true := code_word (m := ⟨1, 1⟩) (meth := k1m1) (c := k1c1) (by decide +kernel) rfl rfl rfl (by decide +kernel)
def codes1 : List Jvm.Cond := [Jvm.Cond.code x code maxLocals ret, Jvm.Cond.code ({ cls := "com/example/vetted_envelope/vettedenvelope/standard/PercentEncoding", name := "isUnreserved", desc := "(I)Z" } : Jvm.MethodName) prog_166_method_2_code (1 : Nat) (Option.some Jvm.ClassFile.FieldType.boolean), Jvm.Cond.code ({ cls := "com/example/vetted_envelope/vettedenvelope/standard/PercentEncodingIsUnreservedPinLaw", name := "expected", desc := "(I)Z" } : Jvm.MethodName) method_2_code (1 : Nat) (Option.some Jvm.ClassFile.FieldType.boolean)]
set_option maxRecDepth 65536 in
theorem codes_eq : words1.filter isCode = codes1 := rfl
theorem w_codes : ∀ c ∈ words1.filter isCode, c.before args0 about1 = true := by
  rw [codes_eq]
  intro c hc
  simp only [codes1, List.mem_cons, List.not_mem_nil, or_false] at hc
  rcases hc with rfl | rfl | rfl
  · exact w_c0
  · exact w_c1
  · exact w_c2
set_option maxRecDepth 65536 in
theorem w_t1 : words1.all (fun c => isCode c || c.before args0 about1) = true := by decide +kernel
theorem w_tables : (allAtoms (Jvm.Cond.code x code maxLocals ret :: tables_1)).before args0 about1 = true := by
  rw [allAtoms_all]
  show words1.all (fun c => c.before args0 about1) = true
  refine all_split ?_ w_codes
  rw [w_t1]
set_option maxRecDepth 65536 in
theorem w_case : (Jvm.Cond.and given_1 narrow_1).before args0 about1 = true := by decide +kernel
theorem w_applies : (headSpec (Jvm.Cond.code x code maxLocals ret :: tables_1) room_1).applies x e0.platform about1 = true :=
  (Spec.applies_iff w_frames).mpr ⟨w_running, w_runnable, w_alone, w_named, w_hears, w_ripe, w_room, w_tables⟩
theorem atStart : AtStart classFile x code maxLocals ret World_1 tables_1 room_1 Calls_1 rest_1 Pre_1 launch0 p0 e0 about1 theMethod args0 below0 :=
  ⟨lists_1, trivial, launch0.admits_env _ _ _, launch0.least_env, fairChoices_fair.cas, fairChoices_fair.clock, w_frames, w_args, w_heap, w_applies, trivial, trivial, w_case⟩
end start1
theorem witness_1 : WitnessClaimed_1 := ⟨start1.p0, start1.e0, start1.about1, start1.theMethod, start1.args0, start1.below0, start1.atStart⟩
end Jvm.Pilot.@@N@@
