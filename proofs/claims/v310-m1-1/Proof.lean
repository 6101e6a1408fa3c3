import JvmDerived
import JvmDerived.Pilot.@@N@@Statement
import JvmDerived.Pilot.@@N@@Code
set_option linter.unusedVariables false
set_option linter.unusedSimpArgs false
namespace Jvm.Pilot.@@N@@
open Jvm Jvm.ClassFile Sem Op Lib Jvm.Free Jvm.Stand Jvm.LawKit Jvm.RoadKit Bundle Jvm.Pilot.@@N@@.Jvm.D
/-! what a body's walk owes, in the manner of a continuation -/
section Own
variable {p : Program} {l : Launch} {e : Env} {R : Room} {s : State} {m : MethodId} {args : Array Value} {below : List Frame} {meth : Method} {c : Code} {T T' : State} {locs : List Loc} {cells slots : Nat} {Q Q' : Option Value → Heap → List Loc → Prop}
abbrev OMet (l : Launch) (Z : State) (y : MethodName) (bytes : ByteArray) (maxL : Nat) (ret : Option FieldType) (ws : List Jvm.Cond) (rm : Room) (as : Array Value) (h0 : Heap) (Q : Option Value → Heap → List Loc → Prop) : Prop :=
  MetFree l y (head1 (Jvm.Cond.code y bytes maxL ret :: ws) rm) (fun a U => a = as ∧ Z.Warmed39 U.vm ∧ U.heap = h0) (fun _ _ _ _ _ => True) (fun _ U o U' => ∃ v L, o = .returned v ∧ Q v U'.heap L ∧ FrameEnd U o U' L rm.cells rm.slots)
def OG (p : Program) (e : Env) (R : Room) (s : State) (below : List Frame) (Q : Option Value → Heap → List Loc → Prop) (T : State) (g : JFrame) : Prop :=
  ∃ s₂ o, Steps p.tables e below (T.setTop g) s₂ ∧ s₂.status = .running ∧ Ended s₂ below o ∧ ∃ v L, o = .returned v ∧ Q v s₂.heap L ∧ FrameEnd s o s₂ L R.cells R.slots
theorem own_st {g g' : JFrame} (h : ∀ t, Steps p.tables e below (T'.setTop g') t → Steps p.tables e below (T.setTop g) t) (k : OG p e R s below Q T' g') : OG p e R s below Q T g := by
  obtain ⟨s₂, o, h1, h2⟩ := k
  exact ⟨s₂, o, h _ h1, h2⟩
theorem own_sp {g g' : JFrame} {t : State} (h : ∀ t, Steps p.tables e below (T'.setTop g') t → Steps p.tables e below (T.setTop g) t) (k : Steps p.tables e below (T'.setTop g') t) : Steps p.tables e below (T.setTop g) t := h _ k
theorem own_cast {g g' : JFrame} (q : g = g') (k : OG p e R s below Q T g') : OG p e R s below Q T g := q ▸ k
theorem own_irr {x : Int64} : ¬ x < x := Int64.lt_irrefl
theorem own_if0 {cd : ClassFile.Cond} {x : Int32} {b : Bool} (h : if_icmp.holds cd x 0 = b) : ifCond.holds cd x = b := by rw [if0]; exact h
theorem own_retZ (X : Stand p l e R s m args below meth c T locs cells slots) (hx : p.tables.exec = Jvm.exec) {t : FieldType} (hret : meth.sig.returnType = some t) (ht : t = .boolean ∨ t = .byte ∨ t = .char ∨ t = .short) (hlk : meth.locks = false) {pc : Nat} {Ls : Array Slot} {z : Int32} {rest : List Value}
    (hd : decode c.code pc = .ok (.ireturn, 1)) (hc : cells ≤ R.cells) (hs : slots ≤ R.slots) {w : Int32} (hn : nar t z = w) (hq : Q (some (.int w)) T.heap locs) : OG p e R s below Q T (mkF m pc Ls (.int z :: rest)) := by
  subst hn
  obtain ⟨fs, hr, hrun, hended, hW, hsame⟩ := X.leave (v := some (.int (nar t z))) (fun h => by rw [hret] at h; cases h) hlk
  exact ⟨_, _, retN X hx hret ht hd hr, hrun, hended, _, _, rfl, hq, ⟨_, rfl⟩, hW, hsame.mono hc hs⟩
theorem own_retV (X : Stand p l e R s m args below meth c T locs cells slots) (hx : p.tables.exec = Jvm.exec) {t : FieldType} {i : Instr} {w : Value} (hret : meth.sig.returnType = some t) (hn : narrow t w = w)
    (hi : (i = .ireturn ∧ (t = .int ∨ t = .boolean ∨ t = .byte ∨ t = .char ∨ t = .short) ∧ ∃ z, w = .int z) ∨ (i = .lreturn ∧ t = .long ∧ ∃ z, w = .long z) ∨ (i = .dreturn ∧ t = .double ∧ ∃ z, w = .double z) ∨ (i = .freturn ∧ t = .float ∧ ∃ z, w = .float z) ∨ (i = .areturn ∧ t.isReference = true ∧ w.isRef = true))
    (hlk : meth.locks = false) {pc : Nat} {Ls : Array Slot} {rest : List Value}
    (hd : decode c.code pc = .ok (i, 1)) (hc : cells ≤ R.cells) (hs : slots ≤ R.slots) (hq : Q (some w) T.heap locs) : OG p e R s below Q T (mkF m pc Ls (w :: rest)) := by
  obtain ⟨fs, hr, hrun, hended, hW, hsame⟩ := X.leave (v := some w) (fun h => by rw [hret] at h; cases h) hlk
  exact ⟨_, _, retOut X hx hret hn hi hd hr, hrun, hended, _, _, rfl, hq, ⟨_, rfl⟩, hW, hsame.mono hc hs⟩
theorem own_retI (X : Stand p l e R s m args below meth c T locs cells slots) (hx : p.tables.exec = Jvm.exec) (hret : meth.sig.returnType = some .int) (hlk : meth.locks = false) {pc : Nat} {Ls : Array Slot} {z : Int32} {rest : List Value}
    (hd : decode c.code pc = .ok (.ireturn, 1)) (hc : cells ≤ R.cells) (hs : slots ≤ R.slots) (hq : Q (some (.int z)) T.heap locs) : OG p e R s below Q T (mkF m pc Ls (.int z :: rest)) :=
  own_retV X hx hret rfl (Or.inl ⟨rfl, Or.inl rfl, _, rfl⟩) hlk hd hc hs hq
theorem own_retL (X : Stand p l e R s m args below meth c T locs cells slots) (hx : p.tables.exec = Jvm.exec) (hret : meth.sig.returnType = some .long) (hlk : meth.locks = false) {pc : Nat} {Ls : Array Slot} {z : Int64} {rest : List Value}
    (hd : decode c.code pc = .ok (.lreturn, 1)) (hc : cells ≤ R.cells) (hs : slots ≤ R.slots) (hq : Q (some (.long z)) T.heap locs) : OG p e R s below Q T (mkF m pc Ls (.long z :: rest)) :=
  own_retV X hx hret rfl (Or.inr (Or.inl ⟨rfl, rfl, _, rfl⟩)) hlk hd hc hs hq
theorem own_ret0 (X : Stand p l e R s m args below meth c T locs cells slots) (hx : p.tables.exec = Jvm.exec) (hret : meth.sig.returnType = none) (hlk : meth.locks = false) {pc : Nat} {Ls : Array Slot}
    (hd : decode c.code pc = .ok (.return_, 1)) (hc : cells ≤ R.cells) (hs : slots ≤ R.slots) (hq : Q none T.heap locs) : OG p e R s below Q T (mkF m pc Ls []) := by
  obtain ⟨fs, hr, hrun, hended, hW, hsame⟩ := X.leave (v := none) (fun _ => rfl) hlk
  exact ⟨_, _, X.returnOut hx hret hd hr, hrun, hended, _, _, rfl, hq, ⟨_, rfl⟩, hW, hsame.mono hc hs⟩
theorem own_enter {Z : State} {y : MethodName} {bytes : ByteArray} {maxL : Nat} {ret : Option FieldType} {ws : List Jvm.Cond} {rm : Room} {as : Array Value} {h0 : Heap} (hp : plainFor y = true)
    (body : ∀ (p : Program) (e : Env) (s : State) (m : MethodId) (below : List Frame) (meth : Method) (c : Code) (s₁ : State), p.tables.exec = Jvm.exec → c.code = bytes → c.maxLocals = maxL → s.vm.findClass y.cls = some m.cls → meth.sig.returnType = ret → meth.locks = false → meth.name = y.name → Z.Warmed39 s.vm →
      Stand p l e rm s m as below meth c s₁ [] 0 0 → s₁.heap = h0 → OG p e rm s below Q s₁ (entryFrame m as maxL)) : OMet l Z y bytes maxL ret ws rm as h0 Q := by
  refine MetFree.of_bodySF hp hisR ?_
  intro p e s m args below meth c s₁ Bd hml0 hP hK
  obtain ⟨rfl, hZ, hh⟩ := hP
  exact body p e s m below meth c s₁ Bd.exec Bd.bytes hml0 (findClass_of_methodNamed Bd.named) Bd.returns Bd.notSynchronized (name_of_methodNamed Bd.named Bd.method).1 hZ (Stand.of_body Bd) (by rw [← hh, Bd.state]; rfl)
end Own
section OwnH
variable {Z : State} {h h' h0 : Heap} {a b : Addr} {ty : FieldType} {vs : List Value} {n sl : Nat} {v : Value} {ws : List Addr}
/-- an array, by the whole list of what it holds -/
def OA (Z : State) (h : Heap) (a : Addr) (ty : FieldType) (vs : List Value) : Prop := ∃ c : Cell, Arr Z h a c ty ∧ c.slots.toList = vs
/-- an array, by its length alone -/
def OL (Z : State) (h : Heap) (a : Addr) (ty : FieldType) (n : Nat) : Prop := ∃ c : Cell, Arr Z h a c ty ∧ c.slots.size = n
theorem OA.lt (F : OA Z h a ty vs) : a < h.size := by obtain ⟨c, A, -⟩ := F; exact A.lt
theorem OL.lt (F : OL Z h a ty n) : a < h.size := by obtain ⟨c, A, -⟩ := F; exact A.lt
theorem OA.ext (F : OA Z h a ty vs) (E : Ext h h') : OA Z h' a ty vs := by obtain ⟨c, A, r⟩ := F; exact ⟨c, A.ext E, r⟩
theorem OL.ext (F : OL Z h a ty n) (E : Ext h h') : OL Z h' a ty n := by obtain ⟨c, A, r⟩ := F; exact ⟨c, A.ext E, r⟩
theorem OA.other (F : OA Z h b ty vs) (W : Wr h h' a sl v) (q : b ≠ a) : OA Z h' b ty vs := by obtain ⟨c, A, r⟩ := F; exact ⟨c, A.other W q, r⟩
theorem OL.other (F : OL Z h b ty n) (W : Wr h h' a sl v) (q : b ≠ a) : OL Z h' b ty n := by obtain ⟨c, A, r⟩ := F; exact ⟨c, A.other W q, r⟩
theorem OA.keep (F : OA Z h a ty vs) (K : Keep h h' ws) (q : a ∉ ws) : OA Z h' a ty vs := by obtain ⟨c, A, r⟩ := F; exact ⟨c, ⟨K.2.1 a c A.1 q, A.2⟩, r⟩
theorem OL.keep (F : OL Z h a ty n) (K : Keep h h' ws) (q : a ∉ ws) : OL Z h' a ty n := by obtain ⟨c, A, r⟩ := F; exact ⟨c, ⟨K.2.1 a c A.1 q, A.2⟩, r⟩
theorem OA.new {k : ClassId} {z : Int32} (A : Arr Z h a (newA k ty z) ty) : OA Z h a ty (List.replicate z.toNatClampNeg (defaultValue ty)) := ⟨_, A, by show (Array.replicate _ _).toList = _; exact Array.toList_replicate⟩
theorem OL.new {k : ClassId} {z : Int32} (A : Arr Z h a (newA k ty z) ty) : OL Z h a ty z.toNatClampNeg := ⟨_, A, sz_new _ _ _⟩
theorem OA.len (F : OA Z h a ty vs) : ∃ c : Cell, Arr Z h a c ty ∧ c.slots.size = vs.length := by obtain ⟨c, A, r⟩ := F; exact ⟨c, A, by rw [← r]; simp⟩
theorem OA.set {j : Int32} {i : Nat} (F : OA Z h a ty vs) (W : Wr h h' a j.toNatClampNeg v) (hj : j.toNatClampNeg = i) : OA Z h' a ty (vs.set i v) := by
  obtain ⟨c, A, r⟩ := F
  refine ⟨_, A.same W, ?_⟩
  subst hj r
  show (c.slots.setIfInBounds _ _).toList = _
  exact Array.toList_setIfInBounds
theorem OL.set {j : Int32} (F : OL Z h a ty n) (W : Wr h h' a j.toNatClampNeg v) : OL Z h' a ty n := by
  obtain ⟨c, A, r⟩ := F
  exact ⟨_, A.same W, by rw [sz_set]; exact r⟩
theorem own_rd (F : OA Z h a ty vs) {j : Int32} {i : Nat} (hj : j.toNatClampNeg = i) (hn : ¬ j < 0) (hv : vs[i]? = some v) : ∃ c : Cell, Arr Z h a c ty ∧ ¬ (j < 0 ∨ c.slots.size ≤ j.toNatClampNeg) ∧ c.slots[j.toNatClampNeg]? = some v := by
  obtain ⟨c, A, r⟩ := F
  subst hj r
  rw [Array.getElem?_toList] at hv
  refine ⟨c, A, fun q => ?_, hv⟩
  rcases q with q | q
  · exact hn q
  · have := (Array.getElem?_eq_some_iff.mp hv).1; omega
theorem own_wr (F : OA Z h a ty vs) {j : Int32} {i : Nat} (hj : j.toNatClampNeg = i) (hn : ¬ j < 0) (hi : i < vs.length) : ∃ c : Cell, Arr Z h a c ty ∧ ¬ (j < 0 ∨ c.slots.size ≤ j.toNatClampNeg) := by
  obtain ⟨c, A, r⟩ := F
  subst hj r
  rw [Array.length_toList] at hi
  refine ⟨c, A, fun q => ?_⟩
  rcases q with q | q
  · exact hn q
  · omega
theorem own_wrL (F : OL Z h a ty n) {j : Int32} (hj : ¬ j < 0 ∧ j.toNatClampNeg < n) : ∃ c : Cell, Arr Z h a c ty ∧ ¬ (j < 0 ∨ c.slots.size ≤ j.toNatClampNeg) := by
  obtain ⟨c, A, r⟩ := F
  subst r
  exact ⟨c, A, fun q => by rcases q with q | q; exact hj.1 q; omega⟩
theorem own_selp {s : State} {y : MethodName} {a0 args : Array Value} {k : Nat} (hZ : Z.Warmed39 s.vm) (wi : (Jvm.Cond.instantiable y.cls k).before a0 Z = true) (wp : (Jvm.Cond.privateMethod y).before a0 Z = true) (wm : (Jvm.Cond.instanceMethod y).before a0 Z = true) (hy : y.cls ≠ "java/lang/invoke/MethodHandle" ∧ y.cls ≠ "java/lang/invoke/VarHandle") : (Jvm.Cond.selects y.cls y y).before args s = true := by
  have wi' : (Jvm.Cond.instantiable y.cls k).before args s = true := mv hZ wi
  obtain ⟨c, kc, i1, i2, -, i4, -⟩ := Cond.instantiable_spec wi'
  exact selects_self_of_private i1 i2 (Bool.or_eq_false_iff.mp i4).1 (Cond.privateMethod_at (mvP hZ wp (args := args))) (mvT hZ wm) hy
theorem own_all0 {P : Addr → Prop} : ∀ x ∈ ([] : List Addr), P x := fun x hx => by cases hx
theorem own_all1 {P : Addr → Prop} {a : Addr} (h : P a) : ∀ x ∈ [a], P x := fun x hx => by simp only [List.mem_cons, List.not_mem_nil, or_false] at hx; subst hx; exact h
theorem own_all2 {P : Addr → Prop} {a b : Addr} (h : P a) (h2 : P b) : ∀ x ∈ [a, b], P x := fun x hx => by
  simp only [List.mem_cons, List.not_mem_nil, or_false] at hx; rcases hx with rfl | rfl; exact h; exact h2
theorem own_all3 {P : Addr → Prop} {a b c : Addr} (h : P a) (h2 : P b) (h3 : P c) : ∀ x ∈ [a, b, c], P x := fun x hx => by
  simp only [List.mem_cons, List.not_mem_nil, or_false] at hx; rcases hx with rfl | rfl | rfl; exact h; exact h2; exact h3
theorem own_all4 {P : Addr → Prop} {a b c d : Addr} (h : P a) (h2 : P b) (h3 : P c) (h4 : P d) : ∀ x ∈ [a, b, c, d], P x := fun x hx => by
  simp only [List.mem_cons, List.not_mem_nil, or_false] at hx; rcases hx with rfl | rfl | rfl | rfl; exact h; exact h2; exact h3; exact h4
theorem own_nin0 {x : Addr} : x ∉ ([] : List Addr) := List.not_mem_nil
theorem own_nin1 {x a : Addr} (h : x ≠ a) : x ∉ [a] := by simp [h]
theorem own_nin2 {x a b : Addr} (h : x ≠ a) (h2 : x ≠ b) : x ∉ [a, b] := by simp [h, h2]
theorem own_nin3 {x a b c : Addr} (h : x ≠ a) (h2 : x ≠ b) (h3 : x ≠ c) : x ∉ [a, b, c] := by simp [h, h2, h3]
theorem own_nin4 {x a b c d : Addr} (h : x ≠ a) (h2 : x ≠ b) (h3 : x ≠ c) (h4 : x ≠ d) : x ∉ [a, b, c, d] := by simp [h, h2, h3, h4]
end OwnH
theorem d1_0 : decode method_2_code 0 = .ok (.iload_n 0, 1) := by decide +kernel
theorem d1_1 : decode method_2_code 1 = .ok (.ldc 7, 2) := by decide +kernel
theorem d1_3 : decode method_2_code 3 = .ok (.iand, 1) := by decide +kernel
theorem d1_4 : decode method_2_code 4 = .ok (.istore_n 1, 1) := by decide +kernel
theorem d1_5 : decode method_2_code 5 = .ok (.iload_n 1, 1) := by decide +kernel
theorem d1_6 : decode method_2_code 6 = .ok (.ifCond .ne 5, 3) := by decide +kernel
theorem d1_9 : decode method_2_code 9 = .ok (.iconst 1, 1) := by decide +kernel
theorem d1_10 : decode method_2_code 10 = .ok (.istore_n 1, 1) := by decide +kernel
theorem d1_11 : decode method_2_code 11 = .ok (.iload_n 1, 1) := by decide +kernel
theorem d1_12 : decode method_2_code 12 = .ok (.ireturn, 1) := by decide +kernel
theorem pn_1 : plainFor (⟨"com/example/vestbook/vestbook/RehireRulesKeepsServicePinLaw", "atLeastOne", "(I)I"⟩ : MethodName) = true := by first | exact plainFor_of_name (by first | (simp [plainName, overriddenIn]; done) | decide +kernel) | decide +kernel
def f1 (p1 : Int32) : Int32 := (if (p1 &&& (2147483647 : Int32)) = (0 : Int32) then (1 : Int32) else (p1 &&& (2147483647 : Int32)))
theorem ef_1 (m : MethodId) (p1 : Int32) : entryFrame m #[(.int p1)] 2 = (mkF m 0 #[.val (.int p1), .unset] []) := by first | (simp [entryFrame, mkF, argsToLocals, Value.category]; done) | rfl
abbrev Q1 (Z : State) (p1 : Int32) (h0 : Heap)  : Option Value → Heap → List Loc → Prop := (fun v h L => v = some (.int (f1 p1)) ∧ L = [] ∧ h = h0)
set_option maxRecDepth 65536 in
set_option maxHeartbeats 40000000 in
theorem rm1 (l : Launch) (Z : State) (a0 : Array Value) (hw : ∀ d ∈ tables_1, d.before a0 Z = true) (ws : List Jvm.Cond) (p1 : Int32) (h0 : Heap)  :
    OMet l Z (⟨"com/example/vestbook/vestbook/RehireRulesKeepsServicePinLaw", "atLeastOne", "(I)I"⟩ : MethodName) method_2_code 2 (some .int) ws ({ frames := 0, cells := 0, slots := 0, locals := 0 } : Room) #[(.int p1)] h0 (Q1 Z p1 h0) := by
  refine own_enter pn_1 ?_
  intro p e s m below meth c s₁ hx hby hml0 hown hret hlk hnm hZ X0 e0
  have hml : c.maxLocals = 2 := hml0
  refine own_cast (ef_1 m p1) ?_
  show OG p e ({ frames := 0, cells := 0, slots := 0, locals := 0 } : Room) s below (fun v h L => v = some (.int (f1 p1)) ∧ L = [] ∧ h = h0) s₁ (mkF m 0 #[.val (.int p1), .unset] [])
  refine own_st (fun t k => XS.iloadN X0.here hx rfl (hb hby d1_0) rfl k) ?_
  show OG p e _ s below _ s₁ (mkF m 1 #[.val (.int p1), .unset] [(.int p1)])
  refine own_st (fun t k => X0.ldcInt hx hown (mvT hZ (hw _ (List.mem_of_getElem? (i := 4) rfl))) (g := (mkF m 1 #[.val (.int p1), .unset] [(.int p1)])) rfl (hb hby d1_1) _ k) ?_
  show OG p e _ s below _ s₁ (mkF m 3 #[.val (.int p1), .unset] [(.int (2147483647 : Int32)), (.int p1)])
  refine own_st (fun t k => XS.iand X0.here hx rfl (hb hby d1_3) rfl k) ?_
  show OG p e _ s below _ s₁ (mkF m 4 #[.val (.int p1), .unset] [(.int (p1 &&& (2147483647 : Int32)))])
  refine own_st (fun t k => XS.istoreN X0.here hx rfl (hb hby d1_4) rfl (l' := #[.val (.int p1), .val (.int (p1 &&& (2147483647 : Int32)))]) rfl k) ?_
  show OG p e _ s below _ s₁ (mkF m 5 #[.val (.int p1), .val (.int (p1 &&& (2147483647 : Int32)))] [])
  refine own_st (fun t k => XS.iloadN X0.here hx rfl (hb hby d1_5) rfl k) ?_
  show OG p e _ s below _ s₁ (mkF m 6 #[.val (.int p1), .val (.int (p1 &&& (2147483647 : Int32)))] [(.int (p1 &&& (2147483647 : Int32)))])
  by_cases c1 : (p1 &&& (2147483647 : Int32)) = (0 : Int32)
  · refine own_st (fun t k => XS.ifNo X0.here hx rfl (hb hby d1_6) rfl (own_if0 (teq c1).2) k) ?_
    show OG p e _ s below _ s₁ (mkF m 9 #[.val (.int p1), .val (.int (p1 &&& (2147483647 : Int32)))] [])
    refine own_st (fun t k => XS.iconst X0.here hx rfl (hb hby d1_9) k) ?_
    show OG p e _ s below _ s₁ (mkF m 10 #[.val (.int p1), .val (.int (p1 &&& (2147483647 : Int32)))] [(.int (1 : Int32))])
    refine own_st (fun t k => XS.istoreN X0.here hx rfl (hb hby d1_10) rfl (l' := #[.val (.int p1), .val (.int (1 : Int32))]) rfl k) ?_
    show OG p e _ s below _ s₁ (mkF m 11 #[.val (.int p1), .val (.int (1 : Int32))] [])
    refine own_st (fun t k => XS.iloadN X0.here hx rfl (hb hby d1_11) rfl k) ?_
    show OG p e _ s below _ s₁ (mkF m 12 #[.val (.int p1), .val (.int (1 : Int32))] [(.int (1 : Int32))])
    exact own_retI X0 hx hret hlk (hb hby d1_12) (by decide) (by decide) ⟨congrArg (fun z => some (Value.int z)) (show f1 p1 = (1 : Int32) from (by rw [f1, if_pos c1])).symm, rfl, e0⟩
  · refine own_st (fun t k => XS.ifYes X0.here hx rfl (pc0 := 6) (pc' := 11) rfl (hb hby d1_6) rfl (own_if0 (feq c1).2) (by decide) (by decide) k) ?_
    show OG p e _ s below _ s₁ (mkF m 11 #[.val (.int p1), .val (.int (p1 &&& (2147483647 : Int32)))] [])
    refine own_st (fun t k => XS.iloadN X0.here hx rfl (hb hby d1_11) rfl k) ?_
    show OG p e _ s below _ s₁ (mkF m 12 #[.val (.int p1), .val (.int (p1 &&& (2147483647 : Int32)))] [(.int (p1 &&& (2147483647 : Int32)))])
    exact own_retI X0 hx hret hlk (hb hby d1_12) (by decide) (by decide) ⟨congrArg (fun z => some (Value.int z)) (show f1 p1 = (p1 &&& (2147483647 : Int32)) from (by rw [f1, if_neg c1])).symm, rfl, e0⟩
theorem d3_0 : decode jdk_30_method_1_code 0 = .ok (.aload_n 0, 1) := by decide +kernel
theorem d3_1 : decode jdk_30_method_1_code 1 = .ok (.invokespecial 1, 3) := by decide +kernel
theorem d3_4 : decode jdk_30_method_1_code 4 = .ok (.return_, 1) := by decide +kernel
theorem pn_3 : plainFor (⟨"java/lang/Record", "<init>", "()V"⟩ : MethodName) = true := by first | exact plainFor_of_name (by first | (simp [plainName, overriddenIn]; done) | decide +kernel) | decide +kernel
theorem ef_3 (m : MethodId) (a1 : Addr) : entryFrame m #[(.ref a1)] 1 = (mkF m 0 #[.val (.ref a1)] []) := by first | (simp [entryFrame, mkF, argsToLocals, Value.category]; done) | rfl
abbrev Q3 (Z : State) (a1 : Addr) (h0 : Heap) (n0 : Nat) : Option Value → Heap → List Loc → Prop := (fun v h L => v = none ∧ Fr n0 L ∧ Keep h0 h [])
set_option maxRecDepth 65536 in
set_option maxHeartbeats 40000000 in
theorem rm3 (l : Launch) (Z : State) (a0 : Array Value) (hw : ∀ d ∈ tables_1, d.before a0 Z = true) (ws : List Jvm.Cond) (a1 : Addr) (h0 : Heap) (n0 : Nat) :
    OMet l Z (⟨"java/lang/Record", "<init>", "()V"⟩ : MethodName) jdk_30_method_1_code 1 none ws ({ frames := 1, cells := 0, slots := 0, locals := 12 } : Room) #[(.ref a1)] h0 (Q3 Z a1 h0 n0) := by
  refine own_enter pn_3 ?_
  intro p e s m below meth c s₁ hx hby hml0 hown hret hlk hnm hZ X0 e0
  have hml : c.maxLocals = 1 := hml0
  have N0 := Fr.nil n0
  refine own_cast (ef_3 m a1) ?_
  show OG p e ({ frames := 1, cells := 0, slots := 0, locals := 12 } : Room) s below (fun v h L => v = none ∧ Fr n0 L ∧ Keep h0 h []) s₁ (mkF m 0 #[.val (.ref a1)] [])
  refine own_st (fun t k => XS.aloadN X0.here hx rfl (hb hby d3_0) rfl rfl k) ?_
  show OG p e _ s below _ s₁ (mkF m 1 #[.val (.ref a1)] [(.ref a1)])
  obtain ⟨T1, X1, e1, st1⟩ := initO X0 hx hZ hown (hw _ (List.mem_of_getElem? (i := 16) rfl)) (hw _ (List.mem_of_getElem? (i := 17) rfl)) (hw _ (List.mem_of_getElem? (i := 18) rfl)) e0 (g := (mkF m 1 #[.val (.ref a1)] [(.ref a1)])) rfl (by rw [hml]; rfl) rfl (hb hby d3_1) (by decide) (W := 0) (by show 2 * 0 + _ ≤ _; exact Nat.le_of_eq rfl) (by decide)
  refine own_st st1 ?_
  show OG p e _ s below _ T1 (mkF m 4 #[.val (.ref a1)] [])
  refine own_ret0 X1 hx hret hlk (hb hby d3_4) (by decide) (by decide) ?_
  rw [e1]
  exact ⟨rfl, N0, (Keep.refl h0 [])⟩
theorem d2_0 : decode prog_49_method_1_code 0 = .ok (.aload_n 0, 1) := by decide +kernel
theorem d2_1 : decode prog_49_method_1_code 1 = .ok (.invokespecial 1, 3) := by decide +kernel
theorem d2_4 : decode prog_49_method_1_code 4 = .ok (.aload_n 0, 1) := by decide +kernel
theorem d2_5 : decode prog_49_method_1_code 5 = .ok (.iload_n 1, 1) := by decide +kernel
theorem d2_6 : decode prog_49_method_1_code 6 = .ok (.putfield 7, 3) := by decide +kernel
theorem d2_9 : decode prog_49_method_1_code 9 = .ok (.aload_n 0, 1) := by decide +kernel
theorem d2_10 : decode prog_49_method_1_code 10 = .ok (.iload_n 2, 1) := by decide +kernel
theorem d2_11 : decode prog_49_method_1_code 11 = .ok (.putfield 13, 3) := by decide +kernel
theorem d2_14 : decode prog_49_method_1_code 14 = .ok (.aload_n 0, 1) := by decide +kernel
theorem d2_15 : decode prog_49_method_1_code 15 = .ok (.iload_n 3, 1) := by decide +kernel
theorem d2_16 : decode prog_49_method_1_code 16 = .ok (.putfield 16, 3) := by decide +kernel
theorem d2_19 : decode prog_49_method_1_code 19 = .ok (.return_, 1) := by decide +kernel
theorem pd___V : parseMethodDescriptor "()V" = some ⟨[], none⟩ := by decide +kernel
theorem pn_2 : plainFor (⟨"com/example/vestbook/vestbook/RehireRules", "<init>", "(III)V"⟩ : MethodName) = true := by first | exact plainFor_of_name (by first | (simp [plainName, overriddenIn]; done) | decide +kernel) | decide +kernel
theorem ef_2 (m : MethodId) (a1 : Addr) (p2 : Int32) (p3 : Int32) (p4 : Int32) : entryFrame m #[(.ref a1), (.int p2), (.int p3), (.int p4)] 4 = (mkF m 0 #[.val (.ref a1), .val (.int p2), .val (.int p3), .val (.int p4)] []) := by first | (simp [entryFrame, mkF, argsToLocals, Value.category]; done) | rfl
abbrev Q2 (Z : State) (a1 : Addr) (p2 : Int32) (p3 : Int32) (p4 : Int32) (h0 : Heap) (n0 : Nat) : Option Value → Heap → List Loc → Prop := (fun v h L => v = none ∧ Fr n0 L ∧ Keep h0 h [a1] ∧ Exa Z h a1 "com/example/vestbook/vestbook/RehireRules" ∧ Fld Z h a1 "com/example/vestbook/vestbook/RehireRules" "serviceLostAfterBreaks" "I" (.int p2) ∧ Fld Z h a1 "com/example/vestbook/vestbook/RehireRules" "repaymentBeforeBreaks" "I" (.int p3) ∧ Fld Z h a1 "com/example/vestbook/vestbook/RehireRules" "repaymentWithinYears" "I" (.int p4))
set_option maxRecDepth 65536 in
set_option maxHeartbeats 40000000 in
theorem rm2 (l : Launch) (Z : State) (a0 : Array Value) (hw : ∀ d ∈ tables_1, d.before a0 Z = true) (ws : List Jvm.Cond) (a1 : Addr) (p2 : Int32) (p3 : Int32) (p4 : Int32) (h0 : Heap) (n0 : Nat) (R0 : Exa Z h0 a1 "com/example/vestbook/vestbook/RehireRules") (R1 : Fld Z h0 a1 "com/example/vestbook/vestbook/RehireRules" "serviceLostAfterBreaks" "I" (.int (0 : Int32))) (R2 : Fld Z h0 a1 "com/example/vestbook/vestbook/RehireRules" "repaymentBeforeBreaks" "I" (.int (0 : Int32))) (R3 : Fld Z h0 a1 "com/example/vestbook/vestbook/RehireRules" "repaymentWithinYears" "I" (.int (0 : Int32))) (g_a1 : n0 ≤ a1) :
    OMet l Z (⟨"com/example/vestbook/vestbook/RehireRules", "<init>", "(III)V"⟩ : MethodName) prog_49_method_1_code 4 none ws ({ frames := 2, cells := 0, slots := 0, locals := 24 } : Room) #[(.ref a1), (.int p2), (.int p3), (.int p4)] h0 (Q2 Z a1 p2 p3 p4 h0 n0) := by
  refine own_enter pn_2 ?_
  intro p e s m below meth c s₁ hx hby hml0 hown hret hlk hnm hZ X0 e0
  have hml : c.maxLocals = 4 := hml0
  have N0 := Fr.nil n0
  refine own_cast (ef_2 m a1 p2 p3 p4) ?_
  show OG p e ({ frames := 2, cells := 0, slots := 0, locals := 24 } : Room) s below (fun v h L => v = none ∧ Fr n0 L ∧ Keep h0 h [a1] ∧ Exa Z h a1 "com/example/vestbook/vestbook/RehireRules" ∧ Fld Z h a1 "com/example/vestbook/vestbook/RehireRules" "serviceLostAfterBreaks" "I" (.int p2) ∧ Fld Z h a1 "com/example/vestbook/vestbook/RehireRules" "repaymentBeforeBreaks" "I" (.int p3) ∧ Fld Z h a1 "com/example/vestbook/vestbook/RehireRules" "repaymentWithinYears" "I" (.int p4)) s₁ (mkF m 0 #[.val (.ref a1), .val (.int p2), .val (.int p3), .val (.int p4)] [])
  refine own_st (fun t k => XS.aloadN X0.here hx rfl (hb hby d2_0) rfl rfl k) ?_
  show OG p e _ s below _ s₁ (mkF m 1 #[.val (.ref a1), .val (.int p2), .val (.int p3), .val (.int p4)] [(.ref a1)])
  obtain ⟨_, _, ⟨T1, L1, k1, n1⟩, -, X1, ⟨Lc1, hQ1, l1, y1, z1⟩, st1⟩ := X0.specialBack hx (y := (⟨"java/lang/Record", "<init>", "()V"⟩ : MethodName)) rfl hown (mvT hZ (hw _ (List.mem_of_getElem? (i := 11) rfl))) (mvT hZ (hw _ (List.mem_of_getElem? (i := 12) rfl))) (mvT hZ (hw _ (List.mem_of_getElem? (i := 15) rfl))) (by decide) (backOf (W := 0) (rm := ({ frames := 1, cells := 0, slots := 0, locals := 12 } : Room)) (rm3 l Z a0 hw [] a1 h0 n0) hZ (hw _ (List.mem_of_getElem? (i := 15) rfl)) (hw _ (List.mem_of_getElem? (i := 14) rfl)) (by decide) (by decide)) (g := (mkF m 1 #[.val (.ref a1), .val (.int p2), .val (.int p3), .val (.int p4)] [(.ref a1)])) rfl (by rw [hml]; rfl) (Steps.refl _) (a := a1) (argsL := []) (rest := []) (lenOf pd___V rfl) rfl (by show 2 * 0 + _ ≤ _; exact Nat.le_of_eq rfl) (hb hby d2_1) (fun _ _ => ⟨rfl, e0, (by decide : 0 + 0 ≤ _), (by decide : 0 + 0 ≤ _)⟩)
  dsimp only [Pt.U, Pt.locs, Pt.cells, Pt.slots] at X1 l1 y1 z1 st1 hQ1
  subst l1 y1 z1
  obtain ⟨rfl, N1q, K1q⟩ := hQ1
  refine own_st (fun t k => st1.trans k) ?_
  have N1 := Fr.app N0 N1q
  have K1 : Keep h0 T1.heap [a1] := (Keep.refl h0 [a1]).trans K1q (own_all0 )
  have F2 : Exa Z T1.heap a1 "com/example/vestbook/vestbook/RehireRules" := (R0.keep K1q)
  have F3 : Fld Z T1.heap a1 "com/example/vestbook/vestbook/RehireRules" "serviceLostAfterBreaks" "I" (.int (0 : Int32)) := (R1.keep K1q (own_nin0 ))
  have F4 : Fld Z T1.heap a1 "com/example/vestbook/vestbook/RehireRules" "repaymentBeforeBreaks" "I" (.int (0 : Int32)) := (R2.keep K1q (own_nin0 ))
  have F5 : Fld Z T1.heap a1 "com/example/vestbook/vestbook/RehireRules" "repaymentWithinYears" "I" (.int (0 : Int32)) := (R3.keep K1q (own_nin0 ))
  show OG p e _ s below _ T1 (mkF m 4 #[.val (.ref a1), .val (.int p2), .val (.int p3), .val (.int p4)] [])
  refine own_st (fun t k => XS.aloadN X1.here hx rfl (hb hby d2_4) rfl rfl k) ?_
  show OG p e _ s below _ T1 (mkF m 5 #[.val (.ref a1), .val (.int p2), .val (.int p3), .val (.int p4)] [(.ref a1)])
  refine own_st (fun t k => XS.iloadN X1.here hx rfl (hb hby d2_5) rfl k) ?_
  show OG p e _ s below _ T1 (mkF m 6 #[.val (.ref a1), .val (.int p2), .val (.int p3), .val (.int p4)] [(.int p2), (.ref a1)])
  obtain ⟨T6, h6, X6, e6, W6, st6⟩ := putF X1 hx hZ hown (host := "") (Or.inl (hw _ (List.mem_of_getElem? (i := 19) rfl))) Via.refl rfl F3 F2 (Or.inr ⟨(hw _ (List.mem_of_getElem? (i := 20) rfl)), rfl, hnm⟩) (hw _ (List.mem_of_getElem? (i := 6) rfl)) (ty := .int) (by decide) rfl rfl (g := (mkF m 6 #[.val (.ref a1), .val (.int p2), .val (.int p3), .val (.int p4)] [(.int p2), (.ref a1)])) rfl rfl (hb hby d2_6)
  refine own_st st6 ?_
  have N6 := Fr.snoc X6 N1 g_a1
  have K7 : Keep h0 h6 [a1] := K1.wr W6 (Or.inl (List.mem_of_getElem? (i := 0) rfl))
  have F8 : Exa Z h6 a1 "com/example/vestbook/vestbook/RehireRules" := (F2.wr W6)
  have F9 : Fld Z h6 a1 "com/example/vestbook/vestbook/RehireRules" "serviceLostAfterBreaks" "I" (.int p2) := (F3.same W6)
  have F10 : Fld Z h6 a1 "com/example/vestbook/vestbook/RehireRules" "repaymentBeforeBreaks" "I" (.int (0 : Int32)) := (F4.other W6 (Or.inr (slot_ne (Or.inr (hw _ (List.mem_of_getElem? (i := 22) rfl))) (Or.inr (hw _ (List.mem_of_getElem? (i := 20) rfl))) (by decide) (t := .int) (t' := .int) (by decide) (by decide))))
  have F11 : Fld Z h6 a1 "com/example/vestbook/vestbook/RehireRules" "repaymentWithinYears" "I" (.int (0 : Int32)) := (F5.other W6 (Or.inr (slot_ne (Or.inr (hw _ (List.mem_of_getElem? (i := 24) rfl))) (Or.inr (hw _ (List.mem_of_getElem? (i := 20) rfl))) (by decide) (t := .int) (t' := .int) (by decide) (by decide))))
  show OG p e _ s below _ T6 (mkF m 9 #[.val (.ref a1), .val (.int p2), .val (.int p3), .val (.int p4)] [])
  refine own_st (fun t k => XS.aloadN X6.here hx rfl (hb hby d2_9) rfl rfl k) ?_
  show OG p e _ s below _ T6 (mkF m 10 #[.val (.ref a1), .val (.int p2), .val (.int p3), .val (.int p4)] [(.ref a1)])
  refine own_st (fun t k => XS.iloadN X6.here hx rfl (hb hby d2_10) rfl k) ?_
  show OG p e _ s below _ T6 (mkF m 11 #[.val (.ref a1), .val (.int p2), .val (.int p3), .val (.int p4)] [(.int p3), (.ref a1)])
  obtain ⟨T12, h12, X12, e12, W12, st12⟩ := putF X6 hx hZ hown (host := "") (Or.inl (hw _ (List.mem_of_getElem? (i := 21) rfl))) Via.refl e6 F10 F8 (Or.inr ⟨(hw _ (List.mem_of_getElem? (i := 22) rfl)), rfl, hnm⟩) (hw _ (List.mem_of_getElem? (i := 6) rfl)) (ty := .int) (by decide) rfl rfl (g := (mkF m 11 #[.val (.ref a1), .val (.int p2), .val (.int p3), .val (.int p4)] [(.int p3), (.ref a1)])) rfl rfl (hb hby d2_11)
  refine own_st st12 ?_
  have N12 := Fr.snoc X12 N6 g_a1
  have K13 : Keep h0 h12 [a1] := K7.wr W12 (Or.inl (List.mem_of_getElem? (i := 0) rfl))
  have F14 : Exa Z h12 a1 "com/example/vestbook/vestbook/RehireRules" := (F8.wr W12)
  have F15 : Fld Z h12 a1 "com/example/vestbook/vestbook/RehireRules" "serviceLostAfterBreaks" "I" (.int p2) := (F9.other W12 (Or.inr (slot_ne (Or.inr (hw _ (List.mem_of_getElem? (i := 20) rfl))) (Or.inr (hw _ (List.mem_of_getElem? (i := 22) rfl))) (by decide) (t := .int) (t' := .int) (by decide) (by decide))))
  have F16 : Fld Z h12 a1 "com/example/vestbook/vestbook/RehireRules" "repaymentBeforeBreaks" "I" (.int p3) := (F10.same W12)
  have F17 : Fld Z h12 a1 "com/example/vestbook/vestbook/RehireRules" "repaymentWithinYears" "I" (.int (0 : Int32)) := (F11.other W12 (Or.inr (slot_ne (Or.inr (hw _ (List.mem_of_getElem? (i := 24) rfl))) (Or.inr (hw _ (List.mem_of_getElem? (i := 22) rfl))) (by decide) (t := .int) (t' := .int) (by decide) (by decide))))
  show OG p e _ s below _ T12 (mkF m 14 #[.val (.ref a1), .val (.int p2), .val (.int p3), .val (.int p4)] [])
  refine own_st (fun t k => XS.aloadN X12.here hx rfl (hb hby d2_14) rfl rfl k) ?_
  show OG p e _ s below _ T12 (mkF m 15 #[.val (.ref a1), .val (.int p2), .val (.int p3), .val (.int p4)] [(.ref a1)])
  refine own_st (fun t k => XS.iloadN X12.here hx rfl (hb hby d2_15) rfl k) ?_
  show OG p e _ s below _ T12 (mkF m 16 #[.val (.ref a1), .val (.int p2), .val (.int p3), .val (.int p4)] [(.int p4), (.ref a1)])
  obtain ⟨T18, h18, X18, e18, W18, st18⟩ := putF X12 hx hZ hown (host := "") (Or.inl (hw _ (List.mem_of_getElem? (i := 23) rfl))) Via.refl e12 F17 F14 (Or.inr ⟨(hw _ (List.mem_of_getElem? (i := 24) rfl)), rfl, hnm⟩) (hw _ (List.mem_of_getElem? (i := 6) rfl)) (ty := .int) (by decide) rfl rfl (g := (mkF m 16 #[.val (.ref a1), .val (.int p2), .val (.int p3), .val (.int p4)] [(.int p4), (.ref a1)])) rfl rfl (hb hby d2_16)
  refine own_st st18 ?_
  have N18 := Fr.snoc X18 N12 g_a1
  have K19 : Keep h0 h18 [a1] := K13.wr W18 (Or.inl (List.mem_of_getElem? (i := 0) rfl))
  have F20 : Exa Z h18 a1 "com/example/vestbook/vestbook/RehireRules" := (F14.wr W18)
  have F21 : Fld Z h18 a1 "com/example/vestbook/vestbook/RehireRules" "serviceLostAfterBreaks" "I" (.int p2) := (F15.other W18 (Or.inr (slot_ne (Or.inr (hw _ (List.mem_of_getElem? (i := 20) rfl))) (Or.inr (hw _ (List.mem_of_getElem? (i := 24) rfl))) (by decide) (t := .int) (t' := .int) (by decide) (by decide))))
  have F22 : Fld Z h18 a1 "com/example/vestbook/vestbook/RehireRules" "repaymentBeforeBreaks" "I" (.int p3) := (F16.other W18 (Or.inr (slot_ne (Or.inr (hw _ (List.mem_of_getElem? (i := 22) rfl))) (Or.inr (hw _ (List.mem_of_getElem? (i := 24) rfl))) (by decide) (t := .int) (t' := .int) (by decide) (by decide))))
  have F23 : Fld Z h18 a1 "com/example/vestbook/vestbook/RehireRules" "repaymentWithinYears" "I" (.int p4) := (F17.same W18)
  show OG p e _ s below _ T18 (mkF m 19 #[.val (.ref a1), .val (.int p2), .val (.int p3), .val (.int p4)] [])
  refine own_ret0 X18 hx hret hlk (hb hby d2_19) (by decide) (by decide) ?_
  rw [e18]
  exact ⟨rfl, N18, K19, F20, F21, F22, F23⟩
theorem d5_0 : decode prog_49_method_2_code 0 = .ok (.iload_n 2, 1) := by decide +kernel
theorem d5_1 : decode prog_49_method_2_code 1 = .ok (.ifCond .eq 19, 3) := by decide +kernel
theorem d5_4 : decode prog_49_method_2_code 4 = .ok (.iload 4, 2) := by decide +kernel
theorem d5_6 : decode prog_49_method_2_code 6 = .ok (.ifCond .eq 8, 3) := by decide +kernel
theorem d5_9 : decode prog_49_method_2_code 9 = .ok (.iload 5, 2) := by decide +kernel
theorem d5_11 : decode prog_49_method_2_code 11 = .ok (.ifCond .eq 7, 3) := by decide +kernel
theorem d5_14 : decode prog_49_method_2_code 14 = .ok (.iconst 1, 1) := by decide +kernel
theorem d5_15 : decode prog_49_method_2_code 15 = .ok (.goto 4, 3) := by decide +kernel
theorem d5_18 : decode prog_49_method_2_code 18 = .ok (.iconst 0, 1) := by decide +kernel
theorem d5_19 : decode prog_49_method_2_code 19 = .ok (.ireturn, 1) := by decide +kernel
theorem d5_20 : decode prog_49_method_2_code 20 = .ok (.iload_n 1, 1) := by decide +kernel
theorem d5_21 : decode prog_49_method_2_code 21 = .ok (.aload_n 0, 1) := by decide +kernel
theorem d5_22 : decode prog_49_method_2_code 22 = .ok (.getfield 7, 3) := by decide +kernel
theorem d5_25 : decode prog_49_method_2_code 25 = .ok (.if_icmp .lt 7, 3) := by decide +kernel
theorem d5_28 : decode prog_49_method_2_code 28 = .ok (.iload_n 3, 1) := by decide +kernel
theorem d5_29 : decode prog_49_method_2_code 29 = .ok (.ifCond .eq 7, 3) := by decide +kernel
theorem d5_32 : decode prog_49_method_2_code 32 = .ok (.iconst 1, 1) := by decide +kernel
theorem d5_33 : decode prog_49_method_2_code 33 = .ok (.goto 4, 3) := by decide +kernel
theorem d5_36 : decode prog_49_method_2_code 36 = .ok (.iconst 0, 1) := by decide +kernel
theorem d5_37 : decode prog_49_method_2_code 37 = .ok (.ireturn, 1) := by decide +kernel
theorem pn_5 : plainFor (⟨"com/example/vestbook/vestbook/RehireRules", "keepsService", "(IZZZZ)Z"⟩ : MethodName) = true := by first | exact plainFor_of_name (by first | (simp [plainName, overriddenIn]; done) | decide +kernel) | decide +kernel
def f5 (p2 : Int32) (p3 : Int32) (p4 : Int32) (p5 : Int32) (p6 : Int32) (z : Int32) : Int32 := (if p3 = (0 : Int32) then (if p2 < z then (1 : Int32) else (if p4 = (0 : Int32) then (0 : Int32) else (1 : Int32))) else (if p5 = (0 : Int32) then (1 : Int32) else (if p6 = (0 : Int32) then (0 : Int32) else (1 : Int32))))
theorem ef_5 (m : MethodId) (a1 : Addr) (p2 : Int32) (p3 : Int32) (p4 : Int32) (p5 : Int32) (p6 : Int32) : entryFrame m #[(.ref a1), (.int p2), (.int p3), (.int p4), (.int p5), (.int p6)] 6 = (mkF m 0 #[.val (.ref a1), .val (.int p2), .val (.int p3), .val (.int p4), .val (.int p5), .val (.int p6)] []) := by first | (simp [entryFrame, mkF, argsToLocals, Value.category]; done) | rfl
abbrev Q5 (Z : State) (a1 : Addr) (p2 : Int32) (p3 : Int32) (p4 : Int32) (p5 : Int32) (p6 : Int32) (z : Int32) (h0 : Heap)  : Option Value → Heap → List Loc → Prop := (fun v h L => v = some (.int (f5 p2 p3 p4 p5 p6 z)) ∧ L = [] ∧ h = h0)
set_option maxRecDepth 65536 in
set_option maxHeartbeats 40000000 in
theorem rm5 (l : Launch) (Z : State) (a0 : Array Value) (hw : ∀ d ∈ tables_1, d.before a0 Z = true) (ws : List Jvm.Cond) (a1 : Addr) (p2 : Int32) (p3 : Int32) (p4 : Int32) (p5 : Int32) (p6 : Int32) (z : Int32) (h0 : Heap) (R0 : Fld Z h0 a1 "com/example/vestbook/vestbook/RehireRules" "serviceLostAfterBreaks" "I" (.int z)) :
    OMet l Z (⟨"com/example/vestbook/vestbook/RehireRules", "keepsService", "(IZZZZ)Z"⟩ : MethodName) prog_49_method_2_code 6 (some .boolean) ws ({ frames := 0, cells := 0, slots := 0, locals := 0 } : Room) #[(.ref a1), (.int p2), (.int p3), (.int p4), (.int p5), (.int p6)] h0 (Q5 Z a1 p2 p3 p4 p5 p6 z h0) := by
  refine own_enter pn_5 ?_
  intro p e s m below meth c s₁ hx hby hml0 hown hret hlk hnm hZ X0 e0
  have hml : c.maxLocals = 6 := hml0
  refine own_cast (ef_5 m a1 p2 p3 p4 p5 p6) ?_
  show OG p e ({ frames := 0, cells := 0, slots := 0, locals := 0 } : Room) s below (fun v h L => v = some (.int (f5 p2 p3 p4 p5 p6 z)) ∧ L = [] ∧ h = h0) s₁ (mkF m 0 #[.val (.ref a1), .val (.int p2), .val (.int p3), .val (.int p4), .val (.int p5), .val (.int p6)] [])
  refine own_st (fun t k => XS.iloadN X0.here hx rfl (hb hby d5_0) rfl k) ?_
  show OG p e _ s below _ s₁ (mkF m 1 #[.val (.ref a1), .val (.int p2), .val (.int p3), .val (.int p4), .val (.int p5), .val (.int p6)] [(.int p3)])
  by_cases c1 : p3 = (0 : Int32)
  · refine own_st (fun t k => XS.ifYes X0.here hx rfl (pc0 := 1) (pc' := 20) rfl (hb hby d5_1) rfl (own_if0 (teq c1).1) (by decide) (by decide) k) ?_
    show OG p e _ s below _ s₁ (mkF m 20 #[.val (.ref a1), .val (.int p2), .val (.int p3), .val (.int p4), .val (.int p5), .val (.int p6)] [])
    refine own_st (fun t k => XS.iloadN X0.here hx rfl (hb hby d5_20) rfl k) ?_
    show OG p e _ s below _ s₁ (mkF m 21 #[.val (.ref a1), .val (.int p2), .val (.int p3), .val (.int p4), .val (.int p5), .val (.int p6)] [(.int p2)])
    refine own_st (fun t k => XS.aloadN X0.here hx rfl (hb hby d5_21) rfl rfl k) ?_
    show OG p e _ s below _ s₁ (mkF m 22 #[.val (.ref a1), .val (.int p2), .val (.int p3), .val (.int p4), .val (.int p5), .val (.int p6)] [(.ref a1), (.int p2)])
    obtain ⟨T2, X2, e2, st2⟩ := getF X0 hx hZ hown (host := "") (Or.inl (hw _ (List.mem_of_getElem? (i := 19) rfl))) Via.refl e0 R0 (g := (mkF m 22 #[.val (.ref a1), .val (.int p2), .val (.int p3), .val (.int p4), .val (.int p5), .val (.int p6)] [(.ref a1), (.int p2)])) rfl rfl (hb hby d5_22)
    refine own_st st2 ?_
    show OG p e _ s below _ T2 (mkF m 25 #[.val (.ref a1), .val (.int p2), .val (.int p3), .val (.int p4), .val (.int p5), .val (.int p6)] [(.int z), (.int p2)])
    by_cases c3 : p2 < z
    · refine own_st (fun t k => XS.icmpYes X2.here hx rfl (pc0 := 25) (pc' := 32) rfl (hb hby d5_25) rfl (tlt c3).1 (by decide) (by decide) k) ?_
      show OG p e _ s below _ T2 (mkF m 32 #[.val (.ref a1), .val (.int p2), .val (.int p3), .val (.int p4), .val (.int p5), .val (.int p6)] [])
      refine own_st (fun t k => XS.iconst X2.here hx rfl (hb hby d5_32) k) ?_
      show OG p e _ s below _ T2 (mkF m 33 #[.val (.ref a1), .val (.int p2), .val (.int p3), .val (.int p4), .val (.int p5), .val (.int p6)] [(.int (1 : Int32))])
      refine own_st (fun t k => XS.goto X2.here hx rfl (pc0 := 33) (pc' := 37) rfl (hb hby d5_33) (by decide) (by decide) k) ?_
      show OG p e _ s below _ T2 (mkF m 37 #[.val (.ref a1), .val (.int p2), .val (.int p3), .val (.int p4), .val (.int p5), .val (.int p6)] [(.int (1 : Int32))])
      exact own_retZ X2 hx (t := .boolean) hret (by simp) hlk (hb hby d5_37) (by decide) (by decide) (w := (1 : Int32)) rfl ⟨congrArg (fun z => some (Value.int z)) (show f5 p2 p3 p4 p5 p6 z = (1 : Int32) from (by rw [f5, if_pos c1, if_pos c3])).symm, rfl, e2⟩
    · refine own_st (fun t k => XS.icmpNo X2.here hx rfl (hb hby d5_25) rfl (flt c3).1 k) ?_
      show OG p e _ s below _ T2 (mkF m 28 #[.val (.ref a1), .val (.int p2), .val (.int p3), .val (.int p4), .val (.int p5), .val (.int p6)] [])
      refine own_st (fun t k => XS.iloadN X2.here hx rfl (hb hby d5_28) rfl k) ?_
      show OG p e _ s below _ T2 (mkF m 29 #[.val (.ref a1), .val (.int p2), .val (.int p3), .val (.int p4), .val (.int p5), .val (.int p6)] [(.int p4)])
      by_cases c4 : p4 = (0 : Int32)
      · refine own_st (fun t k => XS.ifYes X2.here hx rfl (pc0 := 29) (pc' := 36) rfl (hb hby d5_29) rfl (own_if0 (teq c4).1) (by decide) (by decide) k) ?_
        show OG p e _ s below _ T2 (mkF m 36 #[.val (.ref a1), .val (.int p2), .val (.int p3), .val (.int p4), .val (.int p5), .val (.int p6)] [])
        refine own_st (fun t k => XS.iconst X2.here hx rfl (hb hby d5_36) k) ?_
        show OG p e _ s below _ T2 (mkF m 37 #[.val (.ref a1), .val (.int p2), .val (.int p3), .val (.int p4), .val (.int p5), .val (.int p6)] [(.int (0 : Int32))])
        exact own_retZ X2 hx (t := .boolean) hret (by simp) hlk (hb hby d5_37) (by decide) (by decide) (w := (0 : Int32)) rfl ⟨congrArg (fun z => some (Value.int z)) (show f5 p2 p3 p4 p5 p6 z = (0 : Int32) from (by rw [f5, if_pos c1, if_neg c3, if_pos c4])).symm, rfl, e2⟩
      · refine own_st (fun t k => XS.ifNo X2.here hx rfl (hb hby d5_29) rfl (own_if0 (feq c4).1) k) ?_
        show OG p e _ s below _ T2 (mkF m 32 #[.val (.ref a1), .val (.int p2), .val (.int p3), .val (.int p4), .val (.int p5), .val (.int p6)] [])
        refine own_st (fun t k => XS.iconst X2.here hx rfl (hb hby d5_32) k) ?_
        show OG p e _ s below _ T2 (mkF m 33 #[.val (.ref a1), .val (.int p2), .val (.int p3), .val (.int p4), .val (.int p5), .val (.int p6)] [(.int (1 : Int32))])
        refine own_st (fun t k => XS.goto X2.here hx rfl (pc0 := 33) (pc' := 37) rfl (hb hby d5_33) (by decide) (by decide) k) ?_
        show OG p e _ s below _ T2 (mkF m 37 #[.val (.ref a1), .val (.int p2), .val (.int p3), .val (.int p4), .val (.int p5), .val (.int p6)] [(.int (1 : Int32))])
        exact own_retZ X2 hx (t := .boolean) hret (by simp) hlk (hb hby d5_37) (by decide) (by decide) (w := (1 : Int32)) rfl ⟨congrArg (fun z => some (Value.int z)) (show f5 p2 p3 p4 p5 p6 z = (1 : Int32) from (by rw [f5, if_pos c1, if_neg c3, if_neg c4])).symm, rfl, e2⟩
  · refine own_st (fun t k => XS.ifNo X0.here hx rfl (hb hby d5_1) rfl (own_if0 (feq c1).1) k) ?_
    show OG p e _ s below _ s₁ (mkF m 4 #[.val (.ref a1), .val (.int p2), .val (.int p3), .val (.int p4), .val (.int p5), .val (.int p6)] [])
    refine own_st (fun t k => XS.iload X0.here hx rfl (hb hby d5_4) rfl k) ?_
    show OG p e _ s below _ s₁ (mkF m 6 #[.val (.ref a1), .val (.int p2), .val (.int p3), .val (.int p4), .val (.int p5), .val (.int p6)] [(.int p5)])
    by_cases c5 : p5 = (0 : Int32)
    · refine own_st (fun t k => XS.ifYes X0.here hx rfl (pc0 := 6) (pc' := 14) rfl (hb hby d5_6) rfl (own_if0 (teq c5).1) (by decide) (by decide) k) ?_
      show OG p e _ s below _ s₁ (mkF m 14 #[.val (.ref a1), .val (.int p2), .val (.int p3), .val (.int p4), .val (.int p5), .val (.int p6)] [])
      refine own_st (fun t k => XS.iconst X0.here hx rfl (hb hby d5_14) k) ?_
      show OG p e _ s below _ s₁ (mkF m 15 #[.val (.ref a1), .val (.int p2), .val (.int p3), .val (.int p4), .val (.int p5), .val (.int p6)] [(.int (1 : Int32))])
      refine own_st (fun t k => XS.goto X0.here hx rfl (pc0 := 15) (pc' := 19) rfl (hb hby d5_15) (by decide) (by decide) k) ?_
      show OG p e _ s below _ s₁ (mkF m 19 #[.val (.ref a1), .val (.int p2), .val (.int p3), .val (.int p4), .val (.int p5), .val (.int p6)] [(.int (1 : Int32))])
      exact own_retZ X0 hx (t := .boolean) hret (by simp) hlk (hb hby d5_19) (by decide) (by decide) (w := (1 : Int32)) rfl ⟨congrArg (fun z => some (Value.int z)) (show f5 p2 p3 p4 p5 p6 z = (1 : Int32) from (by rw [f5, if_neg c1, if_pos c5])).symm, rfl, e0⟩
    · refine own_st (fun t k => XS.ifNo X0.here hx rfl (hb hby d5_6) rfl (own_if0 (feq c5).1) k) ?_
      show OG p e _ s below _ s₁ (mkF m 9 #[.val (.ref a1), .val (.int p2), .val (.int p3), .val (.int p4), .val (.int p5), .val (.int p6)] [])
      refine own_st (fun t k => XS.iload X0.here hx rfl (hb hby d5_9) rfl k) ?_
      show OG p e _ s below _ s₁ (mkF m 11 #[.val (.ref a1), .val (.int p2), .val (.int p3), .val (.int p4), .val (.int p5), .val (.int p6)] [(.int p6)])
      by_cases c6 : p6 = (0 : Int32)
      · refine own_st (fun t k => XS.ifYes X0.here hx rfl (pc0 := 11) (pc' := 18) rfl (hb hby d5_11) rfl (own_if0 (teq c6).1) (by decide) (by decide) k) ?_
        show OG p e _ s below _ s₁ (mkF m 18 #[.val (.ref a1), .val (.int p2), .val (.int p3), .val (.int p4), .val (.int p5), .val (.int p6)] [])
        refine own_st (fun t k => XS.iconst X0.here hx rfl (hb hby d5_18) k) ?_
        show OG p e _ s below _ s₁ (mkF m 19 #[.val (.ref a1), .val (.int p2), .val (.int p3), .val (.int p4), .val (.int p5), .val (.int p6)] [(.int (0 : Int32))])
        exact own_retZ X0 hx (t := .boolean) hret (by simp) hlk (hb hby d5_19) (by decide) (by decide) (w := (0 : Int32)) rfl ⟨congrArg (fun z => some (Value.int z)) (show f5 p2 p3 p4 p5 p6 z = (0 : Int32) from (by rw [f5, if_neg c1, if_neg c5, if_pos c6])).symm, rfl, e0⟩
      · refine own_st (fun t k => XS.ifNo X0.here hx rfl (hb hby d5_11) rfl (own_if0 (feq c6).1) k) ?_
        show OG p e _ s below _ s₁ (mkF m 14 #[.val (.ref a1), .val (.int p2), .val (.int p3), .val (.int p4), .val (.int p5), .val (.int p6)] [])
        refine own_st (fun t k => XS.iconst X0.here hx rfl (hb hby d5_14) k) ?_
        show OG p e _ s below _ s₁ (mkF m 15 #[.val (.ref a1), .val (.int p2), .val (.int p3), .val (.int p4), .val (.int p5), .val (.int p6)] [(.int (1 : Int32))])
        refine own_st (fun t k => XS.goto X0.here hx rfl (pc0 := 15) (pc' := 19) rfl (hb hby d5_15) (by decide) (by decide) k) ?_
        show OG p e _ s below _ s₁ (mkF m 19 #[.val (.ref a1), .val (.int p2), .val (.int p3), .val (.int p4), .val (.int p5), .val (.int p6)] [(.int (1 : Int32))])
        exact own_retZ X0 hx (t := .boolean) hret (by simp) hlk (hb hby d5_19) (by decide) (by decide) (w := (1 : Int32)) rfl ⟨congrArg (fun z => some (Value.int z)) (show f5 p2 p3 p4 p5 p6 z = (1 : Int32) from (by rw [f5, if_neg c1, if_neg c5, if_neg c6])).symm, rfl, e0⟩
theorem pd__I_I : parseMethodDescriptor "(I)I" = some ⟨[.int], some .int⟩ := by decide +kernel
theorem pd__III_V : parseMethodDescriptor "(III)V" = some ⟨[.int, .int, .int], none⟩ := by decide +kernel
theorem pd__IZZZZ_Z : parseMethodDescriptor "(IZZZZ)Z" = some ⟨[.int, .boolean, .boolean, .boolean, .boolean], some .boolean⟩ := by decide +kernel
theorem pn_0 : plainFor (⟨"com/example/vestbook/vestbook/RehireRulesKeepsServicePinLaw", "law", "(IIIII)Z"⟩ : MethodName) = true := by first | exact plainFor_of_name (by first | (simp [plainName, overriddenIn]; done) | decide +kernel) | decide +kernel
def g0_1 (p1 : Int32) (p2 : Int32) (p3 : Int32) (p4 : Int32) (p5 : Int32) : Int32 := (if (p5 &&& (1 : Int32)) = (0 : Int32) then (0 : Int32) else (1 : Int32))
def g0_2 (p1 : Int32) (p2 : Int32) (p3 : Int32) (p4 : Int32) (p5 : Int32) : Int32 := (if (p5 &&& (2 : Int32)) = (0 : Int32) then (0 : Int32) else (1 : Int32))
def g0_3 (p1 : Int32) (p2 : Int32) (p3 : Int32) (p4 : Int32) (p5 : Int32) : Int32 := (if (p5 &&& (4 : Int32)) = (0 : Int32) then (0 : Int32) else (1 : Int32))
def g0_4 (p1 : Int32) (p2 : Int32) (p3 : Int32) (p4 : Int32) (p5 : Int32) : Int32 := (if (p5 &&& (8 : Int32)) = (0 : Int32) then (0 : Int32) else (1 : Int32))
def g0_5 (p1 : Int32) (p2 : Int32) (p3 : Int32) (p4 : Int32) (p5 : Int32) : Int32 := (f5 p4 (g0_1 p1 p2 p3 p4 p5) (g0_2 p1 p2 p3 p4 p5) (g0_3 p1 p2 p3 p4 p5) (g0_4 p1 p2 p3 p4 p5) (f1 p1))
def g0_6 (p1 : Int32) (p2 : Int32) (p3 : Int32) (p4 : Int32) (p5 : Int32) : Int32 := (if (0 : Int64) < (((f1 p1).toInt64) - (p4.toInt64)) then (1 : Int32) else (0 : Int32))
def f0 (p1 : Int32) (p2 : Int32) (p3 : Int32) (p4 : Int32) (p5 : Int32) : Int32 := (if (g0_1 p1 p2 p3 p4 p5) = (0 : Int32) then (if (g0_2 p1 p2 p3 p4 p5) = (0 : Int32) then (if (g0_5 p1 p2 p3 p4 p5) = (g0_6 p1 p2 p3 p4 p5) then (1 : Int32) else (0 : Int32)) else (if (g0_5 p1 p2 p3 p4 p5) = (1 : Int32) then (1 : Int32) else (0 : Int32))) else (if (g0_3 p1 p2 p3 p4 p5) = (0 : Int32) then (if (g0_5 p1 p2 p3 p4 p5) = (1 : Int32) then (1 : Int32) else (0 : Int32)) else (if (g0_5 p1 p2 p3 p4 p5) = (g0_4 p1 p2 p3 p4 p5) then (1 : Int32) else (0 : Int32))))
theorem ef_0 (m : MethodId) (p1 : Int32) (p2 : Int32) (p3 : Int32) (p4 : Int32) (p5 : Int32) : entryFrame m #[(.int p1), (.int p2), (.int p3), (.int p4), (.int p5)] 17 = (mkF m 0 #[.val (.int p1), .val (.int p2), .val (.int p3), .val (.int p4), .val (.int p5), .unset, .unset, .unset, .unset, .unset, .unset, .unset, .unset, .unset, .unset, .unset, .unset] []) := by first | (simp [entryFrame, mkF, argsToLocals, Value.category]; done) | rfl
abbrev Q0 (Z : State) (p1 : Int32) (p2 : Int32) (p3 : Int32) (p4 : Int32) (p5 : Int32) (h0 : Heap) (n0 : Nat) : Option Value → Heap → List Loc → Prop := (fun v h L => v = some (.int (f0 p1 p2 p3 p4 p5)) ∧ Fr n0 L)
set_option maxRecDepth 65536 in
set_option maxHeartbeats 40000000 in
theorem rm0 (l : Launch) (Z : State) (a0 : Array Value) (hw : ∀ d ∈ tables_1, d.before a0 Z = true) (ws : List Jvm.Cond) (p1 : Int32) (p2 : Int32) (p3 : Int32) (p4 : Int32) (p5 : Int32) (h0 : Heap) (n0 : Nat) (Z0 : n0 ≤ h0.size) :
    OMet l Z x code maxLocals ret ws room_1 #[(.int p1), (.int p2), (.int p3), (.int p4), (.int p5)] h0 (Q0 Z p1 p2 p3 p4 p5 h0 n0) := by
  refine own_enter pn_0 ?_
  intro p e s m below meth c s₁ hx hby hml0 hown hret hlk hnm hZ X0 e0
  have hml : c.maxLocals = 17 := hml0
  have N0 := Fr.nil n0
  refine own_cast (ef_0 m p1 p2 p3 p4 p5) ?_
  show OG p e room_1 s below (fun v h L => v = some (.int (f0 p1 p2 p3 p4 p5)) ∧ Fr n0 L) s₁ (mkF m 0 #[.val (.int p1), .val (.int p2), .val (.int p3), .val (.int p4), .val (.int p5), .unset, .unset, .unset, .unset, .unset, .unset, .unset, .unset, .unset, .unset, .unset, .unset] [])
  refine own_st (fun t k => XS.iloadN X0.here hx rfl (hb hby at_0) rfl k) ?_
  show OG p e _ s below _ s₁ (mkF m 1 #[.val (.int p1), .val (.int p2), .val (.int p3), .val (.int p4), .val (.int p5), .unset, .unset, .unset, .unset, .unset, .unset, .unset, .unset, .unset, .unset, .unset, .unset] [(.int p1)])
  obtain ⟨_, _, ⟨T1, L1, k1, n1⟩, -, X1, ⟨Lc1, hQ1, l1, y1, z1⟩, st1⟩ := Jvm.LawKit.callS X0 hx (y := (⟨"com/example/vestbook/vestbook/RehireRulesKeepsServicePinLaw", "atLeastOne", "(I)I"⟩ : MethodName)) hown (mvT hZ (hw _ (List.mem_of_getElem? (i := 0) rfl))) (mvT hZ (hw _ (List.mem_of_getElem? (i := 1) rfl))) (mvT hZ (hw _ (List.mem_of_getElem? (i := 2) rfl))) (mvT hZ (hw _ (List.mem_of_getElem? (i := 3) rfl))) (by decide) (backOf (W := 0) (rm := ({ frames := 0, cells := 0, slots := 0, locals := 0 } : Room)) (rm1 l Z a0 hw [] p1 h0) hZ (hw _ (List.mem_of_getElem? (i := 3) rfl)) (hw _ (List.mem_of_getElem? (i := 2) rfl)) (by decide) (by decide)) (g := (mkF m 1 #[.val (.int p1), .val (.int p2), .val (.int p3), .val (.int p4), .val (.int p5), .unset, .unset, .unset, .unset, .unset, .unset, .unset, .unset, .unset, .unset, .unset, .unset] [(.int p1)])) rfl (by rw [hml]; rfl) (argsL := [(.int p1)]) (rest := []) (lenOf pd__I_I rfl) rfl (by show 2 * 0 + _ ≤ _; exact Nat.le_of_eq rfl) (hb hby at_1) (fun _ _ => ⟨rfl, e0, (by decide : 0 + 0 ≤ _), (by decide : 0 + 0 ≤ _)⟩)
  dsimp only [Pt.U, Pt.locs, Pt.cells, Pt.slots] at X1 l1 y1 z1 st1 hQ1
  subst l1 y1 z1
  obtain ⟨rfl, rfl, e1⟩ := hQ1
  refine own_st st1 ?_
  have N1 := Fr.app N0 (Fr.nil n0)
  show OG p e _ s below _ T1 (mkF m 4 #[.val (.int p1), .val (.int p2), .val (.int p3), .val (.int p4), .val (.int p5), .unset, .unset, .unset, .unset, .unset, .unset, .unset, .unset, .unset, .unset, .unset, .unset] [(.int (f1 p1))])
  refine own_st (fun t k => XS.istore X1.here hx rfl (hb hby at_4) rfl (l' := #[.val (.int p1), .val (.int p2), .val (.int p3), .val (.int p4), .val (.int p5), .val (.int (f1 p1)), .unset, .unset, .unset, .unset, .unset, .unset, .unset, .unset, .unset, .unset, .unset]) rfl k) ?_
  show OG p e _ s below _ T1 (mkF m 6 #[.val (.int p1), .val (.int p2), .val (.int p3), .val (.int p4), .val (.int p5), .val (.int (f1 p1)), .unset, .unset, .unset, .unset, .unset, .unset, .unset, .unset, .unset, .unset, .unset] [])
  refine own_st (fun t k => XS.iloadN X1.here hx rfl (hb hby at_6) rfl k) ?_
  show OG p e _ s below _ T1 (mkF m 7 #[.val (.int p1), .val (.int p2), .val (.int p3), .val (.int p4), .val (.int p5), .val (.int (f1 p1)), .unset, .unset, .unset, .unset, .unset, .unset, .unset, .unset, .unset, .unset, .unset] [(.int p2)])
  obtain ⟨_, _, ⟨T2, L2, k2, n2⟩, -, X2, ⟨Lc2, hQ2, l2, y2, z2⟩, st2⟩ := Jvm.LawKit.callS X1 hx (y := (⟨"com/example/vestbook/vestbook/RehireRulesKeepsServicePinLaw", "atLeastOne", "(I)I"⟩ : MethodName)) hown (mvT hZ (hw _ (List.mem_of_getElem? (i := 0) rfl))) (mvT hZ (hw _ (List.mem_of_getElem? (i := 1) rfl))) (mvT hZ (hw _ (List.mem_of_getElem? (i := 2) rfl))) (mvT hZ (hw _ (List.mem_of_getElem? (i := 3) rfl))) (by decide) (backOf (W := 0) (rm := ({ frames := 0, cells := 0, slots := 0, locals := 0 } : Room)) (rm1 l Z a0 hw [] p2 h0) hZ (hw _ (List.mem_of_getElem? (i := 3) rfl)) (hw _ (List.mem_of_getElem? (i := 2) rfl)) (by decide) (by decide)) (g := (mkF m 7 #[.val (.int p1), .val (.int p2), .val (.int p3), .val (.int p4), .val (.int p5), .val (.int (f1 p1)), .unset, .unset, .unset, .unset, .unset, .unset, .unset, .unset, .unset, .unset, .unset] [(.int p2)])) rfl (by rw [hml]; rfl) (argsL := [(.int p2)]) (rest := []) (lenOf pd__I_I rfl) rfl (by show 2 * 0 + _ ≤ _; exact Nat.le_of_eq rfl) (hb hby at_7) (fun _ _ => ⟨rfl, e1, (by decide : 0 + 0 ≤ _), (by decide : 0 + 0 ≤ _)⟩)
  dsimp only [Pt.U, Pt.locs, Pt.cells, Pt.slots] at X2 l2 y2 z2 st2 hQ2
  subst l2 y2 z2
  obtain ⟨rfl, rfl, e2⟩ := hQ2
  refine own_st st2 ?_
  have N2 := Fr.app N1 (Fr.nil n0)
  show OG p e _ s below _ T2 (mkF m 10 #[.val (.int p1), .val (.int p2), .val (.int p3), .val (.int p4), .val (.int p5), .val (.int (f1 p1)), .unset, .unset, .unset, .unset, .unset, .unset, .unset, .unset, .unset, .unset, .unset] [(.int (f1 p2))])
  refine own_st (fun t k => XS.istore X2.here hx rfl (hb hby at_10) rfl (l' := #[.val (.int p1), .val (.int p2), .val (.int p3), .val (.int p4), .val (.int p5), .val (.int (f1 p1)), .val (.int (f1 p2)), .unset, .unset, .unset, .unset, .unset, .unset, .unset, .unset, .unset, .unset]) rfl k) ?_
  show OG p e _ s below _ T2 (mkF m 12 #[.val (.int p1), .val (.int p2), .val (.int p3), .val (.int p4), .val (.int p5), .val (.int (f1 p1)), .val (.int (f1 p2)), .unset, .unset, .unset, .unset, .unset, .unset, .unset, .unset, .unset, .unset] [])
  refine own_st (fun t k => XS.iloadN X2.here hx rfl (hb hby at_12) rfl k) ?_
  show OG p e _ s below _ T2 (mkF m 13 #[.val (.int p1), .val (.int p2), .val (.int p3), .val (.int p4), .val (.int p5), .val (.int (f1 p1)), .val (.int (f1 p2)), .unset, .unset, .unset, .unset, .unset, .unset, .unset, .unset, .unset, .unset] [(.int p3)])
  obtain ⟨_, _, ⟨T3, L3, k3, n3⟩, -, X3, ⟨Lc3, hQ3, l3, y3, z3⟩, st3⟩ := Jvm.LawKit.callS X2 hx (y := (⟨"com/example/vestbook/vestbook/RehireRulesKeepsServicePinLaw", "atLeastOne", "(I)I"⟩ : MethodName)) hown (mvT hZ (hw _ (List.mem_of_getElem? (i := 0) rfl))) (mvT hZ (hw _ (List.mem_of_getElem? (i := 1) rfl))) (mvT hZ (hw _ (List.mem_of_getElem? (i := 2) rfl))) (mvT hZ (hw _ (List.mem_of_getElem? (i := 3) rfl))) (by decide) (backOf (W := 0) (rm := ({ frames := 0, cells := 0, slots := 0, locals := 0 } : Room)) (rm1 l Z a0 hw [] p3 h0) hZ (hw _ (List.mem_of_getElem? (i := 3) rfl)) (hw _ (List.mem_of_getElem? (i := 2) rfl)) (by decide) (by decide)) (g := (mkF m 13 #[.val (.int p1), .val (.int p2), .val (.int p3), .val (.int p4), .val (.int p5), .val (.int (f1 p1)), .val (.int (f1 p2)), .unset, .unset, .unset, .unset, .unset, .unset, .unset, .unset, .unset, .unset] [(.int p3)])) rfl (by rw [hml]; rfl) (argsL := [(.int p3)]) (rest := []) (lenOf pd__I_I rfl) rfl (by show 2 * 0 + _ ≤ _; exact Nat.le_of_eq rfl) (hb hby at_13) (fun _ _ => ⟨rfl, e2, (by decide : 0 + 0 ≤ _), (by decide : 0 + 0 ≤ _)⟩)
  dsimp only [Pt.U, Pt.locs, Pt.cells, Pt.slots] at X3 l3 y3 z3 st3 hQ3
  subst l3 y3 z3
  obtain ⟨rfl, rfl, e3⟩ := hQ3
  refine own_st st3 ?_
  have N3 := Fr.app N2 (Fr.nil n0)
  show OG p e _ s below _ T3 (mkF m 16 #[.val (.int p1), .val (.int p2), .val (.int p3), .val (.int p4), .val (.int p5), .val (.int (f1 p1)), .val (.int (f1 p2)), .unset, .unset, .unset, .unset, .unset, .unset, .unset, .unset, .unset, .unset] [(.int (f1 p3))])
  refine own_st (fun t k => XS.istore X3.here hx rfl (hb hby at_16) rfl (l' := #[.val (.int p1), .val (.int p2), .val (.int p3), .val (.int p4), .val (.int p5), .val (.int (f1 p1)), .val (.int (f1 p2)), .val (.int (f1 p3)), .unset, .unset, .unset, .unset, .unset, .unset, .unset, .unset, .unset]) rfl k) ?_
  show OG p e _ s below _ T3 (mkF m 18 #[.val (.int p1), .val (.int p2), .val (.int p3), .val (.int p4), .val (.int p5), .val (.int (f1 p1)), .val (.int (f1 p2)), .val (.int (f1 p3)), .unset, .unset, .unset, .unset, .unset, .unset, .unset, .unset, .unset] [])
  refine own_st (fun t k => XS.iload X3.here hx rfl (hb hby at_18) rfl k) ?_
  show OG p e _ s below _ T3 (mkF m 20 #[.val (.int p1), .val (.int p2), .val (.int p3), .val (.int p4), .val (.int p5), .val (.int (f1 p1)), .val (.int (f1 p2)), .val (.int (f1 p3)), .unset, .unset, .unset, .unset, .unset, .unset, .unset, .unset, .unset] [(.int p5)])
  refine own_st (fun t k => XS.iconst X3.here hx rfl (hb hby at_20) k) ?_
  show OG p e _ s below _ T3 (mkF m 21 #[.val (.int p1), .val (.int p2), .val (.int p3), .val (.int p4), .val (.int p5), .val (.int (f1 p1)), .val (.int (f1 p2)), .val (.int (f1 p3)), .unset, .unset, .unset, .unset, .unset, .unset, .unset, .unset, .unset] [(.int (1 : Int32)), (.int p5)])
  refine own_st (fun t k => XS.iand X3.here hx rfl (hb hby at_21) rfl k) ?_
  show OG p e _ s below _ T3 (mkF m 22 #[.val (.int p1), .val (.int p2), .val (.int p3), .val (.int p4), .val (.int p5), .val (.int (f1 p1)), .val (.int (f1 p2)), .val (.int (f1 p3)), .unset, .unset, .unset, .unset, .unset, .unset, .unset, .unset, .unset] [(.int (p5 &&& (1 : Int32)))])
  refine own_st (T' := T3) (g' := (mkF m 30 #[.val (.int p1), .val (.int p2), .val (.int p3), .val (.int p4), .val (.int p5), .val (.int (f1 p1)), .val (.int (f1 p2)), .val (.int (f1 p3)), .unset, .unset, .unset, .unset, .unset, .unset, .unset, .unset, .unset] [(.int (if (p5 &&& (1 : Int32)) = (0 : Int32) then (0 : Int32) else (1 : Int32)))])) (fun t k => ?_) ?_
  · by_cases c4 : (p5 &&& (1 : Int32)) = (0 : Int32)
    · rw [if_pos c4] at k
      refine XS.ifYes X3.here hx rfl (pc0 := 22) (pc' := 29) rfl (hb hby at_22) rfl (own_if0 (teq c4).1) (by decide) (by decide) ?_
      show Steps p.tables e below (T3.setTop (mkF m 29 #[.val (.int p1), .val (.int p2), .val (.int p3), .val (.int p4), .val (.int p5), .val (.int (f1 p1)), .val (.int (f1 p2)), .val (.int (f1 p3)), .unset, .unset, .unset, .unset, .unset, .unset, .unset, .unset, .unset] [])) _
      refine XS.iconst X3.here hx rfl (hb hby at_29) ?_
      show Steps p.tables e below (T3.setTop (mkF m 30 #[.val (.int p1), .val (.int p2), .val (.int p3), .val (.int p4), .val (.int p5), .val (.int (f1 p1)), .val (.int (f1 p2)), .val (.int (f1 p3)), .unset, .unset, .unset, .unset, .unset, .unset, .unset, .unset, .unset] [(.int (0 : Int32))])) _
      exact k
    · rw [if_neg c4] at k
      refine XS.ifNo X3.here hx rfl (hb hby at_22) rfl (own_if0 (feq c4).1) ?_
      show Steps p.tables e below (T3.setTop (mkF m 25 #[.val (.int p1), .val (.int p2), .val (.int p3), .val (.int p4), .val (.int p5), .val (.int (f1 p1)), .val (.int (f1 p2)), .val (.int (f1 p3)), .unset, .unset, .unset, .unset, .unset, .unset, .unset, .unset, .unset] [])) _
      refine XS.iconst X3.here hx rfl (hb hby at_25) ?_
      show Steps p.tables e below (T3.setTop (mkF m 26 #[.val (.int p1), .val (.int p2), .val (.int p3), .val (.int p4), .val (.int p5), .val (.int (f1 p1)), .val (.int (f1 p2)), .val (.int (f1 p3)), .unset, .unset, .unset, .unset, .unset, .unset, .unset, .unset, .unset] [(.int (1 : Int32))])) _
      refine XS.goto X3.here hx rfl (pc0 := 26) (pc' := 30) rfl (hb hby at_26) (by decide) (by decide) ?_
      exact k
  show OG p e _ s below _ T3 (mkF m 30 #[.val (.int p1), .val (.int p2), .val (.int p3), .val (.int p4), .val (.int p5), .val (.int (f1 p1)), .val (.int (f1 p2)), .val (.int (f1 p3)), .unset, .unset, .unset, .unset, .unset, .unset, .unset, .unset, .unset] [(.int (if (p5 &&& (1 : Int32)) = (0 : Int32) then (0 : Int32) else (1 : Int32)))])
  refine own_st (fun t k => XS.istore X3.here hx rfl (hb hby at_30) rfl (l' := #[.val (.int p1), .val (.int p2), .val (.int p3), .val (.int p4), .val (.int p5), .val (.int (f1 p1)), .val (.int (f1 p2)), .val (.int (f1 p3)), .val (.int (g0_1 p1 p2 p3 p4 p5)), .unset, .unset, .unset, .unset, .unset, .unset, .unset, .unset]) rfl k) ?_
  show OG p e _ s below _ T3 (mkF m 32 #[.val (.int p1), .val (.int p2), .val (.int p3), .val (.int p4), .val (.int p5), .val (.int (f1 p1)), .val (.int (f1 p2)), .val (.int (f1 p3)), .val (.int (g0_1 p1 p2 p3 p4 p5)), .unset, .unset, .unset, .unset, .unset, .unset, .unset, .unset] [])
  refine own_st (fun t k => XS.iload X3.here hx rfl (hb hby at_32) rfl k) ?_
  show OG p e _ s below _ T3 (mkF m 34 #[.val (.int p1), .val (.int p2), .val (.int p3), .val (.int p4), .val (.int p5), .val (.int (f1 p1)), .val (.int (f1 p2)), .val (.int (f1 p3)), .val (.int (g0_1 p1 p2 p3 p4 p5)), .unset, .unset, .unset, .unset, .unset, .unset, .unset, .unset] [(.int p5)])
  refine own_st (fun t k => XS.iconst X3.here hx rfl (hb hby at_34) k) ?_
  show OG p e _ s below _ T3 (mkF m 35 #[.val (.int p1), .val (.int p2), .val (.int p3), .val (.int p4), .val (.int p5), .val (.int (f1 p1)), .val (.int (f1 p2)), .val (.int (f1 p3)), .val (.int (g0_1 p1 p2 p3 p4 p5)), .unset, .unset, .unset, .unset, .unset, .unset, .unset, .unset] [(.int (2 : Int32)), (.int p5)])
  refine own_st (fun t k => XS.iand X3.here hx rfl (hb hby at_35) rfl k) ?_
  show OG p e _ s below _ T3 (mkF m 36 #[.val (.int p1), .val (.int p2), .val (.int p3), .val (.int p4), .val (.int p5), .val (.int (f1 p1)), .val (.int (f1 p2)), .val (.int (f1 p3)), .val (.int (g0_1 p1 p2 p3 p4 p5)), .unset, .unset, .unset, .unset, .unset, .unset, .unset, .unset] [(.int (p5 &&& (2 : Int32)))])
  refine own_st (T' := T3) (g' := (mkF m 44 #[.val (.int p1), .val (.int p2), .val (.int p3), .val (.int p4), .val (.int p5), .val (.int (f1 p1)), .val (.int (f1 p2)), .val (.int (f1 p3)), .val (.int (g0_1 p1 p2 p3 p4 p5)), .unset, .unset, .unset, .unset, .unset, .unset, .unset, .unset] [(.int (if (p5 &&& (2 : Int32)) = (0 : Int32) then (0 : Int32) else (1 : Int32)))])) (fun t k => ?_) ?_
  · by_cases c5 : (p5 &&& (2 : Int32)) = (0 : Int32)
    · rw [if_pos c5] at k
      refine XS.ifYes X3.here hx rfl (pc0 := 36) (pc' := 43) rfl (hb hby at_36) rfl (own_if0 (teq c5).1) (by decide) (by decide) ?_
      show Steps p.tables e below (T3.setTop (mkF m 43 #[.val (.int p1), .val (.int p2), .val (.int p3), .val (.int p4), .val (.int p5), .val (.int (f1 p1)), .val (.int (f1 p2)), .val (.int (f1 p3)), .val (.int (g0_1 p1 p2 p3 p4 p5)), .unset, .unset, .unset, .unset, .unset, .unset, .unset, .unset] [])) _
      refine XS.iconst X3.here hx rfl (hb hby at_43) ?_
      show Steps p.tables e below (T3.setTop (mkF m 44 #[.val (.int p1), .val (.int p2), .val (.int p3), .val (.int p4), .val (.int p5), .val (.int (f1 p1)), .val (.int (f1 p2)), .val (.int (f1 p3)), .val (.int (g0_1 p1 p2 p3 p4 p5)), .unset, .unset, .unset, .unset, .unset, .unset, .unset, .unset] [(.int (0 : Int32))])) _
      exact k
    · rw [if_neg c5] at k
      refine XS.ifNo X3.here hx rfl (hb hby at_36) rfl (own_if0 (feq c5).1) ?_
      show Steps p.tables e below (T3.setTop (mkF m 39 #[.val (.int p1), .val (.int p2), .val (.int p3), .val (.int p4), .val (.int p5), .val (.int (f1 p1)), .val (.int (f1 p2)), .val (.int (f1 p3)), .val (.int (g0_1 p1 p2 p3 p4 p5)), .unset, .unset, .unset, .unset, .unset, .unset, .unset, .unset] [])) _
      refine XS.iconst X3.here hx rfl (hb hby at_39) ?_
      show Steps p.tables e below (T3.setTop (mkF m 40 #[.val (.int p1), .val (.int p2), .val (.int p3), .val (.int p4), .val (.int p5), .val (.int (f1 p1)), .val (.int (f1 p2)), .val (.int (f1 p3)), .val (.int (g0_1 p1 p2 p3 p4 p5)), .unset, .unset, .unset, .unset, .unset, .unset, .unset, .unset] [(.int (1 : Int32))])) _
      refine XS.goto X3.here hx rfl (pc0 := 40) (pc' := 44) rfl (hb hby at_40) (by decide) (by decide) ?_
      exact k
  show OG p e _ s below _ T3 (mkF m 44 #[.val (.int p1), .val (.int p2), .val (.int p3), .val (.int p4), .val (.int p5), .val (.int (f1 p1)), .val (.int (f1 p2)), .val (.int (f1 p3)), .val (.int (g0_1 p1 p2 p3 p4 p5)), .unset, .unset, .unset, .unset, .unset, .unset, .unset, .unset] [(.int (if (p5 &&& (2 : Int32)) = (0 : Int32) then (0 : Int32) else (1 : Int32)))])
  refine own_st (fun t k => XS.istore X3.here hx rfl (hb hby at_44) rfl (l' := #[.val (.int p1), .val (.int p2), .val (.int p3), .val (.int p4), .val (.int p5), .val (.int (f1 p1)), .val (.int (f1 p2)), .val (.int (f1 p3)), .val (.int (g0_1 p1 p2 p3 p4 p5)), .val (.int (g0_2 p1 p2 p3 p4 p5)), .unset, .unset, .unset, .unset, .unset, .unset, .unset]) rfl k) ?_
  show OG p e _ s below _ T3 (mkF m 46 #[.val (.int p1), .val (.int p2), .val (.int p3), .val (.int p4), .val (.int p5), .val (.int (f1 p1)), .val (.int (f1 p2)), .val (.int (f1 p3)), .val (.int (g0_1 p1 p2 p3 p4 p5)), .val (.int (g0_2 p1 p2 p3 p4 p5)), .unset, .unset, .unset, .unset, .unset, .unset, .unset] [])
  refine own_st (fun t k => XS.iload X3.here hx rfl (hb hby at_46) rfl k) ?_
  show OG p e _ s below _ T3 (mkF m 48 #[.val (.int p1), .val (.int p2), .val (.int p3), .val (.int p4), .val (.int p5), .val (.int (f1 p1)), .val (.int (f1 p2)), .val (.int (f1 p3)), .val (.int (g0_1 p1 p2 p3 p4 p5)), .val (.int (g0_2 p1 p2 p3 p4 p5)), .unset, .unset, .unset, .unset, .unset, .unset, .unset] [(.int p5)])
  refine own_st (fun t k => XS.iconst X3.here hx rfl (hb hby at_48) k) ?_
  show OG p e _ s below _ T3 (mkF m 49 #[.val (.int p1), .val (.int p2), .val (.int p3), .val (.int p4), .val (.int p5), .val (.int (f1 p1)), .val (.int (f1 p2)), .val (.int (f1 p3)), .val (.int (g0_1 p1 p2 p3 p4 p5)), .val (.int (g0_2 p1 p2 p3 p4 p5)), .unset, .unset, .unset, .unset, .unset, .unset, .unset] [(.int (4 : Int32)), (.int p5)])
  refine own_st (fun t k => XS.iand X3.here hx rfl (hb hby at_49) rfl k) ?_
  show OG p e _ s below _ T3 (mkF m 50 #[.val (.int p1), .val (.int p2), .val (.int p3), .val (.int p4), .val (.int p5), .val (.int (f1 p1)), .val (.int (f1 p2)), .val (.int (f1 p3)), .val (.int (g0_1 p1 p2 p3 p4 p5)), .val (.int (g0_2 p1 p2 p3 p4 p5)), .unset, .unset, .unset, .unset, .unset, .unset, .unset] [(.int (p5 &&& (4 : Int32)))])
  refine own_st (T' := T3) (g' := (mkF m 58 #[.val (.int p1), .val (.int p2), .val (.int p3), .val (.int p4), .val (.int p5), .val (.int (f1 p1)), .val (.int (f1 p2)), .val (.int (f1 p3)), .val (.int (g0_1 p1 p2 p3 p4 p5)), .val (.int (g0_2 p1 p2 p3 p4 p5)), .unset, .unset, .unset, .unset, .unset, .unset, .unset] [(.int (if (p5 &&& (4 : Int32)) = (0 : Int32) then (0 : Int32) else (1 : Int32)))])) (fun t k => ?_) ?_
  · by_cases c6 : (p5 &&& (4 : Int32)) = (0 : Int32)
    · rw [if_pos c6] at k
      refine XS.ifYes X3.here hx rfl (pc0 := 50) (pc' := 57) rfl (hb hby at_50) rfl (own_if0 (teq c6).1) (by decide) (by decide) ?_
      show Steps p.tables e below (T3.setTop (mkF m 57 #[.val (.int p1), .val (.int p2), .val (.int p3), .val (.int p4), .val (.int p5), .val (.int (f1 p1)), .val (.int (f1 p2)), .val (.int (f1 p3)), .val (.int (g0_1 p1 p2 p3 p4 p5)), .val (.int (g0_2 p1 p2 p3 p4 p5)), .unset, .unset, .unset, .unset, .unset, .unset, .unset] [])) _
      refine XS.iconst X3.here hx rfl (hb hby at_57) ?_
      show Steps p.tables e below (T3.setTop (mkF m 58 #[.val (.int p1), .val (.int p2), .val (.int p3), .val (.int p4), .val (.int p5), .val (.int (f1 p1)), .val (.int (f1 p2)), .val (.int (f1 p3)), .val (.int (g0_1 p1 p2 p3 p4 p5)), .val (.int (g0_2 p1 p2 p3 p4 p5)), .unset, .unset, .unset, .unset, .unset, .unset, .unset] [(.int (0 : Int32))])) _
      exact k
    · rw [if_neg c6] at k
      refine XS.ifNo X3.here hx rfl (hb hby at_50) rfl (own_if0 (feq c6).1) ?_
      show Steps p.tables e below (T3.setTop (mkF m 53 #[.val (.int p1), .val (.int p2), .val (.int p3), .val (.int p4), .val (.int p5), .val (.int (f1 p1)), .val (.int (f1 p2)), .val (.int (f1 p3)), .val (.int (g0_1 p1 p2 p3 p4 p5)), .val (.int (g0_2 p1 p2 p3 p4 p5)), .unset, .unset, .unset, .unset, .unset, .unset, .unset] [])) _
      refine XS.iconst X3.here hx rfl (hb hby at_53) ?_
      show Steps p.tables e below (T3.setTop (mkF m 54 #[.val (.int p1), .val (.int p2), .val (.int p3), .val (.int p4), .val (.int p5), .val (.int (f1 p1)), .val (.int (f1 p2)), .val (.int (f1 p3)), .val (.int (g0_1 p1 p2 p3 p4 p5)), .val (.int (g0_2 p1 p2 p3 p4 p5)), .unset, .unset, .unset, .unset, .unset, .unset, .unset] [(.int (1 : Int32))])) _
      refine XS.goto X3.here hx rfl (pc0 := 54) (pc' := 58) rfl (hb hby at_54) (by decide) (by decide) ?_
      exact k
  show OG p e _ s below _ T3 (mkF m 58 #[.val (.int p1), .val (.int p2), .val (.int p3), .val (.int p4), .val (.int p5), .val (.int (f1 p1)), .val (.int (f1 p2)), .val (.int (f1 p3)), .val (.int (g0_1 p1 p2 p3 p4 p5)), .val (.int (g0_2 p1 p2 p3 p4 p5)), .unset, .unset, .unset, .unset, .unset, .unset, .unset] [(.int (if (p5 &&& (4 : Int32)) = (0 : Int32) then (0 : Int32) else (1 : Int32)))])
  refine own_st (fun t k => XS.istore X3.here hx rfl (hb hby at_58) rfl (l' := #[.val (.int p1), .val (.int p2), .val (.int p3), .val (.int p4), .val (.int p5), .val (.int (f1 p1)), .val (.int (f1 p2)), .val (.int (f1 p3)), .val (.int (g0_1 p1 p2 p3 p4 p5)), .val (.int (g0_2 p1 p2 p3 p4 p5)), .val (.int (g0_3 p1 p2 p3 p4 p5)), .unset, .unset, .unset, .unset, .unset, .unset]) rfl k) ?_
  show OG p e _ s below _ T3 (mkF m 60 #[.val (.int p1), .val (.int p2), .val (.int p3), .val (.int p4), .val (.int p5), .val (.int (f1 p1)), .val (.int (f1 p2)), .val (.int (f1 p3)), .val (.int (g0_1 p1 p2 p3 p4 p5)), .val (.int (g0_2 p1 p2 p3 p4 p5)), .val (.int (g0_3 p1 p2 p3 p4 p5)), .unset, .unset, .unset, .unset, .unset, .unset] [])
  refine own_st (fun t k => XS.iload X3.here hx rfl (hb hby at_60) rfl k) ?_
  show OG p e _ s below _ T3 (mkF m 62 #[.val (.int p1), .val (.int p2), .val (.int p3), .val (.int p4), .val (.int p5), .val (.int (f1 p1)), .val (.int (f1 p2)), .val (.int (f1 p3)), .val (.int (g0_1 p1 p2 p3 p4 p5)), .val (.int (g0_2 p1 p2 p3 p4 p5)), .val (.int (g0_3 p1 p2 p3 p4 p5)), .unset, .unset, .unset, .unset, .unset, .unset] [(.int p5)])
  refine own_st (fun t k => XS.bipush X3.here hx rfl (hb hby at_62) k) ?_
  show OG p e _ s below _ T3 (mkF m 64 #[.val (.int p1), .val (.int p2), .val (.int p3), .val (.int p4), .val (.int p5), .val (.int (f1 p1)), .val (.int (f1 p2)), .val (.int (f1 p3)), .val (.int (g0_1 p1 p2 p3 p4 p5)), .val (.int (g0_2 p1 p2 p3 p4 p5)), .val (.int (g0_3 p1 p2 p3 p4 p5)), .unset, .unset, .unset, .unset, .unset, .unset] [(.int (8 : Int32)), (.int p5)])
  refine own_st (fun t k => XS.iand X3.here hx rfl (hb hby at_64) rfl k) ?_
  show OG p e _ s below _ T3 (mkF m 65 #[.val (.int p1), .val (.int p2), .val (.int p3), .val (.int p4), .val (.int p5), .val (.int (f1 p1)), .val (.int (f1 p2)), .val (.int (f1 p3)), .val (.int (g0_1 p1 p2 p3 p4 p5)), .val (.int (g0_2 p1 p2 p3 p4 p5)), .val (.int (g0_3 p1 p2 p3 p4 p5)), .unset, .unset, .unset, .unset, .unset, .unset] [(.int (p5 &&& (8 : Int32)))])
  refine own_st (T' := T3) (g' := (mkF m 73 #[.val (.int p1), .val (.int p2), .val (.int p3), .val (.int p4), .val (.int p5), .val (.int (f1 p1)), .val (.int (f1 p2)), .val (.int (f1 p3)), .val (.int (g0_1 p1 p2 p3 p4 p5)), .val (.int (g0_2 p1 p2 p3 p4 p5)), .val (.int (g0_3 p1 p2 p3 p4 p5)), .unset, .unset, .unset, .unset, .unset, .unset] [(.int (if (p5 &&& (8 : Int32)) = (0 : Int32) then (0 : Int32) else (1 : Int32)))])) (fun t k => ?_) ?_
  · by_cases c7 : (p5 &&& (8 : Int32)) = (0 : Int32)
    · rw [if_pos c7] at k
      refine XS.ifYes X3.here hx rfl (pc0 := 65) (pc' := 72) rfl (hb hby at_65) rfl (own_if0 (teq c7).1) (by decide) (by decide) ?_
      show Steps p.tables e below (T3.setTop (mkF m 72 #[.val (.int p1), .val (.int p2), .val (.int p3), .val (.int p4), .val (.int p5), .val (.int (f1 p1)), .val (.int (f1 p2)), .val (.int (f1 p3)), .val (.int (g0_1 p1 p2 p3 p4 p5)), .val (.int (g0_2 p1 p2 p3 p4 p5)), .val (.int (g0_3 p1 p2 p3 p4 p5)), .unset, .unset, .unset, .unset, .unset, .unset] [])) _
      refine XS.iconst X3.here hx rfl (hb hby at_72) ?_
      show Steps p.tables e below (T3.setTop (mkF m 73 #[.val (.int p1), .val (.int p2), .val (.int p3), .val (.int p4), .val (.int p5), .val (.int (f1 p1)), .val (.int (f1 p2)), .val (.int (f1 p3)), .val (.int (g0_1 p1 p2 p3 p4 p5)), .val (.int (g0_2 p1 p2 p3 p4 p5)), .val (.int (g0_3 p1 p2 p3 p4 p5)), .unset, .unset, .unset, .unset, .unset, .unset] [(.int (0 : Int32))])) _
      exact k
    · rw [if_neg c7] at k
      refine XS.ifNo X3.here hx rfl (hb hby at_65) rfl (own_if0 (feq c7).1) ?_
      show Steps p.tables e below (T3.setTop (mkF m 68 #[.val (.int p1), .val (.int p2), .val (.int p3), .val (.int p4), .val (.int p5), .val (.int (f1 p1)), .val (.int (f1 p2)), .val (.int (f1 p3)), .val (.int (g0_1 p1 p2 p3 p4 p5)), .val (.int (g0_2 p1 p2 p3 p4 p5)), .val (.int (g0_3 p1 p2 p3 p4 p5)), .unset, .unset, .unset, .unset, .unset, .unset] [])) _
      refine XS.iconst X3.here hx rfl (hb hby at_68) ?_
      show Steps p.tables e below (T3.setTop (mkF m 69 #[.val (.int p1), .val (.int p2), .val (.int p3), .val (.int p4), .val (.int p5), .val (.int (f1 p1)), .val (.int (f1 p2)), .val (.int (f1 p3)), .val (.int (g0_1 p1 p2 p3 p4 p5)), .val (.int (g0_2 p1 p2 p3 p4 p5)), .val (.int (g0_3 p1 p2 p3 p4 p5)), .unset, .unset, .unset, .unset, .unset, .unset] [(.int (1 : Int32))])) _
      refine XS.goto X3.here hx rfl (pc0 := 69) (pc' := 73) rfl (hb hby at_69) (by decide) (by decide) ?_
      exact k
  show OG p e _ s below _ T3 (mkF m 73 #[.val (.int p1), .val (.int p2), .val (.int p3), .val (.int p4), .val (.int p5), .val (.int (f1 p1)), .val (.int (f1 p2)), .val (.int (f1 p3)), .val (.int (g0_1 p1 p2 p3 p4 p5)), .val (.int (g0_2 p1 p2 p3 p4 p5)), .val (.int (g0_3 p1 p2 p3 p4 p5)), .unset, .unset, .unset, .unset, .unset, .unset] [(.int (if (p5 &&& (8 : Int32)) = (0 : Int32) then (0 : Int32) else (1 : Int32)))])
  refine own_st (fun t k => XS.istore X3.here hx rfl (hb hby at_73) rfl (l' := #[.val (.int p1), .val (.int p2), .val (.int p3), .val (.int p4), .val (.int p5), .val (.int (f1 p1)), .val (.int (f1 p2)), .val (.int (f1 p3)), .val (.int (g0_1 p1 p2 p3 p4 p5)), .val (.int (g0_2 p1 p2 p3 p4 p5)), .val (.int (g0_3 p1 p2 p3 p4 p5)), .val (.int (g0_4 p1 p2 p3 p4 p5)), .unset, .unset, .unset, .unset, .unset]) rfl k) ?_
  show OG p e _ s below _ T3 (mkF m 75 #[.val (.int p1), .val (.int p2), .val (.int p3), .val (.int p4), .val (.int p5), .val (.int (f1 p1)), .val (.int (f1 p2)), .val (.int (f1 p3)), .val (.int (g0_1 p1 p2 p3 p4 p5)), .val (.int (g0_2 p1 p2 p3 p4 p5)), .val (.int (g0_3 p1 p2 p3 p4 p5)), .val (.int (g0_4 p1 p2 p3 p4 p5)), .unset, .unset, .unset, .unset, .unset] [])
  obtain ⟨T8, h8, X8, e8, E8, A8, D8, -, st8⟩ := newO X3 hx hZ hown (hw _ (List.mem_of_getElem? (i := 5) rfl)) (hw _ (List.mem_of_getElem? (i := 6) rfl)) (hw _ (List.mem_of_getElem? (i := 7) rfl)) e3 (g := (mkF m 75 #[.val (.int p1), .val (.int p2), .val (.int p3), .val (.int p4), .val (.int p5), .val (.int (f1 p1)), .val (.int (f1 p2)), .val (.int (f1 p3)), .val (.int (g0_1 p1 p2 p3 p4 p5)), .val (.int (g0_2 p1 p2 p3 p4 p5)), .val (.int (g0_3 p1 p2 p3 p4 p5)), .val (.int (g0_4 p1 p2 p3 p4 p5)), .unset, .unset, .unset, .unset, .unset] [])) rfl (hb hby at_75) (by decide) (by decide)
  obtain ⟨o8, gb8⟩ : ∃ z, z = h0.size := ⟨_, rfl⟩
  rw [← gb8] at A8 D8 st8
  refine own_st st8 ?_
  have ge_o8 : n0 ≤ o8 := by rw [gb8]; exact Nat.le_trans Z0 (Keep.refl h0 []).1
  have sz_o8 : h0.size ≤ o8 := by rw [gb8]; exact (Keep.refl h0 []).1
  have K9 : Keep h0 h8 [] := (Keep.refl h0 []).ext E8
  have F10 : Fld Z h8 o8 "com/example/vestbook/vestbook/RehireRules" "serviceLostAfterBreaks" "I" (.int (0 : Int32)) := D8 (Or.inr (hw _ (List.mem_of_getElem? (i := 20) rfl))) (ty := .int) (by decide)
  have F11 : Fld Z h8 o8 "com/example/vestbook/vestbook/RehireRules" "repaymentBeforeBreaks" "I" (.int (0 : Int32)) := D8 (Or.inr (hw _ (List.mem_of_getElem? (i := 22) rfl))) (ty := .int) (by decide)
  have F12 : Fld Z h8 o8 "com/example/vestbook/vestbook/RehireRules" "repaymentWithinYears" "I" (.int (0 : Int32)) := D8 (Or.inr (hw _ (List.mem_of_getElem? (i := 24) rfl))) (ty := .int) (by decide)
  show OG p e _ s below _ T8 (mkF m 78 #[.val (.int p1), .val (.int p2), .val (.int p3), .val (.int p4), .val (.int p5), .val (.int (f1 p1)), .val (.int (f1 p2)), .val (.int (f1 p3)), .val (.int (g0_1 p1 p2 p3 p4 p5)), .val (.int (g0_2 p1 p2 p3 p4 p5)), .val (.int (g0_3 p1 p2 p3 p4 p5)), .val (.int (g0_4 p1 p2 p3 p4 p5)), .unset, .unset, .unset, .unset, .unset] [(.ref o8)])
  refine own_st (fun t k => XS.dup X8.here hx rfl (hb hby at_78) rfl rfl k) ?_
  show OG p e _ s below _ T8 (mkF m 79 #[.val (.int p1), .val (.int p2), .val (.int p3), .val (.int p4), .val (.int p5), .val (.int (f1 p1)), .val (.int (f1 p2)), .val (.int (f1 p3)), .val (.int (g0_1 p1 p2 p3 p4 p5)), .val (.int (g0_2 p1 p2 p3 p4 p5)), .val (.int (g0_3 p1 p2 p3 p4 p5)), .val (.int (g0_4 p1 p2 p3 p4 p5)), .unset, .unset, .unset, .unset, .unset] [(.ref o8), (.ref o8)])
  refine own_st (fun t k => XS.iload X8.here hx rfl (hb hby at_79) rfl k) ?_
  show OG p e _ s below _ T8 (mkF m 81 #[.val (.int p1), .val (.int p2), .val (.int p3), .val (.int p4), .val (.int p5), .val (.int (f1 p1)), .val (.int (f1 p2)), .val (.int (f1 p3)), .val (.int (g0_1 p1 p2 p3 p4 p5)), .val (.int (g0_2 p1 p2 p3 p4 p5)), .val (.int (g0_3 p1 p2 p3 p4 p5)), .val (.int (g0_4 p1 p2 p3 p4 p5)), .unset, .unset, .unset, .unset, .unset] [(.int (f1 p1)), (.ref o8), (.ref o8)])
  refine own_st (fun t k => XS.iload X8.here hx rfl (hb hby at_81) rfl k) ?_
  show OG p e _ s below _ T8 (mkF m 83 #[.val (.int p1), .val (.int p2), .val (.int p3), .val (.int p4), .val (.int p5), .val (.int (f1 p1)), .val (.int (f1 p2)), .val (.int (f1 p3)), .val (.int (g0_1 p1 p2 p3 p4 p5)), .val (.int (g0_2 p1 p2 p3 p4 p5)), .val (.int (g0_3 p1 p2 p3 p4 p5)), .val (.int (g0_4 p1 p2 p3 p4 p5)), .unset, .unset, .unset, .unset, .unset] [(.int (f1 p2)), (.int (f1 p1)), (.ref o8), (.ref o8)])
  refine own_st (fun t k => XS.iload X8.here hx rfl (hb hby at_83) rfl k) ?_
  show OG p e _ s below _ T8 (mkF m 85 #[.val (.int p1), .val (.int p2), .val (.int p3), .val (.int p4), .val (.int p5), .val (.int (f1 p1)), .val (.int (f1 p2)), .val (.int (f1 p3)), .val (.int (g0_1 p1 p2 p3 p4 p5)), .val (.int (g0_2 p1 p2 p3 p4 p5)), .val (.int (g0_3 p1 p2 p3 p4 p5)), .val (.int (g0_4 p1 p2 p3 p4 p5)), .unset, .unset, .unset, .unset, .unset] [(.int (f1 p3)), (.int (f1 p2)), (.int (f1 p1)), (.ref o8), (.ref o8)])
  obtain ⟨_, _, ⟨T13, L13, k13, n13⟩, -, X13, ⟨Lc13, hQ13, l13, y13, z13⟩, st13⟩ := X8.specialBack hx (y := (⟨"com/example/vestbook/vestbook/RehireRules", "<init>", "(III)V"⟩ : MethodName)) rfl hown (mvT hZ (hw _ (List.mem_of_getElem? (i := 8) rfl))) (mvT hZ (hw _ (List.mem_of_getElem? (i := 9) rfl))) (mvT hZ (hw _ (List.mem_of_getElem? (i := 10) rfl))) (by decide) (backOf (W := 1) (rm := ({ frames := 2, cells := 0, slots := 0, locals := 24 } : Room)) (rm2 l Z a0 hw [] o8 (f1 p1) (f1 p2) (f1 p3) h8 n0 A8 F10 F11 F12 ge_o8) hZ (hw _ (List.mem_of_getElem? (i := 10) rfl)) (hw _ (List.mem_of_getElem? (i := 7) rfl)) (by decide) (by decide)) (g := (mkF m 85 #[.val (.int p1), .val (.int p2), .val (.int p3), .val (.int p4), .val (.int p5), .val (.int (f1 p1)), .val (.int (f1 p2)), .val (.int (f1 p3)), .val (.int (g0_1 p1 p2 p3 p4 p5)), .val (.int (g0_2 p1 p2 p3 p4 p5)), .val (.int (g0_3 p1 p2 p3 p4 p5)), .val (.int (g0_4 p1 p2 p3 p4 p5)), .unset, .unset, .unset, .unset, .unset] [(.int (f1 p3)), (.int (f1 p2)), (.int (f1 p1)), (.ref o8), (.ref o8)])) rfl (by rw [hml]; rfl) (Steps.refl _) (a := o8) (argsL := [(.int (f1 p1)), (.int (f1 p2)), (.int (f1 p3))]) (rest := [(.ref o8)]) (lenOf pd__III_V rfl) rfl (by show 2 * 0 + _ ≤ _; exact Nat.le_of_eq rfl) (hb hby at_85) (fun _ _ => ⟨rfl, e8, (by decide : 1 + 0 ≤ _), (by decide : 3 + 0 ≤ _)⟩)
  dsimp only [Pt.U, Pt.locs, Pt.cells, Pt.slots] at X13 l13 y13 z13 st13 hQ13
  subst l13 y13 z13
  obtain ⟨rfl, N13q, K13q, P13_0, P13_1, P13_2, P13_3⟩ := hQ13
  refine own_st (fun t k => st13.trans k) ?_
  have N13 := Fr.app N3 N13q
  have K13 : Keep h0 T13.heap [] := K9.trans K13q (own_all1 (Or.inr sz_o8))
  show OG p e _ s below _ T13 (mkF m 88 #[.val (.int p1), .val (.int p2), .val (.int p3), .val (.int p4), .val (.int p5), .val (.int (f1 p1)), .val (.int (f1 p2)), .val (.int (f1 p3)), .val (.int (g0_1 p1 p2 p3 p4 p5)), .val (.int (g0_2 p1 p2 p3 p4 p5)), .val (.int (g0_3 p1 p2 p3 p4 p5)), .val (.int (g0_4 p1 p2 p3 p4 p5)), .unset, .unset, .unset, .unset, .unset] [(.ref o8)])
  refine own_st (fun t k => XS.astore X13.here hx rfl (hb hby at_88) rfl rfl (l' := #[.val (.int p1), .val (.int p2), .val (.int p3), .val (.int p4), .val (.int p5), .val (.int (f1 p1)), .val (.int (f1 p2)), .val (.int (f1 p3)), .val (.int (g0_1 p1 p2 p3 p4 p5)), .val (.int (g0_2 p1 p2 p3 p4 p5)), .val (.int (g0_3 p1 p2 p3 p4 p5)), .val (.int (g0_4 p1 p2 p3 p4 p5)), .val (.ref o8), .unset, .unset, .unset, .unset]) rfl k) ?_
  show OG p e _ s below _ T13 (mkF m 90 #[.val (.int p1), .val (.int p2), .val (.int p3), .val (.int p4), .val (.int p5), .val (.int (f1 p1)), .val (.int (f1 p2)), .val (.int (f1 p3)), .val (.int (g0_1 p1 p2 p3 p4 p5)), .val (.int (g0_2 p1 p2 p3 p4 p5)), .val (.int (g0_3 p1 p2 p3 p4 p5)), .val (.int (g0_4 p1 p2 p3 p4 p5)), .val (.ref o8), .unset, .unset, .unset, .unset] [])
  refine own_st (fun t k => XS.aload X13.here hx rfl (hb hby at_90) rfl rfl k) ?_
  show OG p e _ s below _ T13 (mkF m 92 #[.val (.int p1), .val (.int p2), .val (.int p3), .val (.int p4), .val (.int p5), .val (.int (f1 p1)), .val (.int (f1 p2)), .val (.int (f1 p3)), .val (.int (g0_1 p1 p2 p3 p4 p5)), .val (.int (g0_2 p1 p2 p3 p4 p5)), .val (.int (g0_3 p1 p2 p3 p4 p5)), .val (.int (g0_4 p1 p2 p3 p4 p5)), .val (.ref o8), .unset, .unset, .unset, .unset] [(.ref o8)])
  refine own_st (fun t k => XS.iloadN X13.here hx rfl (hb hby at_92) rfl k) ?_
  show OG p e _ s below _ T13 (mkF m 93 #[.val (.int p1), .val (.int p2), .val (.int p3), .val (.int p4), .val (.int p5), .val (.int (f1 p1)), .val (.int (f1 p2)), .val (.int (f1 p3)), .val (.int (g0_1 p1 p2 p3 p4 p5)), .val (.int (g0_2 p1 p2 p3 p4 p5)), .val (.int (g0_3 p1 p2 p3 p4 p5)), .val (.int (g0_4 p1 p2 p3 p4 p5)), .val (.ref o8), .unset, .unset, .unset, .unset] [(.int p4), (.ref o8)])
  refine own_st (fun t k => XS.iload X13.here hx rfl (hb hby at_93) rfl k) ?_
  show OG p e _ s below _ T13 (mkF m 95 #[.val (.int p1), .val (.int p2), .val (.int p3), .val (.int p4), .val (.int p5), .val (.int (f1 p1)), .val (.int (f1 p2)), .val (.int (f1 p3)), .val (.int (g0_1 p1 p2 p3 p4 p5)), .val (.int (g0_2 p1 p2 p3 p4 p5)), .val (.int (g0_3 p1 p2 p3 p4 p5)), .val (.int (g0_4 p1 p2 p3 p4 p5)), .val (.ref o8), .unset, .unset, .unset, .unset] [(.int (g0_1 p1 p2 p3 p4 p5)), (.int p4), (.ref o8)])
  refine own_st (fun t k => XS.iload X13.here hx rfl (hb hby at_95) rfl k) ?_
  show OG p e _ s below _ T13 (mkF m 97 #[.val (.int p1), .val (.int p2), .val (.int p3), .val (.int p4), .val (.int p5), .val (.int (f1 p1)), .val (.int (f1 p2)), .val (.int (f1 p3)), .val (.int (g0_1 p1 p2 p3 p4 p5)), .val (.int (g0_2 p1 p2 p3 p4 p5)), .val (.int (g0_3 p1 p2 p3 p4 p5)), .val (.int (g0_4 p1 p2 p3 p4 p5)), .val (.ref o8), .unset, .unset, .unset, .unset] [(.int (g0_2 p1 p2 p3 p4 p5)), (.int (g0_1 p1 p2 p3 p4 p5)), (.int p4), (.ref o8)])
  refine own_st (fun t k => XS.iload X13.here hx rfl (hb hby at_97) rfl k) ?_
  show OG p e _ s below _ T13 (mkF m 99 #[.val (.int p1), .val (.int p2), .val (.int p3), .val (.int p4), .val (.int p5), .val (.int (f1 p1)), .val (.int (f1 p2)), .val (.int (f1 p3)), .val (.int (g0_1 p1 p2 p3 p4 p5)), .val (.int (g0_2 p1 p2 p3 p4 p5)), .val (.int (g0_3 p1 p2 p3 p4 p5)), .val (.int (g0_4 p1 p2 p3 p4 p5)), .val (.ref o8), .unset, .unset, .unset, .unset] [(.int (g0_3 p1 p2 p3 p4 p5)), (.int (g0_2 p1 p2 p3 p4 p5)), (.int (g0_1 p1 p2 p3 p4 p5)), (.int p4), (.ref o8)])
  refine own_st (fun t k => XS.iload X13.here hx rfl (hb hby at_99) rfl k) ?_
  show OG p e _ s below _ T13 (mkF m 101 #[.val (.int p1), .val (.int p2), .val (.int p3), .val (.int p4), .val (.int p5), .val (.int (f1 p1)), .val (.int (f1 p2)), .val (.int (f1 p3)), .val (.int (g0_1 p1 p2 p3 p4 p5)), .val (.int (g0_2 p1 p2 p3 p4 p5)), .val (.int (g0_3 p1 p2 p3 p4 p5)), .val (.int (g0_4 p1 p2 p3 p4 p5)), .val (.ref o8), .unset, .unset, .unset, .unset] [(.int (g0_4 p1 p2 p3 p4 p5)), (.int (g0_3 p1 p2 p3 p4 p5)), (.int (g0_2 p1 p2 p3 p4 p5)), (.int (g0_1 p1 p2 p3 p4 p5)), (.int p4), (.ref o8)])
  obtain ⟨cq14, kq14, q14a, q14b, q14c⟩ := isOf hZ rfl P13_0
  obtain ⟨_, _, ⟨T14, L14, k14, n14⟩, -, X14, ⟨Lc14, hQ14, l14, y14, z14⟩, st14⟩ := X13.virtualBack hx (y := (⟨"com/example/vestbook/vestbook/RehireRules", "keepsService", "(IZZZZ)Z"⟩ : MethodName)) (z := (⟨"com/example/vestbook/vestbook/RehireRules", "keepsService", "(IZZZZ)Z"⟩ : MethodName)) hown (mvT hZ (hw _ (List.mem_of_getElem? (i := 25) rfl))) (mvT hZ (hw _ (List.mem_of_getElem? (i := 26) rfl))) (notFace_of_selects (args := #[]) (mvT hZ (hw _ (List.mem_of_getElem? (i := 28) rfl)))) (mvT hZ (hw _ (List.mem_of_getElem? (i := 28) rfl))) (mvT hZ (hw _ (List.mem_of_getElem? (i := 27) rfl))) (by decide) (backOf (W := 0) (rm := ({ frames := 0, cells := 0, slots := 0, locals := 0 } : Room)) (rm5 l Z a0 hw [] o8 p4 (g0_1 p1 p2 p3 p4 p5) (g0_2 p1 p2 p3 p4 p5) (g0_3 p1 p2 p3 p4 p5) (g0_4 p1 p2 p3 p4 p5) (f1 p1) T13.heap P13_1) hZ (hw _ (List.mem_of_getElem? (i := 29) rfl)) (hw _ (List.mem_of_getElem? (i := 7) rfl)) (by decide) (by decide)) q14a q14c (g := (mkF m 101 #[.val (.int p1), .val (.int p2), .val (.int p3), .val (.int p4), .val (.int p5), .val (.int (f1 p1)), .val (.int (f1 p2)), .val (.int (f1 p3)), .val (.int (g0_1 p1 p2 p3 p4 p5)), .val (.int (g0_2 p1 p2 p3 p4 p5)), .val (.int (g0_3 p1 p2 p3 p4 p5)), .val (.int (g0_4 p1 p2 p3 p4 p5)), .val (.ref o8), .unset, .unset, .unset, .unset] [(.int (g0_4 p1 p2 p3 p4 p5)), (.int (g0_3 p1 p2 p3 p4 p5)), (.int (g0_2 p1 p2 p3 p4 p5)), (.int (g0_1 p1 p2 p3 p4 p5)), (.int p4), (.ref o8)])) rfl (by rw [hml]; rfl) (Steps.refl _) (argsL := [(.int p4), (.int (g0_1 p1 p2 p3 p4 p5)), (.int (g0_2 p1 p2 p3 p4 p5)), (.int (g0_3 p1 p2 p3 p4 p5)), (.int (g0_4 p1 p2 p3 p4 p5))]) (rest := []) (lenOf pd__IZZZZ_Z rfl) rfl (by show 2 * 0 + _ ≤ _; exact Nat.le_of_eq rfl) (hb hby at_101) (fun _ _ => ⟨rfl, rfl, (by decide : 1 + 0 ≤ _), (by decide : 3 + 0 ≤ _)⟩)
  dsimp only [Pt.U, Pt.locs, Pt.cells, Pt.slots] at X14 l14 y14 z14 st14 hQ14
  subst l14 y14 z14
  obtain ⟨rfl, rfl, e14⟩ := hQ14
  refine own_st (fun t k => st14.trans k) ?_
  have N14 := Fr.app N13 (Fr.nil n0)
  show OG p e _ s below _ T14 (mkF m 104 #[.val (.int p1), .val (.int p2), .val (.int p3), .val (.int p4), .val (.int p5), .val (.int (f1 p1)), .val (.int (f1 p2)), .val (.int (f1 p3)), .val (.int (g0_1 p1 p2 p3 p4 p5)), .val (.int (g0_2 p1 p2 p3 p4 p5)), .val (.int (g0_3 p1 p2 p3 p4 p5)), .val (.int (g0_4 p1 p2 p3 p4 p5)), .val (.ref o8), .unset, .unset, .unset, .unset] [(.int (f5 p4 (g0_1 p1 p2 p3 p4 p5) (g0_2 p1 p2 p3 p4 p5) (g0_3 p1 p2 p3 p4 p5) (g0_4 p1 p2 p3 p4 p5) (f1 p1)))])
  refine own_st (fun t k => XS.istore X14.here hx rfl (hb hby at_104) rfl (l' := #[.val (.int p1), .val (.int p2), .val (.int p3), .val (.int p4), .val (.int p5), .val (.int (f1 p1)), .val (.int (f1 p2)), .val (.int (f1 p3)), .val (.int (g0_1 p1 p2 p3 p4 p5)), .val (.int (g0_2 p1 p2 p3 p4 p5)), .val (.int (g0_3 p1 p2 p3 p4 p5)), .val (.int (g0_4 p1 p2 p3 p4 p5)), .val (.ref o8), .val (.int (g0_5 p1 p2 p3 p4 p5)), .unset, .unset, .unset]) rfl k) ?_
  show OG p e _ s below _ T14 (mkF m 106 #[.val (.int p1), .val (.int p2), .val (.int p3), .val (.int p4), .val (.int p5), .val (.int (f1 p1)), .val (.int (f1 p2)), .val (.int (f1 p3)), .val (.int (g0_1 p1 p2 p3 p4 p5)), .val (.int (g0_2 p1 p2 p3 p4 p5)), .val (.int (g0_3 p1 p2 p3 p4 p5)), .val (.int (g0_4 p1 p2 p3 p4 p5)), .val (.ref o8), .val (.int (g0_5 p1 p2 p3 p4 p5)), .unset, .unset, .unset] [])
  refine own_st (fun t k => XS.iload X14.here hx rfl (hb hby at_106) rfl k) ?_
  show OG p e _ s below _ T14 (mkF m 108 #[.val (.int p1), .val (.int p2), .val (.int p3), .val (.int p4), .val (.int p5), .val (.int (f1 p1)), .val (.int (f1 p2)), .val (.int (f1 p3)), .val (.int (g0_1 p1 p2 p3 p4 p5)), .val (.int (g0_2 p1 p2 p3 p4 p5)), .val (.int (g0_3 p1 p2 p3 p4 p5)), .val (.int (g0_4 p1 p2 p3 p4 p5)), .val (.ref o8), .val (.int (g0_5 p1 p2 p3 p4 p5)), .unset, .unset, .unset] [(.int (g0_1 p1 p2 p3 p4 p5))])
  by_cases c15 : (g0_1 p1 p2 p3 p4 p5) = (0 : Int32)
  · refine own_st (fun t k => XS.ifYes X14.here hx rfl (pc0 := 108) (pc' := 129) rfl (hb hby at_108) rfl (own_if0 (teq c15).1) (by decide) (by decide) k) ?_
    show OG p e _ s below _ T14 (mkF m 129 #[.val (.int p1), .val (.int p2), .val (.int p3), .val (.int p4), .val (.int p5), .val (.int (f1 p1)), .val (.int (f1 p2)), .val (.int (f1 p3)), .val (.int (g0_1 p1 p2 p3 p4 p5)), .val (.int (g0_2 p1 p2 p3 p4 p5)), .val (.int (g0_3 p1 p2 p3 p4 p5)), .val (.int (g0_4 p1 p2 p3 p4 p5)), .val (.ref o8), .val (.int (g0_5 p1 p2 p3 p4 p5)), .unset, .unset, .unset] [])
    refine own_st (fun t k => XS.iload X14.here hx rfl (hb hby at_129) rfl k) ?_
    show OG p e _ s below _ T14 (mkF m 131 #[.val (.int p1), .val (.int p2), .val (.int p3), .val (.int p4), .val (.int p5), .val (.int (f1 p1)), .val (.int (f1 p2)), .val (.int (f1 p3)), .val (.int (g0_1 p1 p2 p3 p4 p5)), .val (.int (g0_2 p1 p2 p3 p4 p5)), .val (.int (g0_3 p1 p2 p3 p4 p5)), .val (.int (g0_4 p1 p2 p3 p4 p5)), .val (.ref o8), .val (.int (g0_5 p1 p2 p3 p4 p5)), .unset, .unset, .unset] [(.int (g0_2 p1 p2 p3 p4 p5))])
    by_cases c16 : (g0_2 p1 p2 p3 p4 p5) = (0 : Int32)
    · refine own_st (fun t k => XS.ifYes X14.here hx rfl (pc0 := 131) (pc' := 140) rfl (hb hby at_131) rfl (own_if0 (teq c16).1) (by decide) (by decide) k) ?_
      show OG p e _ s below _ T14 (mkF m 140 #[.val (.int p1), .val (.int p2), .val (.int p3), .val (.int p4), .val (.int p5), .val (.int (f1 p1)), .val (.int (f1 p2)), .val (.int (f1 p3)), .val (.int (g0_1 p1 p2 p3 p4 p5)), .val (.int (g0_2 p1 p2 p3 p4 p5)), .val (.int (g0_3 p1 p2 p3 p4 p5)), .val (.int (g0_4 p1 p2 p3 p4 p5)), .val (.ref o8), .val (.int (g0_5 p1 p2 p3 p4 p5)), .unset, .unset, .unset] [])
      refine own_st (fun t k => XS.iload X14.here hx rfl (hb hby at_140) rfl k) ?_
      show OG p e _ s below _ T14 (mkF m 142 #[.val (.int p1), .val (.int p2), .val (.int p3), .val (.int p4), .val (.int p5), .val (.int (f1 p1)), .val (.int (f1 p2)), .val (.int (f1 p3)), .val (.int (g0_1 p1 p2 p3 p4 p5)), .val (.int (g0_2 p1 p2 p3 p4 p5)), .val (.int (g0_3 p1 p2 p3 p4 p5)), .val (.int (g0_4 p1 p2 p3 p4 p5)), .val (.ref o8), .val (.int (g0_5 p1 p2 p3 p4 p5)), .unset, .unset, .unset] [(.int (f1 p1))])
      refine own_st (fun t k => XS.i2l X14.here hx rfl (hb hby at_142) rfl k) ?_
      show OG p e _ s below _ T14 (mkF m 143 #[.val (.int p1), .val (.int p2), .val (.int p3), .val (.int p4), .val (.int p5), .val (.int (f1 p1)), .val (.int (f1 p2)), .val (.int (f1 p3)), .val (.int (g0_1 p1 p2 p3 p4 p5)), .val (.int (g0_2 p1 p2 p3 p4 p5)), .val (.int (g0_3 p1 p2 p3 p4 p5)), .val (.int (g0_4 p1 p2 p3 p4 p5)), .val (.ref o8), .val (.int (g0_5 p1 p2 p3 p4 p5)), .unset, .unset, .unset] [(.long ((f1 p1).toInt64))])
      refine own_st (fun t k => XS.iloadN X14.here hx rfl (hb hby at_143) rfl k) ?_
      show OG p e _ s below _ T14 (mkF m 144 #[.val (.int p1), .val (.int p2), .val (.int p3), .val (.int p4), .val (.int p5), .val (.int (f1 p1)), .val (.int (f1 p2)), .val (.int (f1 p3)), .val (.int (g0_1 p1 p2 p3 p4 p5)), .val (.int (g0_2 p1 p2 p3 p4 p5)), .val (.int (g0_3 p1 p2 p3 p4 p5)), .val (.int (g0_4 p1 p2 p3 p4 p5)), .val (.ref o8), .val (.int (g0_5 p1 p2 p3 p4 p5)), .unset, .unset, .unset] [(.int p4), (.long ((f1 p1).toInt64))])
      refine own_st (fun t k => XS.i2l X14.here hx rfl (hb hby at_144) rfl k) ?_
      show OG p e _ s below _ T14 (mkF m 145 #[.val (.int p1), .val (.int p2), .val (.int p3), .val (.int p4), .val (.int p5), .val (.int (f1 p1)), .val (.int (f1 p2)), .val (.int (f1 p3)), .val (.int (g0_1 p1 p2 p3 p4 p5)), .val (.int (g0_2 p1 p2 p3 p4 p5)), .val (.int (g0_3 p1 p2 p3 p4 p5)), .val (.int (g0_4 p1 p2 p3 p4 p5)), .val (.ref o8), .val (.int (g0_5 p1 p2 p3 p4 p5)), .unset, .unset, .unset] [(.long (p4.toInt64)), (.long ((f1 p1).toInt64))])
      refine own_st (fun t k => XS.lsub X14.here hx rfl (hb hby at_145) rfl k) ?_
      show OG p e _ s below _ T14 (mkF m 146 #[.val (.int p1), .val (.int p2), .val (.int p3), .val (.int p4), .val (.int p5), .val (.int (f1 p1)), .val (.int (f1 p2)), .val (.int (f1 p3)), .val (.int (g0_1 p1 p2 p3 p4 p5)), .val (.int (g0_2 p1 p2 p3 p4 p5)), .val (.int (g0_3 p1 p2 p3 p4 p5)), .val (.int (g0_4 p1 p2 p3 p4 p5)), .val (.ref o8), .val (.int (g0_5 p1 p2 p3 p4 p5)), .unset, .unset, .unset] [(.long (((f1 p1).toInt64) - (p4.toInt64)))])
      refine own_st (fun t k => XS.lstore X14.here hx rfl (hb hby at_146) rfl (l' := #[.val (.int p1), .val (.int p2), .val (.int p3), .val (.int p4), .val (.int p5), .val (.int (f1 p1)), .val (.int (f1 p2)), .val (.int (f1 p3)), .val (.int (g0_1 p1 p2 p3 p4 p5)), .val (.int (g0_2 p1 p2 p3 p4 p5)), .val (.int (g0_3 p1 p2 p3 p4 p5)), .val (.int (g0_4 p1 p2 p3 p4 p5)), .val (.ref o8), .val (.int (g0_5 p1 p2 p3 p4 p5)), .unset, .val (.long (((f1 p1).toInt64) - (p4.toInt64))), .second]) rfl k) ?_
      show OG p e _ s below _ T14 (mkF m 148 #[.val (.int p1), .val (.int p2), .val (.int p3), .val (.int p4), .val (.int p5), .val (.int (f1 p1)), .val (.int (f1 p2)), .val (.int (f1 p3)), .val (.int (g0_1 p1 p2 p3 p4 p5)), .val (.int (g0_2 p1 p2 p3 p4 p5)), .val (.int (g0_3 p1 p2 p3 p4 p5)), .val (.int (g0_4 p1 p2 p3 p4 p5)), .val (.ref o8), .val (.int (g0_5 p1 p2 p3 p4 p5)), .unset, .val (.long (((f1 p1).toInt64) - (p4.toInt64))), .second] [])
      refine own_st (fun t k => XS.lload X14.here hx rfl (hb hby at_148) rfl k) ?_
      show OG p e _ s below _ T14 (mkF m 150 #[.val (.int p1), .val (.int p2), .val (.int p3), .val (.int p4), .val (.int p5), .val (.int (f1 p1)), .val (.int (f1 p2)), .val (.int (f1 p3)), .val (.int (g0_1 p1 p2 p3 p4 p5)), .val (.int (g0_2 p1 p2 p3 p4 p5)), .val (.int (g0_3 p1 p2 p3 p4 p5)), .val (.int (g0_4 p1 p2 p3 p4 p5)), .val (.ref o8), .val (.int (g0_5 p1 p2 p3 p4 p5)), .unset, .val (.long (((f1 p1).toInt64) - (p4.toInt64))), .second] [(.long (((f1 p1).toInt64) - (p4.toInt64)))])
      refine own_st (fun t k => XS.lconst X14.here hx rfl (hb hby at_150) k) ?_
      show OG p e _ s below _ T14 (mkF m 151 #[.val (.int p1), .val (.int p2), .val (.int p3), .val (.int p4), .val (.int p5), .val (.int (f1 p1)), .val (.int (f1 p2)), .val (.int (f1 p3)), .val (.int (g0_1 p1 p2 p3 p4 p5)), .val (.int (g0_2 p1 p2 p3 p4 p5)), .val (.int (g0_3 p1 p2 p3 p4 p5)), .val (.int (g0_4 p1 p2 p3 p4 p5)), .val (.ref o8), .val (.int (g0_5 p1 p2 p3 p4 p5)), .unset, .val (.long (((f1 p1).toInt64) - (p4.toInt64))), .second] [(.long (0 : Int64)), (.long (((f1 p1).toInt64) - (p4.toInt64)))])
      refine own_st (fun t k => XS.lcmp X14.here hx rfl (hb hby at_151) rfl k) ?_
      show OG p e _ s below _ T14 (mkF m 152 #[.val (.int p1), .val (.int p2), .val (.int p3), .val (.int p4), .val (.int p5), .val (.int (f1 p1)), .val (.int (f1 p2)), .val (.int (f1 p3)), .val (.int (g0_1 p1 p2 p3 p4 p5)), .val (.int (g0_2 p1 p2 p3 p4 p5)), .val (.int (g0_3 p1 p2 p3 p4 p5)), .val (.int (g0_4 p1 p2 p3 p4 p5)), .val (.ref o8), .val (.int (g0_5 p1 p2 p3 p4 p5)), .unset, .val (.long (((f1 p1).toInt64) - (p4.toInt64))), .second] [(.int (lcmpW (((f1 p1).toInt64) - (p4.toInt64)) (0 : Int64)))])
      refine own_st (T' := T14) (g' := (mkF m 160 #[.val (.int p1), .val (.int p2), .val (.int p3), .val (.int p4), .val (.int p5), .val (.int (f1 p1)), .val (.int (f1 p2)), .val (.int (f1 p3)), .val (.int (g0_1 p1 p2 p3 p4 p5)), .val (.int (g0_2 p1 p2 p3 p4 p5)), .val (.int (g0_3 p1 p2 p3 p4 p5)), .val (.int (g0_4 p1 p2 p3 p4 p5)), .val (.ref o8), .val (.int (g0_5 p1 p2 p3 p4 p5)), .unset, .val (.long (((f1 p1).toInt64) - (p4.toInt64))), .second] [(.int (if (0 : Int64) < (((f1 p1).toInt64) - (p4.toInt64)) then (1 : Int32) else (0 : Int32)))])) (fun t k => ?_) ?_
      · by_cases c17 : (0 : Int64) < (((f1 p1).toInt64) - (p4.toInt64))
        · rw [if_pos c17] at k
          refine XS.ifNo X14.here hx rfl (hb hby at_152) rfl (own_if0 (tlt ((lw_gt _ _).mpr c17)).2.2.2) ?_
          show Steps p.tables e below (T14.setTop (mkF m 155 #[.val (.int p1), .val (.int p2), .val (.int p3), .val (.int p4), .val (.int p5), .val (.int (f1 p1)), .val (.int (f1 p2)), .val (.int (f1 p3)), .val (.int (g0_1 p1 p2 p3 p4 p5)), .val (.int (g0_2 p1 p2 p3 p4 p5)), .val (.int (g0_3 p1 p2 p3 p4 p5)), .val (.int (g0_4 p1 p2 p3 p4 p5)), .val (.ref o8), .val (.int (g0_5 p1 p2 p3 p4 p5)), .unset, .val (.long (((f1 p1).toInt64) - (p4.toInt64))), .second] [])) _
          refine XS.iconst X14.here hx rfl (hb hby at_155) ?_
          show Steps p.tables e below (T14.setTop (mkF m 156 #[.val (.int p1), .val (.int p2), .val (.int p3), .val (.int p4), .val (.int p5), .val (.int (f1 p1)), .val (.int (f1 p2)), .val (.int (f1 p3)), .val (.int (g0_1 p1 p2 p3 p4 p5)), .val (.int (g0_2 p1 p2 p3 p4 p5)), .val (.int (g0_3 p1 p2 p3 p4 p5)), .val (.int (g0_4 p1 p2 p3 p4 p5)), .val (.ref o8), .val (.int (g0_5 p1 p2 p3 p4 p5)), .unset, .val (.long (((f1 p1).toInt64) - (p4.toInt64))), .second] [(.int (1 : Int32))])) _
          refine XS.goto X14.here hx rfl (pc0 := 156) (pc' := 160) rfl (hb hby at_156) (by decide) (by decide) ?_
          exact k
        · rw [if_neg c17] at k
          refine XS.ifYes X14.here hx rfl (pc0 := 152) (pc' := 159) rfl (hb hby at_152) rfl (own_if0 (flt (fun q => c17 ((lw_gt _ _).mp q))).2.2.2) (by decide) (by decide) ?_
          show Steps p.tables e below (T14.setTop (mkF m 159 #[.val (.int p1), .val (.int p2), .val (.int p3), .val (.int p4), .val (.int p5), .val (.int (f1 p1)), .val (.int (f1 p2)), .val (.int (f1 p3)), .val (.int (g0_1 p1 p2 p3 p4 p5)), .val (.int (g0_2 p1 p2 p3 p4 p5)), .val (.int (g0_3 p1 p2 p3 p4 p5)), .val (.int (g0_4 p1 p2 p3 p4 p5)), .val (.ref o8), .val (.int (g0_5 p1 p2 p3 p4 p5)), .unset, .val (.long (((f1 p1).toInt64) - (p4.toInt64))), .second] [])) _
          refine XS.iconst X14.here hx rfl (hb hby at_159) ?_
          show Steps p.tables e below (T14.setTop (mkF m 160 #[.val (.int p1), .val (.int p2), .val (.int p3), .val (.int p4), .val (.int p5), .val (.int (f1 p1)), .val (.int (f1 p2)), .val (.int (f1 p3)), .val (.int (g0_1 p1 p2 p3 p4 p5)), .val (.int (g0_2 p1 p2 p3 p4 p5)), .val (.int (g0_3 p1 p2 p3 p4 p5)), .val (.int (g0_4 p1 p2 p3 p4 p5)), .val (.ref o8), .val (.int (g0_5 p1 p2 p3 p4 p5)), .unset, .val (.long (((f1 p1).toInt64) - (p4.toInt64))), .second] [(.int (0 : Int32))])) _
          exact k
      show OG p e _ s below _ T14 (mkF m 160 #[.val (.int p1), .val (.int p2), .val (.int p3), .val (.int p4), .val (.int p5), .val (.int (f1 p1)), .val (.int (f1 p2)), .val (.int (f1 p3)), .val (.int (g0_1 p1 p2 p3 p4 p5)), .val (.int (g0_2 p1 p2 p3 p4 p5)), .val (.int (g0_3 p1 p2 p3 p4 p5)), .val (.int (g0_4 p1 p2 p3 p4 p5)), .val (.ref o8), .val (.int (g0_5 p1 p2 p3 p4 p5)), .unset, .val (.long (((f1 p1).toInt64) - (p4.toInt64))), .second] [(.int (if (0 : Int64) < (((f1 p1).toInt64) - (p4.toInt64)) then (1 : Int32) else (0 : Int32)))])
      refine own_st (fun t k => XS.istore X14.here hx rfl (hb hby at_160) rfl (l' := #[.val (.int p1), .val (.int p2), .val (.int p3), .val (.int p4), .val (.int p5), .val (.int (f1 p1)), .val (.int (f1 p2)), .val (.int (f1 p3)), .val (.int (g0_1 p1 p2 p3 p4 p5)), .val (.int (g0_2 p1 p2 p3 p4 p5)), .val (.int (g0_3 p1 p2 p3 p4 p5)), .val (.int (g0_4 p1 p2 p3 p4 p5)), .val (.ref o8), .val (.int (g0_5 p1 p2 p3 p4 p5)), .val (.int (g0_6 p1 p2 p3 p4 p5)), .val (.long (((f1 p1).toInt64) - (p4.toInt64))), .second]) rfl k) ?_
      show OG p e _ s below _ T14 (mkF m 162 #[.val (.int p1), .val (.int p2), .val (.int p3), .val (.int p4), .val (.int p5), .val (.int (f1 p1)), .val (.int (f1 p2)), .val (.int (f1 p3)), .val (.int (g0_1 p1 p2 p3 p4 p5)), .val (.int (g0_2 p1 p2 p3 p4 p5)), .val (.int (g0_3 p1 p2 p3 p4 p5)), .val (.int (g0_4 p1 p2 p3 p4 p5)), .val (.ref o8), .val (.int (g0_5 p1 p2 p3 p4 p5)), .val (.int (g0_6 p1 p2 p3 p4 p5)), .val (.long (((f1 p1).toInt64) - (p4.toInt64))), .second] [])
      refine own_st (fun t k => XS.iload X14.here hx rfl (hb hby at_162) rfl k) ?_
      show OG p e _ s below _ T14 (mkF m 164 #[.val (.int p1), .val (.int p2), .val (.int p3), .val (.int p4), .val (.int p5), .val (.int (f1 p1)), .val (.int (f1 p2)), .val (.int (f1 p3)), .val (.int (g0_1 p1 p2 p3 p4 p5)), .val (.int (g0_2 p1 p2 p3 p4 p5)), .val (.int (g0_3 p1 p2 p3 p4 p5)), .val (.int (g0_4 p1 p2 p3 p4 p5)), .val (.ref o8), .val (.int (g0_5 p1 p2 p3 p4 p5)), .val (.int (g0_6 p1 p2 p3 p4 p5)), .val (.long (((f1 p1).toInt64) - (p4.toInt64))), .second] [(.int (g0_5 p1 p2 p3 p4 p5))])
      refine own_st (fun t k => XS.iload X14.here hx rfl (hb hby at_164) rfl k) ?_
      show OG p e _ s below _ T14 (mkF m 166 #[.val (.int p1), .val (.int p2), .val (.int p3), .val (.int p4), .val (.int p5), .val (.int (f1 p1)), .val (.int (f1 p2)), .val (.int (f1 p3)), .val (.int (g0_1 p1 p2 p3 p4 p5)), .val (.int (g0_2 p1 p2 p3 p4 p5)), .val (.int (g0_3 p1 p2 p3 p4 p5)), .val (.int (g0_4 p1 p2 p3 p4 p5)), .val (.ref o8), .val (.int (g0_5 p1 p2 p3 p4 p5)), .val (.int (g0_6 p1 p2 p3 p4 p5)), .val (.long (((f1 p1).toInt64) - (p4.toInt64))), .second] [(.int (g0_6 p1 p2 p3 p4 p5)), (.int (g0_5 p1 p2 p3 p4 p5))])
      by_cases c18 : (g0_5 p1 p2 p3 p4 p5) = (g0_6 p1 p2 p3 p4 p5)
      · refine own_st (fun t k => XS.icmpNo X14.here hx rfl (hb hby at_166) rfl (teq c18).2 k) ?_
        show OG p e _ s below _ T14 (mkF m 169 #[.val (.int p1), .val (.int p2), .val (.int p3), .val (.int p4), .val (.int p5), .val (.int (f1 p1)), .val (.int (f1 p2)), .val (.int (f1 p3)), .val (.int (g0_1 p1 p2 p3 p4 p5)), .val (.int (g0_2 p1 p2 p3 p4 p5)), .val (.int (g0_3 p1 p2 p3 p4 p5)), .val (.int (g0_4 p1 p2 p3 p4 p5)), .val (.ref o8), .val (.int (g0_5 p1 p2 p3 p4 p5)), .val (.int (g0_6 p1 p2 p3 p4 p5)), .val (.long (((f1 p1).toInt64) - (p4.toInt64))), .second] [])
        refine own_st (fun t k => XS.iconst X14.here hx rfl (hb hby at_169) k) ?_
        show OG p e _ s below _ T14 (mkF m 170 #[.val (.int p1), .val (.int p2), .val (.int p3), .val (.int p4), .val (.int p5), .val (.int (f1 p1)), .val (.int (f1 p2)), .val (.int (f1 p3)), .val (.int (g0_1 p1 p2 p3 p4 p5)), .val (.int (g0_2 p1 p2 p3 p4 p5)), .val (.int (g0_3 p1 p2 p3 p4 p5)), .val (.int (g0_4 p1 p2 p3 p4 p5)), .val (.ref o8), .val (.int (g0_5 p1 p2 p3 p4 p5)), .val (.int (g0_6 p1 p2 p3 p4 p5)), .val (.long (((f1 p1).toInt64) - (p4.toInt64))), .second] [(.int (1 : Int32))])
        refine own_st (fun t k => XS.goto X14.here hx rfl (pc0 := 170) (pc' := 174) rfl (hb hby at_170) (by decide) (by decide) k) ?_
        show OG p e _ s below _ T14 (mkF m 174 #[.val (.int p1), .val (.int p2), .val (.int p3), .val (.int p4), .val (.int p5), .val (.int (f1 p1)), .val (.int (f1 p2)), .val (.int (f1 p3)), .val (.int (g0_1 p1 p2 p3 p4 p5)), .val (.int (g0_2 p1 p2 p3 p4 p5)), .val (.int (g0_3 p1 p2 p3 p4 p5)), .val (.int (g0_4 p1 p2 p3 p4 p5)), .val (.ref o8), .val (.int (g0_5 p1 p2 p3 p4 p5)), .val (.int (g0_6 p1 p2 p3 p4 p5)), .val (.long (((f1 p1).toInt64) - (p4.toInt64))), .second] [(.int (1 : Int32))])
        refine own_retZ X14 hx (t := .boolean) hret (by simp) hlk (hb hby at_174) (by decide) (by decide) (w := (1 : Int32)) rfl ?_
        exact ⟨congrArg (fun z => some (Value.int z)) (show f0 p1 p2 p3 p4 p5 = (1 : Int32) from (by rw [f0, if_pos c15, if_pos c16, if_pos c18])).symm, N14⟩
      · refine own_st (fun t k => XS.icmpYes X14.here hx rfl (pc0 := 166) (pc' := 173) rfl (hb hby at_166) rfl (feq c18).2 (by decide) (by decide) k) ?_
        show OG p e _ s below _ T14 (mkF m 173 #[.val (.int p1), .val (.int p2), .val (.int p3), .val (.int p4), .val (.int p5), .val (.int (f1 p1)), .val (.int (f1 p2)), .val (.int (f1 p3)), .val (.int (g0_1 p1 p2 p3 p4 p5)), .val (.int (g0_2 p1 p2 p3 p4 p5)), .val (.int (g0_3 p1 p2 p3 p4 p5)), .val (.int (g0_4 p1 p2 p3 p4 p5)), .val (.ref o8), .val (.int (g0_5 p1 p2 p3 p4 p5)), .val (.int (g0_6 p1 p2 p3 p4 p5)), .val (.long (((f1 p1).toInt64) - (p4.toInt64))), .second] [])
        refine own_st (fun t k => XS.iconst X14.here hx rfl (hb hby at_173) k) ?_
        show OG p e _ s below _ T14 (mkF m 174 #[.val (.int p1), .val (.int p2), .val (.int p3), .val (.int p4), .val (.int p5), .val (.int (f1 p1)), .val (.int (f1 p2)), .val (.int (f1 p3)), .val (.int (g0_1 p1 p2 p3 p4 p5)), .val (.int (g0_2 p1 p2 p3 p4 p5)), .val (.int (g0_3 p1 p2 p3 p4 p5)), .val (.int (g0_4 p1 p2 p3 p4 p5)), .val (.ref o8), .val (.int (g0_5 p1 p2 p3 p4 p5)), .val (.int (g0_6 p1 p2 p3 p4 p5)), .val (.long (((f1 p1).toInt64) - (p4.toInt64))), .second] [(.int (0 : Int32))])
        refine own_retZ X14 hx (t := .boolean) hret (by simp) hlk (hb hby at_174) (by decide) (by decide) (w := (0 : Int32)) rfl ?_
        exact ⟨congrArg (fun z => some (Value.int z)) (show f0 p1 p2 p3 p4 p5 = (0 : Int32) from (by rw [f0, if_pos c15, if_pos c16, if_neg c18])).symm, N14⟩
    · refine own_st (fun t k => XS.ifNo X14.here hx rfl (hb hby at_131) rfl (own_if0 (feq c16).1) k) ?_
      show OG p e _ s below _ T14 (mkF m 134 #[.val (.int p1), .val (.int p2), .val (.int p3), .val (.int p4), .val (.int p5), .val (.int (f1 p1)), .val (.int (f1 p2)), .val (.int (f1 p3)), .val (.int (g0_1 p1 p2 p3 p4 p5)), .val (.int (g0_2 p1 p2 p3 p4 p5)), .val (.int (g0_3 p1 p2 p3 p4 p5)), .val (.int (g0_4 p1 p2 p3 p4 p5)), .val (.ref o8), .val (.int (g0_5 p1 p2 p3 p4 p5)), .unset, .unset, .unset] [])
      refine own_st (fun t k => XS.iconst X14.here hx rfl (hb hby at_134) k) ?_
      show OG p e _ s below _ T14 (mkF m 135 #[.val (.int p1), .val (.int p2), .val (.int p3), .val (.int p4), .val (.int p5), .val (.int (f1 p1)), .val (.int (f1 p2)), .val (.int (f1 p3)), .val (.int (g0_1 p1 p2 p3 p4 p5)), .val (.int (g0_2 p1 p2 p3 p4 p5)), .val (.int (g0_3 p1 p2 p3 p4 p5)), .val (.int (g0_4 p1 p2 p3 p4 p5)), .val (.ref o8), .val (.int (g0_5 p1 p2 p3 p4 p5)), .unset, .unset, .unset] [(.int (1 : Int32))])
      refine own_st (fun t k => XS.istore X14.here hx rfl (hb hby at_135) rfl (l' := #[.val (.int p1), .val (.int p2), .val (.int p3), .val (.int p4), .val (.int p5), .val (.int (f1 p1)), .val (.int (f1 p2)), .val (.int (f1 p3)), .val (.int (g0_1 p1 p2 p3 p4 p5)), .val (.int (g0_2 p1 p2 p3 p4 p5)), .val (.int (g0_3 p1 p2 p3 p4 p5)), .val (.int (g0_4 p1 p2 p3 p4 p5)), .val (.ref o8), .val (.int (g0_5 p1 p2 p3 p4 p5)), .val (.int (1 : Int32)), .unset, .unset]) rfl k) ?_
      show OG p e _ s below _ T14 (mkF m 137 #[.val (.int p1), .val (.int p2), .val (.int p3), .val (.int p4), .val (.int p5), .val (.int (f1 p1)), .val (.int (f1 p2)), .val (.int (f1 p3)), .val (.int (g0_1 p1 p2 p3 p4 p5)), .val (.int (g0_2 p1 p2 p3 p4 p5)), .val (.int (g0_3 p1 p2 p3 p4 p5)), .val (.int (g0_4 p1 p2 p3 p4 p5)), .val (.ref o8), .val (.int (g0_5 p1 p2 p3 p4 p5)), .val (.int (1 : Int32)), .unset, .unset] [])
      refine own_st (fun t k => XS.goto X14.here hx rfl (pc0 := 137) (pc' := 162) rfl (hb hby at_137) (by decide) (by decide) k) ?_
      show OG p e _ s below _ T14 (mkF m 162 #[.val (.int p1), .val (.int p2), .val (.int p3), .val (.int p4), .val (.int p5), .val (.int (f1 p1)), .val (.int (f1 p2)), .val (.int (f1 p3)), .val (.int (g0_1 p1 p2 p3 p4 p5)), .val (.int (g0_2 p1 p2 p3 p4 p5)), .val (.int (g0_3 p1 p2 p3 p4 p5)), .val (.int (g0_4 p1 p2 p3 p4 p5)), .val (.ref o8), .val (.int (g0_5 p1 p2 p3 p4 p5)), .val (.int (1 : Int32)), .unset, .unset] [])
      refine own_st (fun t k => XS.iload X14.here hx rfl (hb hby at_162) rfl k) ?_
      show OG p e _ s below _ T14 (mkF m 164 #[.val (.int p1), .val (.int p2), .val (.int p3), .val (.int p4), .val (.int p5), .val (.int (f1 p1)), .val (.int (f1 p2)), .val (.int (f1 p3)), .val (.int (g0_1 p1 p2 p3 p4 p5)), .val (.int (g0_2 p1 p2 p3 p4 p5)), .val (.int (g0_3 p1 p2 p3 p4 p5)), .val (.int (g0_4 p1 p2 p3 p4 p5)), .val (.ref o8), .val (.int (g0_5 p1 p2 p3 p4 p5)), .val (.int (1 : Int32)), .unset, .unset] [(.int (g0_5 p1 p2 p3 p4 p5))])
      refine own_st (fun t k => XS.iload X14.here hx rfl (hb hby at_164) rfl k) ?_
      show OG p e _ s below _ T14 (mkF m 166 #[.val (.int p1), .val (.int p2), .val (.int p3), .val (.int p4), .val (.int p5), .val (.int (f1 p1)), .val (.int (f1 p2)), .val (.int (f1 p3)), .val (.int (g0_1 p1 p2 p3 p4 p5)), .val (.int (g0_2 p1 p2 p3 p4 p5)), .val (.int (g0_3 p1 p2 p3 p4 p5)), .val (.int (g0_4 p1 p2 p3 p4 p5)), .val (.ref o8), .val (.int (g0_5 p1 p2 p3 p4 p5)), .val (.int (1 : Int32)), .unset, .unset] [(.int (1 : Int32)), (.int (g0_5 p1 p2 p3 p4 p5))])
      by_cases c19 : (g0_5 p1 p2 p3 p4 p5) = (1 : Int32)
      · refine own_st (fun t k => XS.icmpNo X14.here hx rfl (hb hby at_166) rfl (teq c19).2 k) ?_
        show OG p e _ s below _ T14 (mkF m 169 #[.val (.int p1), .val (.int p2), .val (.int p3), .val (.int p4), .val (.int p5), .val (.int (f1 p1)), .val (.int (f1 p2)), .val (.int (f1 p3)), .val (.int (g0_1 p1 p2 p3 p4 p5)), .val (.int (g0_2 p1 p2 p3 p4 p5)), .val (.int (g0_3 p1 p2 p3 p4 p5)), .val (.int (g0_4 p1 p2 p3 p4 p5)), .val (.ref o8), .val (.int (g0_5 p1 p2 p3 p4 p5)), .val (.int (1 : Int32)), .unset, .unset] [])
        refine own_st (fun t k => XS.iconst X14.here hx rfl (hb hby at_169) k) ?_
        show OG p e _ s below _ T14 (mkF m 170 #[.val (.int p1), .val (.int p2), .val (.int p3), .val (.int p4), .val (.int p5), .val (.int (f1 p1)), .val (.int (f1 p2)), .val (.int (f1 p3)), .val (.int (g0_1 p1 p2 p3 p4 p5)), .val (.int (g0_2 p1 p2 p3 p4 p5)), .val (.int (g0_3 p1 p2 p3 p4 p5)), .val (.int (g0_4 p1 p2 p3 p4 p5)), .val (.ref o8), .val (.int (g0_5 p1 p2 p3 p4 p5)), .val (.int (1 : Int32)), .unset, .unset] [(.int (1 : Int32))])
        refine own_st (fun t k => XS.goto X14.here hx rfl (pc0 := 170) (pc' := 174) rfl (hb hby at_170) (by decide) (by decide) k) ?_
        show OG p e _ s below _ T14 (mkF m 174 #[.val (.int p1), .val (.int p2), .val (.int p3), .val (.int p4), .val (.int p5), .val (.int (f1 p1)), .val (.int (f1 p2)), .val (.int (f1 p3)), .val (.int (g0_1 p1 p2 p3 p4 p5)), .val (.int (g0_2 p1 p2 p3 p4 p5)), .val (.int (g0_3 p1 p2 p3 p4 p5)), .val (.int (g0_4 p1 p2 p3 p4 p5)), .val (.ref o8), .val (.int (g0_5 p1 p2 p3 p4 p5)), .val (.int (1 : Int32)), .unset, .unset] [(.int (1 : Int32))])
        refine own_retZ X14 hx (t := .boolean) hret (by simp) hlk (hb hby at_174) (by decide) (by decide) (w := (1 : Int32)) rfl ?_
        exact ⟨congrArg (fun z => some (Value.int z)) (show f0 p1 p2 p3 p4 p5 = (1 : Int32) from (by rw [f0, if_pos c15, if_neg c16, if_pos c19])).symm, N14⟩
      · refine own_st (fun t k => XS.icmpYes X14.here hx rfl (pc0 := 166) (pc' := 173) rfl (hb hby at_166) rfl (feq c19).2 (by decide) (by decide) k) ?_
        show OG p e _ s below _ T14 (mkF m 173 #[.val (.int p1), .val (.int p2), .val (.int p3), .val (.int p4), .val (.int p5), .val (.int (f1 p1)), .val (.int (f1 p2)), .val (.int (f1 p3)), .val (.int (g0_1 p1 p2 p3 p4 p5)), .val (.int (g0_2 p1 p2 p3 p4 p5)), .val (.int (g0_3 p1 p2 p3 p4 p5)), .val (.int (g0_4 p1 p2 p3 p4 p5)), .val (.ref o8), .val (.int (g0_5 p1 p2 p3 p4 p5)), .val (.int (1 : Int32)), .unset, .unset] [])
        refine own_st (fun t k => XS.iconst X14.here hx rfl (hb hby at_173) k) ?_
        show OG p e _ s below _ T14 (mkF m 174 #[.val (.int p1), .val (.int p2), .val (.int p3), .val (.int p4), .val (.int p5), .val (.int (f1 p1)), .val (.int (f1 p2)), .val (.int (f1 p3)), .val (.int (g0_1 p1 p2 p3 p4 p5)), .val (.int (g0_2 p1 p2 p3 p4 p5)), .val (.int (g0_3 p1 p2 p3 p4 p5)), .val (.int (g0_4 p1 p2 p3 p4 p5)), .val (.ref o8), .val (.int (g0_5 p1 p2 p3 p4 p5)), .val (.int (1 : Int32)), .unset, .unset] [(.int (0 : Int32))])
        refine own_retZ X14 hx (t := .boolean) hret (by simp) hlk (hb hby at_174) (by decide) (by decide) (w := (0 : Int32)) rfl ?_
        exact ⟨congrArg (fun z => some (Value.int z)) (show f0 p1 p2 p3 p4 p5 = (0 : Int32) from (by rw [f0, if_pos c15, if_neg c16, if_neg c19])).symm, N14⟩
  · refine own_st (fun t k => XS.ifNo X14.here hx rfl (hb hby at_108) rfl (own_if0 (feq c15).1) k) ?_
    show OG p e _ s below _ T14 (mkF m 111 #[.val (.int p1), .val (.int p2), .val (.int p3), .val (.int p4), .val (.int p5), .val (.int (f1 p1)), .val (.int (f1 p2)), .val (.int (f1 p3)), .val (.int (g0_1 p1 p2 p3 p4 p5)), .val (.int (g0_2 p1 p2 p3 p4 p5)), .val (.int (g0_3 p1 p2 p3 p4 p5)), .val (.int (g0_4 p1 p2 p3 p4 p5)), .val (.ref o8), .val (.int (g0_5 p1 p2 p3 p4 p5)), .unset, .unset, .unset] [])
    refine own_st (fun t k => XS.iload X14.here hx rfl (hb hby at_111) rfl k) ?_
    show OG p e _ s below _ T14 (mkF m 113 #[.val (.int p1), .val (.int p2), .val (.int p3), .val (.int p4), .val (.int p5), .val (.int (f1 p1)), .val (.int (f1 p2)), .val (.int (f1 p3)), .val (.int (g0_1 p1 p2 p3 p4 p5)), .val (.int (g0_2 p1 p2 p3 p4 p5)), .val (.int (g0_3 p1 p2 p3 p4 p5)), .val (.int (g0_4 p1 p2 p3 p4 p5)), .val (.ref o8), .val (.int (g0_5 p1 p2 p3 p4 p5)), .unset, .unset, .unset] [(.int (g0_3 p1 p2 p3 p4 p5))])
    by_cases c20 : (g0_3 p1 p2 p3 p4 p5) = (0 : Int32)
    · refine own_st (fun t k => XS.ifYes X14.here hx rfl (pc0 := 113) (pc' := 123) rfl (hb hby at_113) rfl (own_if0 (teq c20).1) (by decide) (by decide) k) ?_
      show OG p e _ s below _ T14 (mkF m 123 #[.val (.int p1), .val (.int p2), .val (.int p3), .val (.int p4), .val (.int p5), .val (.int (f1 p1)), .val (.int (f1 p2)), .val (.int (f1 p3)), .val (.int (g0_1 p1 p2 p3 p4 p5)), .val (.int (g0_2 p1 p2 p3 p4 p5)), .val (.int (g0_3 p1 p2 p3 p4 p5)), .val (.int (g0_4 p1 p2 p3 p4 p5)), .val (.ref o8), .val (.int (g0_5 p1 p2 p3 p4 p5)), .unset, .unset, .unset] [])
      refine own_st (fun t k => XS.iconst X14.here hx rfl (hb hby at_123) k) ?_
      show OG p e _ s below _ T14 (mkF m 124 #[.val (.int p1), .val (.int p2), .val (.int p3), .val (.int p4), .val (.int p5), .val (.int (f1 p1)), .val (.int (f1 p2)), .val (.int (f1 p3)), .val (.int (g0_1 p1 p2 p3 p4 p5)), .val (.int (g0_2 p1 p2 p3 p4 p5)), .val (.int (g0_3 p1 p2 p3 p4 p5)), .val (.int (g0_4 p1 p2 p3 p4 p5)), .val (.ref o8), .val (.int (g0_5 p1 p2 p3 p4 p5)), .unset, .unset, .unset] [(.int (1 : Int32))])
      refine own_st (fun t k => XS.istore X14.here hx rfl (hb hby at_124) rfl (l' := #[.val (.int p1), .val (.int p2), .val (.int p3), .val (.int p4), .val (.int p5), .val (.int (f1 p1)), .val (.int (f1 p2)), .val (.int (f1 p3)), .val (.int (g0_1 p1 p2 p3 p4 p5)), .val (.int (g0_2 p1 p2 p3 p4 p5)), .val (.int (g0_3 p1 p2 p3 p4 p5)), .val (.int (g0_4 p1 p2 p3 p4 p5)), .val (.ref o8), .val (.int (g0_5 p1 p2 p3 p4 p5)), .val (.int (1 : Int32)), .unset, .unset]) rfl k) ?_
      show OG p e _ s below _ T14 (mkF m 126 #[.val (.int p1), .val (.int p2), .val (.int p3), .val (.int p4), .val (.int p5), .val (.int (f1 p1)), .val (.int (f1 p2)), .val (.int (f1 p3)), .val (.int (g0_1 p1 p2 p3 p4 p5)), .val (.int (g0_2 p1 p2 p3 p4 p5)), .val (.int (g0_3 p1 p2 p3 p4 p5)), .val (.int (g0_4 p1 p2 p3 p4 p5)), .val (.ref o8), .val (.int (g0_5 p1 p2 p3 p4 p5)), .val (.int (1 : Int32)), .unset, .unset] [])
      refine own_st (fun t k => XS.goto X14.here hx rfl (pc0 := 126) (pc' := 162) rfl (hb hby at_126) (by decide) (by decide) k) ?_
      show OG p e _ s below _ T14 (mkF m 162 #[.val (.int p1), .val (.int p2), .val (.int p3), .val (.int p4), .val (.int p5), .val (.int (f1 p1)), .val (.int (f1 p2)), .val (.int (f1 p3)), .val (.int (g0_1 p1 p2 p3 p4 p5)), .val (.int (g0_2 p1 p2 p3 p4 p5)), .val (.int (g0_3 p1 p2 p3 p4 p5)), .val (.int (g0_4 p1 p2 p3 p4 p5)), .val (.ref o8), .val (.int (g0_5 p1 p2 p3 p4 p5)), .val (.int (1 : Int32)), .unset, .unset] [])
      refine own_st (fun t k => XS.iload X14.here hx rfl (hb hby at_162) rfl k) ?_
      show OG p e _ s below _ T14 (mkF m 164 #[.val (.int p1), .val (.int p2), .val (.int p3), .val (.int p4), .val (.int p5), .val (.int (f1 p1)), .val (.int (f1 p2)), .val (.int (f1 p3)), .val (.int (g0_1 p1 p2 p3 p4 p5)), .val (.int (g0_2 p1 p2 p3 p4 p5)), .val (.int (g0_3 p1 p2 p3 p4 p5)), .val (.int (g0_4 p1 p2 p3 p4 p5)), .val (.ref o8), .val (.int (g0_5 p1 p2 p3 p4 p5)), .val (.int (1 : Int32)), .unset, .unset] [(.int (g0_5 p1 p2 p3 p4 p5))])
      refine own_st (fun t k => XS.iload X14.here hx rfl (hb hby at_164) rfl k) ?_
      show OG p e _ s below _ T14 (mkF m 166 #[.val (.int p1), .val (.int p2), .val (.int p3), .val (.int p4), .val (.int p5), .val (.int (f1 p1)), .val (.int (f1 p2)), .val (.int (f1 p3)), .val (.int (g0_1 p1 p2 p3 p4 p5)), .val (.int (g0_2 p1 p2 p3 p4 p5)), .val (.int (g0_3 p1 p2 p3 p4 p5)), .val (.int (g0_4 p1 p2 p3 p4 p5)), .val (.ref o8), .val (.int (g0_5 p1 p2 p3 p4 p5)), .val (.int (1 : Int32)), .unset, .unset] [(.int (1 : Int32)), (.int (g0_5 p1 p2 p3 p4 p5))])
      by_cases c21 : (g0_5 p1 p2 p3 p4 p5) = (1 : Int32)
      · refine own_st (fun t k => XS.icmpNo X14.here hx rfl (hb hby at_166) rfl (teq c21).2 k) ?_
        show OG p e _ s below _ T14 (mkF m 169 #[.val (.int p1), .val (.int p2), .val (.int p3), .val (.int p4), .val (.int p5), .val (.int (f1 p1)), .val (.int (f1 p2)), .val (.int (f1 p3)), .val (.int (g0_1 p1 p2 p3 p4 p5)), .val (.int (g0_2 p1 p2 p3 p4 p5)), .val (.int (g0_3 p1 p2 p3 p4 p5)), .val (.int (g0_4 p1 p2 p3 p4 p5)), .val (.ref o8), .val (.int (g0_5 p1 p2 p3 p4 p5)), .val (.int (1 : Int32)), .unset, .unset] [])
        refine own_st (fun t k => XS.iconst X14.here hx rfl (hb hby at_169) k) ?_
        show OG p e _ s below _ T14 (mkF m 170 #[.val (.int p1), .val (.int p2), .val (.int p3), .val (.int p4), .val (.int p5), .val (.int (f1 p1)), .val (.int (f1 p2)), .val (.int (f1 p3)), .val (.int (g0_1 p1 p2 p3 p4 p5)), .val (.int (g0_2 p1 p2 p3 p4 p5)), .val (.int (g0_3 p1 p2 p3 p4 p5)), .val (.int (g0_4 p1 p2 p3 p4 p5)), .val (.ref o8), .val (.int (g0_5 p1 p2 p3 p4 p5)), .val (.int (1 : Int32)), .unset, .unset] [(.int (1 : Int32))])
        refine own_st (fun t k => XS.goto X14.here hx rfl (pc0 := 170) (pc' := 174) rfl (hb hby at_170) (by decide) (by decide) k) ?_
        show OG p e _ s below _ T14 (mkF m 174 #[.val (.int p1), .val (.int p2), .val (.int p3), .val (.int p4), .val (.int p5), .val (.int (f1 p1)), .val (.int (f1 p2)), .val (.int (f1 p3)), .val (.int (g0_1 p1 p2 p3 p4 p5)), .val (.int (g0_2 p1 p2 p3 p4 p5)), .val (.int (g0_3 p1 p2 p3 p4 p5)), .val (.int (g0_4 p1 p2 p3 p4 p5)), .val (.ref o8), .val (.int (g0_5 p1 p2 p3 p4 p5)), .val (.int (1 : Int32)), .unset, .unset] [(.int (1 : Int32))])
        refine own_retZ X14 hx (t := .boolean) hret (by simp) hlk (hb hby at_174) (by decide) (by decide) (w := (1 : Int32)) rfl ?_
        exact ⟨congrArg (fun z => some (Value.int z)) (show f0 p1 p2 p3 p4 p5 = (1 : Int32) from (by rw [f0, if_neg c15, if_pos c20, if_pos c21])).symm, N14⟩
      · refine own_st (fun t k => XS.icmpYes X14.here hx rfl (pc0 := 166) (pc' := 173) rfl (hb hby at_166) rfl (feq c21).2 (by decide) (by decide) k) ?_
        show OG p e _ s below _ T14 (mkF m 173 #[.val (.int p1), .val (.int p2), .val (.int p3), .val (.int p4), .val (.int p5), .val (.int (f1 p1)), .val (.int (f1 p2)), .val (.int (f1 p3)), .val (.int (g0_1 p1 p2 p3 p4 p5)), .val (.int (g0_2 p1 p2 p3 p4 p5)), .val (.int (g0_3 p1 p2 p3 p4 p5)), .val (.int (g0_4 p1 p2 p3 p4 p5)), .val (.ref o8), .val (.int (g0_5 p1 p2 p3 p4 p5)), .val (.int (1 : Int32)), .unset, .unset] [])
        refine own_st (fun t k => XS.iconst X14.here hx rfl (hb hby at_173) k) ?_
        show OG p e _ s below _ T14 (mkF m 174 #[.val (.int p1), .val (.int p2), .val (.int p3), .val (.int p4), .val (.int p5), .val (.int (f1 p1)), .val (.int (f1 p2)), .val (.int (f1 p3)), .val (.int (g0_1 p1 p2 p3 p4 p5)), .val (.int (g0_2 p1 p2 p3 p4 p5)), .val (.int (g0_3 p1 p2 p3 p4 p5)), .val (.int (g0_4 p1 p2 p3 p4 p5)), .val (.ref o8), .val (.int (g0_5 p1 p2 p3 p4 p5)), .val (.int (1 : Int32)), .unset, .unset] [(.int (0 : Int32))])
        refine own_retZ X14 hx (t := .boolean) hret (by simp) hlk (hb hby at_174) (by decide) (by decide) (w := (0 : Int32)) rfl ?_
        exact ⟨congrArg (fun z => some (Value.int z)) (show f0 p1 p2 p3 p4 p5 = (0 : Int32) from (by rw [f0, if_neg c15, if_pos c20, if_neg c21])).symm, N14⟩
    · refine own_st (fun t k => XS.ifNo X14.here hx rfl (hb hby at_113) rfl (own_if0 (feq c20).1) k) ?_
      show OG p e _ s below _ T14 (mkF m 116 #[.val (.int p1), .val (.int p2), .val (.int p3), .val (.int p4), .val (.int p5), .val (.int (f1 p1)), .val (.int (f1 p2)), .val (.int (f1 p3)), .val (.int (g0_1 p1 p2 p3 p4 p5)), .val (.int (g0_2 p1 p2 p3 p4 p5)), .val (.int (g0_3 p1 p2 p3 p4 p5)), .val (.int (g0_4 p1 p2 p3 p4 p5)), .val (.ref o8), .val (.int (g0_5 p1 p2 p3 p4 p5)), .unset, .unset, .unset] [])
      refine own_st (fun t k => XS.iload X14.here hx rfl (hb hby at_116) rfl k) ?_
      show OG p e _ s below _ T14 (mkF m 118 #[.val (.int p1), .val (.int p2), .val (.int p3), .val (.int p4), .val (.int p5), .val (.int (f1 p1)), .val (.int (f1 p2)), .val (.int (f1 p3)), .val (.int (g0_1 p1 p2 p3 p4 p5)), .val (.int (g0_2 p1 p2 p3 p4 p5)), .val (.int (g0_3 p1 p2 p3 p4 p5)), .val (.int (g0_4 p1 p2 p3 p4 p5)), .val (.ref o8), .val (.int (g0_5 p1 p2 p3 p4 p5)), .unset, .unset, .unset] [(.int (g0_4 p1 p2 p3 p4 p5))])
      refine own_st (fun t k => XS.istore X14.here hx rfl (hb hby at_118) rfl (l' := #[.val (.int p1), .val (.int p2), .val (.int p3), .val (.int p4), .val (.int p5), .val (.int (f1 p1)), .val (.int (f1 p2)), .val (.int (f1 p3)), .val (.int (g0_1 p1 p2 p3 p4 p5)), .val (.int (g0_2 p1 p2 p3 p4 p5)), .val (.int (g0_3 p1 p2 p3 p4 p5)), .val (.int (g0_4 p1 p2 p3 p4 p5)), .val (.ref o8), .val (.int (g0_5 p1 p2 p3 p4 p5)), .val (.int (g0_4 p1 p2 p3 p4 p5)), .unset, .unset]) rfl k) ?_
      show OG p e _ s below _ T14 (mkF m 120 #[.val (.int p1), .val (.int p2), .val (.int p3), .val (.int p4), .val (.int p5), .val (.int (f1 p1)), .val (.int (f1 p2)), .val (.int (f1 p3)), .val (.int (g0_1 p1 p2 p3 p4 p5)), .val (.int (g0_2 p1 p2 p3 p4 p5)), .val (.int (g0_3 p1 p2 p3 p4 p5)), .val (.int (g0_4 p1 p2 p3 p4 p5)), .val (.ref o8), .val (.int (g0_5 p1 p2 p3 p4 p5)), .val (.int (g0_4 p1 p2 p3 p4 p5)), .unset, .unset] [])
      refine own_st (fun t k => XS.goto X14.here hx rfl (pc0 := 120) (pc' := 162) rfl (hb hby at_120) (by decide) (by decide) k) ?_
      show OG p e _ s below _ T14 (mkF m 162 #[.val (.int p1), .val (.int p2), .val (.int p3), .val (.int p4), .val (.int p5), .val (.int (f1 p1)), .val (.int (f1 p2)), .val (.int (f1 p3)), .val (.int (g0_1 p1 p2 p3 p4 p5)), .val (.int (g0_2 p1 p2 p3 p4 p5)), .val (.int (g0_3 p1 p2 p3 p4 p5)), .val (.int (g0_4 p1 p2 p3 p4 p5)), .val (.ref o8), .val (.int (g0_5 p1 p2 p3 p4 p5)), .val (.int (g0_4 p1 p2 p3 p4 p5)), .unset, .unset] [])
      refine own_st (fun t k => XS.iload X14.here hx rfl (hb hby at_162) rfl k) ?_
      show OG p e _ s below _ T14 (mkF m 164 #[.val (.int p1), .val (.int p2), .val (.int p3), .val (.int p4), .val (.int p5), .val (.int (f1 p1)), .val (.int (f1 p2)), .val (.int (f1 p3)), .val (.int (g0_1 p1 p2 p3 p4 p5)), .val (.int (g0_2 p1 p2 p3 p4 p5)), .val (.int (g0_3 p1 p2 p3 p4 p5)), .val (.int (g0_4 p1 p2 p3 p4 p5)), .val (.ref o8), .val (.int (g0_5 p1 p2 p3 p4 p5)), .val (.int (g0_4 p1 p2 p3 p4 p5)), .unset, .unset] [(.int (g0_5 p1 p2 p3 p4 p5))])
      refine own_st (fun t k => XS.iload X14.here hx rfl (hb hby at_164) rfl k) ?_
      show OG p e _ s below _ T14 (mkF m 166 #[.val (.int p1), .val (.int p2), .val (.int p3), .val (.int p4), .val (.int p5), .val (.int (f1 p1)), .val (.int (f1 p2)), .val (.int (f1 p3)), .val (.int (g0_1 p1 p2 p3 p4 p5)), .val (.int (g0_2 p1 p2 p3 p4 p5)), .val (.int (g0_3 p1 p2 p3 p4 p5)), .val (.int (g0_4 p1 p2 p3 p4 p5)), .val (.ref o8), .val (.int (g0_5 p1 p2 p3 p4 p5)), .val (.int (g0_4 p1 p2 p3 p4 p5)), .unset, .unset] [(.int (g0_4 p1 p2 p3 p4 p5)), (.int (g0_5 p1 p2 p3 p4 p5))])
      by_cases c22 : (g0_5 p1 p2 p3 p4 p5) = (g0_4 p1 p2 p3 p4 p5)
      · refine own_st (fun t k => XS.icmpNo X14.here hx rfl (hb hby at_166) rfl (teq c22).2 k) ?_
        show OG p e _ s below _ T14 (mkF m 169 #[.val (.int p1), .val (.int p2), .val (.int p3), .val (.int p4), .val (.int p5), .val (.int (f1 p1)), .val (.int (f1 p2)), .val (.int (f1 p3)), .val (.int (g0_1 p1 p2 p3 p4 p5)), .val (.int (g0_2 p1 p2 p3 p4 p5)), .val (.int (g0_3 p1 p2 p3 p4 p5)), .val (.int (g0_4 p1 p2 p3 p4 p5)), .val (.ref o8), .val (.int (g0_5 p1 p2 p3 p4 p5)), .val (.int (g0_4 p1 p2 p3 p4 p5)), .unset, .unset] [])
        refine own_st (fun t k => XS.iconst X14.here hx rfl (hb hby at_169) k) ?_
        show OG p e _ s below _ T14 (mkF m 170 #[.val (.int p1), .val (.int p2), .val (.int p3), .val (.int p4), .val (.int p5), .val (.int (f1 p1)), .val (.int (f1 p2)), .val (.int (f1 p3)), .val (.int (g0_1 p1 p2 p3 p4 p5)), .val (.int (g0_2 p1 p2 p3 p4 p5)), .val (.int (g0_3 p1 p2 p3 p4 p5)), .val (.int (g0_4 p1 p2 p3 p4 p5)), .val (.ref o8), .val (.int (g0_5 p1 p2 p3 p4 p5)), .val (.int (g0_4 p1 p2 p3 p4 p5)), .unset, .unset] [(.int (1 : Int32))])
        refine own_st (fun t k => XS.goto X14.here hx rfl (pc0 := 170) (pc' := 174) rfl (hb hby at_170) (by decide) (by decide) k) ?_
        show OG p e _ s below _ T14 (mkF m 174 #[.val (.int p1), .val (.int p2), .val (.int p3), .val (.int p4), .val (.int p5), .val (.int (f1 p1)), .val (.int (f1 p2)), .val (.int (f1 p3)), .val (.int (g0_1 p1 p2 p3 p4 p5)), .val (.int (g0_2 p1 p2 p3 p4 p5)), .val (.int (g0_3 p1 p2 p3 p4 p5)), .val (.int (g0_4 p1 p2 p3 p4 p5)), .val (.ref o8), .val (.int (g0_5 p1 p2 p3 p4 p5)), .val (.int (g0_4 p1 p2 p3 p4 p5)), .unset, .unset] [(.int (1 : Int32))])
        refine own_retZ X14 hx (t := .boolean) hret (by simp) hlk (hb hby at_174) (by decide) (by decide) (w := (1 : Int32)) rfl ?_
        exact ⟨congrArg (fun z => some (Value.int z)) (show f0 p1 p2 p3 p4 p5 = (1 : Int32) from (by rw [f0, if_neg c15, if_neg c20, if_pos c22])).symm, N14⟩
      · refine own_st (fun t k => XS.icmpYes X14.here hx rfl (pc0 := 166) (pc' := 173) rfl (hb hby at_166) rfl (feq c22).2 (by decide) (by decide) k) ?_
        show OG p e _ s below _ T14 (mkF m 173 #[.val (.int p1), .val (.int p2), .val (.int p3), .val (.int p4), .val (.int p5), .val (.int (f1 p1)), .val (.int (f1 p2)), .val (.int (f1 p3)), .val (.int (g0_1 p1 p2 p3 p4 p5)), .val (.int (g0_2 p1 p2 p3 p4 p5)), .val (.int (g0_3 p1 p2 p3 p4 p5)), .val (.int (g0_4 p1 p2 p3 p4 p5)), .val (.ref o8), .val (.int (g0_5 p1 p2 p3 p4 p5)), .val (.int (g0_4 p1 p2 p3 p4 p5)), .unset, .unset] [])
        refine own_st (fun t k => XS.iconst X14.here hx rfl (hb hby at_173) k) ?_
        show OG p e _ s below _ T14 (mkF m 174 #[.val (.int p1), .val (.int p2), .val (.int p3), .val (.int p4), .val (.int p5), .val (.int (f1 p1)), .val (.int (f1 p2)), .val (.int (f1 p3)), .val (.int (g0_1 p1 p2 p3 p4 p5)), .val (.int (g0_2 p1 p2 p3 p4 p5)), .val (.int (g0_3 p1 p2 p3 p4 p5)), .val (.int (g0_4 p1 p2 p3 p4 p5)), .val (.ref o8), .val (.int (g0_5 p1 p2 p3 p4 p5)), .val (.int (g0_4 p1 p2 p3 p4 p5)), .unset, .unset] [(.int (0 : Int32))])
        refine own_retZ X14 hx (t := .boolean) hret (by simp) hlk (hb hby at_174) (by decide) (by decide) (w := (0 : Int32)) rfl ?_
        exact ⟨congrArg (fun z => some (Value.int z)) (show f0 p1 p2 p3 p4 p5 = (0 : Int32) from (by rw [f0, if_neg c15, if_neg c20, if_neg c22])).symm, N14⟩
/-! the plain law -/
theorem own_cmp (z q : Int32) : ((0 : Int64) < z.toInt64 - q.toInt64) ↔ q < z := by
  have h := c_lsub z.toInt64 q.toInt64
  have r := rng64 (z.toInt64 - q.toInt64)
  have rz := rng32 z
  have rq := rng32 q
  rw [c_i2l, c_i2l] at h
  have k : (0 : Int64).toInt = 0 := by decide
  rw [Int64.lt_iff_toInt_lt, Int32.lt_iff_toInt_lt, k]
  omega
theorem own_01 (c : Prop) [Decidable c] : (if c then (0 : Int32) else 1) = 0 ∨ (if c then (0 : Int32) else 1) = 1 := by split <;> simp
theorem own_key (a b c d z q : Int32) (ha : a = 0 ∨ a = 1) (hb : b = 0 ∨ b = 1) (hc : c = 0 ∨ c = 1) (hd : d = 0 ∨ d = 1) :
    (if a = 0 then (if b = 0 then (if f5 q a b c d z = (if (0 : Int64) < z.toInt64 - q.toInt64 then (1 : Int32) else 0) then (1 : Int32) else 0) else (if f5 q a b c d z = 1 then (1 : Int32) else 0)) else (if c = 0 then (if f5 q a b c d z = 1 then (1 : Int32) else 0) else (if f5 q a b c d z = d then (1 : Int32) else 0))) = 1 := by
  rcases ha with rfl | rfl <;> rcases hb with rfl | rfl <;> rcases hc with rfl | rfl <;> rcases hd with rfl | rfl <;> simp [f5, own_cmp]
theorem own_law (p1 p2 p3 p4 p5 : Int32) : f0 p1 p2 p3 p4 p5 = 1 :=
  own_key _ _ _ _ (f1 p1) p4 (own_01 _) (own_01 _) (own_01 _) (own_01 _)

theorem own_met (l : Launch) (Z : State) (a0 : Array Value) (hw : ∀ d ∈ tables_1, d.before a0 Z = true) (ws : List Jvm.Cond) (p1 : Int32) (p2 : Int32) (p3 : Int32) (p4 : Int32) (p5 : Int32) (h0 : Heap) :
    OMet l Z x code maxLocals ret ws room_1 #[(.int p1), (.int p2), (.int p3), (.int p4), (.int p5)] h0 (fun v h L => v = some (.int 1) ∧ Fr h0.size L) := by
  intro p e ha hc hk s m args below hf happ hP hK
  obtain ⟨n, o, h1, h2, h3, v, L, ho, ⟨hv, hL⟩, hq⟩ := rm0 l Z a0 hw ws p1 p2 p3 p4 p5 h0 h0.size (Nat.le_refl _) p e ha hc hk s m args below hf happ hP hK
  rw [own_law] at hv
  exact ⟨n, o, h1, h2, h3, v, L, ho, ⟨hv, hL⟩, hq⟩
set_option maxRecDepth 65536 in
set_option maxHeartbeats 40000000 in
theorem comes_1 {Post : Tables → Env → Array Value → State → Outcome → State → Prop} (hpost : ∀ tb e args s v u, (limb_1_1.after args s (.returned v) u = true ∧ limb_1_2.after args s (.returned v) u = true ∧ True) → FrameEnd s (.returned v) u (Jvm.fieldLocs frame_1_writes args s ++ Jvm.arrayLocs frame_1_arrays args s ++ Jvm.staticLocs frame_1_statics s) 16 128 → Post tb e args s (.returned v) u) :
    ArmFor flags0 classFile x code maxLocals ret World_1 tables_1 room_1 Calls_1 rest_1 Pre_1 Post := by
  intro l hfl _ _ p e ha hc hk s m args below hf hA hF happ hP
  obtain ⟨hcalls, hrest, hpre⟩ := hP
  obtain ⟨-, -, -, hnamed, -, -, -, hat⟩ := (Spec.applies_iff hf).mp happ
  obtain ⟨hg, hn⟩ := and_e (Cond.before_iff.mp (show (Jvm.Cond.and given_1 narrow_1).before args s = true from hpre))
  obtain ⟨h1, g0⟩ := and_e hg
  obtain ⟨w0, w1, w2, w3, w4, rfl⟩ : ∃ w0 w1 w2 w3 w4 : Value, args = #[w0, w1, w2, w3, w4] := by
    have hs : args.size = 5 := by simpa [Cond.value, given_1] using h1
    obtain ⟨L⟩ := args
    match L, hs with
    | [w0, w1, w2, w3, w4], _ => exact ⟨w0, w1, w2, w3, w4, rfl⟩
  have hw := fun d (hd : d ∈ tables_1) => atoms_spec (ws := Jvm.Cond.code x code maxLocals ret :: tables_1) hat d (List.mem_cons_of_mem _ hd)
  obtain ⟨b0, g1⟩ := and_e g0
  obtain ⟨i0, e0⟩ := is_v b0
  obtain rfl : w0 = (.int i0) := Option.some.inj e0
  obtain ⟨b1, g2⟩ := and_e g1
  obtain ⟨i1, e1⟩ := is_v b1
  obtain rfl : w1 = (.int i1) := Option.some.inj e1
  obtain ⟨b2, g3⟩ := and_e g2
  obtain ⟨i2, e2⟩ := is_v b2
  obtain rfl : w2 = (.int i2) := Option.some.inj e2
  obtain ⟨b3, g4⟩ := and_e g3
  obtain ⟨i3, e3⟩ := is_v b3
  obtain rfl : w3 = (.int i3) := Option.some.inj e3
  obtain ⟨i4, e4⟩ := is_v g4
  obtain rfl : w4 = (.int i4) := Option.some.inj e4
  obtain ⟨n, o, h1, h2, h3, _, L, rfl, ⟨rfl, N⟩, hq⟩ := own_met l s _ hw tables_1 i0 i1 i2 i3 i4 s.heap p e ha hc hk s m _ below hf ((Spec.applies_iff_loose hf).mp happ).1 ⟨rfl, State.Warmed39.refl s, rfl⟩ trivial
  refine ⟨n, _, h1, h2, h3, hpost _ _ _ _ _ _ ⟨Cond.after_iff.mpr rfl, Cond.after_iff.mpr (eq_i res_at (Term.int_eval (1)) rfl), trivial⟩ ⟨hq.1, hq.2.1, (hq.2.2.sift fun y hy => Or.inr (N y hy)).mono (by decide) (by decide)⟩⟩
theorem main_1_1 : Claimed_1_1 := comes_1 fun _ _ _ _ _ _ h hF => ⟨h.1, hF⟩
theorem main_1_2 : Claimed_1_2 := comes_1 fun _ _ _ _ _ _ h hF => ⟨h.2.1, hF⟩
end Jvm.Pilot.@@N@@
namespace Jvm.Pilot.@@N@@
open Jvm Jvm.ClassFile Sem Op Lib Jvm.Free Jvm.Stand Jvm.Pilot.@@N@@.Jvm.D
/-! MADE BY PROGRAM (witnessworld.py) out of the Statement's table words and the real class files: 10 classes; the members and pool entries that the words name. The judged class is class 1, her method 2. -/
namespace start1
open Jvm.ClassFile
def u (s : String) : CpInfo := .utf8 (stringToUtf16 s)
/-- a pool by its gaps: so many unusable entries, then the entry; so many at the end -/
def gap : Nat → List CpInfo → List CpInfo
  | 0, r => r
  | n + 1, r => .unusable :: gap n r
def poolList (es : List (Nat × CpInfo)) (last : Nat) : List CpInfo := es.foldr (fun e r => gap e.1 (e.2 :: r)) (gap last [])
def pool (es : List (Nat × CpInfo)) (last : Nat) : Array CpInfo := ⟨poolList es last⟩
def fileOf (pool : Array CpInfo) (this : Nat) (attrs : Array Attribute := #[]) (ms : Array MethodInfo := #[]) (fl : Nat := 33) (sup : Nat := 0) (ifs : Array Nat := #[]) (fds : Array FieldInfo := #[]) : ClassFile where
  minorVersion := 0
  majorVersion := 65
  constantPool := pool
  accessFlags := fl
  thisClass := this
  superClass := sup
  interfaces := ifs
  fields := fds
  methods := ms
  attributes := attrs
def plain (name : String) (sup : Option ClassId) : Class where
  name := name
  kind := .ordinary
  loader := none
  accessFlags := 33
  super := sup
  interfaces := #[]
  cf := none
  fields := #[]
  methods := #[]
  instanceTypes := #[]
  staticTypes := #[]
  resolved := #[]
  callSites := []
  init := .initialized
  statics := none
  mirror := none

def pool0 : Array CpInfo := pool [(5, u "<init>"), (0, u "()V"), (1, .class_ 10), (1, u "java/lang/Object")] 113

def k0c0 : Code := { maxStack := 0, maxLocals := 1, code := object_method_1_code, exceptionTable := #[], attributes := #[] }
def k0m0 : Method := { name := "<init>", desc := "()V", sig := { parameters := [], returnType := none }, accessFlags := 1, code := some k0c0 }
/-- java/lang/Object -/
def k0 : Class := { plain "java/lang/Object" none with
  accessFlags := 33
  interfaces := #[]
  cf := some (fileOf pool0 8 #[] #[{ accessFlags := 1, nameIndex := 5, descriptorIndex := 6, attributes := #[] }] 33 0 #[] #[])
  fields := #[]
  methods := #[k0m0]
  instanceTypes := #[]
  staticTypes := #[]
  resolved := Array.replicate 124 none
  statics := none }

def pool1 : Array CpInfo := pool [(2, .class_ 4), (1, u "java/lang/Object"), (0, u "<init>"), (0, u "()V"), (0, .integer 2147483647), (0, .methodref 9 10), (0, .class_ 11), (0, .nameAndType 12 13), (0, u "com/example/vestbook/vestbook/RehireRulesKeepsServicePinLaw"), (0, u "atLeastOne"), (0, u "(I)I"), (0, .class_ 15), (0, u "com/example/vestbook/vestbook/RehireRules"), (0, .methodref 14 17), (0, .nameAndType 5 18), (0, u "(III)V"), (0, .methodref 14 20), (0, .nameAndType 21 22), (0, u "keepsService"), (0, u "(IZZZZ)Z"), (3, u "law"), (0, u "(IIIII)Z")] 2

def k1m0 : Method := { name := "<init>", desc := "()V", sig := { parameters := [], returnType := none }, accessFlags := 1, code := none }
def k1c1 : Code := { maxStack := 2, maxLocals := 2, code := method_2_code, exceptionTable := #[], attributes := #[] }
def k1m1 : Method := { name := "atLeastOne", desc := "(I)I", sig := { parameters := [.int], returnType := some .int }, accessFlags := 10, code := some k1c1 }
def k1c2 : Code := { maxStack := 6, maxLocals := 17, code := code, exceptionTable := #[], attributes := #[] }
def k1m2 : Method := { name := "law", desc := "(IIIII)Z", sig := { parameters := [.int, .int, .int, .int, .int], returnType := some .boolean }, accessFlags := 9, code := some k1c2 }
/-- com/example/vestbook/vestbook/RehireRulesKeepsServicePinLaw -/
def k1 : Class := { plain "com/example/vestbook/vestbook/RehireRulesKeepsServicePinLaw" (some 0) with
  accessFlags := 49
  interfaces := #[]
  cf := some (fileOf pool1 9 #[] #[{ accessFlags := 1, nameIndex := 5, descriptorIndex := 6, attributes := #[] }, { accessFlags := 10, nameIndex := 12, descriptorIndex := 13, attributes := #[] }, { accessFlags := 9, nameIndex := 26, descriptorIndex := 27, attributes := #[] }] 49 2 #[] #[])
  fields := #[]
  methods := #[k1m0, k1m1, k1m2]
  instanceTypes := #[]
  staticTypes := #[]
  resolved := Array.replicate 30 none
  statics := none }

def pool2 : Array CpInfo := pool [(1, .methodref 2 3), (0, .class_ 4), (0, .nameAndType 5 6), (0, u "java/lang/Object"), (0, u "<init>"), (0, u "()V"), (0, .class_ 8), (0, u "java/lang/Record")] 13

def k2c0 : Code := { maxStack := 1, maxLocals := 1, code := jdk_30_method_1_code, exceptionTable := #[], attributes := #[] }
def k2m0 : Method := { name := "<init>", desc := "()V", sig := { parameters := [], returnType := none }, accessFlags := 4, code := some k2c0 }
/-- java/lang/Record -/
def k2 : Class := { plain "java/lang/Record" (some 0) with
  accessFlags := 1057
  interfaces := #[]
  cf := some (fileOf pool2 7 #[] #[{ accessFlags := 4, nameIndex := 5, descriptorIndex := 6, attributes := #[] }] 1057 2 #[] #[])
  fields := #[]
  methods := #[k2m0]
  instanceTypes := #[]
  staticTypes := #[]
  resolved := Array.replicate 22 none
  statics := none }

def pool3 : Array CpInfo := pool [(1, .methodref 2 3), (0, .class_ 4), (0, .nameAndType 5 6), (0, u "java/lang/Record"), (0, u "<init>"), (0, u "()V"), (0, .fieldref 8 9), (0, .class_ 10), (0, .nameAndType 11 12), (0, u "com/example/vestbook/vestbook/RehireRules"), (0, u "serviceLostAfterBreaks"), (0, u "I"), (0, .fieldref 8 14), (0, .nameAndType 15 12), (0, u "repaymentBeforeBreaks"), (0, .fieldref 8 17), (0, .nameAndType 18 12), (0, u "repaymentWithinYears"), (12, u "(III)V"), (3, u "keepsService"), (0, u "(IZZZZ)Z")] 26

def k3c0 : Code := { maxStack := 2, maxLocals := 4, code := prog_49_method_1_code, exceptionTable := #[], attributes := #[] }
def k3m0 : Method := { name := "<init>", desc := "(III)V", sig := { parameters := [.int, .int, .int], returnType := none }, accessFlags := 1, code := some k3c0 }
def k3c1 : Code := { maxStack := 2, maxLocals := 6, code := prog_49_method_2_code, exceptionTable := #[], attributes := #[] }
def k3m1 : Method := { name := "keepsService", desc := "(IZZZZ)Z", sig := { parameters := [.int, .boolean, .boolean, .boolean, .boolean], returnType := some .boolean }, accessFlags := 0, code := some k3c1 }
/-- com/example/vestbook/vestbook/RehireRules -/
def k3 : Class := { plain "com/example/vestbook/vestbook/RehireRules" (some 2) with
  accessFlags := 49
  interfaces := #[]
  cf := some (fileOf pool3 8 #[] #[{ accessFlags := 1, nameIndex := 5, descriptorIndex := 31, attributes := #[] }, { accessFlags := 0, nameIndex := 35, descriptorIndex := 36, attributes := #[] }] 49 2 #[] #[{ accessFlags := 18, nameIndex := 11, descriptorIndex := 12, attributes := #[] }, { accessFlags := 18, nameIndex := 15, descriptorIndex := 12, attributes := #[] }, { accessFlags := 18, nameIndex := 18, descriptorIndex := 12, attributes := #[] }])
  fields := #[{ name := "serviceLostAfterBreaks", type := .int, accessFlags := 18, slot := 0, constantValue := 0 }, { name := "repaymentBeforeBreaks", type := .int, accessFlags := 18, slot := 1, constantValue := 0 }, { name := "repaymentWithinYears", type := .int, accessFlags := 18, slot := 2, constantValue := 0 }]
  methods := #[k3m0, k3m1]
  instanceTypes := #[.int, .int, .int]
  staticTypes := #[]
  resolved := Array.replicate 63 none
  statics := none }

def pool4 : Array CpInfo := pool [(1, u "java/lang/Cloneable"), (0, .class_ 1), (0, u "java/lang/Object"), (0, .class_ 3)] 3

/-- java/lang/Cloneable -/
def k4 : Class := { plain "java/lang/Cloneable" (some 0) with
  accessFlags := 1537
  interfaces := #[]
  cf := some (fileOf pool4 2 #[] #[] 1537 4 #[] #[])
  fields := #[]
  methods := #[]
  instanceTypes := #[]
  staticTypes := #[]
  resolved := Array.replicate 8 none
  statics := none }

def pool5 : Array CpInfo := pool [(1, u "java/io/Serializable"), (0, .class_ 1), (0, u "java/lang/Object"), (0, .class_ 3)] 3

/-- java/io/Serializable -/
def k5 : Class := { plain "java/io/Serializable" (some 0) with
  accessFlags := 1537
  interfaces := #[]
  cf := some (fileOf pool5 2 #[] #[] 1537 4 #[] #[])
  fields := #[]
  methods := #[]
  instanceTypes := #[]
  staticTypes := #[]
  resolved := Array.replicate 8 none
  statics := none }

/-- the primitive byte -/
def k6 : Class := { plain "byte" none with kind := .primitive 'B', accessFlags := 0x411 }
/-- [B -/
def k7 : Class := { plain "[B" (some 0) with kind := .array 6 .byte, interfaces := #[4, 5], accessFlags := 1041 }

/-- the primitive int -/
def k8 : Class := { plain "int" none with kind := .primitive 'I', accessFlags := 0x411 }
/-- [I -/
def k9 : Class := { plain "[I" (some 0) with kind := .array 8 .int, interfaces := #[4, 5], accessFlags := 1041 }

def heap : Heap := #[]
def classes : Array Class := #[k0, k1, k2, k3, k4, k5, k6, k7, k8, k9]
def interned : List (Array UInt16 × Addr) := []
def slotsUsed : Nat := 0
def theMethod : MethodId := ⟨1, 2⟩
def args0 : Array Value := #[.int 5, .int 5, .int 5, .int 5, .int 5]
def aboutOver (below : List Frame) : State where
  vm := { classes := classes, interned := interned.toArray }
  heap := heap
  slotsUsed := slotsUsed
  threads := #[{ frames := .invoking theMethod args0 :: below }]
def below0 : List Frame := [.native { method := ⟨0, 0⟩, args := #[] }]
def about1 : State := aboutOver below0
def p0 : Program := .bare "" "" ""
def e0 : Env := launch0.env 0 0 0
theorem w_frames : about1.frames = Frame.invoking theMethod args0 :: below0 := rfl
set_option maxRecDepth 65536 in
theorem w_args : argsFit about1.vm theMethod args0 = true := by decide +kernel
set_option maxRecDepth 65536 in
theorem w_heap : heapFits about1 = true := by decide +kernel
set_option maxRecDepth 65536 in
theorem w_runnable : about1.curStatus? = some .runnable := by decide +kernel
set_option maxRecDepth 65536 in
theorem w_alone : about1.alone = true := by decide +kernel
set_option maxRecDepth 65536 in
theorem w_named : about1.methodNamed? x = some theMethod := by decide +kernel
set_option maxRecDepth 65536 in
theorem w_hears : about1.hears theMethod below0 = true := by decide +kernel
set_option maxRecDepth 65536 in
theorem w_ripe : about1.ripe theMethod args0 below0 = true := by decide +kernel
theorem w_running : about1.status = .running := rfl
set_option maxRecDepth 65536 in
theorem w_room : about1.hasRoom e0.platform room_1 = true :=
  launch0.hasRoom_least _ room_1 (by decide +kernel) (by decide +kernel) (by decide +kernel) (by decide +kernel) (by decide +kernel) (by decide +kernel)
theorem allAtoms_all (ts : List Jvm.Cond) (a : Array Jvm.Value) (st : Jvm.State) : (allAtoms ts).before a st = ts.all (fun c => c.before a st) := by
  induction ts with
  | nil => rfl
  | cons c t ih =>
    show (Jvm.Cond.and c (allAtoms t)).before a st = _
    rw [Jvm.Cond.before_and, ih, List.all_cons]
def words1 : List Jvm.Cond := Jvm.Cond.code x code maxLocals ret :: tables_1
/-- a 'code' word, met by the world's own term for the bytes: nothing is compared byte by byte -/
theorem code_word {y : MethodName} {bytes : ByteArray} {mx : Nat} {rt : Option FieldType} {a : Array Value} {s : State} {m : MethodId} {meth : Method} {c : Code} (h1 : s.methodNamed? y = some m) (h2 : s.vm.method? m = some meth) (h3 : meth.code = some c) (h4 : c.code = bytes)
    (h5 : (c.maxLocals == mx && c.exceptionTable.isEmpty && decide (c.maxStack ≤ mostOperands) && decide (meth.sig.returnType = rt) && !meth.locks && decide (parseMethodDescriptor y.desc = some meth.sig)) = true) : (Jvm.Cond.code y bytes mx rt).before a s = true := by
  simp only [Bool.and_eq_true, beq_iff_eq, Bool.not_eq_true', decide_eq_true_eq] at h5
  obtain ⟨⟨⟨⟨⟨g1, g2⟩, g3⟩, g4⟩, g5⟩, g6⟩ := h5
  simp [Cond.before, Cond.holds, Cond.value, h1, h2, h3, h4, g1, g2, g3, g4, g5, g6]
def isCode : Jvm.Cond → Bool
  | .code _ _ _ _ => true
  | _ => false
theorem all_split {L : List Jvm.Cond} {P : Jvm.Cond → Bool} (h1 : L.all (fun c => isCode c || P c) = true) (h2 : ∀ c ∈ L.filter isCode, P c = true) : L.all P = true := by
  refine List.all_eq_true.mpr fun c hc => ?_
  have h := List.all_eq_true.mp h1 c hc
  rcases Bool.eq_false_or_eq_true (isCode c) with hi | hi
  · exact h2 c (List.mem_filter.mpr ⟨hc, hi⟩)
  · simpa [hi] using h
set_option maxRecDepth 65536 in
theorem w_c0 : (Jvm.Cond.code x code maxLocals ret).before args0 about1 = true := code_word (m := ⟨1, 2⟩) (meth := k1m2) (c := k1c2) (by decide +kernel) rfl rfl rfl (by decide +kernel)
set_option maxRecDepth 65536 in
theorem w_c1 : (Jvm.Cond.code ({ cls := "com/example/vestbook/vestbook/RehireRulesKeepsServicePinLaw", name := "atLeastOne", desc := "(I)I" } : Jvm.MethodName) method_2_code (2 : Nat) (Option.some Jvm.ClassFile.FieldType.int)).before args0 about1 = true := code_word (m := ⟨1, 1⟩) (meth := k1m1) (c := k1c1) (by decide +kernel) rfl rfl rfl (by decide +kernel)
set_option maxRecDepth 65536 in
theorem w_c2 : (Jvm.Cond.code ({ cls := "com/example/vestbook/vestbook/RehireRules", name := "<init>", desc := "(III)V" } : Jvm.MethodName) prog_49_method_1_code (4 : Nat) (Option.none : Option Jvm.ClassFile.FieldType)).before args0 about1 = true := code_word (m := ⟨3, 0⟩) (meth := k3m0) (c := k3c0) (by decide +kernel) rfl rfl rfl (by decide +kernel)
set_option maxRecDepth 65536 in
theorem w_c3 : (Jvm.Cond.code ({ cls := "java/lang/Record", name := "<init>", desc := "()V" } : Jvm.MethodName) jdk_30_method_1_code (1 : Nat) (Option.none : Option Jvm.ClassFile.FieldType)).before args0 about1 = true := code_word (m := ⟨2, 0⟩) (meth := k2m0) (c := k2c0) (by decide +kernel) rfl rfl rfl (by decide +kernel)
set_option maxRecDepth 65536 in
theorem w_c4 : (Jvm.Cond.code ({ cls := "java/lang/Object", name := "<init>", desc := "()V" } : Jvm.MethodName) object_method_1_code (1 : Nat) (Option.none : Option Jvm.ClassFile.FieldType)).before args0 about1 = true := code_word (m := ⟨0, 0⟩) (meth := k0m0) (c := k0c0) (by decide +kernel) rfl rfl rfl (by decide +kernel)
set_option maxRecDepth 65536 in
theorem w_c5 : (Jvm.Cond.code ({ cls := "com/example/vestbook/vestbook/RehireRules", name := "keepsService", desc := "(IZZZZ)Z" } : Jvm.MethodName) prog_49_method_2_code (6 : Nat) (Option.some Jvm.ClassFile.FieldType.boolean)).before args0 about1 = true := code_word (m := ⟨3, 1⟩) (meth := k3m1) (c := k3c1) (by decide +kernel) rfl rfl rfl (by decide +kernel)
def codes1 : List Jvm.Cond := [Jvm.Cond.code x code maxLocals ret, Jvm.Cond.code ({ cls := "com/example/vestbook/vestbook/RehireRulesKeepsServicePinLaw", name := "atLeastOne", desc := "(I)I" } : Jvm.MethodName) method_2_code (2 : Nat) (Option.some Jvm.ClassFile.FieldType.int), Jvm.Cond.code ({ cls := "com/example/vestbook/vestbook/RehireRules", name := "<init>", desc := "(III)V" } : Jvm.MethodName) prog_49_method_1_code (4 : Nat) (Option.none : Option Jvm.ClassFile.FieldType), Jvm.Cond.code ({ cls := "java/lang/Record", name := "<init>", desc := "()V" } : Jvm.MethodName) jdk_30_method_1_code (1 : Nat) (Option.none : Option Jvm.ClassFile.FieldType), Jvm.Cond.code ({ cls := "java/lang/Object", name := "<init>", desc := "()V" } : Jvm.MethodName) object_method_1_code (1 : Nat) (Option.none : Option Jvm.ClassFile.FieldType), Jvm.Cond.code ({ cls := "com/example/vestbook/vestbook/RehireRules", name := "keepsService", desc := "(IZZZZ)Z" } : Jvm.MethodName) prog_49_method_2_code (6 : Nat) (Option.some Jvm.ClassFile.FieldType.boolean)]
set_option maxRecDepth 65536 in
theorem codes_eq : words1.filter isCode = codes1 := rfl
theorem w_codes : ∀ c ∈ words1.filter isCode, c.before args0 about1 = true := by
  rw [codes_eq]
  intro c hc
  simp only [codes1, List.mem_cons, List.not_mem_nil, or_false] at hc
  rcases hc with rfl | rfl | rfl | rfl | rfl | rfl
  · exact w_c0
  · exact w_c1
  · exact w_c2
  · exact w_c3
  · exact w_c4
  · exact w_c5
set_option maxRecDepth 65536 in
theorem w_t1 : (words1.take 24).all (fun c => isCode c || c.before args0 about1) = true := by decide +kernel
set_option maxRecDepth 65536 in
theorem w_t2 : (words1.drop 24).all (fun c => isCode c || c.before args0 about1) = true := by decide +kernel
theorem w_tables : (allAtoms (Jvm.Cond.code x code maxLocals ret :: tables_1)).before args0 about1 = true := by
  rw [allAtoms_all]
  show words1.all (fun c => c.before args0 about1) = true
  refine all_split ?_ w_codes
  rw [← List.take_append_drop 24 words1, List.all_append, w_t1, w_t2]
  rfl
set_option maxRecDepth 65536 in
theorem w_case : (Jvm.Cond.and given_1 narrow_1).before args0 about1 = true := by decide +kernel
theorem w_applies : (headSpec (Jvm.Cond.code x code maxLocals ret :: tables_1) room_1).applies x e0.platform about1 = true :=
  (Spec.applies_iff w_frames).mpr ⟨w_running, w_runnable, w_alone, w_named, w_hears, w_ripe, w_room, w_tables⟩
theorem atStart : AtStart classFile x code maxLocals ret World_1 tables_1 room_1 Calls_1 rest_1 Pre_1 launch0 p0 e0 about1 theMethod args0 below0 :=
  ⟨lists_1, trivial, launch0.admits_env _ _ _, launch0.least_env, fairChoices_fair.cas, fairChoices_fair.clock, w_frames, w_args, w_heap, w_applies, trivial, trivial, w_case⟩
end start1
theorem witness_1 : WitnessClaimed_1 := ⟨start1.p0, start1.e0, start1.about1, start1.theMethod, start1.args0, start1.below0, start1.atStart⟩
end Jvm.Pilot.@@N@@
