import JvmDerived
import JvmDerived.Pilot.@@N@@Statement
import JvmDerived.Pilot.@@N@@Code
set_option linter.unusedVariables false
set_option linter.unusedSimpArgs false
namespace Jvm.Pilot.@@N@@
open Jvm Jvm.ClassFile Sem Op Lib Jvm.Free Jvm.Stand Jvm.LawKit Jvm.RoadKit Bundle Jvm.Pilot.@@N@@.Jvm.D
/-! what a body's walk owes, in the manner of a continuation -/
section Own
variable {p : Program} {l : Launch} {e : Env} {R : Room} {s : State} {m : MethodId} {args : Array Value} {below : List Frame} {meth : Method} {c : Code} {T T' : State} {locs : List Loc} {cells slots : Nat} {Q Q' : Option Value → Heap → List Loc → Prop}
abbrev OMet (l : Launch) (Z : State) (y : MethodName) (bytes : ByteArray) (maxL : Nat) (ret : Option FieldType) (ws : List Jvm.Cond) (rm : Room) (as : Array Value) (h0 : Heap) (Q : Option Value → Heap → List Loc → Prop) : Prop :=
  MetFree l y (head1 (Jvm.Cond.code y bytes maxL ret :: ws) rm) (fun a U => a = as ∧ Z.Warmed39 U.vm ∧ U.heap = h0) (fun _ _ _ _ _ => True) (fun _ U o U' => ∃ v L, o = .returned v ∧ Q v U'.heap L ∧ FrameEnd U o U' L rm.cells rm.slots)
def OG (p : Program) (e : Env) (R : Room) (s : State) (below : List Frame) (Q : Option Value → Heap → List Loc → Prop) (T : State) (g : JFrame) : Prop :=
  ∃ s₂ o, Steps p.tables e below (T.setTop g) s₂ ∧ s₂.status = .running ∧ Ended s₂ below o ∧ ∃ v L, o = .returned v ∧ Q v s₂.heap L ∧ FrameEnd s o s₂ L R.cells R.slots
theorem own_st {g g' : JFrame} (h : ∀ t, Steps p.tables e below (T'.setTop g') t → Steps p.tables e below (T.setTop g) t) (k : OG p e R s below Q T' g') : OG p e R s below Q T g := by
  obtain ⟨s₂, o, h1, h2⟩ := k
  exact ⟨s₂, o, h _ h1, h2⟩
theorem own_sp {g g' : JFrame} {t : State} (h : ∀ t, Steps p.tables e below (T'.setTop g') t → Steps p.tables e below (T.setTop g) t) (k : Steps p.tables e below (T'.setTop g') t) : Steps p.tables e below (T.setTop g) t := h _ k
theorem own_cast {g g' : JFrame} (q : g = g') (k : OG p e R s below Q T g') : OG p e R s below Q T g := q ▸ k
theorem own_irr {x : Int64} : ¬ x < x := Int64.lt_irrefl
theorem own_if0 {cd : ClassFile.Cond} {x : Int32} {b : Bool} (h : if_icmp.holds cd x 0 = b) : ifCond.holds cd x = b := by rw [if0]; exact h
theorem own_retZ (X : Stand p l e R s m args below meth c T locs cells slots) (hx : p.tables.exec = Jvm.exec) {t : FieldType} (hret : meth.sig.returnType = some t) (ht : t = .boolean ∨ t = .byte ∨ t = .char ∨ t = .short) (hlk : meth.locks = false) {pc : Nat} {Ls : Array Slot} {z : Int32} {rest : List Value}
    (hd : decode c.code pc = .ok (.ireturn, 1)) (hc : cells ≤ R.cells) (hs : slots ≤ R.slots) {w : Int32} (hn : nar t z = w) (hq : Q (some (.int w)) T.heap locs) : OG p e R s below Q T (mkF m pc Ls (.int z :: rest)) := by
  subst hn
  obtain ⟨fs, hr, hrun, hended, hW, hsame⟩ := X.leave (v := some (.int (nar t z))) (fun h => by rw [hret] at h; cases h) hlk
  exact ⟨_, _, retN X hx hret ht hd hr, hrun, hended, _, _, rfl, hq, ⟨_, rfl⟩, hW, hsame.mono hc hs⟩
theorem own_retV (X : Stand p l e R s m args below meth c T locs cells slots) (hx : p.tables.exec = Jvm.exec) {t : FieldType} {i : Instr} {w : Value} (hret : meth.sig.returnType = some t) (hn : narrow t w = w)
    (hi : (i = .ireturn ∧ (t = .int ∨ t = .boolean ∨ t = .byte ∨ t = .char ∨ t = .short) ∧ ∃ z, w = .int z) ∨ (i = .lreturn ∧ t = .long ∧ ∃ z, w = .long z) ∨ (i = .dreturn ∧ t = .double ∧ ∃ z, w = .double z) ∨ (i = .freturn ∧ t = .float ∧ ∃ z, w = .float z) ∨ (i = .areturn ∧ t.isReference = true ∧ w.isRef = true))
    (hlk : meth.locks = false) {pc : Nat} {Ls : Array Slot} {rest : List Value}
    (hd : decode c.code pc = .ok (i, 1)) (hc : cells ≤ R.cells) (hs : slots ≤ R.slots) (hq : Q (some w) T.heap locs) : OG p e R s below Q T (mkF m pc Ls (w :: rest)) := by
  obtain ⟨fs, hr, hrun, hended, hW, hsame⟩ := X.leave (v := some w) (fun h => by rw [hret] at h; cases h) hlk
  exact ⟨_, _, retOut X hx hret hn hi hd hr, hrun, hended, _, _, rfl, hq, ⟨_, rfl⟩, hW, hsame.mono hc hs⟩
theorem own_retI (X : Stand p l e R s m args below meth c T locs cells slots) (hx : p.tables.exec = Jvm.exec) (hret : meth.sig.returnType = some .int) (hlk : meth.locks = false) {pc : Nat} {Ls : Array Slot} {z : Int32} {rest : List Value}
    (hd : decode c.code pc = .ok (.ireturn, 1)) (hc : cells ≤ R.cells) (hs : slots ≤ R.slots) (hq : Q (some (.int z)) T.heap locs) : OG p e R s below Q T (mkF m pc Ls (.int z :: rest)) :=
  own_retV X hx hret rfl (Or.inl ⟨rfl, Or.inl rfl, _, rfl⟩) hlk hd hc hs hq
theorem own_retL (X : Stand p l e R s m args below meth c T locs cells slots) (hx : p.tables.exec = Jvm.exec) (hret : meth.sig.returnType = some .long) (hlk : meth.locks = false) {pc : Nat} {Ls : Array Slot} {z : Int64} {rest : List Value}
    (hd : decode c.code pc = .ok (.lreturn, 1)) (hc : cells ≤ R.cells) (hs : slots ≤ R.slots) (hq : Q (some (.long z)) T.heap locs) : OG p e R s below Q T (mkF m pc Ls (.long z :: rest)) :=
  own_retV X hx hret rfl (Or.inr (Or.inl ⟨rfl, rfl, _, rfl⟩)) hlk hd hc hs hq
theorem own_ret0 (X : Stand p l e R s m args below meth c T locs cells slots) (hx : p.tables.exec = Jvm.exec) (hret : meth.sig.returnType = none) (hlk : meth.locks = false) {pc : Nat} {Ls : Array Slot}
    (hd : decode c.code pc = .ok (.return_, 1)) (hc : cells ≤ R.cells) (hs : slots ≤ R.slots) (hq : Q none T.heap locs) : OG p e R s below Q T (mkF m pc Ls []) := by
  obtain ⟨fs, hr, hrun, hended, hW, hsame⟩ := X.leave (v := none) (fun _ => rfl) hlk
  exact ⟨_, _, X.returnOut hx hret hd hr, hrun, hended, _, _, rfl, hq, ⟨_, rfl⟩, hW, hsame.mono hc hs⟩
theorem own_enter {Z : State} {y : MethodName} {bytes : ByteArray} {maxL : Nat} {ret : Option FieldType} {ws : List Jvm.Cond} {rm : Room} {as : Array Value} {h0 : Heap} (hp : plainFor y = true)
    (body : ∀ (p : Program) (e : Env) (s : State) (m : MethodId) (below : List Frame) (meth : Method) (c : Code) (s₁ : State), p.tables.exec = Jvm.exec → c.code = bytes → c.maxLocals = maxL → s.vm.findClass y.cls = some m.cls → meth.sig.returnType = ret → meth.locks = false → meth.name = y.name → Z.Warmed39 s.vm →
      Stand p l e rm s m as below meth c s₁ [] 0 0 → s₁.heap = h0 → OG p e rm s below Q s₁ (entryFrame m as maxL)) : OMet l Z y bytes maxL ret ws rm as h0 Q := by
  refine MetFree.of_bodySF hp hisR ?_
  intro p e s m args below meth c s₁ Bd hml0 hP hK
  obtain ⟨rfl, hZ, hh⟩ := hP
  exact body p e s m below meth c s₁ Bd.exec Bd.bytes hml0 (findClass_of_methodNamed Bd.named) Bd.returns Bd.notSynchronized (name_of_methodNamed Bd.named Bd.method).1 hZ (Stand.of_body Bd) (by rw [← hh, Bd.state]; rfl)
end Own
section OwnH
variable {Z : State} {h h' h0 : Heap} {a b : Addr} {ty : FieldType} {vs : List Value} {n sl : Nat} {v : Value} {ws : List Addr}
/-- an array, by the whole list of what it holds -/
def OA (Z : State) (h : Heap) (a : Addr) (ty : FieldType) (vs : List Value) : Prop := ∃ c : Cell, Arr Z h a c ty ∧ c.slots.toList = vs
/-- an array, by its length alone -/
def OL (Z : State) (h : Heap) (a : Addr) (ty : FieldType) (n : Nat) : Prop := ∃ c : Cell, Arr Z h a c ty ∧ c.slots.size = n
theorem OA.lt (F : OA Z h a ty vs) : a < h.size := by obtain ⟨c, A, -⟩ := F; exact A.lt
theorem OL.lt (F : OL Z h a ty n) : a < h.size := by obtain ⟨c, A, -⟩ := F; exact A.lt
theorem OA.ext (F : OA Z h a ty vs) (E : Ext h h') : OA Z h' a ty vs := by obtain ⟨c, A, r⟩ := F; exact ⟨c, A.ext E, r⟩
theorem OL.ext (F : OL Z h a ty n) (E : Ext h h') : OL Z h' a ty n := by obtain ⟨c, A, r⟩ := F; exact ⟨c, A.ext E, r⟩
theorem OA.other (F : OA Z h b ty vs) (W : Wr h h' a sl v) (q : b ≠ a) : OA Z h' b ty vs := by obtain ⟨c, A, r⟩ := F; exact ⟨c, A.other W q, r⟩
theorem OL.other (F : OL Z h b ty n) (W : Wr h h' a sl v) (q : b ≠ a) : OL Z h' b ty n := by obtain ⟨c, A, r⟩ := F; exact ⟨c, A.other W q, r⟩
theorem OA.keep (F : OA Z h a ty vs) (K : Keep h h' ws) (q : a ∉ ws) : OA Z h' a ty vs := by obtain ⟨c, A, r⟩ := F; exact ⟨c, ⟨K.2.1 a c A.1 q, A.2⟩, r⟩
theorem OL.keep (F : OL Z h a ty n) (K : Keep h h' ws) (q : a ∉ ws) : OL Z h' a ty n := by obtain ⟨c, A, r⟩ := F; exact ⟨c, ⟨K.2.1 a c A.1 q, A.2⟩, r⟩
theorem OA.new {k : ClassId} {z : Int32} (A : Arr Z h a (newA k ty z) ty) : OA Z h a ty (List.replicate z.toNatClampNeg (defaultValue ty)) := ⟨_, A, by show (Array.replicate _ _).toList = _; exact Array.toList_replicate⟩
theorem OL.new {k : ClassId} {z : Int32} (A : Arr Z h a (newA k ty z) ty) : OL Z h a ty z.toNatClampNeg := ⟨_, A, sz_new _ _ _⟩
theorem OA.len (F : OA Z h a ty vs) : ∃ c : Cell, Arr Z h a c ty ∧ c.slots.size = vs.length := by obtain ⟨c, A, r⟩ := F; exact ⟨c, A, by rw [← r]; simp⟩
theorem OA.set {j : Int32} {i : Nat} (F : OA Z h a ty vs) (W : Wr h h' a j.toNatClampNeg v) (hj : j.toNatClampNeg = i) : OA Z h' a ty (vs.set i v) := by
  obtain ⟨c, A, r⟩ := F
  refine ⟨_, A.same W, ?_⟩
  subst hj r
  show (c.slots.setIfInBounds _ _).toList = _
  exact Array.toList_setIfInBounds
theorem OL.set {j : Int32} (F : OL Z h a ty n) (W : Wr h h' a j.toNatClampNeg v) : OL Z h' a ty n := by
  obtain ⟨c, A, r⟩ := F
  exact ⟨_, A.same W, by rw [sz_set]; exact r⟩
theorem own_rd (F : OA Z h a ty vs) {j : Int32} {i : Nat} (hj : j.toNatClampNeg = i) (hn : ¬ j < 0) (hv : vs[i]? = some v) : ∃ c : Cell, Arr Z h a c ty ∧ ¬ (j < 0 ∨ c.slots.size ≤ j.toNatClampNeg) ∧ c.slots[j.toNatClampNeg]? = some v := by
  obtain ⟨c, A, r⟩ := F
  subst hj r
  rw [Array.getElem?_toList] at hv
  refine ⟨c, A, fun q => ?_, hv⟩
  rcases q with q | q
  · exact hn q
  · have := (Array.getElem?_eq_some_iff.mp hv).1; omega
theorem own_wr (F : OA Z h a ty vs) {j : Int32} {i : Nat} (hj : j.toNatClampNeg = i) (hn : ¬ j < 0) (hi : i < vs.length) : ∃ c : Cell, Arr Z h a c ty ∧ ¬ (j < 0 ∨ c.slots.size ≤ j.toNatClampNeg) := by
  obtain ⟨c, A, r⟩ := F
  subst hj r
  rw [Array.length_toList] at hi
  refine ⟨c, A, fun q => ?_⟩
  rcases q with q | q
  · exact hn q
  · omega
theorem own_wrL (F : OL Z h a ty n) {j : Int32} (hj : ¬ j < 0 ∧ j.toNatClampNeg < n) : ∃ c : Cell, Arr Z h a c ty ∧ ¬ (j < 0 ∨ c.slots.size ≤ j.toNatClampNeg) := by
  obtain ⟨c, A, r⟩ := F
  subst r
  exact ⟨c, A, fun q => by rcases q with q | q; exact hj.1 q; omega⟩
theorem own_selp {s : State} {y : MethodName} {a0 args : Array Value} {k : Nat} (hZ : Z.Warmed39 s.vm) (wi : (Jvm.Cond.instantiable y.cls k).before a0 Z = true) (wp : (Jvm.Cond.privateMethod y).before a0 Z = true) (wm : (Jvm.Cond.instanceMethod y).before a0 Z = true) (hy : y.cls ≠ "java/lang/invoke/MethodHandle" ∧ y.cls ≠ "java/lang/invoke/VarHandle") : (Jvm.Cond.selects y.cls y y).before args s = true := by
  have wi' : (Jvm.Cond.instantiable y.cls k).before args s = true := mv hZ wi
  obtain ⟨c, kc, i1, i2, -, i4, -⟩ := Cond.instantiable_spec wi'
  exact selects_self_of_private i1 i2 (Bool.or_eq_false_iff.mp i4).1 (Cond.privateMethod_at (mvP hZ wp (args := args))) (mvT hZ wm) hy
theorem own_all0 {P : Addr → Prop} : ∀ x ∈ ([] : List Addr), P x := fun x hx => by cases hx
theorem own_all1 {P : Addr → Prop} {a : Addr} (h : P a) : ∀ x ∈ [a], P x := fun x hx => by simp only [List.mem_cons, List.not_mem_nil, or_false] at hx; subst hx; exact h
theorem own_all2 {P : Addr → Prop} {a b : Addr} (h : P a) (h2 : P b) : ∀ x ∈ [a, b], P x := fun x hx => by
  simp only [List.mem_cons, List.not_mem_nil, or_false] at hx; rcases hx with rfl | rfl; exact h; exact h2
theorem own_all3 {P : Addr → Prop} {a b c : Addr} (h : P a) (h2 : P b) (h3 : P c) : ∀ x ∈ [a, b, c], P x := fun x hx => by
  simp only [List.mem_cons, List.not_mem_nil, or_false] at hx; rcases hx with rfl | rfl | rfl; exact h; exact h2; exact h3
theorem own_all4 {P : Addr → Prop} {a b c d : Addr} (h : P a) (h2 : P b) (h3 : P c) (h4 : P d) : ∀ x ∈ [a, b, c, d], P x := fun x hx => by
  simp only [List.mem_cons, List.not_mem_nil, or_false] at hx; rcases hx with rfl | rfl | rfl | rfl; exact h; exact h2; exact h3; exact h4
theorem own_nin0 {x : Addr} : x ∉ ([] : List Addr) := List.not_mem_nil
theorem own_nin1 {x a : Addr} (h : x ≠ a) : x ∉ [a] := by simp [h]
theorem own_nin2 {x a b : Addr} (h : x ≠ a) (h2 : x ≠ b) : x ∉ [a, b] := by simp [h, h2]
theorem own_nin3 {x a b c : Addr} (h : x ≠ a) (h2 : x ≠ b) (h3 : x ≠ c) : x ∉ [a, b, c] := by simp [h, h2, h3]
theorem own_nin4 {x a b c d : Addr} (h : x ≠ a) (h2 : x ≠ b) (h3 : x ≠ c) (h4 : x ≠ d) : x ∉ [a, b, c, d] := by simp [h, h2, h3, h4]
end OwnH
theorem d6_0 : decode jdk_29_method_70_code 0 = .ok (.lload_n 0, 1) := by decide +kernel
theorem d6_1 : decode jdk_29_method_70_code 1 = .ok (.lload_n 2, 1) := by decide +kernel
theorem d6_2 : decode jdk_29_method_70_code 2 = .ok (.lcmp, 1) := by decide +kernel
theorem d6_3 : decode jdk_29_method_70_code 3 = .ok (.ifCond .gt 7, 3) := by decide +kernel
theorem d6_6 : decode jdk_29_method_70_code 6 = .ok (.lload_n 0, 1) := by decide +kernel
theorem d6_7 : decode jdk_29_method_70_code 7 = .ok (.goto 4, 3) := by decide +kernel
theorem d6_10 : decode jdk_29_method_70_code 10 = .ok (.lload_n 2, 1) := by decide +kernel
theorem d6_11 : decode jdk_29_method_70_code 11 = .ok (.lreturn, 1) := by decide +kernel
theorem pn_6 : plainFor (⟨"java/lang/Math", "min", "(JJ)J"⟩ : MethodName) = true := by first | exact plainFor_of_name (by first | (simp [plainName, overriddenIn]; done) | decide +kernel) | decide +kernel
def f6 (q1 : Int64) (q2 : Int64) : Int64 := (if q2 < q1 then q2 else q1)
theorem ef_6 (m : MethodId) (q1 : Int64) (q2 : Int64) : entryFrame m #[(.long q1), (.long q2)] 4 = (mkF m 0 #[.val (.long q1), .second, .val (.long q2), .second] []) := by first | (simp [entryFrame, mkF, argsToLocals, Value.category]; done) | rfl
abbrev Q6 (Z : State) (q1 : Int64) (q2 : Int64) (h0 : Heap)  : Option Value → Heap → List Loc → Prop := (fun v h L => v = some (.long (f6 q1 q2)) ∧ L = [] ∧ h = h0)
set_option maxRecDepth 65536 in
set_option maxHeartbeats 40000000 in
theorem rm6 (l : Launch) (Z : State) (a0 : Array Value) (hw : ∀ d ∈ tables_1, d.before a0 Z = true) (ws : List Jvm.Cond) (q1 : Int64) (q2 : Int64) (h0 : Heap)  :
    OMet l Z (⟨"java/lang/Math", "min", "(JJ)J"⟩ : MethodName) jdk_29_method_70_code 4 (some .long) ws ({ frames := 0, cells := 0, slots := 0, locals := 0 } : Room) #[(.long q1), (.long q2)] h0 (Q6 Z q1 q2 h0) := by
  refine own_enter pn_6 ?_
  intro p e s m below meth c s₁ hx hby hml0 hown hret hlk hnm hZ X0 e0
  have hml : c.maxLocals = 4 := hml0
  refine own_cast (ef_6 m q1 q2) ?_
  show OG p e ({ frames := 0, cells := 0, slots := 0, locals := 0 } : Room) s below (fun v h L => v = some (.long (f6 q1 q2)) ∧ L = [] ∧ h = h0) s₁ (mkF m 0 #[.val (.long q1), .second, .val (.long q2), .second] [])
  refine own_st (fun t k => XS.lloadN X0.here hx rfl (hb hby d6_0) rfl k) ?_
  show OG p e _ s below _ s₁ (mkF m 1 #[.val (.long q1), .second, .val (.long q2), .second] [(.long q1)])
  refine own_st (fun t k => XS.lloadN X0.here hx rfl (hb hby d6_1) rfl k) ?_
  show OG p e _ s below _ s₁ (mkF m 2 #[.val (.long q1), .second, .val (.long q2), .second] [(.long q2), (.long q1)])
  refine own_st (fun t k => XS.lcmp X0.here hx rfl (hb hby d6_2) rfl k) ?_
  show OG p e _ s below _ s₁ (mkF m 3 #[.val (.long q1), .second, .val (.long q2), .second] [(.int (lcmpW q1 q2))])
  by_cases c1 : q2 < q1
  · refine own_st (fun t k => XS.ifYes X0.here hx rfl (pc0 := 3) (pc' := 10) rfl (hb hby d6_3) rfl (own_if0 (tlt ((lw_gt _ _).mpr c1)).2.2.1) (by decide) (by decide) k) ?_
    show OG p e _ s below _ s₁ (mkF m 10 #[.val (.long q1), .second, .val (.long q2), .second] [])
    refine own_st (fun t k => XS.lloadN X0.here hx rfl (hb hby d6_10) rfl k) ?_
    show OG p e _ s below _ s₁ (mkF m 11 #[.val (.long q1), .second, .val (.long q2), .second] [(.long q2)])
    exact own_retL X0 hx hret hlk (hb hby d6_11) (by decide) (by decide) ⟨congrArg (fun z => some (Value.long z)) (show f6 q1 q2 = q2 from (by rw [f6, if_pos c1])).symm, rfl, e0⟩
  · refine own_st (fun t k => XS.ifNo X0.here hx rfl (hb hby d6_3) rfl (own_if0 (flt (fun q => c1 ((lw_gt _ _).mp q))).2.2.1) k) ?_
    show OG p e _ s below _ s₁ (mkF m 6 #[.val (.long q1), .second, .val (.long q2), .second] [])
    refine own_st (fun t k => XS.lloadN X0.here hx rfl (hb hby d6_6) rfl k) ?_
    show OG p e _ s below _ s₁ (mkF m 7 #[.val (.long q1), .second, .val (.long q2), .second] [(.long q1)])
    refine own_st (fun t k => XS.goto X0.here hx rfl (pc0 := 7) (pc' := 11) rfl (hb hby d6_7) (by decide) (by decide) k) ?_
    show OG p e _ s below _ s₁ (mkF m 11 #[.val (.long q1), .second, .val (.long q2), .second] [(.long q1)])
    exact own_retL X0 hx hret hlk (hb hby d6_11) (by decide) (by decide) ⟨congrArg (fun z => some (Value.long z)) (show f6 q1 q2 = q1 from (by rw [f6, if_neg c1])).symm, rfl, e0⟩
theorem d1_0 : decode prog_2_method_1_code 0 = .ok (.aload_n 0, 1) := by decide +kernel
theorem d1_1 : decode prog_2_method_1_code 1 = .ok (.invokespecial 1, 3) := by decide +kernel
theorem d1_4 : decode prog_2_method_1_code 4 = .ok (.return_, 1) := by decide +kernel
theorem pn_1 : plainFor (⟨"com/example/tidewire/tidewire/internal/Backoff", "<init>", "()V"⟩ : MethodName) = true := by first | exact plainFor_of_name (by first | (simp [plainName, overriddenIn]; done) | decide +kernel) | decide +kernel
theorem ef_1 (m : MethodId) (a1 : Addr) : entryFrame m #[(.ref a1)] 1 = (mkF m 0 #[.val (.ref a1)] []) := by first | (simp [entryFrame, mkF, argsToLocals, Value.category]; done) | rfl
abbrev Q1 (Z : State) (a1 : Addr) (h0 : Heap) (n0 : Nat) : Option Value → Heap → List Loc → Prop := (fun v h L => v = none ∧ Fr n0 L ∧ Keep h0 h [])
set_option maxRecDepth 65536 in
set_option maxHeartbeats 40000000 in
theorem rm1 (l : Launch) (Z : State) (a0 : Array Value) (hw : ∀ d ∈ tables_1, d.before a0 Z = true) (ws : List Jvm.Cond) (a1 : Addr) (h0 : Heap) (n0 : Nat) :
    OMet l Z (⟨"com/example/tidewire/tidewire/internal/Backoff", "<init>", "()V"⟩ : MethodName) prog_2_method_1_code 1 none ws ({ frames := 1, cells := 0, slots := 0, locals := 12 } : Room) #[(.ref a1)] h0 (Q1 Z a1 h0 n0) := by
  refine own_enter pn_1 ?_
  intro p e s m below meth c s₁ hx hby hml0 hown hret hlk hnm hZ X0 e0
  have hml : c.maxLocals = 1 := hml0
  have N0 := Fr.nil n0
  refine own_cast (ef_1 m a1) ?_
  show OG p e ({ frames := 1, cells := 0, slots := 0, locals := 12 } : Room) s below (fun v h L => v = none ∧ Fr n0 L ∧ Keep h0 h []) s₁ (mkF m 0 #[.val (.ref a1)] [])
  refine own_st (fun t k => XS.aloadN X0.here hx rfl (hb hby d1_0) rfl rfl k) ?_
  show OG p e _ s below _ s₁ (mkF m 1 #[.val (.ref a1)] [(.ref a1)])
  obtain ⟨T1, X1, e1, st1⟩ := initO X0 hx hZ hown (hw _ (List.mem_of_getElem? (i := 6) rfl)) (hw _ (List.mem_of_getElem? (i := 7) rfl)) (hw _ (List.mem_of_getElem? (i := 8) rfl)) e0 (g := (mkF m 1 #[.val (.ref a1)] [(.ref a1)])) rfl (by rw [hml]; rfl) rfl (hb hby d1_1) (by decide) (W := 0) (by show 2 * 0 + _ ≤ _; exact Nat.le_of_eq rfl) (by decide)
  refine own_st st1 ?_
  show OG p e _ s below _ T1 (mkF m 4 #[.val (.ref a1)] [])
  refine own_ret0 X1 hx hret hlk (hb hby d1_4) (by decide) (by decide) ?_
  rw [e1]
  exact ⟨rfl, N0, (Keep.refl h0 [])⟩
theorem d5_0 : decode prog_2_method_3_code 0 = .ok (.aload_n 0, 1) := by decide +kernel
theorem d5_1 : decode prog_2_method_3_code 1 = .ok (.getfield 7, 3) := by decide +kernel
theorem d5_4 : decode prog_2_method_3_code 4 = .ok (.ldc 27, 2) := by decide +kernel
theorem d5_6 : decode prog_2_method_3_code 6 = .ok (.if_icmp .ge 13, 3) := by decide +kernel
theorem d5_9 : decode prog_2_method_3_code 9 = .ok (.aload_n 0, 1) := by decide +kernel
theorem d5_10 : decode prog_2_method_3_code 10 = .ok (.dup, 1) := by decide +kernel
theorem d5_11 : decode prog_2_method_3_code 11 = .ok (.getfield 7, 3) := by decide +kernel
theorem d5_14 : decode prog_2_method_3_code 14 = .ok (.iconst 1, 1) := by decide +kernel
theorem d5_15 : decode prog_2_method_3_code 15 = .ok (.iadd, 1) := by decide +kernel
theorem d5_16 : decode prog_2_method_3_code 16 = .ok (.putfield 7, 3) := by decide +kernel
theorem d5_19 : decode prog_2_method_3_code 19 = .ok (.return_, 1) := by decide +kernel
theorem pn_5 : plainFor (⟨"com/example/tidewire/tidewire/internal/Backoff", "attempted", "()V"⟩ : MethodName) = true := by first | exact plainFor_of_name (by first | (simp [plainName, overriddenIn]; done) | decide +kernel) | decide +kernel
theorem ef_5 (m : MethodId) (a1 : Addr) : entryFrame m #[(.ref a1)] 1 = (mkF m 0 #[.val (.ref a1)] []) := by first | (simp [entryFrame, mkF, argsToLocals, Value.category]; done) | rfl
abbrev Q5 (Z : State) (a1 : Addr) (n : Int32) (h0 : Heap) (n0 : Nat) : Option Value → Heap → List Loc → Prop := (fun v h L => v = none ∧ Fr n0 L ∧ Keep h0 h [a1] ∧ Exa Z h a1 "com/example/tidewire/tidewire/internal/Backoff" ∧ Fld Z h a1 "com/example/tidewire/tidewire/internal/Backoff" "attempts" "I" (.int (n + (1 : Int32))))
set_option maxRecDepth 65536 in
set_option maxHeartbeats 40000000 in
theorem rm5 (l : Launch) (Z : State) (a0 : Array Value) (hw : ∀ d ∈ tables_1, d.before a0 Z = true) (ws : List Jvm.Cond) (a1 : Addr) (n : Int32) (h0 : Heap) (n0 : Nat) (R0 : Exa Z h0 a1 "com/example/tidewire/tidewire/internal/Backoff") (R1 : Fld Z h0 a1 "com/example/tidewire/tidewire/internal/Backoff" "attempts" "I" (.int n)) (g_a1 : n0 ≤ a1) (hn : n < (2147483647 : Int32)) :
    OMet l Z (⟨"com/example/tidewire/tidewire/internal/Backoff", "attempted", "()V"⟩ : MethodName) prog_2_method_3_code 1 none ws ({ frames := 0, cells := 0, slots := 0, locals := 0 } : Room) #[(.ref a1)] h0 (Q5 Z a1 n h0 n0) := by
  refine own_enter pn_5 ?_
  intro p e s m below meth c s₁ hx hby hml0 hown hret hlk hnm hZ X0 e0
  have hml : c.maxLocals = 1 := hml0
  have N0 := Fr.nil n0
  refine own_cast (ef_5 m a1) ?_
  show OG p e ({ frames := 0, cells := 0, slots := 0, locals := 0 } : Room) s below (fun v h L => v = none ∧ Fr n0 L ∧ Keep h0 h [a1] ∧ Exa Z h a1 "com/example/tidewire/tidewire/internal/Backoff" ∧ Fld Z h a1 "com/example/tidewire/tidewire/internal/Backoff" "attempts" "I" (.int (n + (1 : Int32)))) s₁ (mkF m 0 #[.val (.ref a1)] [])
  refine own_st (fun t k => XS.aloadN X0.here hx rfl (hb hby d5_0) rfl rfl k) ?_
  show OG p e _ s below _ s₁ (mkF m 1 #[.val (.ref a1)] [(.ref a1)])
  obtain ⟨T1, X1, e1, st1⟩ := getF X0 hx hZ hown (host := "") (Or.inl (hw _ (List.mem_of_getElem? (i := 14) rfl))) Via.refl e0 R1 (g := (mkF m 1 #[.val (.ref a1)] [(.ref a1)])) rfl rfl (hb hby d5_1)
  refine own_st st1 ?_
  show OG p e _ s below _ T1 (mkF m 4 #[.val (.ref a1)] [(.int n)])
  refine own_st (fun t k => X1.ldcInt hx hown (mvT hZ (hw _ (List.mem_of_getElem? (i := 25) rfl))) (g := (mkF m 4 #[.val (.ref a1)] [(.int n)])) rfl (hb hby d5_4) _ k) ?_
  show OG p e _ s below _ T1 (mkF m 6 #[.val (.ref a1)] [(.int (2147483647 : Int32)), (.int n)])
  refine own_st (fun t k => XS.icmpNo X1.here hx rfl (hb hby d5_6) rfl (tlt hn).2.1 k) ?_
  show OG p e _ s below _ T1 (mkF m 9 #[.val (.ref a1)] [])
  refine own_st (fun t k => XS.aloadN X1.here hx rfl (hb hby d5_9) rfl rfl k) ?_
  show OG p e _ s below _ T1 (mkF m 10 #[.val (.ref a1)] [(.ref a1)])
  refine own_st (fun t k => XS.dup X1.here hx rfl (hb hby d5_10) rfl rfl k) ?_
  show OG p e _ s below _ T1 (mkF m 11 #[.val (.ref a1)] [(.ref a1), (.ref a1)])
  obtain ⟨T2, X2, e2, st2⟩ := getF X1 hx hZ hown (host := "") (Or.inl (hw _ (List.mem_of_getElem? (i := 14) rfl))) Via.refl e1 R1 (g := (mkF m 11 #[.val (.ref a1)] [(.ref a1), (.ref a1)])) rfl rfl (hb hby d5_11)
  refine own_st st2 ?_
  show OG p e _ s below _ T2 (mkF m 14 #[.val (.ref a1)] [(.int n), (.ref a1)])
  refine own_st (fun t k => XS.iconst X2.here hx rfl (hb hby d5_14) k) ?_
  show OG p e _ s below _ T2 (mkF m 15 #[.val (.ref a1)] [(.int (1 : Int32)), (.int n), (.ref a1)])
  refine own_st (fun t k => XS.iadd X2.here hx rfl (hb hby d5_15) rfl k) ?_
  show OG p e _ s below _ T2 (mkF m 16 #[.val (.ref a1)] [(.int (n + (1 : Int32))), (.ref a1)])
  obtain ⟨T3, h3, X3, e3, W3, st3⟩ := putF X2 hx hZ hown (host := "") (Or.inl (hw _ (List.mem_of_getElem? (i := 14) rfl))) Via.refl e2 R1 R0 (Or.inl (hw _ (List.mem_of_getElem? (i := 15) rfl))) (hw _ (List.mem_of_getElem? (i := 1) rfl)) (ty := .int) (by decide) rfl rfl (g := (mkF m 16 #[.val (.ref a1)] [(.int (n + (1 : Int32))), (.ref a1)])) rfl rfl (hb hby d5_16)
  refine own_st st3 ?_
  have N3 := Fr.snoc X3 N0 g_a1
  have K4 : Keep h0 h3 [a1] := (Keep.refl h0 [a1]).wr W3 (Or.inl (List.mem_of_getElem? (i := 0) rfl))
  have F5 : Exa Z h3 a1 "com/example/tidewire/tidewire/internal/Backoff" := (R0.wr W3)
  have F6 : Fld Z h3 a1 "com/example/tidewire/tidewire/internal/Backoff" "attempts" "I" (.int (n + (1 : Int32))) := (R1.same W3)
  show OG p e _ s below _ T3 (mkF m 19 #[.val (.ref a1)] [])
  refine own_ret0 X3 hx hret hlk (hb hby d5_19) (by decide) (by decide) ?_
  rw [e3]
  exact ⟨rfl, N3, K4, F5, F6⟩
theorem d3_0 : decode prog_2_method_2_code 0 = .ok (.aload_n 0, 1) := by decide +kernel
theorem d3_1 : decode prog_2_method_2_code 1 = .ok (.getfield 7, 3) := by decide +kernel
theorem d3_4 : decode prog_2_method_2_code 4 = .ok (.ifCond .ne 5, 3) := by decide +kernel
theorem d3_7 : decode prog_2_method_2_code 7 = .ok (.lconst 0, 1) := by decide +kernel
theorem d3_8 : decode prog_2_method_2_code 8 = .ok (.lreturn, 1) := by decide +kernel
theorem pn_3 : plainFor (⟨"com/example/tidewire/tidewire/internal/Backoff", "delayMs", "()J"⟩ : MethodName) = true := by first | exact plainFor_of_name (by first | (simp [plainName, overriddenIn]; done) | decide +kernel) | decide +kernel
def f3_0  : Int64 := (0 : Int64)
theorem ef_3 (m : MethodId) (a1 : Addr) : entryFrame m #[(.ref a1)] 4 = (mkF m 0 #[.val (.ref a1), .unset, .unset, .unset] []) := by first | (simp [entryFrame, mkF, argsToLocals, Value.category]; done) | rfl
abbrev Q3_0 (Z : State) (a1 : Addr) (h0 : Heap)  : Option Value → Heap → List Loc → Prop := (fun v h L => v = some (.long f3_0) ∧ L = [] ∧ h = h0)
set_option maxRecDepth 65536 in
set_option maxHeartbeats 40000000 in
theorem rm3_0 (l : Launch) (Z : State) (a0 : Array Value) (hw : ∀ d ∈ tables_1, d.before a0 Z = true) (ws : List Jvm.Cond) (a1 : Addr) (h0 : Heap) (R0 : Fld Z h0 a1 "com/example/tidewire/tidewire/internal/Backoff" "attempts" "I" (.int (0 : Int32))) :
    OMet l Z (⟨"com/example/tidewire/tidewire/internal/Backoff", "delayMs", "()J"⟩ : MethodName) prog_2_method_2_code 4 (some .long) ws ({ frames := 0, cells := 0, slots := 0, locals := 0 } : Room) #[(.ref a1)] h0 (Q3_0 Z a1 h0) := by
  refine own_enter pn_3 ?_
  intro p e s m below meth c s₁ hx hby hml0 hown hret hlk hnm hZ X0 e0
  have hml : c.maxLocals = 4 := hml0
  refine own_cast (ef_3 m a1) ?_
  show OG p e ({ frames := 0, cells := 0, slots := 0, locals := 0 } : Room) s below (fun v h L => v = some (.long f3_0) ∧ L = [] ∧ h = h0) s₁ (mkF m 0 #[.val (.ref a1), .unset, .unset, .unset] [])
  refine own_st (fun t k => XS.aloadN X0.here hx rfl (hb hby d3_0) rfl rfl k) ?_
  show OG p e _ s below _ s₁ (mkF m 1 #[.val (.ref a1), .unset, .unset, .unset] [(.ref a1)])
  obtain ⟨T1, X1, e1, st1⟩ := getF X0 hx hZ hown (host := "") (Or.inl (hw _ (List.mem_of_getElem? (i := 14) rfl))) Via.refl e0 R0 (g := (mkF m 1 #[.val (.ref a1), .unset, .unset, .unset] [(.ref a1)])) rfl rfl (hb hby d3_1)
  refine own_st st1 ?_
  show OG p e _ s below _ T1 (mkF m 4 #[.val (.ref a1), .unset, .unset, .unset] [(.int (0 : Int32))])
  refine own_st (fun t k => XS.ifNo X1.here hx rfl (hb hby d3_4) rfl (by decide) k) ?_
  show OG p e _ s below _ T1 (mkF m 7 #[.val (.ref a1), .unset, .unset, .unset] [])
  refine own_st (fun t k => XS.lconst X1.here hx rfl (hb hby d3_7) k) ?_
  show OG p e _ s below _ T1 (mkF m 8 #[.val (.ref a1), .unset, .unset, .unset] [(.long (0 : Int64))])
  exact own_retL X1 hx hret hlk (hb hby d3_8) (by decide) (by decide) ⟨congrArg (fun z => some (Value.long z)) (show f3_0  = (0 : Int64) from (by rw [f3_0])).symm, rfl, e1⟩
theorem d3_9 : decode prog_2_method_2_code 9 = .ok (.ldc2_w 13, 3) := by decide +kernel
theorem d3_12 : decode prog_2_method_2_code 12 = .ok (.lstore_n 1, 1) := by decide +kernel
theorem d3_13 : decode prog_2_method_2_code 13 = .ok (.iconst 1, 1) := by decide +kernel
theorem d3_14 : decode prog_2_method_2_code 14 = .ok (.istore_n 3, 1) := by decide +kernel
theorem d3_15 : decode prog_2_method_2_code 15 = .ok (.iload_n 3, 1) := by decide +kernel
theorem d3_16 : decode prog_2_method_2_code 16 = .ok (.aload_n 0, 1) := by decide +kernel
theorem d3_17 : decode prog_2_method_2_code 17 = .ok (.getfield 7, 3) := by decide +kernel
theorem d3_20 : decode prog_2_method_2_code 20 = .ok (.if_icmp .ge 23, 3) := by decide +kernel
theorem d3_43 : decode prog_2_method_2_code 43 = .ok (.lload_n 1, 1) := by decide +kernel
theorem d3_44 : decode prog_2_method_2_code 44 = .ok (.ldc2_w 15, 3) := by decide +kernel
theorem d3_47 : decode prog_2_method_2_code 47 = .ok (.invokestatic 19, 3) := by decide +kernel
theorem d3_50 : decode prog_2_method_2_code 50 = .ok (.lreturn, 1) := by decide +kernel
theorem pd__JJ_J : parseMethodDescriptor "(JJ)J" = some ⟨[.long, .long], some .long⟩ := by decide +kernel
def f3_1  : Int64 := (f6 (250 : Int64) (10000 : Int64))
abbrev Q3_1 (Z : State) (a1 : Addr) (h0 : Heap)  : Option Value → Heap → List Loc → Prop := (fun v h L => v = some (.long f3_1) ∧ L = [] ∧ h = h0)
set_option maxRecDepth 65536 in
set_option maxHeartbeats 40000000 in
theorem rm3_1 (l : Launch) (Z : State) (a0 : Array Value) (hw : ∀ d ∈ tables_1, d.before a0 Z = true) (ws : List Jvm.Cond) (a1 : Addr) (h0 : Heap) (R0 : Fld Z h0 a1 "com/example/tidewire/tidewire/internal/Backoff" "attempts" "I" (.int (1 : Int32))) :
    OMet l Z (⟨"com/example/tidewire/tidewire/internal/Backoff", "delayMs", "()J"⟩ : MethodName) prog_2_method_2_code 4 (some .long) ws ({ frames := 1, cells := 0, slots := 0, locals := 15 } : Room) #[(.ref a1)] h0 (Q3_1 Z a1 h0) := by
  refine own_enter pn_3 ?_
  intro p e s m below meth c s₁ hx hby hml0 hown hret hlk hnm hZ X0 e0
  have hml : c.maxLocals = 4 := hml0
  refine own_cast (ef_3 m a1) ?_
  show OG p e ({ frames := 1, cells := 0, slots := 0, locals := 15 } : Room) s below (fun v h L => v = some (.long f3_1) ∧ L = [] ∧ h = h0) s₁ (mkF m 0 #[.val (.ref a1), .unset, .unset, .unset] [])
  refine own_st (fun t k => XS.aloadN X0.here hx rfl (hb hby d3_0) rfl rfl k) ?_
  show OG p e _ s below _ s₁ (mkF m 1 #[.val (.ref a1), .unset, .unset, .unset] [(.ref a1)])
  obtain ⟨T1, X1, e1, st1⟩ := getF X0 hx hZ hown (host := "") (Or.inl (hw _ (List.mem_of_getElem? (i := 14) rfl))) Via.refl e0 R0 (g := (mkF m 1 #[.val (.ref a1), .unset, .unset, .unset] [(.ref a1)])) rfl rfl (hb hby d3_1)
  refine own_st st1 ?_
  show OG p e _ s below _ T1 (mkF m 4 #[.val (.ref a1), .unset, .unset, .unset] [(.int (1 : Int32))])
  refine own_st (fun t k => XS.ifYes X1.here hx rfl (pc0 := 4) (pc' := 9) rfl (hb hby d3_4) rfl (by decide) (by decide) (by decide) k) ?_
  show OG p e _ s below _ T1 (mkF m 9 #[.val (.ref a1), .unset, .unset, .unset] [])
  refine own_st (fun t k => X1.ldc2Long hx hown (mvT hZ (hw _ (List.mem_of_getElem? (i := 26) rfl))) (g := (mkF m 9 #[.val (.ref a1), .unset, .unset, .unset] [])) rfl (hb hby d3_9) _ k) ?_
  show OG p e _ s below _ T1 (mkF m 12 #[.val (.ref a1), .unset, .unset, .unset] [(.long (250 : Int64))])
  refine own_st (fun t k => XS.lstoreN X1.here hx rfl (hb hby d3_12) rfl (l' := #[.val (.ref a1), .val (.long (250 : Int64)), .second, .unset]) rfl k) ?_
  show OG p e _ s below _ T1 (mkF m 13 #[.val (.ref a1), .val (.long (250 : Int64)), .second, .unset] [])
  refine own_st (fun t k => XS.iconst X1.here hx rfl (hb hby d3_13) k) ?_
  show OG p e _ s below _ T1 (mkF m 14 #[.val (.ref a1), .val (.long (250 : Int64)), .second, .unset] [(.int (1 : Int32))])
  refine own_st (fun t k => XS.istoreN X1.here hx rfl (hb hby d3_14) rfl (l' := #[.val (.ref a1), .val (.long (250 : Int64)), .second, .val (.int (1 : Int32))]) rfl k) ?_
  show OG p e _ s below _ T1 (mkF m 15 #[.val (.ref a1), .val (.long (250 : Int64)), .second, .val (.int (1 : Int32))] [])
  refine own_st (fun t k => XS.iloadN X1.here hx rfl (hb hby d3_15) rfl k) ?_
  show OG p e _ s below _ T1 (mkF m 16 #[.val (.ref a1), .val (.long (250 : Int64)), .second, .val (.int (1 : Int32))] [(.int (1 : Int32))])
  refine own_st (fun t k => XS.aloadN X1.here hx rfl (hb hby d3_16) rfl rfl k) ?_
  show OG p e _ s below _ T1 (mkF m 17 #[.val (.ref a1), .val (.long (250 : Int64)), .second, .val (.int (1 : Int32))] [(.ref a1), (.int (1 : Int32))])
  obtain ⟨T2, X2, e2, st2⟩ := getF X1 hx hZ hown (host := "") (Or.inl (hw _ (List.mem_of_getElem? (i := 14) rfl))) Via.refl e1 R0 (g := (mkF m 17 #[.val (.ref a1), .val (.long (250 : Int64)), .second, .val (.int (1 : Int32))] [(.ref a1), (.int (1 : Int32))])) rfl rfl (hb hby d3_17)
  refine own_st st2 ?_
  show OG p e _ s below _ T2 (mkF m 20 #[.val (.ref a1), .val (.long (250 : Int64)), .second, .val (.int (1 : Int32))] [(.int (1 : Int32)), (.int (1 : Int32))])
  refine own_st (fun t k => XS.icmpYes X2.here hx rfl (pc0 := 20) (pc' := 43) rfl (hb hby d3_20) rfl (by decide) (by decide) (by decide) k) ?_
  show OG p e _ s below _ T2 (mkF m 43 #[.val (.ref a1), .val (.long (250 : Int64)), .second, .val (.int (1 : Int32))] [])
  refine own_st (fun t k => XS.lloadN X2.here hx rfl (hb hby d3_43) rfl k) ?_
  show OG p e _ s below _ T2 (mkF m 44 #[.val (.ref a1), .val (.long (250 : Int64)), .second, .val (.int (1 : Int32))] [(.long (250 : Int64))])
  refine own_st (fun t k => X2.ldc2Long hx hown (mvT hZ (hw _ (List.mem_of_getElem? (i := 27) rfl))) (g := (mkF m 44 #[.val (.ref a1), .val (.long (250 : Int64)), .second, .val (.int (1 : Int32))] [(.long (250 : Int64))])) rfl (hb hby d3_44) _ k) ?_
  show OG p e _ s below _ T2 (mkF m 47 #[.val (.ref a1), .val (.long (250 : Int64)), .second, .val (.int (1 : Int32))] [(.long (10000 : Int64)), (.long (250 : Int64))])
  obtain ⟨_, _, ⟨T3, L3, k3, n3⟩, -, X3, ⟨Lc3, hQ3, l3, y3, z3⟩, st3⟩ := Jvm.LawKit.callS X2 hx (y := (⟨"java/lang/Math", "min", "(JJ)J"⟩ : MethodName)) hown (mvT hZ (hw _ (List.mem_of_getElem? (i := 29) rfl))) (mvT hZ (hw _ (List.mem_of_getElem? (i := 30) rfl))) (mvT hZ (hw _ (List.mem_of_getElem? (i := 31) rfl))) (mvT hZ (hw _ (List.mem_of_getElem? (i := 32) rfl))) (by decide) (backOf (W := 0) (rm := ({ frames := 0, cells := 0, slots := 0, locals := 0 } : Room)) (rm6 l Z a0 hw [] (250 : Int64) (10000 : Int64) h0) hZ (hw _ (List.mem_of_getElem? (i := 32) rfl)) (hw _ (List.mem_of_getElem? (i := 31) rfl)) (by decide) (by decide)) (g := (mkF m 47 #[.val (.ref a1), .val (.long (250 : Int64)), .second, .val (.int (1 : Int32))] [(.long (10000 : Int64)), (.long (250 : Int64))])) rfl (by rw [hml]; rfl) (argsL := [(.long (250 : Int64)), (.long (10000 : Int64))]) (rest := []) (lenOf pd__JJ_J rfl) rfl (by show 2 * 0 + _ ≤ _; exact Nat.le_of_eq rfl) (hb hby d3_47) (fun _ _ => ⟨rfl, e2, (by decide : 0 + 0 ≤ _), (by decide : 0 + 0 ≤ _)⟩)
  dsimp only [Pt.U, Pt.locs, Pt.cells, Pt.slots] at X3 l3 y3 z3 st3 hQ3
  subst l3 y3 z3
  obtain ⟨rfl, rfl, e3⟩ := hQ3
  refine own_st st3 ?_
  show OG p e _ s below _ T3 (mkF m 50 #[.val (.ref a1), .val (.long (250 : Int64)), .second, .val (.int (1 : Int32))] [(.long (f6 (250 : Int64) (10000 : Int64)))])
  exact own_retL X3 hx hret hlk (hb hby d3_50) (by decide) (by decide) ⟨congrArg (fun z => some (Value.long z)) (show f3_1  = (f6 (250 : Int64) (10000 : Int64)) from (by rw [f3_1])).symm, rfl, e3⟩
theorem d3_23 : decode prog_2_method_2_code 23 = .ok (.lload_n 1, 1) := by decide +kernel
theorem d3_24 : decode prog_2_method_2_code 24 = .ok (.ldc2_w 15, 3) := by decide +kernel
theorem d3_27 : decode prog_2_method_2_code 27 = .ok (.lcmp, 1) := by decide +kernel
theorem d3_28 : decode prog_2_method_2_code 28 = .ok (.ifCond .ge 15, 3) := by decide +kernel
theorem d3_31 : decode prog_2_method_2_code 31 = .ok (.lload_n 1, 1) := by decide +kernel
theorem d3_32 : decode prog_2_method_2_code 32 = .ok (.ldc2_w 17, 3) := by decide +kernel
theorem d3_35 : decode prog_2_method_2_code 35 = .ok (.lmul, 1) := by decide +kernel
theorem d3_36 : decode prog_2_method_2_code 36 = .ok (.lstore_n 1, 1) := by decide +kernel
theorem d3_37 : decode prog_2_method_2_code 37 = .ok (.iinc 3 1, 3) := by decide +kernel
theorem d3_40 : decode prog_2_method_2_code 40 = .ok (.goto (-25), 3) := by decide +kernel
def f3_2  : Int64 := (f6 (500 : Int64) (10000 : Int64))
abbrev Q3_2 (Z : State) (a1 : Addr) (h0 : Heap)  : Option Value → Heap → List Loc → Prop := (fun v h L => v = some (.long f3_2) ∧ L = [] ∧ h = h0)
set_option maxRecDepth 65536 in
set_option maxHeartbeats 40000000 in
theorem rm3_2 (l : Launch) (Z : State) (a0 : Array Value) (hw : ∀ d ∈ tables_1, d.before a0 Z = true) (ws : List Jvm.Cond) (a1 : Addr) (h0 : Heap) (R0 : Fld Z h0 a1 "com/example/tidewire/tidewire/internal/Backoff" "attempts" "I" (.int (2 : Int32))) :
    OMet l Z (⟨"com/example/tidewire/tidewire/internal/Backoff", "delayMs", "()J"⟩ : MethodName) prog_2_method_2_code 4 (some .long) ws ({ frames := 1, cells := 0, slots := 0, locals := 15 } : Room) #[(.ref a1)] h0 (Q3_2 Z a1 h0) := by
  refine own_enter pn_3 ?_
  intro p e s m below meth c s₁ hx hby hml0 hown hret hlk hnm hZ X0 e0
  have hml : c.maxLocals = 4 := hml0
  refine own_cast (ef_3 m a1) ?_
  show OG p e ({ frames := 1, cells := 0, slots := 0, locals := 15 } : Room) s below (fun v h L => v = some (.long f3_2) ∧ L = [] ∧ h = h0) s₁ (mkF m 0 #[.val (.ref a1), .unset, .unset, .unset] [])
  refine own_st (fun t k => XS.aloadN X0.here hx rfl (hb hby d3_0) rfl rfl k) ?_
  show OG p e _ s below _ s₁ (mkF m 1 #[.val (.ref a1), .unset, .unset, .unset] [(.ref a1)])
  obtain ⟨T1, X1, e1, st1⟩ := getF X0 hx hZ hown (host := "") (Or.inl (hw _ (List.mem_of_getElem? (i := 14) rfl))) Via.refl e0 R0 (g := (mkF m 1 #[.val (.ref a1), .unset, .unset, .unset] [(.ref a1)])) rfl rfl (hb hby d3_1)
  refine own_st st1 ?_
  show OG p e _ s below _ T1 (mkF m 4 #[.val (.ref a1), .unset, .unset, .unset] [(.int (2 : Int32))])
  refine own_st (fun t k => XS.ifYes X1.here hx rfl (pc0 := 4) (pc' := 9) rfl (hb hby d3_4) rfl (by decide) (by decide) (by decide) k) ?_
  show OG p e _ s below _ T1 (mkF m 9 #[.val (.ref a1), .unset, .unset, .unset] [])
  refine own_st (fun t k => X1.ldc2Long hx hown (mvT hZ (hw _ (List.mem_of_getElem? (i := 26) rfl))) (g := (mkF m 9 #[.val (.ref a1), .unset, .unset, .unset] [])) rfl (hb hby d3_9) _ k) ?_
  show OG p e _ s below _ T1 (mkF m 12 #[.val (.ref a1), .unset, .unset, .unset] [(.long (250 : Int64))])
  refine own_st (fun t k => XS.lstoreN X1.here hx rfl (hb hby d3_12) rfl (l' := #[.val (.ref a1), .val (.long (250 : Int64)), .second, .unset]) rfl k) ?_
  show OG p e _ s below _ T1 (mkF m 13 #[.val (.ref a1), .val (.long (250 : Int64)), .second, .unset] [])
  refine own_st (fun t k => XS.iconst X1.here hx rfl (hb hby d3_13) k) ?_
  show OG p e _ s below _ T1 (mkF m 14 #[.val (.ref a1), .val (.long (250 : Int64)), .second, .unset] [(.int (1 : Int32))])
  refine own_st (fun t k => XS.istoreN X1.here hx rfl (hb hby d3_14) rfl (l' := #[.val (.ref a1), .val (.long (250 : Int64)), .second, .val (.int (1 : Int32))]) rfl k) ?_
  show OG p e _ s below _ T1 (mkF m 15 #[.val (.ref a1), .val (.long (250 : Int64)), .second, .val (.int (1 : Int32))] [])
  refine own_st (fun t k => XS.iloadN X1.here hx rfl (hb hby d3_15) rfl k) ?_
  show OG p e _ s below _ T1 (mkF m 16 #[.val (.ref a1), .val (.long (250 : Int64)), .second, .val (.int (1 : Int32))] [(.int (1 : Int32))])
  refine own_st (fun t k => XS.aloadN X1.here hx rfl (hb hby d3_16) rfl rfl k) ?_
  show OG p e _ s below _ T1 (mkF m 17 #[.val (.ref a1), .val (.long (250 : Int64)), .second, .val (.int (1 : Int32))] [(.ref a1), (.int (1 : Int32))])
  obtain ⟨T2, X2, e2, st2⟩ := getF X1 hx hZ hown (host := "") (Or.inl (hw _ (List.mem_of_getElem? (i := 14) rfl))) Via.refl e1 R0 (g := (mkF m 17 #[.val (.ref a1), .val (.long (250 : Int64)), .second, .val (.int (1 : Int32))] [(.ref a1), (.int (1 : Int32))])) rfl rfl (hb hby d3_17)
  refine own_st st2 ?_
  show OG p e _ s below _ T2 (mkF m 20 #[.val (.ref a1), .val (.long (250 : Int64)), .second, .val (.int (1 : Int32))] [(.int (2 : Int32)), (.int (1 : Int32))])
  refine own_st (fun t k => XS.icmpNo X2.here hx rfl (hb hby d3_20) rfl (by decide) k) ?_
  show OG p e _ s below _ T2 (mkF m 23 #[.val (.ref a1), .val (.long (250 : Int64)), .second, .val (.int (1 : Int32))] [])
  refine own_st (fun t k => XS.lloadN X2.here hx rfl (hb hby d3_23) rfl k) ?_
  show OG p e _ s below _ T2 (mkF m 24 #[.val (.ref a1), .val (.long (250 : Int64)), .second, .val (.int (1 : Int32))] [(.long (250 : Int64))])
  refine own_st (fun t k => X2.ldc2Long hx hown (mvT hZ (hw _ (List.mem_of_getElem? (i := 27) rfl))) (g := (mkF m 24 #[.val (.ref a1), .val (.long (250 : Int64)), .second, .val (.int (1 : Int32))] [(.long (250 : Int64))])) rfl (hb hby d3_24) _ k) ?_
  show OG p e _ s below _ T2 (mkF m 27 #[.val (.ref a1), .val (.long (250 : Int64)), .second, .val (.int (1 : Int32))] [(.long (10000 : Int64)), (.long (250 : Int64))])
  refine own_st (fun t k => XS.lcmp X2.here hx rfl (hb hby d3_27) rfl k) ?_
  show OG p e _ s below _ T2 (mkF m 28 #[.val (.ref a1), .val (.long (250 : Int64)), .second, .val (.int (1 : Int32))] [(.int (lcmpW (250 : Int64) (10000 : Int64)))])
  refine own_st (fun t k => XS.ifNo X2.here hx rfl (hb hby d3_28) rfl (by decide) k) ?_
  show OG p e _ s below _ T2 (mkF m 31 #[.val (.ref a1), .val (.long (250 : Int64)), .second, .val (.int (1 : Int32))] [])
  refine own_st (fun t k => XS.lloadN X2.here hx rfl (hb hby d3_31) rfl k) ?_
  show OG p e _ s below _ T2 (mkF m 32 #[.val (.ref a1), .val (.long (250 : Int64)), .second, .val (.int (1 : Int32))] [(.long (250 : Int64))])
  refine own_st (fun t k => X2.ldc2Long hx hown (mvT hZ (hw _ (List.mem_of_getElem? (i := 28) rfl))) (g := (mkF m 32 #[.val (.ref a1), .val (.long (250 : Int64)), .second, .val (.int (1 : Int32))] [(.long (250 : Int64))])) rfl (hb hby d3_32) _ k) ?_
  show OG p e _ s below _ T2 (mkF m 35 #[.val (.ref a1), .val (.long (250 : Int64)), .second, .val (.int (1 : Int32))] [(.long (2 : Int64)), (.long (250 : Int64))])
  refine own_st (fun t k => XS.lmul X2.here hx rfl (hb hby d3_35) rfl k) ?_
  show OG p e _ s below _ T2 (mkF m 36 #[.val (.ref a1), .val (.long (250 : Int64)), .second, .val (.int (1 : Int32))] [(.long (500 : Int64))])
  refine own_st (fun t k => XS.lstoreN X2.here hx rfl (hb hby d3_36) rfl (l' := #[.val (.ref a1), .val (.long (500 : Int64)), .second, .val (.int (1 : Int32))]) rfl k) ?_
  show OG p e _ s below _ T2 (mkF m 37 #[.val (.ref a1), .val (.long (500 : Int64)), .second, .val (.int (1 : Int32))] [])
  refine own_st (fun t k => XS.iinc X2.here hx rfl (hb hby d3_37) rfl (l' := #[.val (.ref a1), .val (.long (500 : Int64)), .second, .val (.int ((1 : Int32) + (1 : Int32)))]) rfl k) ?_
  show OG p e _ s below _ T2 (mkF m 40 #[.val (.ref a1), .val (.long (500 : Int64)), .second, .val (.int (2 : Int32))] [])
  refine own_st (fun t k => XS.goto X2.here hx rfl (pc0 := 40) (pc' := 15) rfl (hb hby d3_40) (by decide) (by decide) k) ?_
  show OG p e _ s below _ T2 (mkF m 15 #[.val (.ref a1), .val (.long (500 : Int64)), .second, .val (.int (2 : Int32))] [])
  refine own_st (fun t k => XS.iloadN X2.here hx rfl (hb hby d3_15) rfl k) ?_
  show OG p e _ s below _ T2 (mkF m 16 #[.val (.ref a1), .val (.long (500 : Int64)), .second, .val (.int (2 : Int32))] [(.int (2 : Int32))])
  refine own_st (fun t k => XS.aloadN X2.here hx rfl (hb hby d3_16) rfl rfl k) ?_
  show OG p e _ s below _ T2 (mkF m 17 #[.val (.ref a1), .val (.long (500 : Int64)), .second, .val (.int (2 : Int32))] [(.ref a1), (.int (2 : Int32))])
  obtain ⟨T3, X3, e3, st3⟩ := getF X2 hx hZ hown (host := "") (Or.inl (hw _ (List.mem_of_getElem? (i := 14) rfl))) Via.refl e2 R0 (g := (mkF m 17 #[.val (.ref a1), .val (.long (500 : Int64)), .second, .val (.int (2 : Int32))] [(.ref a1), (.int (2 : Int32))])) rfl rfl (hb hby d3_17)
  refine own_st st3 ?_
  show OG p e _ s below _ T3 (mkF m 20 #[.val (.ref a1), .val (.long (500 : Int64)), .second, .val (.int (2 : Int32))] [(.int (2 : Int32)), (.int (2 : Int32))])
  refine own_st (fun t k => XS.icmpYes X3.here hx rfl (pc0 := 20) (pc' := 43) rfl (hb hby d3_20) rfl (by decide) (by decide) (by decide) k) ?_
  show OG p e _ s below _ T3 (mkF m 43 #[.val (.ref a1), .val (.long (500 : Int64)), .second, .val (.int (2 : Int32))] [])
  refine own_st (fun t k => XS.lloadN X3.here hx rfl (hb hby d3_43) rfl k) ?_
  show OG p e _ s below _ T3 (mkF m 44 #[.val (.ref a1), .val (.long (500 : Int64)), .second, .val (.int (2 : Int32))] [(.long (500 : Int64))])
  refine own_st (fun t k => X3.ldc2Long hx hown (mvT hZ (hw _ (List.mem_of_getElem? (i := 27) rfl))) (g := (mkF m 44 #[.val (.ref a1), .val (.long (500 : Int64)), .second, .val (.int (2 : Int32))] [(.long (500 : Int64))])) rfl (hb hby d3_44) _ k) ?_
  show OG p e _ s below _ T3 (mkF m 47 #[.val (.ref a1), .val (.long (500 : Int64)), .second, .val (.int (2 : Int32))] [(.long (10000 : Int64)), (.long (500 : Int64))])
  obtain ⟨_, _, ⟨T4, L4, k4, n4⟩, -, X4, ⟨Lc4, hQ4, l4, y4, z4⟩, st4⟩ := Jvm.LawKit.callS X3 hx (y := (⟨"java/lang/Math", "min", "(JJ)J"⟩ : MethodName)) hown (mvT hZ (hw _ (List.mem_of_getElem? (i := 29) rfl))) (mvT hZ (hw _ (List.mem_of_getElem? (i := 30) rfl))) (mvT hZ (hw _ (List.mem_of_getElem? (i := 31) rfl))) (mvT hZ (hw _ (List.mem_of_getElem? (i := 32) rfl))) (by decide) (backOf (W := 0) (rm := ({ frames := 0, cells := 0, slots := 0, locals := 0 } : Room)) (rm6 l Z a0 hw [] (500 : Int64) (10000 : Int64) h0) hZ (hw _ (List.mem_of_getElem? (i := 32) rfl)) (hw _ (List.mem_of_getElem? (i := 31) rfl)) (by decide) (by decide)) (g := (mkF m 47 #[.val (.ref a1), .val (.long (500 : Int64)), .second, .val (.int (2 : Int32))] [(.long (10000 : Int64)), (.long (500 : Int64))])) rfl (by rw [hml]; rfl) (argsL := [(.long (500 : Int64)), (.long (10000 : Int64))]) (rest := []) (lenOf pd__JJ_J rfl) rfl (by show 2 * 0 + _ ≤ _; exact Nat.le_of_eq rfl) (hb hby d3_47) (fun _ _ => ⟨rfl, e3, (by decide : 0 + 0 ≤ _), (by decide : 0 + 0 ≤ _)⟩)
  dsimp only [Pt.U, Pt.locs, Pt.cells, Pt.slots] at X4 l4 y4 z4 st4 hQ4
  subst l4 y4 z4
  obtain ⟨rfl, rfl, e4⟩ := hQ4
  refine own_st st4 ?_
  show OG p e _ s below _ T4 (mkF m 50 #[.val (.ref a1), .val (.long (500 : Int64)), .second, .val (.int (2 : Int32))] [(.long (f6 (500 : Int64) (10000 : Int64)))])
  exact own_retL X4 hx hret hlk (hb hby d3_50) (by decide) (by decide) ⟨congrArg (fun z => some (Value.long z)) (show f3_2  = (f6 (500 : Int64) (10000 : Int64)) from (by rw [f3_2])).symm, rfl, e4⟩
def f3_3  : Int64 := (f6 (1000 : Int64) (10000 : Int64))
abbrev Q3_3 (Z : State) (a1 : Addr) (h0 : Heap)  : Option Value → Heap → List Loc → Prop := (fun v h L => v = some (.long f3_3) ∧ L = [] ∧ h = h0)
set_option maxRecDepth 65536 in
set_option maxHeartbeats 40000000 in
theorem rm3_3 (l : Launch) (Z : State) (a0 : Array Value) (hw : ∀ d ∈ tables_1, d.before a0 Z = true) (ws : List Jvm.Cond) (a1 : Addr) (h0 : Heap) (R0 : Fld Z h0 a1 "com/example/tidewire/tidewire/internal/Backoff" "attempts" "I" (.int (3 : Int32))) :
    OMet l Z (⟨"com/example/tidewire/tidewire/internal/Backoff", "delayMs", "()J"⟩ : MethodName) prog_2_method_2_code 4 (some .long) ws ({ frames := 1, cells := 0, slots := 0, locals := 15 } : Room) #[(.ref a1)] h0 (Q3_3 Z a1 h0) := by
  refine own_enter pn_3 ?_
  intro p e s m below meth c s₁ hx hby hml0 hown hret hlk hnm hZ X0 e0
  have hml : c.maxLocals = 4 := hml0
  refine own_cast (ef_3 m a1) ?_
  show OG p e ({ frames := 1, cells := 0, slots := 0, locals := 15 } : Room) s below (fun v h L => v = some (.long f3_3) ∧ L = [] ∧ h = h0) s₁ (mkF m 0 #[.val (.ref a1), .unset, .unset, .unset] [])
  refine own_st (fun t k => XS.aloadN X0.here hx rfl (hb hby d3_0) rfl rfl k) ?_
  show OG p e _ s below _ s₁ (mkF m 1 #[.val (.ref a1), .unset, .unset, .unset] [(.ref a1)])
  obtain ⟨T1, X1, e1, st1⟩ := getF X0 hx hZ hown (host := "") (Or.inl (hw _ (List.mem_of_getElem? (i := 14) rfl))) Via.refl e0 R0 (g := (mkF m 1 #[.val (.ref a1), .unset, .unset, .unset] [(.ref a1)])) rfl rfl (hb hby d3_1)
  refine own_st st1 ?_
  show OG p e _ s below _ T1 (mkF m 4 #[.val (.ref a1), .unset, .unset, .unset] [(.int (3 : Int32))])
  refine own_st (fun t k => XS.ifYes X1.here hx rfl (pc0 := 4) (pc' := 9) rfl (hb hby d3_4) rfl (by decide) (by decide) (by decide) k) ?_
  show OG p e _ s below _ T1 (mkF m 9 #[.val (.ref a1), .unset, .unset, .unset] [])
  refine own_st (fun t k => X1.ldc2Long hx hown (mvT hZ (hw _ (List.mem_of_getElem? (i := 26) rfl))) (g := (mkF m 9 #[.val (.ref a1), .unset, .unset, .unset] [])) rfl (hb hby d3_9) _ k) ?_
  show OG p e _ s below _ T1 (mkF m 12 #[.val (.ref a1), .unset, .unset, .unset] [(.long (250 : Int64))])
  refine own_st (fun t k => XS.lstoreN X1.here hx rfl (hb hby d3_12) rfl (l' := #[.val (.ref a1), .val (.long (250 : Int64)), .second, .unset]) rfl k) ?_
  show OG p e _ s below _ T1 (mkF m 13 #[.val (.ref a1), .val (.long (250 : Int64)), .second, .unset] [])
  refine own_st (fun t k => XS.iconst X1.here hx rfl (hb hby d3_13) k) ?_
  show OG p e _ s below _ T1 (mkF m 14 #[.val (.ref a1), .val (.long (250 : Int64)), .second, .unset] [(.int (1 : Int32))])
  refine own_st (fun t k => XS.istoreN X1.here hx rfl (hb hby d3_14) rfl (l' := #[.val (.ref a1), .val (.long (250 : Int64)), .second, .val (.int (1 : Int32))]) rfl k) ?_
  show OG p e _ s below _ T1 (mkF m 15 #[.val (.ref a1), .val (.long (250 : Int64)), .second, .val (.int (1 : Int32))] [])
  refine own_st (fun t k => XS.iloadN X1.here hx rfl (hb hby d3_15) rfl k) ?_
  show OG p e _ s below _ T1 (mkF m 16 #[.val (.ref a1), .val (.long (250 : Int64)), .second, .val (.int (1 : Int32))] [(.int (1 : Int32))])
  refine own_st (fun t k => XS.aloadN X1.here hx rfl (hb hby d3_16) rfl rfl k) ?_
  show OG p e _ s below _ T1 (mkF m 17 #[.val (.ref a1), .val (.long (250 : Int64)), .second, .val (.int (1 : Int32))] [(.ref a1), (.int (1 : Int32))])
  obtain ⟨T2, X2, e2, st2⟩ := getF X1 hx hZ hown (host := "") (Or.inl (hw _ (List.mem_of_getElem? (i := 14) rfl))) Via.refl e1 R0 (g := (mkF m 17 #[.val (.ref a1), .val (.long (250 : Int64)), .second, .val (.int (1 : Int32))] [(.ref a1), (.int (1 : Int32))])) rfl rfl (hb hby d3_17)
  refine own_st st2 ?_
  show OG p e _ s below _ T2 (mkF m 20 #[.val (.ref a1), .val (.long (250 : Int64)), .second, .val (.int (1 : Int32))] [(.int (3 : Int32)), (.int (1 : Int32))])
  refine own_st (fun t k => XS.icmpNo X2.here hx rfl (hb hby d3_20) rfl (by decide) k) ?_
  show OG p e _ s below _ T2 (mkF m 23 #[.val (.ref a1), .val (.long (250 : Int64)), .second, .val (.int (1 : Int32))] [])
  refine own_st (fun t k => XS.lloadN X2.here hx rfl (hb hby d3_23) rfl k) ?_
  show OG p e _ s below _ T2 (mkF m 24 #[.val (.ref a1), .val (.long (250 : Int64)), .second, .val (.int (1 : Int32))] [(.long (250 : Int64))])
  refine own_st (fun t k => X2.ldc2Long hx hown (mvT hZ (hw _ (List.mem_of_getElem? (i := 27) rfl))) (g := (mkF m 24 #[.val (.ref a1), .val (.long (250 : Int64)), .second, .val (.int (1 : Int32))] [(.long (250 : Int64))])) rfl (hb hby d3_24) _ k) ?_
  show OG p e _ s below _ T2 (mkF m 27 #[.val (.ref a1), .val (.long (250 : Int64)), .second, .val (.int (1 : Int32))] [(.long (10000 : Int64)), (.long (250 : Int64))])
  refine own_st (fun t k => XS.lcmp X2.here hx rfl (hb hby d3_27) rfl k) ?_
  show OG p e _ s below _ T2 (mkF m 28 #[.val (.ref a1), .val (.long (250 : Int64)), .second, .val (.int (1 : Int32))] [(.int (lcmpW (250 : Int64) (10000 : Int64)))])
  refine own_st (fun t k => XS.ifNo X2.here hx rfl (hb hby d3_28) rfl (by decide) k) ?_
  show OG p e _ s below _ T2 (mkF m 31 #[.val (.ref a1), .val (.long (250 : Int64)), .second, .val (.int (1 : Int32))] [])
  refine own_st (fun t k => XS.lloadN X2.here hx rfl (hb hby d3_31) rfl k) ?_
  show OG p e _ s below _ T2 (mkF m 32 #[.val (.ref a1), .val (.long (250 : Int64)), .second, .val (.int (1 : Int32))] [(.long (250 : Int64))])
  refine own_st (fun t k => X2.ldc2Long hx hown (mvT hZ (hw _ (List.mem_of_getElem? (i := 28) rfl))) (g := (mkF m 32 #[.val (.ref a1), .val (.long (250 : Int64)), .second, .val (.int (1 : Int32))] [(.long (250 : Int64))])) rfl (hb hby d3_32) _ k) ?_
  show OG p e _ s below _ T2 (mkF m 35 #[.val (.ref a1), .val (.long (250 : Int64)), .second, .val (.int (1 : Int32))] [(.long (2 : Int64)), (.long (250 : Int64))])
  refine own_st (fun t k => XS.lmul X2.here hx rfl (hb hby d3_35) rfl k) ?_
  show OG p e _ s below _ T2 (mkF m 36 #[.val (.ref a1), .val (.long (250 : Int64)), .second, .val (.int (1 : Int32))] [(.long (500 : Int64))])
  refine own_st (fun t k => XS.lstoreN X2.here hx rfl (hb hby d3_36) rfl (l' := #[.val (.ref a1), .val (.long (500 : Int64)), .second, .val (.int (1 : Int32))]) rfl k) ?_
  show OG p e _ s below _ T2 (mkF m 37 #[.val (.ref a1), .val (.long (500 : Int64)), .second, .val (.int (1 : Int32))] [])
  refine own_st (fun t k => XS.iinc X2.here hx rfl (hb hby d3_37) rfl (l' := #[.val (.ref a1), .val (.long (500 : Int64)), .second, .val (.int ((1 : Int32) + (1 : Int32)))]) rfl k) ?_
  show OG p e _ s below _ T2 (mkF m 40 #[.val (.ref a1), .val (.long (500 : Int64)), .second, .val (.int (2 : Int32))] [])
  refine own_st (fun t k => XS.goto X2.here hx rfl (pc0 := 40) (pc' := 15) rfl (hb hby d3_40) (by decide) (by decide) k) ?_
  show OG p e _ s below _ T2 (mkF m 15 #[.val (.ref a1), .val (.long (500 : Int64)), .second, .val (.int (2 : Int32))] [])
  refine own_st (fun t k => XS.iloadN X2.here hx rfl (hb hby d3_15) rfl k) ?_
  show OG p e _ s below _ T2 (mkF m 16 #[.val (.ref a1), .val (.long (500 : Int64)), .second, .val (.int (2 : Int32))] [(.int (2 : Int32))])
  refine own_st (fun t k => XS.aloadN X2.here hx rfl (hb hby d3_16) rfl rfl k) ?_
  show OG p e _ s below _ T2 (mkF m 17 #[.val (.ref a1), .val (.long (500 : Int64)), .second, .val (.int (2 : Int32))] [(.ref a1), (.int (2 : Int32))])
  obtain ⟨T3, X3, e3, st3⟩ := getF X2 hx hZ hown (host := "") (Or.inl (hw _ (List.mem_of_getElem? (i := 14) rfl))) Via.refl e2 R0 (g := (mkF m 17 #[.val (.ref a1), .val (.long (500 : Int64)), .second, .val (.int (2 : Int32))] [(.ref a1), (.int (2 : Int32))])) rfl rfl (hb hby d3_17)
  refine own_st st3 ?_
  show OG p e _ s below _ T3 (mkF m 20 #[.val (.ref a1), .val (.long (500 : Int64)), .second, .val (.int (2 : Int32))] [(.int (3 : Int32)), (.int (2 : Int32))])
  refine own_st (fun t k => XS.icmpNo X3.here hx rfl (hb hby d3_20) rfl (by decide) k) ?_
  show OG p e _ s below _ T3 (mkF m 23 #[.val (.ref a1), .val (.long (500 : Int64)), .second, .val (.int (2 : Int32))] [])
  refine own_st (fun t k => XS.lloadN X3.here hx rfl (hb hby d3_23) rfl k) ?_
  show OG p e _ s below _ T3 (mkF m 24 #[.val (.ref a1), .val (.long (500 : Int64)), .second, .val (.int (2 : Int32))] [(.long (500 : Int64))])
  refine own_st (fun t k => X3.ldc2Long hx hown (mvT hZ (hw _ (List.mem_of_getElem? (i := 27) rfl))) (g := (mkF m 24 #[.val (.ref a1), .val (.long (500 : Int64)), .second, .val (.int (2 : Int32))] [(.long (500 : Int64))])) rfl (hb hby d3_24) _ k) ?_
  show OG p e _ s below _ T3 (mkF m 27 #[.val (.ref a1), .val (.long (500 : Int64)), .second, .val (.int (2 : Int32))] [(.long (10000 : Int64)), (.long (500 : Int64))])
  refine own_st (fun t k => XS.lcmp X3.here hx rfl (hb hby d3_27) rfl k) ?_
  show OG p e _ s below _ T3 (mkF m 28 #[.val (.ref a1), .val (.long (500 : Int64)), .second, .val (.int (2 : Int32))] [(.int (lcmpW (500 : Int64) (10000 : Int64)))])
  refine own_st (fun t k => XS.ifNo X3.here hx rfl (hb hby d3_28) rfl (by decide) k) ?_
  show OG p e _ s below _ T3 (mkF m 31 #[.val (.ref a1), .val (.long (500 : Int64)), .second, .val (.int (2 : Int32))] [])
  refine own_st (fun t k => XS.lloadN X3.here hx rfl (hb hby d3_31) rfl k) ?_
  show OG p e _ s below _ T3 (mkF m 32 #[.val (.ref a1), .val (.long (500 : Int64)), .second, .val (.int (2 : Int32))] [(.long (500 : Int64))])
  refine own_st (fun t k => X3.ldc2Long hx hown (mvT hZ (hw _ (List.mem_of_getElem? (i := 28) rfl))) (g := (mkF m 32 #[.val (.ref a1), .val (.long (500 : Int64)), .second, .val (.int (2 : Int32))] [(.long (500 : Int64))])) rfl (hb hby d3_32) _ k) ?_
  show OG p e _ s below _ T3 (mkF m 35 #[.val (.ref a1), .val (.long (500 : Int64)), .second, .val (.int (2 : Int32))] [(.long (2 : Int64)), (.long (500 : Int64))])
  refine own_st (fun t k => XS.lmul X3.here hx rfl (hb hby d3_35) rfl k) ?_
  show OG p e _ s below _ T3 (mkF m 36 #[.val (.ref a1), .val (.long (500 : Int64)), .second, .val (.int (2 : Int32))] [(.long (1000 : Int64))])
  refine own_st (fun t k => XS.lstoreN X3.here hx rfl (hb hby d3_36) rfl (l' := #[.val (.ref a1), .val (.long (1000 : Int64)), .second, .val (.int (2 : Int32))]) rfl k) ?_
  show OG p e _ s below _ T3 (mkF m 37 #[.val (.ref a1), .val (.long (1000 : Int64)), .second, .val (.int (2 : Int32))] [])
  refine own_st (fun t k => XS.iinc X3.here hx rfl (hb hby d3_37) rfl (l' := #[.val (.ref a1), .val (.long (1000 : Int64)), .second, .val (.int ((2 : Int32) + (1 : Int32)))]) rfl k) ?_
  show OG p e _ s below _ T3 (mkF m 40 #[.val (.ref a1), .val (.long (1000 : Int64)), .second, .val (.int (3 : Int32))] [])
  refine own_st (fun t k => XS.goto X3.here hx rfl (pc0 := 40) (pc' := 15) rfl (hb hby d3_40) (by decide) (by decide) k) ?_
  show OG p e _ s below _ T3 (mkF m 15 #[.val (.ref a1), .val (.long (1000 : Int64)), .second, .val (.int (3 : Int32))] [])
  refine own_st (fun t k => XS.iloadN X3.here hx rfl (hb hby d3_15) rfl k) ?_
  show OG p e _ s below _ T3 (mkF m 16 #[.val (.ref a1), .val (.long (1000 : Int64)), .second, .val (.int (3 : Int32))] [(.int (3 : Int32))])
  refine own_st (fun t k => XS.aloadN X3.here hx rfl (hb hby d3_16) rfl rfl k) ?_
  show OG p e _ s below _ T3 (mkF m 17 #[.val (.ref a1), .val (.long (1000 : Int64)), .second, .val (.int (3 : Int32))] [(.ref a1), (.int (3 : Int32))])
  obtain ⟨T4, X4, e4, st4⟩ := getF X3 hx hZ hown (host := "") (Or.inl (hw _ (List.mem_of_getElem? (i := 14) rfl))) Via.refl e3 R0 (g := (mkF m 17 #[.val (.ref a1), .val (.long (1000 : Int64)), .second, .val (.int (3 : Int32))] [(.ref a1), (.int (3 : Int32))])) rfl rfl (hb hby d3_17)
  refine own_st st4 ?_
  show OG p e _ s below _ T4 (mkF m 20 #[.val (.ref a1), .val (.long (1000 : Int64)), .second, .val (.int (3 : Int32))] [(.int (3 : Int32)), (.int (3 : Int32))])
  refine own_st (fun t k => XS.icmpYes X4.here hx rfl (pc0 := 20) (pc' := 43) rfl (hb hby d3_20) rfl (by decide) (by decide) (by decide) k) ?_
  show OG p e _ s below _ T4 (mkF m 43 #[.val (.ref a1), .val (.long (1000 : Int64)), .second, .val (.int (3 : Int32))] [])
  refine own_st (fun t k => XS.lloadN X4.here hx rfl (hb hby d3_43) rfl k) ?_
  show OG p e _ s below _ T4 (mkF m 44 #[.val (.ref a1), .val (.long (1000 : Int64)), .second, .val (.int (3 : Int32))] [(.long (1000 : Int64))])
  refine own_st (fun t k => X4.ldc2Long hx hown (mvT hZ (hw _ (List.mem_of_getElem? (i := 27) rfl))) (g := (mkF m 44 #[.val (.ref a1), .val (.long (1000 : Int64)), .second, .val (.int (3 : Int32))] [(.long (1000 : Int64))])) rfl (hb hby d3_44) _ k) ?_
  show OG p e _ s below _ T4 (mkF m 47 #[.val (.ref a1), .val (.long (1000 : Int64)), .second, .val (.int (3 : Int32))] [(.long (10000 : Int64)), (.long (1000 : Int64))])
  obtain ⟨_, _, ⟨T5, L5, k5, n5⟩, -, X5, ⟨Lc5, hQ5, l5, y5, z5⟩, st5⟩ := Jvm.LawKit.callS X4 hx (y := (⟨"java/lang/Math", "min", "(JJ)J"⟩ : MethodName)) hown (mvT hZ (hw _ (List.mem_of_getElem? (i := 29) rfl))) (mvT hZ (hw _ (List.mem_of_getElem? (i := 30) rfl))) (mvT hZ (hw _ (List.mem_of_getElem? (i := 31) rfl))) (mvT hZ (hw _ (List.mem_of_getElem? (i := 32) rfl))) (by decide) (backOf (W := 0) (rm := ({ frames := 0, cells := 0, slots := 0, locals := 0 } : Room)) (rm6 l Z a0 hw [] (1000 : Int64) (10000 : Int64) h0) hZ (hw _ (List.mem_of_getElem? (i := 32) rfl)) (hw _ (List.mem_of_getElem? (i := 31) rfl)) (by decide) (by decide)) (g := (mkF m 47 #[.val (.ref a1), .val (.long (1000 : Int64)), .second, .val (.int (3 : Int32))] [(.long (10000 : Int64)), (.long (1000 : Int64))])) rfl (by rw [hml]; rfl) (argsL := [(.long (1000 : Int64)), (.long (10000 : Int64))]) (rest := []) (lenOf pd__JJ_J rfl) rfl (by show 2 * 0 + _ ≤ _; exact Nat.le_of_eq rfl) (hb hby d3_47) (fun _ _ => ⟨rfl, e4, (by decide : 0 + 0 ≤ _), (by decide : 0 + 0 ≤ _)⟩)
  dsimp only [Pt.U, Pt.locs, Pt.cells, Pt.slots] at X5 l5 y5 z5 st5 hQ5
  subst l5 y5 z5
  obtain ⟨rfl, rfl, e5⟩ := hQ5
  refine own_st st5 ?_
  show OG p e _ s below _ T5 (mkF m 50 #[.val (.ref a1), .val (.long (1000 : Int64)), .second, .val (.int (3 : Int32))] [(.long (f6 (1000 : Int64) (10000 : Int64)))])
  exact own_retL X5 hx hret hlk (hb hby d3_50) (by decide) (by decide) ⟨congrArg (fun z => some (Value.long z)) (show f3_3  = (f6 (1000 : Int64) (10000 : Int64)) from (by rw [f3_3])).symm, rfl, e5⟩
def f3_4  : Int64 := (f6 (2000 : Int64) (10000 : Int64))
abbrev Q3_4 (Z : State) (a1 : Addr) (h0 : Heap)  : Option Value → Heap → List Loc → Prop := (fun v h L => v = some (.long f3_4) ∧ L = [] ∧ h = h0)
set_option maxRecDepth 65536 in
set_option maxHeartbeats 40000000 in
theorem rm3_4 (l : Launch) (Z : State) (a0 : Array Value) (hw : ∀ d ∈ tables_1, d.before a0 Z = true) (ws : List Jvm.Cond) (a1 : Addr) (h0 : Heap) (R0 : Fld Z h0 a1 "com/example/tidewire/tidewire/internal/Backoff" "attempts" "I" (.int (4 : Int32))) :
    OMet l Z (⟨"com/example/tidewire/tidewire/internal/Backoff", "delayMs", "()J"⟩ : MethodName) prog_2_method_2_code 4 (some .long) ws ({ frames := 1, cells := 0, slots := 0, locals := 15 } : Room) #[(.ref a1)] h0 (Q3_4 Z a1 h0) := by
  refine own_enter pn_3 ?_
  intro p e s m below meth c s₁ hx hby hml0 hown hret hlk hnm hZ X0 e0
  have hml : c.maxLocals = 4 := hml0
  refine own_cast (ef_3 m a1) ?_
  show OG p e ({ frames := 1, cells := 0, slots := 0, locals := 15 } : Room) s below (fun v h L => v = some (.long f3_4) ∧ L = [] ∧ h = h0) s₁ (mkF m 0 #[.val (.ref a1), .unset, .unset, .unset] [])
  refine own_st (fun t k => XS.aloadN X0.here hx rfl (hb hby d3_0) rfl rfl k) ?_
  show OG p e _ s below _ s₁ (mkF m 1 #[.val (.ref a1), .unset, .unset, .unset] [(.ref a1)])
  obtain ⟨T1, X1, e1, st1⟩ := getF X0 hx hZ hown (host := "") (Or.inl (hw _ (List.mem_of_getElem? (i := 14) rfl))) Via.refl e0 R0 (g := (mkF m 1 #[.val (.ref a1), .unset, .unset, .unset] [(.ref a1)])) rfl rfl (hb hby d3_1)
  refine own_st st1 ?_
  show OG p e _ s below _ T1 (mkF m 4 #[.val (.ref a1), .unset, .unset, .unset] [(.int (4 : Int32))])
  refine own_st (fun t k => XS.ifYes X1.here hx rfl (pc0 := 4) (pc' := 9) rfl (hb hby d3_4) rfl (by decide) (by decide) (by decide) k) ?_
  show OG p e _ s below _ T1 (mkF m 9 #[.val (.ref a1), .unset, .unset, .unset] [])
  refine own_st (fun t k => X1.ldc2Long hx hown (mvT hZ (hw _ (List.mem_of_getElem? (i := 26) rfl))) (g := (mkF m 9 #[.val (.ref a1), .unset, .unset, .unset] [])) rfl (hb hby d3_9) _ k) ?_
  show OG p e _ s below _ T1 (mkF m 12 #[.val (.ref a1), .unset, .unset, .unset] [(.long (250 : Int64))])
  refine own_st (fun t k => XS.lstoreN X1.here hx rfl (hb hby d3_12) rfl (l' := #[.val (.ref a1), .val (.long (250 : Int64)), .second, .unset]) rfl k) ?_
  show OG p e _ s below _ T1 (mkF m 13 #[.val (.ref a1), .val (.long (250 : Int64)), .second, .unset] [])
  refine own_st (fun t k => XS.iconst X1.here hx rfl (hb hby d3_13) k) ?_
  show OG p e _ s below _ T1 (mkF m 14 #[.val (.ref a1), .val (.long (250 : Int64)), .second, .unset] [(.int (1 : Int32))])
  refine own_st (fun t k => XS.istoreN X1.here hx rfl (hb hby d3_14) rfl (l' := #[.val (.ref a1), .val (.long (250 : Int64)), .second, .val (.int (1 : Int32))]) rfl k) ?_
  show OG p e _ s below _ T1 (mkF m 15 #[.val (.ref a1), .val (.long (250 : Int64)), .second, .val (.int (1 : Int32))] [])
  refine own_st (fun t k => XS.iloadN X1.here hx rfl (hb hby d3_15) rfl k) ?_
  show OG p e _ s below _ T1 (mkF m 16 #[.val (.ref a1), .val (.long (250 : Int64)), .second, .val (.int (1 : Int32))] [(.int (1 : Int32))])
  refine own_st (fun t k => XS.aloadN X1.here hx rfl (hb hby d3_16) rfl rfl k) ?_
  show OG p e _ s below _ T1 (mkF m 17 #[.val (.ref a1), .val (.long (250 : Int64)), .second, .val (.int (1 : Int32))] [(.ref a1), (.int (1 : Int32))])
  obtain ⟨T2, X2, e2, st2⟩ := getF X1 hx hZ hown (host := "") (Or.inl (hw _ (List.mem_of_getElem? (i := 14) rfl))) Via.refl e1 R0 (g := (mkF m 17 #[.val (.ref a1), .val (.long (250 : Int64)), .second, .val (.int (1 : Int32))] [(.ref a1), (.int (1 : Int32))])) rfl rfl (hb hby d3_17)
  refine own_st st2 ?_
  show OG p e _ s below _ T2 (mkF m 20 #[.val (.ref a1), .val (.long (250 : Int64)), .second, .val (.int (1 : Int32))] [(.int (4 : Int32)), (.int (1 : Int32))])
  refine own_st (fun t k => XS.icmpNo X2.here hx rfl (hb hby d3_20) rfl (by decide) k) ?_
  show OG p e _ s below _ T2 (mkF m 23 #[.val (.ref a1), .val (.long (250 : Int64)), .second, .val (.int (1 : Int32))] [])
  refine own_st (fun t k => XS.lloadN X2.here hx rfl (hb hby d3_23) rfl k) ?_
  show OG p e _ s below _ T2 (mkF m 24 #[.val (.ref a1), .val (.long (250 : Int64)), .second, .val (.int (1 : Int32))] [(.long (250 : Int64))])
  refine own_st (fun t k => X2.ldc2Long hx hown (mvT hZ (hw _ (List.mem_of_getElem? (i := 27) rfl))) (g := (mkF m 24 #[.val (.ref a1), .val (.long (250 : Int64)), .second, .val (.int (1 : Int32))] [(.long (250 : Int64))])) rfl (hb hby d3_24) _ k) ?_
  show OG p e _ s below _ T2 (mkF m 27 #[.val (.ref a1), .val (.long (250 : Int64)), .second, .val (.int (1 : Int32))] [(.long (10000 : Int64)), (.long (250 : Int64))])
  refine own_st (fun t k => XS.lcmp X2.here hx rfl (hb hby d3_27) rfl k) ?_
  show OG p e _ s below _ T2 (mkF m 28 #[.val (.ref a1), .val (.long (250 : Int64)), .second, .val (.int (1 : Int32))] [(.int (lcmpW (250 : Int64) (10000 : Int64)))])
  refine own_st (fun t k => XS.ifNo X2.here hx rfl (hb hby d3_28) rfl (by decide) k) ?_
  show OG p e _ s below _ T2 (mkF m 31 #[.val (.ref a1), .val (.long (250 : Int64)), .second, .val (.int (1 : Int32))] [])
  refine own_st (fun t k => XS.lloadN X2.here hx rfl (hb hby d3_31) rfl k) ?_
  show OG p e _ s below _ T2 (mkF m 32 #[.val (.ref a1), .val (.long (250 : Int64)), .second, .val (.int (1 : Int32))] [(.long (250 : Int64))])
  refine own_st (fun t k => X2.ldc2Long hx hown (mvT hZ (hw _ (List.mem_of_getElem? (i := 28) rfl))) (g := (mkF m 32 #[.val (.ref a1), .val (.long (250 : Int64)), .second, .val (.int (1 : Int32))] [(.long (250 : Int64))])) rfl (hb hby d3_32) _ k) ?_
  show OG p e _ s below _ T2 (mkF m 35 #[.val (.ref a1), .val (.long (250 : Int64)), .second, .val (.int (1 : Int32))] [(.long (2 : Int64)), (.long (250 : Int64))])
  refine own_st (fun t k => XS.lmul X2.here hx rfl (hb hby d3_35) rfl k) ?_
  show OG p e _ s below _ T2 (mkF m 36 #[.val (.ref a1), .val (.long (250 : Int64)), .second, .val (.int (1 : Int32))] [(.long (500 : Int64))])
  refine own_st (fun t k => XS.lstoreN X2.here hx rfl (hb hby d3_36) rfl (l' := #[.val (.ref a1), .val (.long (500 : Int64)), .second, .val (.int (1 : Int32))]) rfl k) ?_
  show OG p e _ s below _ T2 (mkF m 37 #[.val (.ref a1), .val (.long (500 : Int64)), .second, .val (.int (1 : Int32))] [])
  refine own_st (fun t k => XS.iinc X2.here hx rfl (hb hby d3_37) rfl (l' := #[.val (.ref a1), .val (.long (500 : Int64)), .second, .val (.int ((1 : Int32) + (1 : Int32)))]) rfl k) ?_
  show OG p e _ s below _ T2 (mkF m 40 #[.val (.ref a1), .val (.long (500 : Int64)), .second, .val (.int (2 : Int32))] [])
  refine own_st (fun t k => XS.goto X2.here hx rfl (pc0 := 40) (pc' := 15) rfl (hb hby d3_40) (by decide) (by decide) k) ?_
  show OG p e _ s below _ T2 (mkF m 15 #[.val (.ref a1), .val (.long (500 : Int64)), .second, .val (.int (2 : Int32))] [])
  refine own_st (fun t k => XS.iloadN X2.here hx rfl (hb hby d3_15) rfl k) ?_
  show OG p e _ s below _ T2 (mkF m 16 #[.val (.ref a1), .val (.long (500 : Int64)), .second, .val (.int (2 : Int32))] [(.int (2 : Int32))])
  refine own_st (fun t k => XS.aloadN X2.here hx rfl (hb hby d3_16) rfl rfl k) ?_
  show OG p e _ s below _ T2 (mkF m 17 #[.val (.ref a1), .val (.long (500 : Int64)), .second, .val (.int (2 : Int32))] [(.ref a1), (.int (2 : Int32))])
  obtain ⟨T3, X3, e3, st3⟩ := getF X2 hx hZ hown (host := "") (Or.inl (hw _ (List.mem_of_getElem? (i := 14) rfl))) Via.refl e2 R0 (g := (mkF m 17 #[.val (.ref a1), .val (.long (500 : Int64)), .second, .val (.int (2 : Int32))] [(.ref a1), (.int (2 : Int32))])) rfl rfl (hb hby d3_17)
  refine own_st st3 ?_
  show OG p e _ s below _ T3 (mkF m 20 #[.val (.ref a1), .val (.long (500 : Int64)), .second, .val (.int (2 : Int32))] [(.int (4 : Int32)), (.int (2 : Int32))])
  refine own_st (fun t k => XS.icmpNo X3.here hx rfl (hb hby d3_20) rfl (by decide) k) ?_
  show OG p e _ s below _ T3 (mkF m 23 #[.val (.ref a1), .val (.long (500 : Int64)), .second, .val (.int (2 : Int32))] [])
  refine own_st (fun t k => XS.lloadN X3.here hx rfl (hb hby d3_23) rfl k) ?_
  show OG p e _ s below _ T3 (mkF m 24 #[.val (.ref a1), .val (.long (500 : Int64)), .second, .val (.int (2 : Int32))] [(.long (500 : Int64))])
  refine own_st (fun t k => X3.ldc2Long hx hown (mvT hZ (hw _ (List.mem_of_getElem? (i := 27) rfl))) (g := (mkF m 24 #[.val (.ref a1), .val (.long (500 : Int64)), .second, .val (.int (2 : Int32))] [(.long (500 : Int64))])) rfl (hb hby d3_24) _ k) ?_
  show OG p e _ s below _ T3 (mkF m 27 #[.val (.ref a1), .val (.long (500 : Int64)), .second, .val (.int (2 : Int32))] [(.long (10000 : Int64)), (.long (500 : Int64))])
  refine own_st (fun t k => XS.lcmp X3.here hx rfl (hb hby d3_27) rfl k) ?_
  show OG p e _ s below _ T3 (mkF m 28 #[.val (.ref a1), .val (.long (500 : Int64)), .second, .val (.int (2 : Int32))] [(.int (lcmpW (500 : Int64) (10000 : Int64)))])
  refine own_st (fun t k => XS.ifNo X3.here hx rfl (hb hby d3_28) rfl (by decide) k) ?_
  show OG p e _ s below _ T3 (mkF m 31 #[.val (.ref a1), .val (.long (500 : Int64)), .second, .val (.int (2 : Int32))] [])
  refine own_st (fun t k => XS.lloadN X3.here hx rfl (hb hby d3_31) rfl k) ?_
  show OG p e _ s below _ T3 (mkF m 32 #[.val (.ref a1), .val (.long (500 : Int64)), .second, .val (.int (2 : Int32))] [(.long (500 : Int64))])
  refine own_st (fun t k => X3.ldc2Long hx hown (mvT hZ (hw _ (List.mem_of_getElem? (i := 28) rfl))) (g := (mkF m 32 #[.val (.ref a1), .val (.long (500 : Int64)), .second, .val (.int (2 : Int32))] [(.long (500 : Int64))])) rfl (hb hby d3_32) _ k) ?_
  show OG p e _ s below _ T3 (mkF m 35 #[.val (.ref a1), .val (.long (500 : Int64)), .second, .val (.int (2 : Int32))] [(.long (2 : Int64)), (.long (500 : Int64))])
  refine own_st (fun t k => XS.lmul X3.here hx rfl (hb hby d3_35) rfl k) ?_
  show OG p e _ s below _ T3 (mkF m 36 #[.val (.ref a1), .val (.long (500 : Int64)), .second, .val (.int (2 : Int32))] [(.long (1000 : Int64))])
  refine own_st (fun t k => XS.lstoreN X3.here hx rfl (hb hby d3_36) rfl (l' := #[.val (.ref a1), .val (.long (1000 : Int64)), .second, .val (.int (2 : Int32))]) rfl k) ?_
  show OG p e _ s below _ T3 (mkF m 37 #[.val (.ref a1), .val (.long (1000 : Int64)), .second, .val (.int (2 : Int32))] [])
  refine own_st (fun t k => XS.iinc X3.here hx rfl (hb hby d3_37) rfl (l' := #[.val (.ref a1), .val (.long (1000 : Int64)), .second, .val (.int ((2 : Int32) + (1 : Int32)))]) rfl k) ?_
  show OG p e _ s below _ T3 (mkF m 40 #[.val (.ref a1), .val (.long (1000 : Int64)), .second, .val (.int (3 : Int32))] [])
  refine own_st (fun t k => XS.goto X3.here hx rfl (pc0 := 40) (pc' := 15) rfl (hb hby d3_40) (by decide) (by decide) k) ?_
  show OG p e _ s below _ T3 (mkF m 15 #[.val (.ref a1), .val (.long (1000 : Int64)), .second, .val (.int (3 : Int32))] [])
  refine own_st (fun t k => XS.iloadN X3.here hx rfl (hb hby d3_15) rfl k) ?_
  show OG p e _ s below _ T3 (mkF m 16 #[.val (.ref a1), .val (.long (1000 : Int64)), .second, .val (.int (3 : Int32))] [(.int (3 : Int32))])
  refine own_st (fun t k => XS.aloadN X3.here hx rfl (hb hby d3_16) rfl rfl k) ?_
  show OG p e _ s below _ T3 (mkF m 17 #[.val (.ref a1), .val (.long (1000 : Int64)), .second, .val (.int (3 : Int32))] [(.ref a1), (.int (3 : Int32))])
  obtain ⟨T4, X4, e4, st4⟩ := getF X3 hx hZ hown (host := "") (Or.inl (hw _ (List.mem_of_getElem? (i := 14) rfl))) Via.refl e3 R0 (g := (mkF m 17 #[.val (.ref a1), .val (.long (1000 : Int64)), .second, .val (.int (3 : Int32))] [(.ref a1), (.int (3 : Int32))])) rfl rfl (hb hby d3_17)
  refine own_st st4 ?_
  show OG p e _ s below _ T4 (mkF m 20 #[.val (.ref a1), .val (.long (1000 : Int64)), .second, .val (.int (3 : Int32))] [(.int (4 : Int32)), (.int (3 : Int32))])
  refine own_st (fun t k => XS.icmpNo X4.here hx rfl (hb hby d3_20) rfl (by decide) k) ?_
  show OG p e _ s below _ T4 (mkF m 23 #[.val (.ref a1), .val (.long (1000 : Int64)), .second, .val (.int (3 : Int32))] [])
  refine own_st (fun t k => XS.lloadN X4.here hx rfl (hb hby d3_23) rfl k) ?_
  show OG p e _ s below _ T4 (mkF m 24 #[.val (.ref a1), .val (.long (1000 : Int64)), .second, .val (.int (3 : Int32))] [(.long (1000 : Int64))])
  refine own_st (fun t k => X4.ldc2Long hx hown (mvT hZ (hw _ (List.mem_of_getElem? (i := 27) rfl))) (g := (mkF m 24 #[.val (.ref a1), .val (.long (1000 : Int64)), .second, .val (.int (3 : Int32))] [(.long (1000 : Int64))])) rfl (hb hby d3_24) _ k) ?_
  show OG p e _ s below _ T4 (mkF m 27 #[.val (.ref a1), .val (.long (1000 : Int64)), .second, .val (.int (3 : Int32))] [(.long (10000 : Int64)), (.long (1000 : Int64))])
  refine own_st (fun t k => XS.lcmp X4.here hx rfl (hb hby d3_27) rfl k) ?_
  show OG p e _ s below _ T4 (mkF m 28 #[.val (.ref a1), .val (.long (1000 : Int64)), .second, .val (.int (3 : Int32))] [(.int (lcmpW (1000 : Int64) (10000 : Int64)))])
  refine own_st (fun t k => XS.ifNo X4.here hx rfl (hb hby d3_28) rfl (by decide) k) ?_
  show OG p e _ s below _ T4 (mkF m 31 #[.val (.ref a1), .val (.long (1000 : Int64)), .second, .val (.int (3 : Int32))] [])
  refine own_st (fun t k => XS.lloadN X4.here hx rfl (hb hby d3_31) rfl k) ?_
  show OG p e _ s below _ T4 (mkF m 32 #[.val (.ref a1), .val (.long (1000 : Int64)), .second, .val (.int (3 : Int32))] [(.long (1000 : Int64))])
  refine own_st (fun t k => X4.ldc2Long hx hown (mvT hZ (hw _ (List.mem_of_getElem? (i := 28) rfl))) (g := (mkF m 32 #[.val (.ref a1), .val (.long (1000 : Int64)), .second, .val (.int (3 : Int32))] [(.long (1000 : Int64))])) rfl (hb hby d3_32) _ k) ?_
  show OG p e _ s below _ T4 (mkF m 35 #[.val (.ref a1), .val (.long (1000 : Int64)), .second, .val (.int (3 : Int32))] [(.long (2 : Int64)), (.long (1000 : Int64))])
  refine own_st (fun t k => XS.lmul X4.here hx rfl (hb hby d3_35) rfl k) ?_
  show OG p e _ s below _ T4 (mkF m 36 #[.val (.ref a1), .val (.long (1000 : Int64)), .second, .val (.int (3 : Int32))] [(.long (2000 : Int64))])
  refine own_st (fun t k => XS.lstoreN X4.here hx rfl (hb hby d3_36) rfl (l' := #[.val (.ref a1), .val (.long (2000 : Int64)), .second, .val (.int (3 : Int32))]) rfl k) ?_
  show OG p e _ s below _ T4 (mkF m 37 #[.val (.ref a1), .val (.long (2000 : Int64)), .second, .val (.int (3 : Int32))] [])
  refine own_st (fun t k => XS.iinc X4.here hx rfl (hb hby d3_37) rfl (l' := #[.val (.ref a1), .val (.long (2000 : Int64)), .second, .val (.int ((3 : Int32) + (1 : Int32)))]) rfl k) ?_
  show OG p e _ s below _ T4 (mkF m 40 #[.val (.ref a1), .val (.long (2000 : Int64)), .second, .val (.int (4 : Int32))] [])
  refine own_st (fun t k => XS.goto X4.here hx rfl (pc0 := 40) (pc' := 15) rfl (hb hby d3_40) (by decide) (by decide) k) ?_
  show OG p e _ s below _ T4 (mkF m 15 #[.val (.ref a1), .val (.long (2000 : Int64)), .second, .val (.int (4 : Int32))] [])
  refine own_st (fun t k => XS.iloadN X4.here hx rfl (hb hby d3_15) rfl k) ?_
  show OG p e _ s below _ T4 (mkF m 16 #[.val (.ref a1), .val (.long (2000 : Int64)), .second, .val (.int (4 : Int32))] [(.int (4 : Int32))])
  refine own_st (fun t k => XS.aloadN X4.here hx rfl (hb hby d3_16) rfl rfl k) ?_
  show OG p e _ s below _ T4 (mkF m 17 #[.val (.ref a1), .val (.long (2000 : Int64)), .second, .val (.int (4 : Int32))] [(.ref a1), (.int (4 : Int32))])
  obtain ⟨T5, X5, e5, st5⟩ := getF X4 hx hZ hown (host := "") (Or.inl (hw _ (List.mem_of_getElem? (i := 14) rfl))) Via.refl e4 R0 (g := (mkF m 17 #[.val (.ref a1), .val (.long (2000 : Int64)), .second, .val (.int (4 : Int32))] [(.ref a1), (.int (4 : Int32))])) rfl rfl (hb hby d3_17)
  refine own_st st5 ?_
  show OG p e _ s below _ T5 (mkF m 20 #[.val (.ref a1), .val (.long (2000 : Int64)), .second, .val (.int (4 : Int32))] [(.int (4 : Int32)), (.int (4 : Int32))])
  refine own_st (fun t k => XS.icmpYes X5.here hx rfl (pc0 := 20) (pc' := 43) rfl (hb hby d3_20) rfl (by decide) (by decide) (by decide) k) ?_
  show OG p e _ s below _ T5 (mkF m 43 #[.val (.ref a1), .val (.long (2000 : Int64)), .second, .val (.int (4 : Int32))] [])
  refine own_st (fun t k => XS.lloadN X5.here hx rfl (hb hby d3_43) rfl k) ?_
  show OG p e _ s below _ T5 (mkF m 44 #[.val (.ref a1), .val (.long (2000 : Int64)), .second, .val (.int (4 : Int32))] [(.long (2000 : Int64))])
  refine own_st (fun t k => X5.ldc2Long hx hown (mvT hZ (hw _ (List.mem_of_getElem? (i := 27) rfl))) (g := (mkF m 44 #[.val (.ref a1), .val (.long (2000 : Int64)), .second, .val (.int (4 : Int32))] [(.long (2000 : Int64))])) rfl (hb hby d3_44) _ k) ?_
  show OG p e _ s below _ T5 (mkF m 47 #[.val (.ref a1), .val (.long (2000 : Int64)), .second, .val (.int (4 : Int32))] [(.long (10000 : Int64)), (.long (2000 : Int64))])
  obtain ⟨_, _, ⟨T6, L6, k6, n6⟩, -, X6, ⟨Lc6, hQ6, l6, y6, z6⟩, st6⟩ := Jvm.LawKit.callS X5 hx (y := (⟨"java/lang/Math", "min", "(JJ)J"⟩ : MethodName)) hown (mvT hZ (hw _ (List.mem_of_getElem? (i := 29) rfl))) (mvT hZ (hw _ (List.mem_of_getElem? (i := 30) rfl))) (mvT hZ (hw _ (List.mem_of_getElem? (i := 31) rfl))) (mvT hZ (hw _ (List.mem_of_getElem? (i := 32) rfl))) (by decide) (backOf (W := 0) (rm := ({ frames := 0, cells := 0, slots := 0, locals := 0 } : Room)) (rm6 l Z a0 hw [] (2000 : Int64) (10000 : Int64) h0) hZ (hw _ (List.mem_of_getElem? (i := 32) rfl)) (hw _ (List.mem_of_getElem? (i := 31) rfl)) (by decide) (by decide)) (g := (mkF m 47 #[.val (.ref a1), .val (.long (2000 : Int64)), .second, .val (.int (4 : Int32))] [(.long (10000 : Int64)), (.long (2000 : Int64))])) rfl (by rw [hml]; rfl) (argsL := [(.long (2000 : Int64)), (.long (10000 : Int64))]) (rest := []) (lenOf pd__JJ_J rfl) rfl (by show 2 * 0 + _ ≤ _; exact Nat.le_of_eq rfl) (hb hby d3_47) (fun _ _ => ⟨rfl, e5, (by decide : 0 + 0 ≤ _), (by decide : 0 + 0 ≤ _)⟩)
  dsimp only [Pt.U, Pt.locs, Pt.cells, Pt.slots] at X6 l6 y6 z6 st6 hQ6
  subst l6 y6 z6
  obtain ⟨rfl, rfl, e6⟩ := hQ6
  refine own_st st6 ?_
  show OG p e _ s below _ T6 (mkF m 50 #[.val (.ref a1), .val (.long (2000 : Int64)), .second, .val (.int (4 : Int32))] [(.long (f6 (2000 : Int64) (10000 : Int64)))])
  exact own_retL X6 hx hret hlk (hb hby d3_50) (by decide) (by decide) ⟨congrArg (fun z => some (Value.long z)) (show f3_4  = (f6 (2000 : Int64) (10000 : Int64)) from (by rw [f3_4])).symm, rfl, e6⟩
def f3_5  : Int64 := (f6 (4000 : Int64) (10000 : Int64))
abbrev Q3_5 (Z : State) (a1 : Addr) (h0 : Heap)  : Option Value → Heap → List Loc → Prop := (fun v h L => v = some (.long f3_5) ∧ L = [] ∧ h = h0)
set_option maxRecDepth 65536 in
set_option maxHeartbeats 40000000 in
theorem rm3_5 (l : Launch) (Z : State) (a0 : Array Value) (hw : ∀ d ∈ tables_1, d.before a0 Z = true) (ws : List Jvm.Cond) (a1 : Addr) (h0 : Heap) (R0 : Fld Z h0 a1 "com/example/tidewire/tidewire/internal/Backoff" "attempts" "I" (.int (5 : Int32))) :
    OMet l Z (⟨"com/example/tidewire/tidewire/internal/Backoff", "delayMs", "()J"⟩ : MethodName) prog_2_method_2_code 4 (some .long) ws ({ frames := 1, cells := 0, slots := 0, locals := 15 } : Room) #[(.ref a1)] h0 (Q3_5 Z a1 h0) := by
  refine own_enter pn_3 ?_
  intro p e s m below meth c s₁ hx hby hml0 hown hret hlk hnm hZ X0 e0
  have hml : c.maxLocals = 4 := hml0
  refine own_cast (ef_3 m a1) ?_
  show OG p e ({ frames := 1, cells := 0, slots := 0, locals := 15 } : Room) s below (fun v h L => v = some (.long f3_5) ∧ L = [] ∧ h = h0) s₁ (mkF m 0 #[.val (.ref a1), .unset, .unset, .unset] [])
  refine own_st (fun t k => XS.aloadN X0.here hx rfl (hb hby d3_0) rfl rfl k) ?_
  show OG p e _ s below _ s₁ (mkF m 1 #[.val (.ref a1), .unset, .unset, .unset] [(.ref a1)])
  obtain ⟨T1, X1, e1, st1⟩ := getF X0 hx hZ hown (host := "") (Or.inl (hw _ (List.mem_of_getElem? (i := 14) rfl))) Via.refl e0 R0 (g := (mkF m 1 #[.val (.ref a1), .unset, .unset, .unset] [(.ref a1)])) rfl rfl (hb hby d3_1)
  refine own_st st1 ?_
  show OG p e _ s below _ T1 (mkF m 4 #[.val (.ref a1), .unset, .unset, .unset] [(.int (5 : Int32))])
  refine own_st (fun t k => XS.ifYes X1.here hx rfl (pc0 := 4) (pc' := 9) rfl (hb hby d3_4) rfl (by decide) (by decide) (by decide) k) ?_
  show OG p e _ s below _ T1 (mkF m 9 #[.val (.ref a1), .unset, .unset, .unset] [])
  refine own_st (fun t k => X1.ldc2Long hx hown (mvT hZ (hw _ (List.mem_of_getElem? (i := 26) rfl))) (g := (mkF m 9 #[.val (.ref a1), .unset, .unset, .unset] [])) rfl (hb hby d3_9) _ k) ?_
  show OG p e _ s below _ T1 (mkF m 12 #[.val (.ref a1), .unset, .unset, .unset] [(.long (250 : Int64))])
  refine own_st (fun t k => XS.lstoreN X1.here hx rfl (hb hby d3_12) rfl (l' := #[.val (.ref a1), .val (.long (250 : Int64)), .second, .unset]) rfl k) ?_
  show OG p e _ s below _ T1 (mkF m 13 #[.val (.ref a1), .val (.long (250 : Int64)), .second, .unset] [])
  refine own_st (fun t k => XS.iconst X1.here hx rfl (hb hby d3_13) k) ?_
  show OG p e _ s below _ T1 (mkF m 14 #[.val (.ref a1), .val (.long (250 : Int64)), .second, .unset] [(.int (1 : Int32))])
  refine own_st (fun t k => XS.istoreN X1.here hx rfl (hb hby d3_14) rfl (l' := #[.val (.ref a1), .val (.long (250 : Int64)), .second, .val (.int (1 : Int32))]) rfl k) ?_
  show OG p e _ s below _ T1 (mkF m 15 #[.val (.ref a1), .val (.long (250 : Int64)), .second, .val (.int (1 : Int32))] [])
  refine own_st (fun t k => XS.iloadN X1.here hx rfl (hb hby d3_15) rfl k) ?_
  show OG p e _ s below _ T1 (mkF m 16 #[.val (.ref a1), .val (.long (250 : Int64)), .second, .val (.int (1 : Int32))] [(.int (1 : Int32))])
  refine own_st (fun t k => XS.aloadN X1.here hx rfl (hb hby d3_16) rfl rfl k) ?_
  show OG p e _ s below _ T1 (mkF m 17 #[.val (.ref a1), .val (.long (250 : Int64)), .second, .val (.int (1 : Int32))] [(.ref a1), (.int (1 : Int32))])
  obtain ⟨T2, X2, e2, st2⟩ := getF X1 hx hZ hown (host := "") (Or.inl (hw _ (List.mem_of_getElem? (i := 14) rfl))) Via.refl e1 R0 (g := (mkF m 17 #[.val (.ref a1), .val (.long (250 : Int64)), .second, .val (.int (1 : Int32))] [(.ref a1), (.int (1 : Int32))])) rfl rfl (hb hby d3_17)
  refine own_st st2 ?_
  show OG p e _ s below _ T2 (mkF m 20 #[.val (.ref a1), .val (.long (250 : Int64)), .second, .val (.int (1 : Int32))] [(.int (5 : Int32)), (.int (1 : Int32))])
  refine own_st (fun t k => XS.icmpNo X2.here hx rfl (hb hby d3_20) rfl (by decide) k) ?_
  show OG p e _ s below _ T2 (mkF m 23 #[.val (.ref a1), .val (.long (250 : Int64)), .second, .val (.int (1 : Int32))] [])
  refine own_st (fun t k => XS.lloadN X2.here hx rfl (hb hby d3_23) rfl k) ?_
  show OG p e _ s below _ T2 (mkF m 24 #[.val (.ref a1), .val (.long (250 : Int64)), .second, .val (.int (1 : Int32))] [(.long (250 : Int64))])
  refine own_st (fun t k => X2.ldc2Long hx hown (mvT hZ (hw _ (List.mem_of_getElem? (i := 27) rfl))) (g := (mkF m 24 #[.val (.ref a1), .val (.long (250 : Int64)), .second, .val (.int (1 : Int32))] [(.long (250 : Int64))])) rfl (hb hby d3_24) _ k) ?_
  show OG p e _ s below _ T2 (mkF m 27 #[.val (.ref a1), .val (.long (250 : Int64)), .second, .val (.int (1 : Int32))] [(.long (10000 : Int64)), (.long (250 : Int64))])
  refine own_st (fun t k => XS.lcmp X2.here hx rfl (hb hby d3_27) rfl k) ?_
  show OG p e _ s below _ T2 (mkF m 28 #[.val (.ref a1), .val (.long (250 : Int64)), .second, .val (.int (1 : Int32))] [(.int (lcmpW (250 : Int64) (10000 : Int64)))])
  refine own_st (fun t k => XS.ifNo X2.here hx rfl (hb hby d3_28) rfl (by decide) k) ?_
  show OG p e _ s below _ T2 (mkF m 31 #[.val (.ref a1), .val (.long (250 : Int64)), .second, .val (.int (1 : Int32))] [])
  refine own_st (fun t k => XS.lloadN X2.here hx rfl (hb hby d3_31) rfl k) ?_
  show OG p e _ s below _ T2 (mkF m 32 #[.val (.ref a1), .val (.long (250 : Int64)), .second, .val (.int (1 : Int32))] [(.long (250 : Int64))])
  refine own_st (fun t k => X2.ldc2Long hx hown (mvT hZ (hw _ (List.mem_of_getElem? (i := 28) rfl))) (g := (mkF m 32 #[.val (.ref a1), .val (.long (250 : Int64)), .second, .val (.int (1 : Int32))] [(.long (250 : Int64))])) rfl (hb hby d3_32) _ k) ?_
  show OG p e _ s below _ T2 (mkF m 35 #[.val (.ref a1), .val (.long (250 : Int64)), .second, .val (.int (1 : Int32))] [(.long (2 : Int64)), (.long (250 : Int64))])
  refine own_st (fun t k => XS.lmul X2.here hx rfl (hb hby d3_35) rfl k) ?_
  show OG p e _ s below _ T2 (mkF m 36 #[.val (.ref a1), .val (.long (250 : Int64)), .second, .val (.int (1 : Int32))] [(.long (500 : Int64))])
  refine own_st (fun t k => XS.lstoreN X2.here hx rfl (hb hby d3_36) rfl (l' := #[.val (.ref a1), .val (.long (500 : Int64)), .second, .val (.int (1 : Int32))]) rfl k) ?_
  show OG p e _ s below _ T2 (mkF m 37 #[.val (.ref a1), .val (.long (500 : Int64)), .second, .val (.int (1 : Int32))] [])
  refine own_st (fun t k => XS.iinc X2.here hx rfl (hb hby d3_37) rfl (l' := #[.val (.ref a1), .val (.long (500 : Int64)), .second, .val (.int ((1 : Int32) + (1 : Int32)))]) rfl k) ?_
  show OG p e _ s below _ T2 (mkF m 40 #[.val (.ref a1), .val (.long (500 : Int64)), .second, .val (.int (2 : Int32))] [])
  refine own_st (fun t k => XS.goto X2.here hx rfl (pc0 := 40) (pc' := 15) rfl (hb hby d3_40) (by decide) (by decide) k) ?_
  show OG p e _ s below _ T2 (mkF m 15 #[.val (.ref a1), .val (.long (500 : Int64)), .second, .val (.int (2 : Int32))] [])
  refine own_st (fun t k => XS.iloadN X2.here hx rfl (hb hby d3_15) rfl k) ?_
  show OG p e _ s below _ T2 (mkF m 16 #[.val (.ref a1), .val (.long (500 : Int64)), .second, .val (.int (2 : Int32))] [(.int (2 : Int32))])
  refine own_st (fun t k => XS.aloadN X2.here hx rfl (hb hby d3_16) rfl rfl k) ?_
  show OG p e _ s below _ T2 (mkF m 17 #[.val (.ref a1), .val (.long (500 : Int64)), .second, .val (.int (2 : Int32))] [(.ref a1), (.int (2 : Int32))])
  obtain ⟨T3, X3, e3, st3⟩ := getF X2 hx hZ hown (host := "") (Or.inl (hw _ (List.mem_of_getElem? (i := 14) rfl))) Via.refl e2 R0 (g := (mkF m 17 #[.val (.ref a1), .val (.long (500 : Int64)), .second, .val (.int (2 : Int32))] [(.ref a1), (.int (2 : Int32))])) rfl rfl (hb hby d3_17)
  refine own_st st3 ?_
  show OG p e _ s below _ T3 (mkF m 20 #[.val (.ref a1), .val (.long (500 : Int64)), .second, .val (.int (2 : Int32))] [(.int (5 : Int32)), (.int (2 : Int32))])
  refine own_st (fun t k => XS.icmpNo X3.here hx rfl (hb hby d3_20) rfl (by decide) k) ?_
  show OG p e _ s below _ T3 (mkF m 23 #[.val (.ref a1), .val (.long (500 : Int64)), .second, .val (.int (2 : Int32))] [])
  refine own_st (fun t k => XS.lloadN X3.here hx rfl (hb hby d3_23) rfl k) ?_
  show OG p e _ s below _ T3 (mkF m 24 #[.val (.ref a1), .val (.long (500 : Int64)), .second, .val (.int (2 : Int32))] [(.long (500 : Int64))])
  refine own_st (fun t k => X3.ldc2Long hx hown (mvT hZ (hw _ (List.mem_of_getElem? (i := 27) rfl))) (g := (mkF m 24 #[.val (.ref a1), .val (.long (500 : Int64)), .second, .val (.int (2 : Int32))] [(.long (500 : Int64))])) rfl (hb hby d3_24) _ k) ?_
  show OG p e _ s below _ T3 (mkF m 27 #[.val (.ref a1), .val (.long (500 : Int64)), .second, .val (.int (2 : Int32))] [(.long (10000 : Int64)), (.long (500 : Int64))])
  refine own_st (fun t k => XS.lcmp X3.here hx rfl (hb hby d3_27) rfl k) ?_
  show OG p e _ s below _ T3 (mkF m 28 #[.val (.ref a1), .val (.long (500 : Int64)), .second, .val (.int (2 : Int32))] [(.int (lcmpW (500 : Int64) (10000 : Int64)))])
  refine own_st (fun t k => XS.ifNo X3.here hx rfl (hb hby d3_28) rfl (by decide) k) ?_
  show OG p e _ s below _ T3 (mkF m 31 #[.val (.ref a1), .val (.long (500 : Int64)), .second, .val (.int (2 : Int32))] [])
  refine own_st (fun t k => XS.lloadN X3.here hx rfl (hb hby d3_31) rfl k) ?_
  show OG p e _ s below _ T3 (mkF m 32 #[.val (.ref a1), .val (.long (500 : Int64)), .second, .val (.int (2 : Int32))] [(.long (500 : Int64))])
  refine own_st (fun t k => X3.ldc2Long hx hown (mvT hZ (hw _ (List.mem_of_getElem? (i := 28) rfl))) (g := (mkF m 32 #[.val (.ref a1), .val (.long (500 : Int64)), .second, .val (.int (2 : Int32))] [(.long (500 : Int64))])) rfl (hb hby d3_32) _ k) ?_
  show OG p e _ s below _ T3 (mkF m 35 #[.val (.ref a1), .val (.long (500 : Int64)), .second, .val (.int (2 : Int32))] [(.long (2 : Int64)), (.long (500 : Int64))])
  refine own_st (fun t k => XS.lmul X3.here hx rfl (hb hby d3_35) rfl k) ?_
  show OG p e _ s below _ T3 (mkF m 36 #[.val (.ref a1), .val (.long (500 : Int64)), .second, .val (.int (2 : Int32))] [(.long (1000 : Int64))])
  refine own_st (fun t k => XS.lstoreN X3.here hx rfl (hb hby d3_36) rfl (l' := #[.val (.ref a1), .val (.long (1000 : Int64)), .second, .val (.int (2 : Int32))]) rfl k) ?_
  show OG p e _ s below _ T3 (mkF m 37 #[.val (.ref a1), .val (.long (1000 : Int64)), .second, .val (.int (2 : Int32))] [])
  refine own_st (fun t k => XS.iinc X3.here hx rfl (hb hby d3_37) rfl (l' := #[.val (.ref a1), .val (.long (1000 : Int64)), .second, .val (.int ((2 : Int32) + (1 : Int32)))]) rfl k) ?_
  show OG p e _ s below _ T3 (mkF m 40 #[.val (.ref a1), .val (.long (1000 : Int64)), .second, .val (.int (3 : Int32))] [])
  refine own_st (fun t k => XS.goto X3.here hx rfl (pc0 := 40) (pc' := 15) rfl (hb hby d3_40) (by decide) (by decide) k) ?_
  show OG p e _ s below _ T3 (mkF m 15 #[.val (.ref a1), .val (.long (1000 : Int64)), .second, .val (.int (3 : Int32))] [])
  refine own_st (fun t k => XS.iloadN X3.here hx rfl (hb hby d3_15) rfl k) ?_
  show OG p e _ s below _ T3 (mkF m 16 #[.val (.ref a1), .val (.long (1000 : Int64)), .second, .val (.int (3 : Int32))] [(.int (3 : Int32))])
  refine own_st (fun t k => XS.aloadN X3.here hx rfl (hb hby d3_16) rfl rfl k) ?_
  show OG p e _ s below _ T3 (mkF m 17 #[.val (.ref a1), .val (.long (1000 : Int64)), .second, .val (.int (3 : Int32))] [(.ref a1), (.int (3 : Int32))])
  obtain ⟨T4, X4, e4, st4⟩ := getF X3 hx hZ hown (host := "") (Or.inl (hw _ (List.mem_of_getElem? (i := 14) rfl))) Via.refl e3 R0 (g := (mkF m 17 #[.val (.ref a1), .val (.long (1000 : Int64)), .second, .val (.int (3 : Int32))] [(.ref a1), (.int (3 : Int32))])) rfl rfl (hb hby d3_17)
  refine own_st st4 ?_
  show OG p e _ s below _ T4 (mkF m 20 #[.val (.ref a1), .val (.long (1000 : Int64)), .second, .val (.int (3 : Int32))] [(.int (5 : Int32)), (.int (3 : Int32))])
  refine own_st (fun t k => XS.icmpNo X4.here hx rfl (hb hby d3_20) rfl (by decide) k) ?_
  show OG p e _ s below _ T4 (mkF m 23 #[.val (.ref a1), .val (.long (1000 : Int64)), .second, .val (.int (3 : Int32))] [])
  refine own_st (fun t k => XS.lloadN X4.here hx rfl (hb hby d3_23) rfl k) ?_
  show OG p e _ s below _ T4 (mkF m 24 #[.val (.ref a1), .val (.long (1000 : Int64)), .second, .val (.int (3 : Int32))] [(.long (1000 : Int64))])
  refine own_st (fun t k => X4.ldc2Long hx hown (mvT hZ (hw _ (List.mem_of_getElem? (i := 27) rfl))) (g := (mkF m 24 #[.val (.ref a1), .val (.long (1000 : Int64)), .second, .val (.int (3 : Int32))] [(.long (1000 : Int64))])) rfl (hb hby d3_24) _ k) ?_
  show OG p e _ s below _ T4 (mkF m 27 #[.val (.ref a1), .val (.long (1000 : Int64)), .second, .val (.int (3 : Int32))] [(.long (10000 : Int64)), (.long (1000 : Int64))])
  refine own_st (fun t k => XS.lcmp X4.here hx rfl (hb hby d3_27) rfl k) ?_
  show OG p e _ s below _ T4 (mkF m 28 #[.val (.ref a1), .val (.long (1000 : Int64)), .second, .val (.int (3 : Int32))] [(.int (lcmpW (1000 : Int64) (10000 : Int64)))])
  refine own_st (fun t k => XS.ifNo X4.here hx rfl (hb hby d3_28) rfl (by decide) k) ?_
  show OG p e _ s below _ T4 (mkF m 31 #[.val (.ref a1), .val (.long (1000 : Int64)), .second, .val (.int (3 : Int32))] [])
  refine own_st (fun t k => XS.lloadN X4.here hx rfl (hb hby d3_31) rfl k) ?_
  show OG p e _ s below _ T4 (mkF m 32 #[.val (.ref a1), .val (.long (1000 : Int64)), .second, .val (.int (3 : Int32))] [(.long (1000 : Int64))])
  refine own_st (fun t k => X4.ldc2Long hx hown (mvT hZ (hw _ (List.mem_of_getElem? (i := 28) rfl))) (g := (mkF m 32 #[.val (.ref a1), .val (.long (1000 : Int64)), .second, .val (.int (3 : Int32))] [(.long (1000 : Int64))])) rfl (hb hby d3_32) _ k) ?_
  show OG p e _ s below _ T4 (mkF m 35 #[.val (.ref a1), .val (.long (1000 : Int64)), .second, .val (.int (3 : Int32))] [(.long (2 : Int64)), (.long (1000 : Int64))])
  refine own_st (fun t k => XS.lmul X4.here hx rfl (hb hby d3_35) rfl k) ?_
  show OG p e _ s below _ T4 (mkF m 36 #[.val (.ref a1), .val (.long (1000 : Int64)), .second, .val (.int (3 : Int32))] [(.long (2000 : Int64))])
  refine own_st (fun t k => XS.lstoreN X4.here hx rfl (hb hby d3_36) rfl (l' := #[.val (.ref a1), .val (.long (2000 : Int64)), .second, .val (.int (3 : Int32))]) rfl k) ?_
  show OG p e _ s below _ T4 (mkF m 37 #[.val (.ref a1), .val (.long (2000 : Int64)), .second, .val (.int (3 : Int32))] [])
  refine own_st (fun t k => XS.iinc X4.here hx rfl (hb hby d3_37) rfl (l' := #[.val (.ref a1), .val (.long (2000 : Int64)), .second, .val (.int ((3 : Int32) + (1 : Int32)))]) rfl k) ?_
  show OG p e _ s below _ T4 (mkF m 40 #[.val (.ref a1), .val (.long (2000 : Int64)), .second, .val (.int (4 : Int32))] [])
  refine own_st (fun t k => XS.goto X4.here hx rfl (pc0 := 40) (pc' := 15) rfl (hb hby d3_40) (by decide) (by decide) k) ?_
  show OG p e _ s below _ T4 (mkF m 15 #[.val (.ref a1), .val (.long (2000 : Int64)), .second, .val (.int (4 : Int32))] [])
  refine own_st (fun t k => XS.iloadN X4.here hx rfl (hb hby d3_15) rfl k) ?_
  show OG p e _ s below _ T4 (mkF m 16 #[.val (.ref a1), .val (.long (2000 : Int64)), .second, .val (.int (4 : Int32))] [(.int (4 : Int32))])
  refine own_st (fun t k => XS.aloadN X4.here hx rfl (hb hby d3_16) rfl rfl k) ?_
  show OG p e _ s below _ T4 (mkF m 17 #[.val (.ref a1), .val (.long (2000 : Int64)), .second, .val (.int (4 : Int32))] [(.ref a1), (.int (4 : Int32))])
  obtain ⟨T5, X5, e5, st5⟩ := getF X4 hx hZ hown (host := "") (Or.inl (hw _ (List.mem_of_getElem? (i := 14) rfl))) Via.refl e4 R0 (g := (mkF m 17 #[.val (.ref a1), .val (.long (2000 : Int64)), .second, .val (.int (4 : Int32))] [(.ref a1), (.int (4 : Int32))])) rfl rfl (hb hby d3_17)
  refine own_st st5 ?_
  show OG p e _ s below _ T5 (mkF m 20 #[.val (.ref a1), .val (.long (2000 : Int64)), .second, .val (.int (4 : Int32))] [(.int (5 : Int32)), (.int (4 : Int32))])
  refine own_st (fun t k => XS.icmpNo X5.here hx rfl (hb hby d3_20) rfl (by decide) k) ?_
  show OG p e _ s below _ T5 (mkF m 23 #[.val (.ref a1), .val (.long (2000 : Int64)), .second, .val (.int (4 : Int32))] [])
  refine own_st (fun t k => XS.lloadN X5.here hx rfl (hb hby d3_23) rfl k) ?_
  show OG p e _ s below _ T5 (mkF m 24 #[.val (.ref a1), .val (.long (2000 : Int64)), .second, .val (.int (4 : Int32))] [(.long (2000 : Int64))])
  refine own_st (fun t k => X5.ldc2Long hx hown (mvT hZ (hw _ (List.mem_of_getElem? (i := 27) rfl))) (g := (mkF m 24 #[.val (.ref a1), .val (.long (2000 : Int64)), .second, .val (.int (4 : Int32))] [(.long (2000 : Int64))])) rfl (hb hby d3_24) _ k) ?_
  show OG p e _ s below _ T5 (mkF m 27 #[.val (.ref a1), .val (.long (2000 : Int64)), .second, .val (.int (4 : Int32))] [(.long (10000 : Int64)), (.long (2000 : Int64))])
  refine own_st (fun t k => XS.lcmp X5.here hx rfl (hb hby d3_27) rfl k) ?_
  show OG p e _ s below _ T5 (mkF m 28 #[.val (.ref a1), .val (.long (2000 : Int64)), .second, .val (.int (4 : Int32))] [(.int (lcmpW (2000 : Int64) (10000 : Int64)))])
  refine own_st (fun t k => XS.ifNo X5.here hx rfl (hb hby d3_28) rfl (by decide) k) ?_
  show OG p e _ s below _ T5 (mkF m 31 #[.val (.ref a1), .val (.long (2000 : Int64)), .second, .val (.int (4 : Int32))] [])
  refine own_st (fun t k => XS.lloadN X5.here hx rfl (hb hby d3_31) rfl k) ?_
  show OG p e _ s below _ T5 (mkF m 32 #[.val (.ref a1), .val (.long (2000 : Int64)), .second, .val (.int (4 : Int32))] [(.long (2000 : Int64))])
  refine own_st (fun t k => X5.ldc2Long hx hown (mvT hZ (hw _ (List.mem_of_getElem? (i := 28) rfl))) (g := (mkF m 32 #[.val (.ref a1), .val (.long (2000 : Int64)), .second, .val (.int (4 : Int32))] [(.long (2000 : Int64))])) rfl (hb hby d3_32) _ k) ?_
  show OG p e _ s below _ T5 (mkF m 35 #[.val (.ref a1), .val (.long (2000 : Int64)), .second, .val (.int (4 : Int32))] [(.long (2 : Int64)), (.long (2000 : Int64))])
  refine own_st (fun t k => XS.lmul X5.here hx rfl (hb hby d3_35) rfl k) ?_
  show OG p e _ s below _ T5 (mkF m 36 #[.val (.ref a1), .val (.long (2000 : Int64)), .second, .val (.int (4 : Int32))] [(.long (4000 : Int64))])
  refine own_st (fun t k => XS.lstoreN X5.here hx rfl (hb hby d3_36) rfl (l' := #[.val (.ref a1), .val (.long (4000 : Int64)), .second, .val (.int (4 : Int32))]) rfl k) ?_
  show OG p e _ s below _ T5 (mkF m 37 #[.val (.ref a1), .val (.long (4000 : Int64)), .second, .val (.int (4 : Int32))] [])
  refine own_st (fun t k => XS.iinc X5.here hx rfl (hb hby d3_37) rfl (l' := #[.val (.ref a1), .val (.long (4000 : Int64)), .second, .val (.int ((4 : Int32) + (1 : Int32)))]) rfl k) ?_
  show OG p e _ s below _ T5 (mkF m 40 #[.val (.ref a1), .val (.long (4000 : Int64)), .second, .val (.int (5 : Int32))] [])
  refine own_st (fun t k => XS.goto X5.here hx rfl (pc0 := 40) (pc' := 15) rfl (hb hby d3_40) (by decide) (by decide) k) ?_
  show OG p e _ s below _ T5 (mkF m 15 #[.val (.ref a1), .val (.long (4000 : Int64)), .second, .val (.int (5 : Int32))] [])
  refine own_st (fun t k => XS.iloadN X5.here hx rfl (hb hby d3_15) rfl k) ?_
  show OG p e _ s below _ T5 (mkF m 16 #[.val (.ref a1), .val (.long (4000 : Int64)), .second, .val (.int (5 : Int32))] [(.int (5 : Int32))])
  refine own_st (fun t k => XS.aloadN X5.here hx rfl (hb hby d3_16) rfl rfl k) ?_
  show OG p e _ s below _ T5 (mkF m 17 #[.val (.ref a1), .val (.long (4000 : Int64)), .second, .val (.int (5 : Int32))] [(.ref a1), (.int (5 : Int32))])
  obtain ⟨T6, X6, e6, st6⟩ := getF X5 hx hZ hown (host := "") (Or.inl (hw _ (List.mem_of_getElem? (i := 14) rfl))) Via.refl e5 R0 (g := (mkF m 17 #[.val (.ref a1), .val (.long (4000 : Int64)), .second, .val (.int (5 : Int32))] [(.ref a1), (.int (5 : Int32))])) rfl rfl (hb hby d3_17)
  refine own_st st6 ?_
  show OG p e _ s below _ T6 (mkF m 20 #[.val (.ref a1), .val (.long (4000 : Int64)), .second, .val (.int (5 : Int32))] [(.int (5 : Int32)), (.int (5 : Int32))])
  refine own_st (fun t k => XS.icmpYes X6.here hx rfl (pc0 := 20) (pc' := 43) rfl (hb hby d3_20) rfl (by decide) (by decide) (by decide) k) ?_
  show OG p e _ s below _ T6 (mkF m 43 #[.val (.ref a1), .val (.long (4000 : Int64)), .second, .val (.int (5 : Int32))] [])
  refine own_st (fun t k => XS.lloadN X6.here hx rfl (hb hby d3_43) rfl k) ?_
  show OG p e _ s below _ T6 (mkF m 44 #[.val (.ref a1), .val (.long (4000 : Int64)), .second, .val (.int (5 : Int32))] [(.long (4000 : Int64))])
  refine own_st (fun t k => X6.ldc2Long hx hown (mvT hZ (hw _ (List.mem_of_getElem? (i := 27) rfl))) (g := (mkF m 44 #[.val (.ref a1), .val (.long (4000 : Int64)), .second, .val (.int (5 : Int32))] [(.long (4000 : Int64))])) rfl (hb hby d3_44) _ k) ?_
  show OG p e _ s below _ T6 (mkF m 47 #[.val (.ref a1), .val (.long (4000 : Int64)), .second, .val (.int (5 : Int32))] [(.long (10000 : Int64)), (.long (4000 : Int64))])
  obtain ⟨_, _, ⟨T7, L7, k7, n7⟩, -, X7, ⟨Lc7, hQ7, l7, y7, z7⟩, st7⟩ := Jvm.LawKit.callS X6 hx (y := (⟨"java/lang/Math", "min", "(JJ)J"⟩ : MethodName)) hown (mvT hZ (hw _ (List.mem_of_getElem? (i := 29) rfl))) (mvT hZ (hw _ (List.mem_of_getElem? (i := 30) rfl))) (mvT hZ (hw _ (List.mem_of_getElem? (i := 31) rfl))) (mvT hZ (hw _ (List.mem_of_getElem? (i := 32) rfl))) (by decide) (backOf (W := 0) (rm := ({ frames := 0, cells := 0, slots := 0, locals := 0 } : Room)) (rm6 l Z a0 hw [] (4000 : Int64) (10000 : Int64) h0) hZ (hw _ (List.mem_of_getElem? (i := 32) rfl)) (hw _ (List.mem_of_getElem? (i := 31) rfl)) (by decide) (by decide)) (g := (mkF m 47 #[.val (.ref a1), .val (.long (4000 : Int64)), .second, .val (.int (5 : Int32))] [(.long (10000 : Int64)), (.long (4000 : Int64))])) rfl (by rw [hml]; rfl) (argsL := [(.long (4000 : Int64)), (.long (10000 : Int64))]) (rest := []) (lenOf pd__JJ_J rfl) rfl (by show 2 * 0 + _ ≤ _; exact Nat.le_of_eq rfl) (hb hby d3_47) (fun _ _ => ⟨rfl, e6, (by decide : 0 + 0 ≤ _), (by decide : 0 + 0 ≤ _)⟩)
  dsimp only [Pt.U, Pt.locs, Pt.cells, Pt.slots] at X7 l7 y7 z7 st7 hQ7
  subst l7 y7 z7
  obtain ⟨rfl, rfl, e7⟩ := hQ7
  refine own_st st7 ?_
  show OG p e _ s below _ T7 (mkF m 50 #[.val (.ref a1), .val (.long (4000 : Int64)), .second, .val (.int (5 : Int32))] [(.long (f6 (4000 : Int64) (10000 : Int64)))])
  exact own_retL X7 hx hret hlk (hb hby d3_50) (by decide) (by decide) ⟨congrArg (fun z => some (Value.long z)) (show f3_5  = (f6 (4000 : Int64) (10000 : Int64)) from (by rw [f3_5])).symm, rfl, e7⟩
def f3_6  : Int64 := (f6 (8000 : Int64) (10000 : Int64))
abbrev Q3_6 (Z : State) (a1 : Addr) (h0 : Heap)  : Option Value → Heap → List Loc → Prop := (fun v h L => v = some (.long f3_6) ∧ L = [] ∧ h = h0)
set_option maxRecDepth 65536 in
set_option maxHeartbeats 40000000 in
theorem rm3_6 (l : Launch) (Z : State) (a0 : Array Value) (hw : ∀ d ∈ tables_1, d.before a0 Z = true) (ws : List Jvm.Cond) (a1 : Addr) (h0 : Heap) (R0 : Fld Z h0 a1 "com/example/tidewire/tidewire/internal/Backoff" "attempts" "I" (.int (6 : Int32))) :
    OMet l Z (⟨"com/example/tidewire/tidewire/internal/Backoff", "delayMs", "()J"⟩ : MethodName) prog_2_method_2_code 4 (some .long) ws ({ frames := 1, cells := 0, slots := 0, locals := 15 } : Room) #[(.ref a1)] h0 (Q3_6 Z a1 h0) := by
  refine own_enter pn_3 ?_
  intro p e s m below meth c s₁ hx hby hml0 hown hret hlk hnm hZ X0 e0
  have hml : c.maxLocals = 4 := hml0
  refine own_cast (ef_3 m a1) ?_
  show OG p e ({ frames := 1, cells := 0, slots := 0, locals := 15 } : Room) s below (fun v h L => v = some (.long f3_6) ∧ L = [] ∧ h = h0) s₁ (mkF m 0 #[.val (.ref a1), .unset, .unset, .unset] [])
  refine own_st (fun t k => XS.aloadN X0.here hx rfl (hb hby d3_0) rfl rfl k) ?_
  show OG p e _ s below _ s₁ (mkF m 1 #[.val (.ref a1), .unset, .unset, .unset] [(.ref a1)])
  obtain ⟨T1, X1, e1, st1⟩ := getF X0 hx hZ hown (host := "") (Or.inl (hw _ (List.mem_of_getElem? (i := 14) rfl))) Via.refl e0 R0 (g := (mkF m 1 #[.val (.ref a1), .unset, .unset, .unset] [(.ref a1)])) rfl rfl (hb hby d3_1)
  refine own_st st1 ?_
  show OG p e _ s below _ T1 (mkF m 4 #[.val (.ref a1), .unset, .unset, .unset] [(.int (6 : Int32))])
  refine own_st (fun t k => XS.ifYes X1.here hx rfl (pc0 := 4) (pc' := 9) rfl (hb hby d3_4) rfl (by decide) (by decide) (by decide) k) ?_
  show OG p e _ s below _ T1 (mkF m 9 #[.val (.ref a1), .unset, .unset, .unset] [])
  refine own_st (fun t k => X1.ldc2Long hx hown (mvT hZ (hw _ (List.mem_of_getElem? (i := 26) rfl))) (g := (mkF m 9 #[.val (.ref a1), .unset, .unset, .unset] [])) rfl (hb hby d3_9) _ k) ?_
  show OG p e _ s below _ T1 (mkF m 12 #[.val (.ref a1), .unset, .unset, .unset] [(.long (250 : Int64))])
  refine own_st (fun t k => XS.lstoreN X1.here hx rfl (hb hby d3_12) rfl (l' := #[.val (.ref a1), .val (.long (250 : Int64)), .second, .unset]) rfl k) ?_
  show OG p e _ s below _ T1 (mkF m 13 #[.val (.ref a1), .val (.long (250 : Int64)), .second, .unset] [])
  refine own_st (fun t k => XS.iconst X1.here hx rfl (hb hby d3_13) k) ?_
  show OG p e _ s below _ T1 (mkF m 14 #[.val (.ref a1), .val (.long (250 : Int64)), .second, .unset] [(.int (1 : Int32))])
  refine own_st (fun t k => XS.istoreN X1.here hx rfl (hb hby d3_14) rfl (l' := #[.val (.ref a1), .val (.long (250 : Int64)), .second, .val (.int (1 : Int32))]) rfl k) ?_
  show OG p e _ s below _ T1 (mkF m 15 #[.val (.ref a1), .val (.long (250 : Int64)), .second, .val (.int (1 : Int32))] [])
  refine own_st (fun t k => XS.iloadN X1.here hx rfl (hb hby d3_15) rfl k) ?_
  show OG p e _ s below _ T1 (mkF m 16 #[.val (.ref a1), .val (.long (250 : Int64)), .second, .val (.int (1 : Int32))] [(.int (1 : Int32))])
  refine own_st (fun t k => XS.aloadN X1.here hx rfl (hb hby d3_16) rfl rfl k) ?_
  show OG p e _ s below _ T1 (mkF m 17 #[.val (.ref a1), .val (.long (250 : Int64)), .second, .val (.int (1 : Int32))] [(.ref a1), (.int (1 : Int32))])
  obtain ⟨T2, X2, e2, st2⟩ := getF X1 hx hZ hown (host := "") (Or.inl (hw _ (List.mem_of_getElem? (i := 14) rfl))) Via.refl e1 R0 (g := (mkF m 17 #[.val (.ref a1), .val (.long (250 : Int64)), .second, .val (.int (1 : Int32))] [(.ref a1), (.int (1 : Int32))])) rfl rfl (hb hby d3_17)
  refine own_st st2 ?_
  show OG p e _ s below _ T2 (mkF m 20 #[.val (.ref a1), .val (.long (250 : Int64)), .second, .val (.int (1 : Int32))] [(.int (6 : Int32)), (.int (1 : Int32))])
  refine own_st (fun t k => XS.icmpNo X2.here hx rfl (hb hby d3_20) rfl (by decide) k) ?_
  show OG p e _ s below _ T2 (mkF m 23 #[.val (.ref a1), .val (.long (250 : Int64)), .second, .val (.int (1 : Int32))] [])
  refine own_st (fun t k => XS.lloadN X2.here hx rfl (hb hby d3_23) rfl k) ?_
  show OG p e _ s below _ T2 (mkF m 24 #[.val (.ref a1), .val (.long (250 : Int64)), .second, .val (.int (1 : Int32))] [(.long (250 : Int64))])
  refine own_st (fun t k => X2.ldc2Long hx hown (mvT hZ (hw _ (List.mem_of_getElem? (i := 27) rfl))) (g := (mkF m 24 #[.val (.ref a1), .val (.long (250 : Int64)), .second, .val (.int (1 : Int32))] [(.long (250 : Int64))])) rfl (hb hby d3_24) _ k) ?_
  show OG p e _ s below _ T2 (mkF m 27 #[.val (.ref a1), .val (.long (250 : Int64)), .second, .val (.int (1 : Int32))] [(.long (10000 : Int64)), (.long (250 : Int64))])
  refine own_st (fun t k => XS.lcmp X2.here hx rfl (hb hby d3_27) rfl k) ?_
  show OG p e _ s below _ T2 (mkF m 28 #[.val (.ref a1), .val (.long (250 : Int64)), .second, .val (.int (1 : Int32))] [(.int (lcmpW (250 : Int64) (10000 : Int64)))])
  refine own_st (fun t k => XS.ifNo X2.here hx rfl (hb hby d3_28) rfl (by decide) k) ?_
  show OG p e _ s below _ T2 (mkF m 31 #[.val (.ref a1), .val (.long (250 : Int64)), .second, .val (.int (1 : Int32))] [])
  refine own_st (fun t k => XS.lloadN X2.here hx rfl (hb hby d3_31) rfl k) ?_
  show OG p e _ s below _ T2 (mkF m 32 #[.val (.ref a1), .val (.long (250 : Int64)), .second, .val (.int (1 : Int32))] [(.long (250 : Int64))])
  refine own_st (fun t k => X2.ldc2Long hx hown (mvT hZ (hw _ (List.mem_of_getElem? (i := 28) rfl))) (g := (mkF m 32 #[.val (.ref a1), .val (.long (250 : Int64)), .second, .val (.int (1 : Int32))] [(.long (250 : Int64))])) rfl (hb hby d3_32) _ k) ?_
  show OG p e _ s below _ T2 (mkF m 35 #[.val (.ref a1), .val (.long (250 : Int64)), .second, .val (.int (1 : Int32))] [(.long (2 : Int64)), (.long (250 : Int64))])
  refine own_st (fun t k => XS.lmul X2.here hx rfl (hb hby d3_35) rfl k) ?_
  show OG p e _ s below _ T2 (mkF m 36 #[.val (.ref a1), .val (.long (250 : Int64)), .second, .val (.int (1 : Int32))] [(.long (500 : Int64))])
  refine own_st (fun t k => XS.lstoreN X2.here hx rfl (hb hby d3_36) rfl (l' := #[.val (.ref a1), .val (.long (500 : Int64)), .second, .val (.int (1 : Int32))]) rfl k) ?_
  show OG p e _ s below _ T2 (mkF m 37 #[.val (.ref a1), .val (.long (500 : Int64)), .second, .val (.int (1 : Int32))] [])
  refine own_st (fun t k => XS.iinc X2.here hx rfl (hb hby d3_37) rfl (l' := #[.val (.ref a1), .val (.long (500 : Int64)), .second, .val (.int ((1 : Int32) + (1 : Int32)))]) rfl k) ?_
  show OG p e _ s below _ T2 (mkF m 40 #[.val (.ref a1), .val (.long (500 : Int64)), .second, .val (.int (2 : Int32))] [])
  refine own_st (fun t k => XS.goto X2.here hx rfl (pc0 := 40) (pc' := 15) rfl (hb hby d3_40) (by decide) (by decide) k) ?_
  show OG p e _ s below _ T2 (mkF m 15 #[.val (.ref a1), .val (.long (500 : Int64)), .second, .val (.int (2 : Int32))] [])
  refine own_st (fun t k => XS.iloadN X2.here hx rfl (hb hby d3_15) rfl k) ?_
  show OG p e _ s below _ T2 (mkF m 16 #[.val (.ref a1), .val (.long (500 : Int64)), .second, .val (.int (2 : Int32))] [(.int (2 : Int32))])
  refine own_st (fun t k => XS.aloadN X2.here hx rfl (hb hby d3_16) rfl rfl k) ?_
  show OG p e _ s below _ T2 (mkF m 17 #[.val (.ref a1), .val (.long (500 : Int64)), .second, .val (.int (2 : Int32))] [(.ref a1), (.int (2 : Int32))])
  obtain ⟨T3, X3, e3, st3⟩ := getF X2 hx hZ hown (host := "") (Or.inl (hw _ (List.mem_of_getElem? (i := 14) rfl))) Via.refl e2 R0 (g := (mkF m 17 #[.val (.ref a1), .val (.long (500 : Int64)), .second, .val (.int (2 : Int32))] [(.ref a1), (.int (2 : Int32))])) rfl rfl (hb hby d3_17)
  refine own_st st3 ?_
  show OG p e _ s below _ T3 (mkF m 20 #[.val (.ref a1), .val (.long (500 : Int64)), .second, .val (.int (2 : Int32))] [(.int (6 : Int32)), (.int (2 : Int32))])
  refine own_st (fun t k => XS.icmpNo X3.here hx rfl (hb hby d3_20) rfl (by decide) k) ?_
  show OG p e _ s below _ T3 (mkF m 23 #[.val (.ref a1), .val (.long (500 : Int64)), .second, .val (.int (2 : Int32))] [])
  refine own_st (fun t k => XS.lloadN X3.here hx rfl (hb hby d3_23) rfl k) ?_
  show OG p e _ s below _ T3 (mkF m 24 #[.val (.ref a1), .val (.long (500 : Int64)), .second, .val (.int (2 : Int32))] [(.long (500 : Int64))])
  refine own_st (fun t k => X3.ldc2Long hx hown (mvT hZ (hw _ (List.mem_of_getElem? (i := 27) rfl))) (g := (mkF m 24 #[.val (.ref a1), .val (.long (500 : Int64)), .second, .val (.int (2 : Int32))] [(.long (500 : Int64))])) rfl (hb hby d3_24) _ k) ?_
  show OG p e _ s below _ T3 (mkF m 27 #[.val (.ref a1), .val (.long (500 : Int64)), .second, .val (.int (2 : Int32))] [(.long (10000 : Int64)), (.long (500 : Int64))])
  refine own_st (fun t k => XS.lcmp X3.here hx rfl (hb hby d3_27) rfl k) ?_
  show OG p e _ s below _ T3 (mkF m 28 #[.val (.ref a1), .val (.long (500 : Int64)), .second, .val (.int (2 : Int32))] [(.int (lcmpW (500 : Int64) (10000 : Int64)))])
  refine own_st (fun t k => XS.ifNo X3.here hx rfl (hb hby d3_28) rfl (by decide) k) ?_
  show OG p e _ s below _ T3 (mkF m 31 #[.val (.ref a1), .val (.long (500 : Int64)), .second, .val (.int (2 : Int32))] [])
  refine own_st (fun t k => XS.lloadN X3.here hx rfl (hb hby d3_31) rfl k) ?_
  show OG p e _ s below _ T3 (mkF m 32 #[.val (.ref a1), .val (.long (500 : Int64)), .second, .val (.int (2 : Int32))] [(.long (500 : Int64))])
  refine own_st (fun t k => X3.ldc2Long hx hown (mvT hZ (hw _ (List.mem_of_getElem? (i := 28) rfl))) (g := (mkF m 32 #[.val (.ref a1), .val (.long (500 : Int64)), .second, .val (.int (2 : Int32))] [(.long (500 : Int64))])) rfl (hb hby d3_32) _ k) ?_
  show OG p e _ s below _ T3 (mkF m 35 #[.val (.ref a1), .val (.long (500 : Int64)), .second, .val (.int (2 : Int32))] [(.long (2 : Int64)), (.long (500 : Int64))])
  refine own_st (fun t k => XS.lmul X3.here hx rfl (hb hby d3_35) rfl k) ?_
  show OG p e _ s below _ T3 (mkF m 36 #[.val (.ref a1), .val (.long (500 : Int64)), .second, .val (.int (2 : Int32))] [(.long (1000 : Int64))])
  refine own_st (fun t k => XS.lstoreN X3.here hx rfl (hb hby d3_36) rfl (l' := #[.val (.ref a1), .val (.long (1000 : Int64)), .second, .val (.int (2 : Int32))]) rfl k) ?_
  show OG p e _ s below _ T3 (mkF m 37 #[.val (.ref a1), .val (.long (1000 : Int64)), .second, .val (.int (2 : Int32))] [])
  refine own_st (fun t k => XS.iinc X3.here hx rfl (hb hby d3_37) rfl (l' := #[.val (.ref a1), .val (.long (1000 : Int64)), .second, .val (.int ((2 : Int32) + (1 : Int32)))]) rfl k) ?_
  show OG p e _ s below _ T3 (mkF m 40 #[.val (.ref a1), .val (.long (1000 : Int64)), .second, .val (.int (3 : Int32))] [])
  refine own_st (fun t k => XS.goto X3.here hx rfl (pc0 := 40) (pc' := 15) rfl (hb hby d3_40) (by decide) (by decide) k) ?_
  show OG p e _ s below _ T3 (mkF m 15 #[.val (.ref a1), .val (.long (1000 : Int64)), .second, .val (.int (3 : Int32))] [])
  refine own_st (fun t k => XS.iloadN X3.here hx rfl (hb hby d3_15) rfl k) ?_
  show OG p e _ s below _ T3 (mkF m 16 #[.val (.ref a1), .val (.long (1000 : Int64)), .second, .val (.int (3 : Int32))] [(.int (3 : Int32))])
  refine own_st (fun t k => XS.aloadN X3.here hx rfl (hb hby d3_16) rfl rfl k) ?_
  show OG p e _ s below _ T3 (mkF m 17 #[.val (.ref a1), .val (.long (1000 : Int64)), .second, .val (.int (3 : Int32))] [(.ref a1), (.int (3 : Int32))])
  obtain ⟨T4, X4, e4, st4⟩ := getF X3 hx hZ hown (host := "") (Or.inl (hw _ (List.mem_of_getElem? (i := 14) rfl))) Via.refl e3 R0 (g := (mkF m 17 #[.val (.ref a1), .val (.long (1000 : Int64)), .second, .val (.int (3 : Int32))] [(.ref a1), (.int (3 : Int32))])) rfl rfl (hb hby d3_17)
  refine own_st st4 ?_
  show OG p e _ s below _ T4 (mkF m 20 #[.val (.ref a1), .val (.long (1000 : Int64)), .second, .val (.int (3 : Int32))] [(.int (6 : Int32)), (.int (3 : Int32))])
  refine own_st (fun t k => XS.icmpNo X4.here hx rfl (hb hby d3_20) rfl (by decide) k) ?_
  show OG p e _ s below _ T4 (mkF m 23 #[.val (.ref a1), .val (.long (1000 : Int64)), .second, .val (.int (3 : Int32))] [])
  refine own_st (fun t k => XS.lloadN X4.here hx rfl (hb hby d3_23) rfl k) ?_
  show OG p e _ s below _ T4 (mkF m 24 #[.val (.ref a1), .val (.long (1000 : Int64)), .second, .val (.int (3 : Int32))] [(.long (1000 : Int64))])
  refine own_st (fun t k => X4.ldc2Long hx hown (mvT hZ (hw _ (List.mem_of_getElem? (i := 27) rfl))) (g := (mkF m 24 #[.val (.ref a1), .val (.long (1000 : Int64)), .second, .val (.int (3 : Int32))] [(.long (1000 : Int64))])) rfl (hb hby d3_24) _ k) ?_
  show OG p e _ s below _ T4 (mkF m 27 #[.val (.ref a1), .val (.long (1000 : Int64)), .second, .val (.int (3 : Int32))] [(.long (10000 : Int64)), (.long (1000 : Int64))])
  refine own_st (fun t k => XS.lcmp X4.here hx rfl (hb hby d3_27) rfl k) ?_
  show OG p e _ s below _ T4 (mkF m 28 #[.val (.ref a1), .val (.long (1000 : Int64)), .second, .val (.int (3 : Int32))] [(.int (lcmpW (1000 : Int64) (10000 : Int64)))])
  refine own_st (fun t k => XS.ifNo X4.here hx rfl (hb hby d3_28) rfl (by decide) k) ?_
  show OG p e _ s below _ T4 (mkF m 31 #[.val (.ref a1), .val (.long (1000 : Int64)), .second, .val (.int (3 : Int32))] [])
  refine own_st (fun t k => XS.lloadN X4.here hx rfl (hb hby d3_31) rfl k) ?_
  show OG p e _ s below _ T4 (mkF m 32 #[.val (.ref a1), .val (.long (1000 : Int64)), .second, .val (.int (3 : Int32))] [(.long (1000 : Int64))])
  refine own_st (fun t k => X4.ldc2Long hx hown (mvT hZ (hw _ (List.mem_of_getElem? (i := 28) rfl))) (g := (mkF m 32 #[.val (.ref a1), .val (.long (1000 : Int64)), .second, .val (.int (3 : Int32))] [(.long (1000 : Int64))])) rfl (hb hby d3_32) _ k) ?_
  show OG p e _ s below _ T4 (mkF m 35 #[.val (.ref a1), .val (.long (1000 : Int64)), .second, .val (.int (3 : Int32))] [(.long (2 : Int64)), (.long (1000 : Int64))])
  refine own_st (fun t k => XS.lmul X4.here hx rfl (hb hby d3_35) rfl k) ?_
  show OG p e _ s below _ T4 (mkF m 36 #[.val (.ref a1), .val (.long (1000 : Int64)), .second, .val (.int (3 : Int32))] [(.long (2000 : Int64))])
  refine own_st (fun t k => XS.lstoreN X4.here hx rfl (hb hby d3_36) rfl (l' := #[.val (.ref a1), .val (.long (2000 : Int64)), .second, .val (.int (3 : Int32))]) rfl k) ?_
  show OG p e _ s below _ T4 (mkF m 37 #[.val (.ref a1), .val (.long (2000 : Int64)), .second, .val (.int (3 : Int32))] [])
  refine own_st (fun t k => XS.iinc X4.here hx rfl (hb hby d3_37) rfl (l' := #[.val (.ref a1), .val (.long (2000 : Int64)), .second, .val (.int ((3 : Int32) + (1 : Int32)))]) rfl k) ?_
  show OG p e _ s below _ T4 (mkF m 40 #[.val (.ref a1), .val (.long (2000 : Int64)), .second, .val (.int (4 : Int32))] [])
  refine own_st (fun t k => XS.goto X4.here hx rfl (pc0 := 40) (pc' := 15) rfl (hb hby d3_40) (by decide) (by decide) k) ?_
  show OG p e _ s below _ T4 (mkF m 15 #[.val (.ref a1), .val (.long (2000 : Int64)), .second, .val (.int (4 : Int32))] [])
  refine own_st (fun t k => XS.iloadN X4.here hx rfl (hb hby d3_15) rfl k) ?_
  show OG p e _ s below _ T4 (mkF m 16 #[.val (.ref a1), .val (.long (2000 : Int64)), .second, .val (.int (4 : Int32))] [(.int (4 : Int32))])
  refine own_st (fun t k => XS.aloadN X4.here hx rfl (hb hby d3_16) rfl rfl k) ?_
  show OG p e _ s below _ T4 (mkF m 17 #[.val (.ref a1), .val (.long (2000 : Int64)), .second, .val (.int (4 : Int32))] [(.ref a1), (.int (4 : Int32))])
  obtain ⟨T5, X5, e5, st5⟩ := getF X4 hx hZ hown (host := "") (Or.inl (hw _ (List.mem_of_getElem? (i := 14) rfl))) Via.refl e4 R0 (g := (mkF m 17 #[.val (.ref a1), .val (.long (2000 : Int64)), .second, .val (.int (4 : Int32))] [(.ref a1), (.int (4 : Int32))])) rfl rfl (hb hby d3_17)
  refine own_st st5 ?_
  show OG p e _ s below _ T5 (mkF m 20 #[.val (.ref a1), .val (.long (2000 : Int64)), .second, .val (.int (4 : Int32))] [(.int (6 : Int32)), (.int (4 : Int32))])
  refine own_st (fun t k => XS.icmpNo X5.here hx rfl (hb hby d3_20) rfl (by decide) k) ?_
  show OG p e _ s below _ T5 (mkF m 23 #[.val (.ref a1), .val (.long (2000 : Int64)), .second, .val (.int (4 : Int32))] [])
  refine own_st (fun t k => XS.lloadN X5.here hx rfl (hb hby d3_23) rfl k) ?_
  show OG p e _ s below _ T5 (mkF m 24 #[.val (.ref a1), .val (.long (2000 : Int64)), .second, .val (.int (4 : Int32))] [(.long (2000 : Int64))])
  refine own_st (fun t k => X5.ldc2Long hx hown (mvT hZ (hw _ (List.mem_of_getElem? (i := 27) rfl))) (g := (mkF m 24 #[.val (.ref a1), .val (.long (2000 : Int64)), .second, .val (.int (4 : Int32))] [(.long (2000 : Int64))])) rfl (hb hby d3_24) _ k) ?_
  show OG p e _ s below _ T5 (mkF m 27 #[.val (.ref a1), .val (.long (2000 : Int64)), .second, .val (.int (4 : Int32))] [(.long (10000 : Int64)), (.long (2000 : Int64))])
  refine own_st (fun t k => XS.lcmp X5.here hx rfl (hb hby d3_27) rfl k) ?_
  show OG p e _ s below _ T5 (mkF m 28 #[.val (.ref a1), .val (.long (2000 : Int64)), .second, .val (.int (4 : Int32))] [(.int (lcmpW (2000 : Int64) (10000 : Int64)))])
  refine own_st (fun t k => XS.ifNo X5.here hx rfl (hb hby d3_28) rfl (by decide) k) ?_
  show OG p e _ s below _ T5 (mkF m 31 #[.val (.ref a1), .val (.long (2000 : Int64)), .second, .val (.int (4 : Int32))] [])
  refine own_st (fun t k => XS.lloadN X5.here hx rfl (hb hby d3_31) rfl k) ?_
  show OG p e _ s below _ T5 (mkF m 32 #[.val (.ref a1), .val (.long (2000 : Int64)), .second, .val (.int (4 : Int32))] [(.long (2000 : Int64))])
  refine own_st (fun t k => X5.ldc2Long hx hown (mvT hZ (hw _ (List.mem_of_getElem? (i := 28) rfl))) (g := (mkF m 32 #[.val (.ref a1), .val (.long (2000 : Int64)), .second, .val (.int (4 : Int32))] [(.long (2000 : Int64))])) rfl (hb hby d3_32) _ k) ?_
  show OG p e _ s below _ T5 (mkF m 35 #[.val (.ref a1), .val (.long (2000 : Int64)), .second, .val (.int (4 : Int32))] [(.long (2 : Int64)), (.long (2000 : Int64))])
  refine own_st (fun t k => XS.lmul X5.here hx rfl (hb hby d3_35) rfl k) ?_
  show OG p e _ s below _ T5 (mkF m 36 #[.val (.ref a1), .val (.long (2000 : Int64)), .second, .val (.int (4 : Int32))] [(.long (4000 : Int64))])
  refine own_st (fun t k => XS.lstoreN X5.here hx rfl (hb hby d3_36) rfl (l' := #[.val (.ref a1), .val (.long (4000 : Int64)), .second, .val (.int (4 : Int32))]) rfl k) ?_
  show OG p e _ s below _ T5 (mkF m 37 #[.val (.ref a1), .val (.long (4000 : Int64)), .second, .val (.int (4 : Int32))] [])
  refine own_st (fun t k => XS.iinc X5.here hx rfl (hb hby d3_37) rfl (l' := #[.val (.ref a1), .val (.long (4000 : Int64)), .second, .val (.int ((4 : Int32) + (1 : Int32)))]) rfl k) ?_
  show OG p e _ s below _ T5 (mkF m 40 #[.val (.ref a1), .val (.long (4000 : Int64)), .second, .val (.int (5 : Int32))] [])
  refine own_st (fun t k => XS.goto X5.here hx rfl (pc0 := 40) (pc' := 15) rfl (hb hby d3_40) (by decide) (by decide) k) ?_
  show OG p e _ s below _ T5 (mkF m 15 #[.val (.ref a1), .val (.long (4000 : Int64)), .second, .val (.int (5 : Int32))] [])
  refine own_st (fun t k => XS.iloadN X5.here hx rfl (hb hby d3_15) rfl k) ?_
  show OG p e _ s below _ T5 (mkF m 16 #[.val (.ref a1), .val (.long (4000 : Int64)), .second, .val (.int (5 : Int32))] [(.int (5 : Int32))])
  refine own_st (fun t k => XS.aloadN X5.here hx rfl (hb hby d3_16) rfl rfl k) ?_
  show OG p e _ s below _ T5 (mkF m 17 #[.val (.ref a1), .val (.long (4000 : Int64)), .second, .val (.int (5 : Int32))] [(.ref a1), (.int (5 : Int32))])
  obtain ⟨T6, X6, e6, st6⟩ := getF X5 hx hZ hown (host := "") (Or.inl (hw _ (List.mem_of_getElem? (i := 14) rfl))) Via.refl e5 R0 (g := (mkF m 17 #[.val (.ref a1), .val (.long (4000 : Int64)), .second, .val (.int (5 : Int32))] [(.ref a1), (.int (5 : Int32))])) rfl rfl (hb hby d3_17)
  refine own_st st6 ?_
  show OG p e _ s below _ T6 (mkF m 20 #[.val (.ref a1), .val (.long (4000 : Int64)), .second, .val (.int (5 : Int32))] [(.int (6 : Int32)), (.int (5 : Int32))])
  refine own_st (fun t k => XS.icmpNo X6.here hx rfl (hb hby d3_20) rfl (by decide) k) ?_
  show OG p e _ s below _ T6 (mkF m 23 #[.val (.ref a1), .val (.long (4000 : Int64)), .second, .val (.int (5 : Int32))] [])
  refine own_st (fun t k => XS.lloadN X6.here hx rfl (hb hby d3_23) rfl k) ?_
  show OG p e _ s below _ T6 (mkF m 24 #[.val (.ref a1), .val (.long (4000 : Int64)), .second, .val (.int (5 : Int32))] [(.long (4000 : Int64))])
  refine own_st (fun t k => X6.ldc2Long hx hown (mvT hZ (hw _ (List.mem_of_getElem? (i := 27) rfl))) (g := (mkF m 24 #[.val (.ref a1), .val (.long (4000 : Int64)), .second, .val (.int (5 : Int32))] [(.long (4000 : Int64))])) rfl (hb hby d3_24) _ k) ?_
  show OG p e _ s below _ T6 (mkF m 27 #[.val (.ref a1), .val (.long (4000 : Int64)), .second, .val (.int (5 : Int32))] [(.long (10000 : Int64)), (.long (4000 : Int64))])
  refine own_st (fun t k => XS.lcmp X6.here hx rfl (hb hby d3_27) rfl k) ?_
  show OG p e _ s below _ T6 (mkF m 28 #[.val (.ref a1), .val (.long (4000 : Int64)), .second, .val (.int (5 : Int32))] [(.int (lcmpW (4000 : Int64) (10000 : Int64)))])
  refine own_st (fun t k => XS.ifNo X6.here hx rfl (hb hby d3_28) rfl (by decide) k) ?_
  show OG p e _ s below _ T6 (mkF m 31 #[.val (.ref a1), .val (.long (4000 : Int64)), .second, .val (.int (5 : Int32))] [])
  refine own_st (fun t k => XS.lloadN X6.here hx rfl (hb hby d3_31) rfl k) ?_
  show OG p e _ s below _ T6 (mkF m 32 #[.val (.ref a1), .val (.long (4000 : Int64)), .second, .val (.int (5 : Int32))] [(.long (4000 : Int64))])
  refine own_st (fun t k => X6.ldc2Long hx hown (mvT hZ (hw _ (List.mem_of_getElem? (i := 28) rfl))) (g := (mkF m 32 #[.val (.ref a1), .val (.long (4000 : Int64)), .second, .val (.int (5 : Int32))] [(.long (4000 : Int64))])) rfl (hb hby d3_32) _ k) ?_
  show OG p e _ s below _ T6 (mkF m 35 #[.val (.ref a1), .val (.long (4000 : Int64)), .second, .val (.int (5 : Int32))] [(.long (2 : Int64)), (.long (4000 : Int64))])
  refine own_st (fun t k => XS.lmul X6.here hx rfl (hb hby d3_35) rfl k) ?_
  show OG p e _ s below _ T6 (mkF m 36 #[.val (.ref a1), .val (.long (4000 : Int64)), .second, .val (.int (5 : Int32))] [(.long (8000 : Int64))])
  refine own_st (fun t k => XS.lstoreN X6.here hx rfl (hb hby d3_36) rfl (l' := #[.val (.ref a1), .val (.long (8000 : Int64)), .second, .val (.int (5 : Int32))]) rfl k) ?_
  show OG p e _ s below _ T6 (mkF m 37 #[.val (.ref a1), .val (.long (8000 : Int64)), .second, .val (.int (5 : Int32))] [])
  refine own_st (fun t k => XS.iinc X6.here hx rfl (hb hby d3_37) rfl (l' := #[.val (.ref a1), .val (.long (8000 : Int64)), .second, .val (.int ((5 : Int32) + (1 : Int32)))]) rfl k) ?_
  show OG p e _ s below _ T6 (mkF m 40 #[.val (.ref a1), .val (.long (8000 : Int64)), .second, .val (.int (6 : Int32))] [])
  refine own_st (fun t k => XS.goto X6.here hx rfl (pc0 := 40) (pc' := 15) rfl (hb hby d3_40) (by decide) (by decide) k) ?_
  show OG p e _ s below _ T6 (mkF m 15 #[.val (.ref a1), .val (.long (8000 : Int64)), .second, .val (.int (6 : Int32))] [])
  refine own_st (fun t k => XS.iloadN X6.here hx rfl (hb hby d3_15) rfl k) ?_
  show OG p e _ s below _ T6 (mkF m 16 #[.val (.ref a1), .val (.long (8000 : Int64)), .second, .val (.int (6 : Int32))] [(.int (6 : Int32))])
  refine own_st (fun t k => XS.aloadN X6.here hx rfl (hb hby d3_16) rfl rfl k) ?_
  show OG p e _ s below _ T6 (mkF m 17 #[.val (.ref a1), .val (.long (8000 : Int64)), .second, .val (.int (6 : Int32))] [(.ref a1), (.int (6 : Int32))])
  obtain ⟨T7, X7, e7, st7⟩ := getF X6 hx hZ hown (host := "") (Or.inl (hw _ (List.mem_of_getElem? (i := 14) rfl))) Via.refl e6 R0 (g := (mkF m 17 #[.val (.ref a1), .val (.long (8000 : Int64)), .second, .val (.int (6 : Int32))] [(.ref a1), (.int (6 : Int32))])) rfl rfl (hb hby d3_17)
  refine own_st st7 ?_
  show OG p e _ s below _ T7 (mkF m 20 #[.val (.ref a1), .val (.long (8000 : Int64)), .second, .val (.int (6 : Int32))] [(.int (6 : Int32)), (.int (6 : Int32))])
  refine own_st (fun t k => XS.icmpYes X7.here hx rfl (pc0 := 20) (pc' := 43) rfl (hb hby d3_20) rfl (by decide) (by decide) (by decide) k) ?_
  show OG p e _ s below _ T7 (mkF m 43 #[.val (.ref a1), .val (.long (8000 : Int64)), .second, .val (.int (6 : Int32))] [])
  refine own_st (fun t k => XS.lloadN X7.here hx rfl (hb hby d3_43) rfl k) ?_
  show OG p e _ s below _ T7 (mkF m 44 #[.val (.ref a1), .val (.long (8000 : Int64)), .second, .val (.int (6 : Int32))] [(.long (8000 : Int64))])
  refine own_st (fun t k => X7.ldc2Long hx hown (mvT hZ (hw _ (List.mem_of_getElem? (i := 27) rfl))) (g := (mkF m 44 #[.val (.ref a1), .val (.long (8000 : Int64)), .second, .val (.int (6 : Int32))] [(.long (8000 : Int64))])) rfl (hb hby d3_44) _ k) ?_
  show OG p e _ s below _ T7 (mkF m 47 #[.val (.ref a1), .val (.long (8000 : Int64)), .second, .val (.int (6 : Int32))] [(.long (10000 : Int64)), (.long (8000 : Int64))])
  obtain ⟨_, _, ⟨T8, L8, k8, n8⟩, -, X8, ⟨Lc8, hQ8, l8, y8, z8⟩, st8⟩ := Jvm.LawKit.callS X7 hx (y := (⟨"java/lang/Math", "min", "(JJ)J"⟩ : MethodName)) hown (mvT hZ (hw _ (List.mem_of_getElem? (i := 29) rfl))) (mvT hZ (hw _ (List.mem_of_getElem? (i := 30) rfl))) (mvT hZ (hw _ (List.mem_of_getElem? (i := 31) rfl))) (mvT hZ (hw _ (List.mem_of_getElem? (i := 32) rfl))) (by decide) (backOf (W := 0) (rm := ({ frames := 0, cells := 0, slots := 0, locals := 0 } : Room)) (rm6 l Z a0 hw [] (8000 : Int64) (10000 : Int64) h0) hZ (hw _ (List.mem_of_getElem? (i := 32) rfl)) (hw _ (List.mem_of_getElem? (i := 31) rfl)) (by decide) (by decide)) (g := (mkF m 47 #[.val (.ref a1), .val (.long (8000 : Int64)), .second, .val (.int (6 : Int32))] [(.long (10000 : Int64)), (.long (8000 : Int64))])) rfl (by rw [hml]; rfl) (argsL := [(.long (8000 : Int64)), (.long (10000 : Int64))]) (rest := []) (lenOf pd__JJ_J rfl) rfl (by show 2 * 0 + _ ≤ _; exact Nat.le_of_eq rfl) (hb hby d3_47) (fun _ _ => ⟨rfl, e7, (by decide : 0 + 0 ≤ _), (by decide : 0 + 0 ≤ _)⟩)
  dsimp only [Pt.U, Pt.locs, Pt.cells, Pt.slots] at X8 l8 y8 z8 st8 hQ8
  subst l8 y8 z8
  obtain ⟨rfl, rfl, e8⟩ := hQ8
  refine own_st st8 ?_
  show OG p e _ s below _ T8 (mkF m 50 #[.val (.ref a1), .val (.long (8000 : Int64)), .second, .val (.int (6 : Int32))] [(.long (f6 (8000 : Int64) (10000 : Int64)))])
  exact own_retL X8 hx hret hlk (hb hby d3_50) (by decide) (by decide) ⟨congrArg (fun z => some (Value.long z)) (show f3_6  = (f6 (8000 : Int64) (10000 : Int64)) from (by rw [f3_6])).symm, rfl, e8⟩
def f3_7  : Int64 := (f6 (16000 : Int64) (10000 : Int64))
abbrev Q3_7 (Z : State) (a1 : Addr) (h0 : Heap)  : Option Value → Heap → List Loc → Prop := (fun v h L => v = some (.long f3_7) ∧ L = [] ∧ h = h0)
set_option maxRecDepth 65536 in
set_option maxHeartbeats 40000000 in
theorem rm3_7 (l : Launch) (Z : State) (a0 : Array Value) (hw : ∀ d ∈ tables_1, d.before a0 Z = true) (ws : List Jvm.Cond) (a1 : Addr) (h0 : Heap) (R0 : Fld Z h0 a1 "com/example/tidewire/tidewire/internal/Backoff" "attempts" "I" (.int (7 : Int32))) :
    OMet l Z (⟨"com/example/tidewire/tidewire/internal/Backoff", "delayMs", "()J"⟩ : MethodName) prog_2_method_2_code 4 (some .long) ws ({ frames := 1, cells := 0, slots := 0, locals := 15 } : Room) #[(.ref a1)] h0 (Q3_7 Z a1 h0) := by
  refine own_enter pn_3 ?_
  intro p e s m below meth c s₁ hx hby hml0 hown hret hlk hnm hZ X0 e0
  have hml : c.maxLocals = 4 := hml0
  refine own_cast (ef_3 m a1) ?_
  show OG p e ({ frames := 1, cells := 0, slots := 0, locals := 15 } : Room) s below (fun v h L => v = some (.long f3_7) ∧ L = [] ∧ h = h0) s₁ (mkF m 0 #[.val (.ref a1), .unset, .unset, .unset] [])
  refine own_st (fun t k => XS.aloadN X0.here hx rfl (hb hby d3_0) rfl rfl k) ?_
  show OG p e _ s below _ s₁ (mkF m 1 #[.val (.ref a1), .unset, .unset, .unset] [(.ref a1)])
  obtain ⟨T1, X1, e1, st1⟩ := getF X0 hx hZ hown (host := "") (Or.inl (hw _ (List.mem_of_getElem? (i := 14) rfl))) Via.refl e0 R0 (g := (mkF m 1 #[.val (.ref a1), .unset, .unset, .unset] [(.ref a1)])) rfl rfl (hb hby d3_1)
  refine own_st st1 ?_
  show OG p e _ s below _ T1 (mkF m 4 #[.val (.ref a1), .unset, .unset, .unset] [(.int (7 : Int32))])
  refine own_st (fun t k => XS.ifYes X1.here hx rfl (pc0 := 4) (pc' := 9) rfl (hb hby d3_4) rfl (by decide) (by decide) (by decide) k) ?_
  show OG p e _ s below _ T1 (mkF m 9 #[.val (.ref a1), .unset, .unset, .unset] [])
  refine own_st (fun t k => X1.ldc2Long hx hown (mvT hZ (hw _ (List.mem_of_getElem? (i := 26) rfl))) (g := (mkF m 9 #[.val (.ref a1), .unset, .unset, .unset] [])) rfl (hb hby d3_9) _ k) ?_
  show OG p e _ s below _ T1 (mkF m 12 #[.val (.ref a1), .unset, .unset, .unset] [(.long (250 : Int64))])
  refine own_st (fun t k => XS.lstoreN X1.here hx rfl (hb hby d3_12) rfl (l' := #[.val (.ref a1), .val (.long (250 : Int64)), .second, .unset]) rfl k) ?_
  show OG p e _ s below _ T1 (mkF m 13 #[.val (.ref a1), .val (.long (250 : Int64)), .second, .unset] [])
  refine own_st (fun t k => XS.iconst X1.here hx rfl (hb hby d3_13) k) ?_
  show OG p e _ s below _ T1 (mkF m 14 #[.val (.ref a1), .val (.long (250 : Int64)), .second, .unset] [(.int (1 : Int32))])
  refine own_st (fun t k => XS.istoreN X1.here hx rfl (hb hby d3_14) rfl (l' := #[.val (.ref a1), .val (.long (250 : Int64)), .second, .val (.int (1 : Int32))]) rfl k) ?_
  show OG p e _ s below _ T1 (mkF m 15 #[.val (.ref a1), .val (.long (250 : Int64)), .second, .val (.int (1 : Int32))] [])
  refine own_st (fun t k => XS.iloadN X1.here hx rfl (hb hby d3_15) rfl k) ?_
  show OG p e _ s below _ T1 (mkF m 16 #[.val (.ref a1), .val (.long (250 : Int64)), .second, .val (.int (1 : Int32))] [(.int (1 : Int32))])
  refine own_st (fun t k => XS.aloadN X1.here hx rfl (hb hby d3_16) rfl rfl k) ?_
  show OG p e _ s below _ T1 (mkF m 17 #[.val (.ref a1), .val (.long (250 : Int64)), .second, .val (.int (1 : Int32))] [(.ref a1), (.int (1 : Int32))])
  obtain ⟨T2, X2, e2, st2⟩ := getF X1 hx hZ hown (host := "") (Or.inl (hw _ (List.mem_of_getElem? (i := 14) rfl))) Via.refl e1 R0 (g := (mkF m 17 #[.val (.ref a1), .val (.long (250 : Int64)), .second, .val (.int (1 : Int32))] [(.ref a1), (.int (1 : Int32))])) rfl rfl (hb hby d3_17)
  refine own_st st2 ?_
  show OG p e _ s below _ T2 (mkF m 20 #[.val (.ref a1), .val (.long (250 : Int64)), .second, .val (.int (1 : Int32))] [(.int (7 : Int32)), (.int (1 : Int32))])
  refine own_st (fun t k => XS.icmpNo X2.here hx rfl (hb hby d3_20) rfl (by decide) k) ?_
  show OG p e _ s below _ T2 (mkF m 23 #[.val (.ref a1), .val (.long (250 : Int64)), .second, .val (.int (1 : Int32))] [])
  refine own_st (fun t k => XS.lloadN X2.here hx rfl (hb hby d3_23) rfl k) ?_
  show OG p e _ s below _ T2 (mkF m 24 #[.val (.ref a1), .val (.long (250 : Int64)), .second, .val (.int (1 : Int32))] [(.long (250 : Int64))])
  refine own_st (fun t k => X2.ldc2Long hx hown (mvT hZ (hw _ (List.mem_of_getElem? (i := 27) rfl))) (g := (mkF m 24 #[.val (.ref a1), .val (.long (250 : Int64)), .second, .val (.int (1 : Int32))] [(.long (250 : Int64))])) rfl (hb hby d3_24) _ k) ?_
  show OG p e _ s below _ T2 (mkF m 27 #[.val (.ref a1), .val (.long (250 : Int64)), .second, .val (.int (1 : Int32))] [(.long (10000 : Int64)), (.long (250 : Int64))])
  refine own_st (fun t k => XS.lcmp X2.here hx rfl (hb hby d3_27) rfl k) ?_
  show OG p e _ s below _ T2 (mkF m 28 #[.val (.ref a1), .val (.long (250 : Int64)), .second, .val (.int (1 : Int32))] [(.int (lcmpW (250 : Int64) (10000 : Int64)))])
  refine own_st (fun t k => XS.ifNo X2.here hx rfl (hb hby d3_28) rfl (by decide) k) ?_
  show OG p e _ s below _ T2 (mkF m 31 #[.val (.ref a1), .val (.long (250 : Int64)), .second, .val (.int (1 : Int32))] [])
  refine own_st (fun t k => XS.lloadN X2.here hx rfl (hb hby d3_31) rfl k) ?_
  show OG p e _ s below _ T2 (mkF m 32 #[.val (.ref a1), .val (.long (250 : Int64)), .second, .val (.int (1 : Int32))] [(.long (250 : Int64))])
  refine own_st (fun t k => X2.ldc2Long hx hown (mvT hZ (hw _ (List.mem_of_getElem? (i := 28) rfl))) (g := (mkF m 32 #[.val (.ref a1), .val (.long (250 : Int64)), .second, .val (.int (1 : Int32))] [(.long (250 : Int64))])) rfl (hb hby d3_32) _ k) ?_
  show OG p e _ s below _ T2 (mkF m 35 #[.val (.ref a1), .val (.long (250 : Int64)), .second, .val (.int (1 : Int32))] [(.long (2 : Int64)), (.long (250 : Int64))])
  refine own_st (fun t k => XS.lmul X2.here hx rfl (hb hby d3_35) rfl k) ?_
  show OG p e _ s below _ T2 (mkF m 36 #[.val (.ref a1), .val (.long (250 : Int64)), .second, .val (.int (1 : Int32))] [(.long (500 : Int64))])
  refine own_st (fun t k => XS.lstoreN X2.here hx rfl (hb hby d3_36) rfl (l' := #[.val (.ref a1), .val (.long (500 : Int64)), .second, .val (.int (1 : Int32))]) rfl k) ?_
  show OG p e _ s below _ T2 (mkF m 37 #[.val (.ref a1), .val (.long (500 : Int64)), .second, .val (.int (1 : Int32))] [])
  refine own_st (fun t k => XS.iinc X2.here hx rfl (hb hby d3_37) rfl (l' := #[.val (.ref a1), .val (.long (500 : Int64)), .second, .val (.int ((1 : Int32) + (1 : Int32)))]) rfl k) ?_
  show OG p e _ s below _ T2 (mkF m 40 #[.val (.ref a1), .val (.long (500 : Int64)), .second, .val (.int (2 : Int32))] [])
  refine own_st (fun t k => XS.goto X2.here hx rfl (pc0 := 40) (pc' := 15) rfl (hb hby d3_40) (by decide) (by decide) k) ?_
  show OG p e _ s below _ T2 (mkF m 15 #[.val (.ref a1), .val (.long (500 : Int64)), .second, .val (.int (2 : Int32))] [])
  refine own_st (fun t k => XS.iloadN X2.here hx rfl (hb hby d3_15) rfl k) ?_
  show OG p e _ s below _ T2 (mkF m 16 #[.val (.ref a1), .val (.long (500 : Int64)), .second, .val (.int (2 : Int32))] [(.int (2 : Int32))])
  refine own_st (fun t k => XS.aloadN X2.here hx rfl (hb hby d3_16) rfl rfl k) ?_
  show OG p e _ s below _ T2 (mkF m 17 #[.val (.ref a1), .val (.long (500 : Int64)), .second, .val (.int (2 : Int32))] [(.ref a1), (.int (2 : Int32))])
  obtain ⟨T3, X3, e3, st3⟩ := getF X2 hx hZ hown (host := "") (Or.inl (hw _ (List.mem_of_getElem? (i := 14) rfl))) Via.refl e2 R0 (g := (mkF m 17 #[.val (.ref a1), .val (.long (500 : Int64)), .second, .val (.int (2 : Int32))] [(.ref a1), (.int (2 : Int32))])) rfl rfl (hb hby d3_17)
  refine own_st st3 ?_
  show OG p e _ s below _ T3 (mkF m 20 #[.val (.ref a1), .val (.long (500 : Int64)), .second, .val (.int (2 : Int32))] [(.int (7 : Int32)), (.int (2 : Int32))])
  refine own_st (fun t k => XS.icmpNo X3.here hx rfl (hb hby d3_20) rfl (by decide) k) ?_
  show OG p e _ s below _ T3 (mkF m 23 #[.val (.ref a1), .val (.long (500 : Int64)), .second, .val (.int (2 : Int32))] [])
  refine own_st (fun t k => XS.lloadN X3.here hx rfl (hb hby d3_23) rfl k) ?_
  show OG p e _ s below _ T3 (mkF m 24 #[.val (.ref a1), .val (.long (500 : Int64)), .second, .val (.int (2 : Int32))] [(.long (500 : Int64))])
  refine own_st (fun t k => X3.ldc2Long hx hown (mvT hZ (hw _ (List.mem_of_getElem? (i := 27) rfl))) (g := (mkF m 24 #[.val (.ref a1), .val (.long (500 : Int64)), .second, .val (.int (2 : Int32))] [(.long (500 : Int64))])) rfl (hb hby d3_24) _ k) ?_
  show OG p e _ s below _ T3 (mkF m 27 #[.val (.ref a1), .val (.long (500 : Int64)), .second, .val (.int (2 : Int32))] [(.long (10000 : Int64)), (.long (500 : Int64))])
  refine own_st (fun t k => XS.lcmp X3.here hx rfl (hb hby d3_27) rfl k) ?_
  show OG p e _ s below _ T3 (mkF m 28 #[.val (.ref a1), .val (.long (500 : Int64)), .second, .val (.int (2 : Int32))] [(.int (lcmpW (500 : Int64) (10000 : Int64)))])
  refine own_st (fun t k => XS.ifNo X3.here hx rfl (hb hby d3_28) rfl (by decide) k) ?_
  show OG p e _ s below _ T3 (mkF m 31 #[.val (.ref a1), .val (.long (500 : Int64)), .second, .val (.int (2 : Int32))] [])
  refine own_st (fun t k => XS.lloadN X3.here hx rfl (hb hby d3_31) rfl k) ?_
  show OG p e _ s below _ T3 (mkF m 32 #[.val (.ref a1), .val (.long (500 : Int64)), .second, .val (.int (2 : Int32))] [(.long (500 : Int64))])
  refine own_st (fun t k => X3.ldc2Long hx hown (mvT hZ (hw _ (List.mem_of_getElem? (i := 28) rfl))) (g := (mkF m 32 #[.val (.ref a1), .val (.long (500 : Int64)), .second, .val (.int (2 : Int32))] [(.long (500 : Int64))])) rfl (hb hby d3_32) _ k) ?_
  show OG p e _ s below _ T3 (mkF m 35 #[.val (.ref a1), .val (.long (500 : Int64)), .second, .val (.int (2 : Int32))] [(.long (2 : Int64)), (.long (500 : Int64))])
  refine own_st (fun t k => XS.lmul X3.here hx rfl (hb hby d3_35) rfl k) ?_
  show OG p e _ s below _ T3 (mkF m 36 #[.val (.ref a1), .val (.long (500 : Int64)), .second, .val (.int (2 : Int32))] [(.long (1000 : Int64))])
  refine own_st (fun t k => XS.lstoreN X3.here hx rfl (hb hby d3_36) rfl (l' := #[.val (.ref a1), .val (.long (1000 : Int64)), .second, .val (.int (2 : Int32))]) rfl k) ?_
  show OG p e _ s below _ T3 (mkF m 37 #[.val (.ref a1), .val (.long (1000 : Int64)), .second, .val (.int (2 : Int32))] [])
  refine own_st (fun t k => XS.iinc X3.here hx rfl (hb hby d3_37) rfl (l' := #[.val (.ref a1), .val (.long (1000 : Int64)), .second, .val (.int ((2 : Int32) + (1 : Int32)))]) rfl k) ?_
  show OG p e _ s below _ T3 (mkF m 40 #[.val (.ref a1), .val (.long (1000 : Int64)), .second, .val (.int (3 : Int32))] [])
  refine own_st (fun t k => XS.goto X3.here hx rfl (pc0 := 40) (pc' := 15) rfl (hb hby d3_40) (by decide) (by decide) k) ?_
  show OG p e _ s below _ T3 (mkF m 15 #[.val (.ref a1), .val (.long (1000 : Int64)), .second, .val (.int (3 : Int32))] [])
  refine own_st (fun t k => XS.iloadN X3.here hx rfl (hb hby d3_15) rfl k) ?_
  show OG p e _ s below _ T3 (mkF m 16 #[.val (.ref a1), .val (.long (1000 : Int64)), .second, .val (.int (3 : Int32))] [(.int (3 : Int32))])
  refine own_st (fun t k => XS.aloadN X3.here hx rfl (hb hby d3_16) rfl rfl k) ?_
  show OG p e _ s below _ T3 (mkF m 17 #[.val (.ref a1), .val (.long (1000 : Int64)), .second, .val (.int (3 : Int32))] [(.ref a1), (.int (3 : Int32))])
  obtain ⟨T4, X4, e4, st4⟩ := getF X3 hx hZ hown (host := "") (Or.inl (hw _ (List.mem_of_getElem? (i := 14) rfl))) Via.refl e3 R0 (g := (mkF m 17 #[.val (.ref a1), .val (.long (1000 : Int64)), .second, .val (.int (3 : Int32))] [(.ref a1), (.int (3 : Int32))])) rfl rfl (hb hby d3_17)
  refine own_st st4 ?_
  show OG p e _ s below _ T4 (mkF m 20 #[.val (.ref a1), .val (.long (1000 : Int64)), .second, .val (.int (3 : Int32))] [(.int (7 : Int32)), (.int (3 : Int32))])
  refine own_st (fun t k => XS.icmpNo X4.here hx rfl (hb hby d3_20) rfl (by decide) k) ?_
  show OG p e _ s below _ T4 (mkF m 23 #[.val (.ref a1), .val (.long (1000 : Int64)), .second, .val (.int (3 : Int32))] [])
  refine own_st (fun t k => XS.lloadN X4.here hx rfl (hb hby d3_23) rfl k) ?_
  show OG p e _ s below _ T4 (mkF m 24 #[.val (.ref a1), .val (.long (1000 : Int64)), .second, .val (.int (3 : Int32))] [(.long (1000 : Int64))])
  refine own_st (fun t k => X4.ldc2Long hx hown (mvT hZ (hw _ (List.mem_of_getElem? (i := 27) rfl))) (g := (mkF m 24 #[.val (.ref a1), .val (.long (1000 : Int64)), .second, .val (.int (3 : Int32))] [(.long (1000 : Int64))])) rfl (hb hby d3_24) _ k) ?_
  show OG p e _ s below _ T4 (mkF m 27 #[.val (.ref a1), .val (.long (1000 : Int64)), .second, .val (.int (3 : Int32))] [(.long (10000 : Int64)), (.long (1000 : Int64))])
  refine own_st (fun t k => XS.lcmp X4.here hx rfl (hb hby d3_27) rfl k) ?_
  show OG p e _ s below _ T4 (mkF m 28 #[.val (.ref a1), .val (.long (1000 : Int64)), .second, .val (.int (3 : Int32))] [(.int (lcmpW (1000 : Int64) (10000 : Int64)))])
  refine own_st (fun t k => XS.ifNo X4.here hx rfl (hb hby d3_28) rfl (by decide) k) ?_
  show OG p e _ s below _ T4 (mkF m 31 #[.val (.ref a1), .val (.long (1000 : Int64)), .second, .val (.int (3 : Int32))] [])
  refine own_st (fun t k => XS.lloadN X4.here hx rfl (hb hby d3_31) rfl k) ?_
  show OG p e _ s below _ T4 (mkF m 32 #[.val (.ref a1), .val (.long (1000 : Int64)), .second, .val (.int (3 : Int32))] [(.long (1000 : Int64))])
  refine own_st (fun t k => X4.ldc2Long hx hown (mvT hZ (hw _ (List.mem_of_getElem? (i := 28) rfl))) (g := (mkF m 32 #[.val (.ref a1), .val (.long (1000 : Int64)), .second, .val (.int (3 : Int32))] [(.long (1000 : Int64))])) rfl (hb hby d3_32) _ k) ?_
  show OG p e _ s below _ T4 (mkF m 35 #[.val (.ref a1), .val (.long (1000 : Int64)), .second, .val (.int (3 : Int32))] [(.long (2 : Int64)), (.long (1000 : Int64))])
  refine own_st (fun t k => XS.lmul X4.here hx rfl (hb hby d3_35) rfl k) ?_
  show OG p e _ s below _ T4 (mkF m 36 #[.val (.ref a1), .val (.long (1000 : Int64)), .second, .val (.int (3 : Int32))] [(.long (2000 : Int64))])
  refine own_st (fun t k => XS.lstoreN X4.here hx rfl (hb hby d3_36) rfl (l' := #[.val (.ref a1), .val (.long (2000 : Int64)), .second, .val (.int (3 : Int32))]) rfl k) ?_
  show OG p e _ s below _ T4 (mkF m 37 #[.val (.ref a1), .val (.long (2000 : Int64)), .second, .val (.int (3 : Int32))] [])
  refine own_st (fun t k => XS.iinc X4.here hx rfl (hb hby d3_37) rfl (l' := #[.val (.ref a1), .val (.long (2000 : Int64)), .second, .val (.int ((3 : Int32) + (1 : Int32)))]) rfl k) ?_
  show OG p e _ s below _ T4 (mkF m 40 #[.val (.ref a1), .val (.long (2000 : Int64)), .second, .val (.int (4 : Int32))] [])
  refine own_st (fun t k => XS.goto X4.here hx rfl (pc0 := 40) (pc' := 15) rfl (hb hby d3_40) (by decide) (by decide) k) ?_
  show OG p e _ s below _ T4 (mkF m 15 #[.val (.ref a1), .val (.long (2000 : Int64)), .second, .val (.int (4 : Int32))] [])
  refine own_st (fun t k => XS.iloadN X4.here hx rfl (hb hby d3_15) rfl k) ?_
  show OG p e _ s below _ T4 (mkF m 16 #[.val (.ref a1), .val (.long (2000 : Int64)), .second, .val (.int (4 : Int32))] [(.int (4 : Int32))])
  refine own_st (fun t k => XS.aloadN X4.here hx rfl (hb hby d3_16) rfl rfl k) ?_
  show OG p e _ s below _ T4 (mkF m 17 #[.val (.ref a1), .val (.long (2000 : Int64)), .second, .val (.int (4 : Int32))] [(.ref a1), (.int (4 : Int32))])
  obtain ⟨T5, X5, e5, st5⟩ := getF X4 hx hZ hown (host := "") (Or.inl (hw _ (List.mem_of_getElem? (i := 14) rfl))) Via.refl e4 R0 (g := (mkF m 17 #[.val (.ref a1), .val (.long (2000 : Int64)), .second, .val (.int (4 : Int32))] [(.ref a1), (.int (4 : Int32))])) rfl rfl (hb hby d3_17)
  refine own_st st5 ?_
  show OG p e _ s below _ T5 (mkF m 20 #[.val (.ref a1), .val (.long (2000 : Int64)), .second, .val (.int (4 : Int32))] [(.int (7 : Int32)), (.int (4 : Int32))])
  refine own_st (fun t k => XS.icmpNo X5.here hx rfl (hb hby d3_20) rfl (by decide) k) ?_
  show OG p e _ s below _ T5 (mkF m 23 #[.val (.ref a1), .val (.long (2000 : Int64)), .second, .val (.int (4 : Int32))] [])
  refine own_st (fun t k => XS.lloadN X5.here hx rfl (hb hby d3_23) rfl k) ?_
  show OG p e _ s below _ T5 (mkF m 24 #[.val (.ref a1), .val (.long (2000 : Int64)), .second, .val (.int (4 : Int32))] [(.long (2000 : Int64))])
  refine own_st (fun t k => X5.ldc2Long hx hown (mvT hZ (hw _ (List.mem_of_getElem? (i := 27) rfl))) (g := (mkF m 24 #[.val (.ref a1), .val (.long (2000 : Int64)), .second, .val (.int (4 : Int32))] [(.long (2000 : Int64))])) rfl (hb hby d3_24) _ k) ?_
  show OG p e _ s below _ T5 (mkF m 27 #[.val (.ref a1), .val (.long (2000 : Int64)), .second, .val (.int (4 : Int32))] [(.long (10000 : Int64)), (.long (2000 : Int64))])
  refine own_st (fun t k => XS.lcmp X5.here hx rfl (hb hby d3_27) rfl k) ?_
  show OG p e _ s below _ T5 (mkF m 28 #[.val (.ref a1), .val (.long (2000 : Int64)), .second, .val (.int (4 : Int32))] [(.int (lcmpW (2000 : Int64) (10000 : Int64)))])
  refine own_st (fun t k => XS.ifNo X5.here hx rfl (hb hby d3_28) rfl (by decide) k) ?_
  show OG p e _ s below _ T5 (mkF m 31 #[.val (.ref a1), .val (.long (2000 : Int64)), .second, .val (.int (4 : Int32))] [])
  refine own_st (fun t k => XS.lloadN X5.here hx rfl (hb hby d3_31) rfl k) ?_
  show OG p e _ s below _ T5 (mkF m 32 #[.val (.ref a1), .val (.long (2000 : Int64)), .second, .val (.int (4 : Int32))] [(.long (2000 : Int64))])
  refine own_st (fun t k => X5.ldc2Long hx hown (mvT hZ (hw _ (List.mem_of_getElem? (i := 28) rfl))) (g := (mkF m 32 #[.val (.ref a1), .val (.long (2000 : Int64)), .second, .val (.int (4 : Int32))] [(.long (2000 : Int64))])) rfl (hb hby d3_32) _ k) ?_
  show OG p e _ s below _ T5 (mkF m 35 #[.val (.ref a1), .val (.long (2000 : Int64)), .second, .val (.int (4 : Int32))] [(.long (2 : Int64)), (.long (2000 : Int64))])
  refine own_st (fun t k => XS.lmul X5.here hx rfl (hb hby d3_35) rfl k) ?_
  show OG p e _ s below _ T5 (mkF m 36 #[.val (.ref a1), .val (.long (2000 : Int64)), .second, .val (.int (4 : Int32))] [(.long (4000 : Int64))])
  refine own_st (fun t k => XS.lstoreN X5.here hx rfl (hb hby d3_36) rfl (l' := #[.val (.ref a1), .val (.long (4000 : Int64)), .second, .val (.int (4 : Int32))]) rfl k) ?_
  show OG p e _ s below _ T5 (mkF m 37 #[.val (.ref a1), .val (.long (4000 : Int64)), .second, .val (.int (4 : Int32))] [])
  refine own_st (fun t k => XS.iinc X5.here hx rfl (hb hby d3_37) rfl (l' := #[.val (.ref a1), .val (.long (4000 : Int64)), .second, .val (.int ((4 : Int32) + (1 : Int32)))]) rfl k) ?_
  show OG p e _ s below _ T5 (mkF m 40 #[.val (.ref a1), .val (.long (4000 : Int64)), .second, .val (.int (5 : Int32))] [])
  refine own_st (fun t k => XS.goto X5.here hx rfl (pc0 := 40) (pc' := 15) rfl (hb hby d3_40) (by decide) (by decide) k) ?_
  show OG p e _ s below _ T5 (mkF m 15 #[.val (.ref a1), .val (.long (4000 : Int64)), .second, .val (.int (5 : Int32))] [])
  refine own_st (fun t k => XS.iloadN X5.here hx rfl (hb hby d3_15) rfl k) ?_
  show OG p e _ s below _ T5 (mkF m 16 #[.val (.ref a1), .val (.long (4000 : Int64)), .second, .val (.int (5 : Int32))] [(.int (5 : Int32))])
  refine own_st (fun t k => XS.aloadN X5.here hx rfl (hb hby d3_16) rfl rfl k) ?_
  show OG p e _ s below _ T5 (mkF m 17 #[.val (.ref a1), .val (.long (4000 : Int64)), .second, .val (.int (5 : Int32))] [(.ref a1), (.int (5 : Int32))])
  obtain ⟨T6, X6, e6, st6⟩ := getF X5 hx hZ hown (host := "") (Or.inl (hw _ (List.mem_of_getElem? (i := 14) rfl))) Via.refl e5 R0 (g := (mkF m 17 #[.val (.ref a1), .val (.long (4000 : Int64)), .second, .val (.int (5 : Int32))] [(.ref a1), (.int (5 : Int32))])) rfl rfl (hb hby d3_17)
  refine own_st st6 ?_
  show OG p e _ s below _ T6 (mkF m 20 #[.val (.ref a1), .val (.long (4000 : Int64)), .second, .val (.int (5 : Int32))] [(.int (7 : Int32)), (.int (5 : Int32))])
  refine own_st (fun t k => XS.icmpNo X6.here hx rfl (hb hby d3_20) rfl (by decide) k) ?_
  show OG p e _ s below _ T6 (mkF m 23 #[.val (.ref a1), .val (.long (4000 : Int64)), .second, .val (.int (5 : Int32))] [])
  refine own_st (fun t k => XS.lloadN X6.here hx rfl (hb hby d3_23) rfl k) ?_
  show OG p e _ s below _ T6 (mkF m 24 #[.val (.ref a1), .val (.long (4000 : Int64)), .second, .val (.int (5 : Int32))] [(.long (4000 : Int64))])
  refine own_st (fun t k => X6.ldc2Long hx hown (mvT hZ (hw _ (List.mem_of_getElem? (i := 27) rfl))) (g := (mkF m 24 #[.val (.ref a1), .val (.long (4000 : Int64)), .second, .val (.int (5 : Int32))] [(.long (4000 : Int64))])) rfl (hb hby d3_24) _ k) ?_
  show OG p e _ s below _ T6 (mkF m 27 #[.val (.ref a1), .val (.long (4000 : Int64)), .second, .val (.int (5 : Int32))] [(.long (10000 : Int64)), (.long (4000 : Int64))])
  refine own_st (fun t k => XS.lcmp X6.here hx rfl (hb hby d3_27) rfl k) ?_
  show OG p e _ s below _ T6 (mkF m 28 #[.val (.ref a1), .val (.long (4000 : Int64)), .second, .val (.int (5 : Int32))] [(.int (lcmpW (4000 : Int64) (10000 : Int64)))])
  refine own_st (fun t k => XS.ifNo X6.here hx rfl (hb hby d3_28) rfl (by decide) k) ?_
  show OG p e _ s below _ T6 (mkF m 31 #[.val (.ref a1), .val (.long (4000 : Int64)), .second, .val (.int (5 : Int32))] [])
  refine own_st (fun t k => XS.lloadN X6.here hx rfl (hb hby d3_31) rfl k) ?_
  show OG p e _ s below _ T6 (mkF m 32 #[.val (.ref a1), .val (.long (4000 : Int64)), .second, .val (.int (5 : Int32))] [(.long (4000 : Int64))])
  refine own_st (fun t k => X6.ldc2Long hx hown (mvT hZ (hw _ (List.mem_of_getElem? (i := 28) rfl))) (g := (mkF m 32 #[.val (.ref a1), .val (.long (4000 : Int64)), .second, .val (.int (5 : Int32))] [(.long (4000 : Int64))])) rfl (hb hby d3_32) _ k) ?_
  show OG p e _ s below _ T6 (mkF m 35 #[.val (.ref a1), .val (.long (4000 : Int64)), .second, .val (.int (5 : Int32))] [(.long (2 : Int64)), (.long (4000 : Int64))])
  refine own_st (fun t k => XS.lmul X6.here hx rfl (hb hby d3_35) rfl k) ?_
  show OG p e _ s below _ T6 (mkF m 36 #[.val (.ref a1), .val (.long (4000 : Int64)), .second, .val (.int (5 : Int32))] [(.long (8000 : Int64))])
  refine own_st (fun t k => XS.lstoreN X6.here hx rfl (hb hby d3_36) rfl (l' := #[.val (.ref a1), .val (.long (8000 : Int64)), .second, .val (.int (5 : Int32))]) rfl k) ?_
  show OG p e _ s below _ T6 (mkF m 37 #[.val (.ref a1), .val (.long (8000 : Int64)), .second, .val (.int (5 : Int32))] [])
  refine own_st (fun t k => XS.iinc X6.here hx rfl (hb hby d3_37) rfl (l' := #[.val (.ref a1), .val (.long (8000 : Int64)), .second, .val (.int ((5 : Int32) + (1 : Int32)))]) rfl k) ?_
  show OG p e _ s below _ T6 (mkF m 40 #[.val (.ref a1), .val (.long (8000 : Int64)), .second, .val (.int (6 : Int32))] [])
  refine own_st (fun t k => XS.goto X6.here hx rfl (pc0 := 40) (pc' := 15) rfl (hb hby d3_40) (by decide) (by decide) k) ?_
  show OG p e _ s below _ T6 (mkF m 15 #[.val (.ref a1), .val (.long (8000 : Int64)), .second, .val (.int (6 : Int32))] [])
  refine own_st (fun t k => XS.iloadN X6.here hx rfl (hb hby d3_15) rfl k) ?_
  show OG p e _ s below _ T6 (mkF m 16 #[.val (.ref a1), .val (.long (8000 : Int64)), .second, .val (.int (6 : Int32))] [(.int (6 : Int32))])
  refine own_st (fun t k => XS.aloadN X6.here hx rfl (hb hby d3_16) rfl rfl k) ?_
  show OG p e _ s below _ T6 (mkF m 17 #[.val (.ref a1), .val (.long (8000 : Int64)), .second, .val (.int (6 : Int32))] [(.ref a1), (.int (6 : Int32))])
  obtain ⟨T7, X7, e7, st7⟩ := getF X6 hx hZ hown (host := "") (Or.inl (hw _ (List.mem_of_getElem? (i := 14) rfl))) Via.refl e6 R0 (g := (mkF m 17 #[.val (.ref a1), .val (.long (8000 : Int64)), .second, .val (.int (6 : Int32))] [(.ref a1), (.int (6 : Int32))])) rfl rfl (hb hby d3_17)
  refine own_st st7 ?_
  show OG p e _ s below _ T7 (mkF m 20 #[.val (.ref a1), .val (.long (8000 : Int64)), .second, .val (.int (6 : Int32))] [(.int (7 : Int32)), (.int (6 : Int32))])
  refine own_st (fun t k => XS.icmpNo X7.here hx rfl (hb hby d3_20) rfl (by decide) k) ?_
  show OG p e _ s below _ T7 (mkF m 23 #[.val (.ref a1), .val (.long (8000 : Int64)), .second, .val (.int (6 : Int32))] [])
  refine own_st (fun t k => XS.lloadN X7.here hx rfl (hb hby d3_23) rfl k) ?_
  show OG p e _ s below _ T7 (mkF m 24 #[.val (.ref a1), .val (.long (8000 : Int64)), .second, .val (.int (6 : Int32))] [(.long (8000 : Int64))])
  refine own_st (fun t k => X7.ldc2Long hx hown (mvT hZ (hw _ (List.mem_of_getElem? (i := 27) rfl))) (g := (mkF m 24 #[.val (.ref a1), .val (.long (8000 : Int64)), .second, .val (.int (6 : Int32))] [(.long (8000 : Int64))])) rfl (hb hby d3_24) _ k) ?_
  show OG p e _ s below _ T7 (mkF m 27 #[.val (.ref a1), .val (.long (8000 : Int64)), .second, .val (.int (6 : Int32))] [(.long (10000 : Int64)), (.long (8000 : Int64))])
  refine own_st (fun t k => XS.lcmp X7.here hx rfl (hb hby d3_27) rfl k) ?_
  show OG p e _ s below _ T7 (mkF m 28 #[.val (.ref a1), .val (.long (8000 : Int64)), .second, .val (.int (6 : Int32))] [(.int (lcmpW (8000 : Int64) (10000 : Int64)))])
  refine own_st (fun t k => XS.ifNo X7.here hx rfl (hb hby d3_28) rfl (by decide) k) ?_
  show OG p e _ s below _ T7 (mkF m 31 #[.val (.ref a1), .val (.long (8000 : Int64)), .second, .val (.int (6 : Int32))] [])
  refine own_st (fun t k => XS.lloadN X7.here hx rfl (hb hby d3_31) rfl k) ?_
  show OG p e _ s below _ T7 (mkF m 32 #[.val (.ref a1), .val (.long (8000 : Int64)), .second, .val (.int (6 : Int32))] [(.long (8000 : Int64))])
  refine own_st (fun t k => X7.ldc2Long hx hown (mvT hZ (hw _ (List.mem_of_getElem? (i := 28) rfl))) (g := (mkF m 32 #[.val (.ref a1), .val (.long (8000 : Int64)), .second, .val (.int (6 : Int32))] [(.long (8000 : Int64))])) rfl (hb hby d3_32) _ k) ?_
  show OG p e _ s below _ T7 (mkF m 35 #[.val (.ref a1), .val (.long (8000 : Int64)), .second, .val (.int (6 : Int32))] [(.long (2 : Int64)), (.long (8000 : Int64))])
  refine own_st (fun t k => XS.lmul X7.here hx rfl (hb hby d3_35) rfl k) ?_
  show OG p e _ s below _ T7 (mkF m 36 #[.val (.ref a1), .val (.long (8000 : Int64)), .second, .val (.int (6 : Int32))] [(.long (16000 : Int64))])
  refine own_st (fun t k => XS.lstoreN X7.here hx rfl (hb hby d3_36) rfl (l' := #[.val (.ref a1), .val (.long (16000 : Int64)), .second, .val (.int (6 : Int32))]) rfl k) ?_
  show OG p e _ s below _ T7 (mkF m 37 #[.val (.ref a1), .val (.long (16000 : Int64)), .second, .val (.int (6 : Int32))] [])
  refine own_st (fun t k => XS.iinc X7.here hx rfl (hb hby d3_37) rfl (l' := #[.val (.ref a1), .val (.long (16000 : Int64)), .second, .val (.int ((6 : Int32) + (1 : Int32)))]) rfl k) ?_
  show OG p e _ s below _ T7 (mkF m 40 #[.val (.ref a1), .val (.long (16000 : Int64)), .second, .val (.int (7 : Int32))] [])
  refine own_st (fun t k => XS.goto X7.here hx rfl (pc0 := 40) (pc' := 15) rfl (hb hby d3_40) (by decide) (by decide) k) ?_
  show OG p e _ s below _ T7 (mkF m 15 #[.val (.ref a1), .val (.long (16000 : Int64)), .second, .val (.int (7 : Int32))] [])
  refine own_st (fun t k => XS.iloadN X7.here hx rfl (hb hby d3_15) rfl k) ?_
  show OG p e _ s below _ T7 (mkF m 16 #[.val (.ref a1), .val (.long (16000 : Int64)), .second, .val (.int (7 : Int32))] [(.int (7 : Int32))])
  refine own_st (fun t k => XS.aloadN X7.here hx rfl (hb hby d3_16) rfl rfl k) ?_
  show OG p e _ s below _ T7 (mkF m 17 #[.val (.ref a1), .val (.long (16000 : Int64)), .second, .val (.int (7 : Int32))] [(.ref a1), (.int (7 : Int32))])
  obtain ⟨T8, X8, e8, st8⟩ := getF X7 hx hZ hown (host := "") (Or.inl (hw _ (List.mem_of_getElem? (i := 14) rfl))) Via.refl e7 R0 (g := (mkF m 17 #[.val (.ref a1), .val (.long (16000 : Int64)), .second, .val (.int (7 : Int32))] [(.ref a1), (.int (7 : Int32))])) rfl rfl (hb hby d3_17)
  refine own_st st8 ?_
  show OG p e _ s below _ T8 (mkF m 20 #[.val (.ref a1), .val (.long (16000 : Int64)), .second, .val (.int (7 : Int32))] [(.int (7 : Int32)), (.int (7 : Int32))])
  refine own_st (fun t k => XS.icmpYes X8.here hx rfl (pc0 := 20) (pc' := 43) rfl (hb hby d3_20) rfl (by decide) (by decide) (by decide) k) ?_
  show OG p e _ s below _ T8 (mkF m 43 #[.val (.ref a1), .val (.long (16000 : Int64)), .second, .val (.int (7 : Int32))] [])
  refine own_st (fun t k => XS.lloadN X8.here hx rfl (hb hby d3_43) rfl k) ?_
  show OG p e _ s below _ T8 (mkF m 44 #[.val (.ref a1), .val (.long (16000 : Int64)), .second, .val (.int (7 : Int32))] [(.long (16000 : Int64))])
  refine own_st (fun t k => X8.ldc2Long hx hown (mvT hZ (hw _ (List.mem_of_getElem? (i := 27) rfl))) (g := (mkF m 44 #[.val (.ref a1), .val (.long (16000 : Int64)), .second, .val (.int (7 : Int32))] [(.long (16000 : Int64))])) rfl (hb hby d3_44) _ k) ?_
  show OG p e _ s below _ T8 (mkF m 47 #[.val (.ref a1), .val (.long (16000 : Int64)), .second, .val (.int (7 : Int32))] [(.long (10000 : Int64)), (.long (16000 : Int64))])
  obtain ⟨_, _, ⟨T9, L9, k9, n9⟩, -, X9, ⟨Lc9, hQ9, l9, y9, z9⟩, st9⟩ := Jvm.LawKit.callS X8 hx (y := (⟨"java/lang/Math", "min", "(JJ)J"⟩ : MethodName)) hown (mvT hZ (hw _ (List.mem_of_getElem? (i := 29) rfl))) (mvT hZ (hw _ (List.mem_of_getElem? (i := 30) rfl))) (mvT hZ (hw _ (List.mem_of_getElem? (i := 31) rfl))) (mvT hZ (hw _ (List.mem_of_getElem? (i := 32) rfl))) (by decide) (backOf (W := 0) (rm := ({ frames := 0, cells := 0, slots := 0, locals := 0 } : Room)) (rm6 l Z a0 hw [] (16000 : Int64) (10000 : Int64) h0) hZ (hw _ (List.mem_of_getElem? (i := 32) rfl)) (hw _ (List.mem_of_getElem? (i := 31) rfl)) (by decide) (by decide)) (g := (mkF m 47 #[.val (.ref a1), .val (.long (16000 : Int64)), .second, .val (.int (7 : Int32))] [(.long (10000 : Int64)), (.long (16000 : Int64))])) rfl (by rw [hml]; rfl) (argsL := [(.long (16000 : Int64)), (.long (10000 : Int64))]) (rest := []) (lenOf pd__JJ_J rfl) rfl (by show 2 * 0 + _ ≤ _; exact Nat.le_of_eq rfl) (hb hby d3_47) (fun _ _ => ⟨rfl, e8, (by decide : 0 + 0 ≤ _), (by decide : 0 + 0 ≤ _)⟩)
  dsimp only [Pt.U, Pt.locs, Pt.cells, Pt.slots] at X9 l9 y9 z9 st9 hQ9
  subst l9 y9 z9
  obtain ⟨rfl, rfl, e9⟩ := hQ9
  refine own_st st9 ?_
  show OG p e _ s below _ T9 (mkF m 50 #[.val (.ref a1), .val (.long (16000 : Int64)), .second, .val (.int (7 : Int32))] [(.long (f6 (16000 : Int64) (10000 : Int64)))])
  exact own_retL X9 hx hret hlk (hb hby d3_50) (by decide) (by decide) ⟨congrArg (fun z => some (Value.long z)) (show f3_7  = (f6 (16000 : Int64) (10000 : Int64)) from (by rw [f3_7])).symm, rfl, e9⟩
def f3_8  : Int64 := (f6 (16000 : Int64) (10000 : Int64))
abbrev Q3_8 (Z : State) (a1 : Addr) (h0 : Heap)  : Option Value → Heap → List Loc → Prop := (fun v h L => v = some (.long f3_8) ∧ L = [] ∧ h = h0)
set_option maxRecDepth 65536 in
set_option maxHeartbeats 40000000 in
theorem rm3_8 (l : Launch) (Z : State) (a0 : Array Value) (hw : ∀ d ∈ tables_1, d.before a0 Z = true) (ws : List Jvm.Cond) (a1 : Addr) (h0 : Heap) (R0 : Fld Z h0 a1 "com/example/tidewire/tidewire/internal/Backoff" "attempts" "I" (.int (8 : Int32))) :
    OMet l Z (⟨"com/example/tidewire/tidewire/internal/Backoff", "delayMs", "()J"⟩ : MethodName) prog_2_method_2_code 4 (some .long) ws ({ frames := 1, cells := 0, slots := 0, locals := 15 } : Room) #[(.ref a1)] h0 (Q3_8 Z a1 h0) := by
  refine own_enter pn_3 ?_
  intro p e s m below meth c s₁ hx hby hml0 hown hret hlk hnm hZ X0 e0
  have hml : c.maxLocals = 4 := hml0
  refine own_cast (ef_3 m a1) ?_
  show OG p e ({ frames := 1, cells := 0, slots := 0, locals := 15 } : Room) s below (fun v h L => v = some (.long f3_8) ∧ L = [] ∧ h = h0) s₁ (mkF m 0 #[.val (.ref a1), .unset, .unset, .unset] [])
  refine own_st (fun t k => XS.aloadN X0.here hx rfl (hb hby d3_0) rfl rfl k) ?_
  show OG p e _ s below _ s₁ (mkF m 1 #[.val (.ref a1), .unset, .unset, .unset] [(.ref a1)])
  obtain ⟨T1, X1, e1, st1⟩ := getF X0 hx hZ hown (host := "") (Or.inl (hw _ (List.mem_of_getElem? (i := 14) rfl))) Via.refl e0 R0 (g := (mkF m 1 #[.val (.ref a1), .unset, .unset, .unset] [(.ref a1)])) rfl rfl (hb hby d3_1)
  refine own_st st1 ?_
  show OG p e _ s below _ T1 (mkF m 4 #[.val (.ref a1), .unset, .unset, .unset] [(.int (8 : Int32))])
  refine own_st (fun t k => XS.ifYes X1.here hx rfl (pc0 := 4) (pc' := 9) rfl (hb hby d3_4) rfl (by decide) (by decide) (by decide) k) ?_
  show OG p e _ s below _ T1 (mkF m 9 #[.val (.ref a1), .unset, .unset, .unset] [])
  refine own_st (fun t k => X1.ldc2Long hx hown (mvT hZ (hw _ (List.mem_of_getElem? (i := 26) rfl))) (g := (mkF m 9 #[.val (.ref a1), .unset, .unset, .unset] [])) rfl (hb hby d3_9) _ k) ?_
  show OG p e _ s below _ T1 (mkF m 12 #[.val (.ref a1), .unset, .unset, .unset] [(.long (250 : Int64))])
  refine own_st (fun t k => XS.lstoreN X1.here hx rfl (hb hby d3_12) rfl (l' := #[.val (.ref a1), .val (.long (250 : Int64)), .second, .unset]) rfl k) ?_
  show OG p e _ s below _ T1 (mkF m 13 #[.val (.ref a1), .val (.long (250 : Int64)), .second, .unset] [])
  refine own_st (fun t k => XS.iconst X1.here hx rfl (hb hby d3_13) k) ?_
  show OG p e _ s below _ T1 (mkF m 14 #[.val (.ref a1), .val (.long (250 : Int64)), .second, .unset] [(.int (1 : Int32))])
  refine own_st (fun t k => XS.istoreN X1.here hx rfl (hb hby d3_14) rfl (l' := #[.val (.ref a1), .val (.long (250 : Int64)), .second, .val (.int (1 : Int32))]) rfl k) ?_
  show OG p e _ s below _ T1 (mkF m 15 #[.val (.ref a1), .val (.long (250 : Int64)), .second, .val (.int (1 : Int32))] [])
  refine own_st (fun t k => XS.iloadN X1.here hx rfl (hb hby d3_15) rfl k) ?_
  show OG p e _ s below _ T1 (mkF m 16 #[.val (.ref a1), .val (.long (250 : Int64)), .second, .val (.int (1 : Int32))] [(.int (1 : Int32))])
  refine own_st (fun t k => XS.aloadN X1.here hx rfl (hb hby d3_16) rfl rfl k) ?_
  show OG p e _ s below _ T1 (mkF m 17 #[.val (.ref a1), .val (.long (250 : Int64)), .second, .val (.int (1 : Int32))] [(.ref a1), (.int (1 : Int32))])
  obtain ⟨T2, X2, e2, st2⟩ := getF X1 hx hZ hown (host := "") (Or.inl (hw _ (List.mem_of_getElem? (i := 14) rfl))) Via.refl e1 R0 (g := (mkF m 17 #[.val (.ref a1), .val (.long (250 : Int64)), .second, .val (.int (1 : Int32))] [(.ref a1), (.int (1 : Int32))])) rfl rfl (hb hby d3_17)
  refine own_st st2 ?_
  show OG p e _ s below _ T2 (mkF m 20 #[.val (.ref a1), .val (.long (250 : Int64)), .second, .val (.int (1 : Int32))] [(.int (8 : Int32)), (.int (1 : Int32))])
  refine own_st (fun t k => XS.icmpNo X2.here hx rfl (hb hby d3_20) rfl (by decide) k) ?_
  show OG p e _ s below _ T2 (mkF m 23 #[.val (.ref a1), .val (.long (250 : Int64)), .second, .val (.int (1 : Int32))] [])
  refine own_st (fun t k => XS.lloadN X2.here hx rfl (hb hby d3_23) rfl k) ?_
  show OG p e _ s below _ T2 (mkF m 24 #[.val (.ref a1), .val (.long (250 : Int64)), .second, .val (.int (1 : Int32))] [(.long (250 : Int64))])
  refine own_st (fun t k => X2.ldc2Long hx hown (mvT hZ (hw _ (List.mem_of_getElem? (i := 27) rfl))) (g := (mkF m 24 #[.val (.ref a1), .val (.long (250 : Int64)), .second, .val (.int (1 : Int32))] [(.long (250 : Int64))])) rfl (hb hby d3_24) _ k) ?_
  show OG p e _ s below _ T2 (mkF m 27 #[.val (.ref a1), .val (.long (250 : Int64)), .second, .val (.int (1 : Int32))] [(.long (10000 : Int64)), (.long (250 : Int64))])
  refine own_st (fun t k => XS.lcmp X2.here hx rfl (hb hby d3_27) rfl k) ?_
  show OG p e _ s below _ T2 (mkF m 28 #[.val (.ref a1), .val (.long (250 : Int64)), .second, .val (.int (1 : Int32))] [(.int (lcmpW (250 : Int64) (10000 : Int64)))])
  refine own_st (fun t k => XS.ifNo X2.here hx rfl (hb hby d3_28) rfl (by decide) k) ?_
  show OG p e _ s below _ T2 (mkF m 31 #[.val (.ref a1), .val (.long (250 : Int64)), .second, .val (.int (1 : Int32))] [])
  refine own_st (fun t k => XS.lloadN X2.here hx rfl (hb hby d3_31) rfl k) ?_
  show OG p e _ s below _ T2 (mkF m 32 #[.val (.ref a1), .val (.long (250 : Int64)), .second, .val (.int (1 : Int32))] [(.long (250 : Int64))])
  refine own_st (fun t k => X2.ldc2Long hx hown (mvT hZ (hw _ (List.mem_of_getElem? (i := 28) rfl))) (g := (mkF m 32 #[.val (.ref a1), .val (.long (250 : Int64)), .second, .val (.int (1 : Int32))] [(.long (250 : Int64))])) rfl (hb hby d3_32) _ k) ?_
  show OG p e _ s below _ T2 (mkF m 35 #[.val (.ref a1), .val (.long (250 : Int64)), .second, .val (.int (1 : Int32))] [(.long (2 : Int64)), (.long (250 : Int64))])
  refine own_st (fun t k => XS.lmul X2.here hx rfl (hb hby d3_35) rfl k) ?_
  show OG p e _ s below _ T2 (mkF m 36 #[.val (.ref a1), .val (.long (250 : Int64)), .second, .val (.int (1 : Int32))] [(.long (500 : Int64))])
  refine own_st (fun t k => XS.lstoreN X2.here hx rfl (hb hby d3_36) rfl (l' := #[.val (.ref a1), .val (.long (500 : Int64)), .second, .val (.int (1 : Int32))]) rfl k) ?_
  show OG p e _ s below _ T2 (mkF m 37 #[.val (.ref a1), .val (.long (500 : Int64)), .second, .val (.int (1 : Int32))] [])
  refine own_st (fun t k => XS.iinc X2.here hx rfl (hb hby d3_37) rfl (l' := #[.val (.ref a1), .val (.long (500 : Int64)), .second, .val (.int ((1 : Int32) + (1 : Int32)))]) rfl k) ?_
  show OG p e _ s below _ T2 (mkF m 40 #[.val (.ref a1), .val (.long (500 : Int64)), .second, .val (.int (2 : Int32))] [])
  refine own_st (fun t k => XS.goto X2.here hx rfl (pc0 := 40) (pc' := 15) rfl (hb hby d3_40) (by decide) (by decide) k) ?_
  show OG p e _ s below _ T2 (mkF m 15 #[.val (.ref a1), .val (.long (500 : Int64)), .second, .val (.int (2 : Int32))] [])
  refine own_st (fun t k => XS.iloadN X2.here hx rfl (hb hby d3_15) rfl k) ?_
  show OG p e _ s below _ T2 (mkF m 16 #[.val (.ref a1), .val (.long (500 : Int64)), .second, .val (.int (2 : Int32))] [(.int (2 : Int32))])
  refine own_st (fun t k => XS.aloadN X2.here hx rfl (hb hby d3_16) rfl rfl k) ?_
  show OG p e _ s below _ T2 (mkF m 17 #[.val (.ref a1), .val (.long (500 : Int64)), .second, .val (.int (2 : Int32))] [(.ref a1), (.int (2 : Int32))])
  obtain ⟨T3, X3, e3, st3⟩ := getF X2 hx hZ hown (host := "") (Or.inl (hw _ (List.mem_of_getElem? (i := 14) rfl))) Via.refl e2 R0 (g := (mkF m 17 #[.val (.ref a1), .val (.long (500 : Int64)), .second, .val (.int (2 : Int32))] [(.ref a1), (.int (2 : Int32))])) rfl rfl (hb hby d3_17)
  refine own_st st3 ?_
  show OG p e _ s below _ T3 (mkF m 20 #[.val (.ref a1), .val (.long (500 : Int64)), .second, .val (.int (2 : Int32))] [(.int (8 : Int32)), (.int (2 : Int32))])
  refine own_st (fun t k => XS.icmpNo X3.here hx rfl (hb hby d3_20) rfl (by decide) k) ?_
  show OG p e _ s below _ T3 (mkF m 23 #[.val (.ref a1), .val (.long (500 : Int64)), .second, .val (.int (2 : Int32))] [])
  refine own_st (fun t k => XS.lloadN X3.here hx rfl (hb hby d3_23) rfl k) ?_
  show OG p e _ s below _ T3 (mkF m 24 #[.val (.ref a1), .val (.long (500 : Int64)), .second, .val (.int (2 : Int32))] [(.long (500 : Int64))])
  refine own_st (fun t k => X3.ldc2Long hx hown (mvT hZ (hw _ (List.mem_of_getElem? (i := 27) rfl))) (g := (mkF m 24 #[.val (.ref a1), .val (.long (500 : Int64)), .second, .val (.int (2 : Int32))] [(.long (500 : Int64))])) rfl (hb hby d3_24) _ k) ?_
  show OG p e _ s below _ T3 (mkF m 27 #[.val (.ref a1), .val (.long (500 : Int64)), .second, .val (.int (2 : Int32))] [(.long (10000 : Int64)), (.long (500 : Int64))])
  refine own_st (fun t k => XS.lcmp X3.here hx rfl (hb hby d3_27) rfl k) ?_
  show OG p e _ s below _ T3 (mkF m 28 #[.val (.ref a1), .val (.long (500 : Int64)), .second, .val (.int (2 : Int32))] [(.int (lcmpW (500 : Int64) (10000 : Int64)))])
  refine own_st (fun t k => XS.ifNo X3.here hx rfl (hb hby d3_28) rfl (by decide) k) ?_
  show OG p e _ s below _ T3 (mkF m 31 #[.val (.ref a1), .val (.long (500 : Int64)), .second, .val (.int (2 : Int32))] [])
  refine own_st (fun t k => XS.lloadN X3.here hx rfl (hb hby d3_31) rfl k) ?_
  show OG p e _ s below _ T3 (mkF m 32 #[.val (.ref a1), .val (.long (500 : Int64)), .second, .val (.int (2 : Int32))] [(.long (500 : Int64))])
  refine own_st (fun t k => X3.ldc2Long hx hown (mvT hZ (hw _ (List.mem_of_getElem? (i := 28) rfl))) (g := (mkF m 32 #[.val (.ref a1), .val (.long (500 : Int64)), .second, .val (.int (2 : Int32))] [(.long (500 : Int64))])) rfl (hb hby d3_32) _ k) ?_
  show OG p e _ s below _ T3 (mkF m 35 #[.val (.ref a1), .val (.long (500 : Int64)), .second, .val (.int (2 : Int32))] [(.long (2 : Int64)), (.long (500 : Int64))])
  refine own_st (fun t k => XS.lmul X3.here hx rfl (hb hby d3_35) rfl k) ?_
  show OG p e _ s below _ T3 (mkF m 36 #[.val (.ref a1), .val (.long (500 : Int64)), .second, .val (.int (2 : Int32))] [(.long (1000 : Int64))])
  refine own_st (fun t k => XS.lstoreN X3.here hx rfl (hb hby d3_36) rfl (l' := #[.val (.ref a1), .val (.long (1000 : Int64)), .second, .val (.int (2 : Int32))]) rfl k) ?_
  show OG p e _ s below _ T3 (mkF m 37 #[.val (.ref a1), .val (.long (1000 : Int64)), .second, .val (.int (2 : Int32))] [])
  refine own_st (fun t k => XS.iinc X3.here hx rfl (hb hby d3_37) rfl (l' := #[.val (.ref a1), .val (.long (1000 : Int64)), .second, .val (.int ((2 : Int32) + (1 : Int32)))]) rfl k) ?_
  show OG p e _ s below _ T3 (mkF m 40 #[.val (.ref a1), .val (.long (1000 : Int64)), .second, .val (.int (3 : Int32))] [])
  refine own_st (fun t k => XS.goto X3.here hx rfl (pc0 := 40) (pc' := 15) rfl (hb hby d3_40) (by decide) (by decide) k) ?_
  show OG p e _ s below _ T3 (mkF m 15 #[.val (.ref a1), .val (.long (1000 : Int64)), .second, .val (.int (3 : Int32))] [])
  refine own_st (fun t k => XS.iloadN X3.here hx rfl (hb hby d3_15) rfl k) ?_
  show OG p e _ s below _ T3 (mkF m 16 #[.val (.ref a1), .val (.long (1000 : Int64)), .second, .val (.int (3 : Int32))] [(.int (3 : Int32))])
  refine own_st (fun t k => XS.aloadN X3.here hx rfl (hb hby d3_16) rfl rfl k) ?_
  show OG p e _ s below _ T3 (mkF m 17 #[.val (.ref a1), .val (.long (1000 : Int64)), .second, .val (.int (3 : Int32))] [(.ref a1), (.int (3 : Int32))])
  obtain ⟨T4, X4, e4, st4⟩ := getF X3 hx hZ hown (host := "") (Or.inl (hw _ (List.mem_of_getElem? (i := 14) rfl))) Via.refl e3 R0 (g := (mkF m 17 #[.val (.ref a1), .val (.long (1000 : Int64)), .second, .val (.int (3 : Int32))] [(.ref a1), (.int (3 : Int32))])) rfl rfl (hb hby d3_17)
  refine own_st st4 ?_
  show OG p e _ s below _ T4 (mkF m 20 #[.val (.ref a1), .val (.long (1000 : Int64)), .second, .val (.int (3 : Int32))] [(.int (8 : Int32)), (.int (3 : Int32))])
  refine own_st (fun t k => XS.icmpNo X4.here hx rfl (hb hby d3_20) rfl (by decide) k) ?_
  show OG p e _ s below _ T4 (mkF m 23 #[.val (.ref a1), .val (.long (1000 : Int64)), .second, .val (.int (3 : Int32))] [])
  refine own_st (fun t k => XS.lloadN X4.here hx rfl (hb hby d3_23) rfl k) ?_
  show OG p e _ s below _ T4 (mkF m 24 #[.val (.ref a1), .val (.long (1000 : Int64)), .second, .val (.int (3 : Int32))] [(.long (1000 : Int64))])
  refine own_st (fun t k => X4.ldc2Long hx hown (mvT hZ (hw _ (List.mem_of_getElem? (i := 27) rfl))) (g := (mkF m 24 #[.val (.ref a1), .val (.long (1000 : Int64)), .second, .val (.int (3 : Int32))] [(.long (1000 : Int64))])) rfl (hb hby d3_24) _ k) ?_
  show OG p e _ s below _ T4 (mkF m 27 #[.val (.ref a1), .val (.long (1000 : Int64)), .second, .val (.int (3 : Int32))] [(.long (10000 : Int64)), (.long (1000 : Int64))])
  refine own_st (fun t k => XS.lcmp X4.here hx rfl (hb hby d3_27) rfl k) ?_
  show OG p e _ s below _ T4 (mkF m 28 #[.val (.ref a1), .val (.long (1000 : Int64)), .second, .val (.int (3 : Int32))] [(.int (lcmpW (1000 : Int64) (10000 : Int64)))])
  refine own_st (fun t k => XS.ifNo X4.here hx rfl (hb hby d3_28) rfl (by decide) k) ?_
  show OG p e _ s below _ T4 (mkF m 31 #[.val (.ref a1), .val (.long (1000 : Int64)), .second, .val (.int (3 : Int32))] [])
  refine own_st (fun t k => XS.lloadN X4.here hx rfl (hb hby d3_31) rfl k) ?_
  show OG p e _ s below _ T4 (mkF m 32 #[.val (.ref a1), .val (.long (1000 : Int64)), .second, .val (.int (3 : Int32))] [(.long (1000 : Int64))])
  refine own_st (fun t k => X4.ldc2Long hx hown (mvT hZ (hw _ (List.mem_of_getElem? (i := 28) rfl))) (g := (mkF m 32 #[.val (.ref a1), .val (.long (1000 : Int64)), .second, .val (.int (3 : Int32))] [(.long (1000 : Int64))])) rfl (hb hby d3_32) _ k) ?_
  show OG p e _ s below _ T4 (mkF m 35 #[.val (.ref a1), .val (.long (1000 : Int64)), .second, .val (.int (3 : Int32))] [(.long (2 : Int64)), (.long (1000 : Int64))])
  refine own_st (fun t k => XS.lmul X4.here hx rfl (hb hby d3_35) rfl k) ?_
  show OG p e _ s below _ T4 (mkF m 36 #[.val (.ref a1), .val (.long (1000 : Int64)), .second, .val (.int (3 : Int32))] [(.long (2000 : Int64))])
  refine own_st (fun t k => XS.lstoreN X4.here hx rfl (hb hby d3_36) rfl (l' := #[.val (.ref a1), .val (.long (2000 : Int64)), .second, .val (.int (3 : Int32))]) rfl k) ?_
  show OG p e _ s below _ T4 (mkF m 37 #[.val (.ref a1), .val (.long (2000 : Int64)), .second, .val (.int (3 : Int32))] [])
  refine own_st (fun t k => XS.iinc X4.here hx rfl (hb hby d3_37) rfl (l' := #[.val (.ref a1), .val (.long (2000 : Int64)), .second, .val (.int ((3 : Int32) + (1 : Int32)))]) rfl k) ?_
  show OG p e _ s below _ T4 (mkF m 40 #[.val (.ref a1), .val (.long (2000 : Int64)), .second, .val (.int (4 : Int32))] [])
  refine own_st (fun t k => XS.goto X4.here hx rfl (pc0 := 40) (pc' := 15) rfl (hb hby d3_40) (by decide) (by decide) k) ?_
  show OG p e _ s below _ T4 (mkF m 15 #[.val (.ref a1), .val (.long (2000 : Int64)), .second, .val (.int (4 : Int32))] [])
  refine own_st (fun t k => XS.iloadN X4.here hx rfl (hb hby d3_15) rfl k) ?_
  show OG p e _ s below _ T4 (mkF m 16 #[.val (.ref a1), .val (.long (2000 : Int64)), .second, .val (.int (4 : Int32))] [(.int (4 : Int32))])
  refine own_st (fun t k => XS.aloadN X4.here hx rfl (hb hby d3_16) rfl rfl k) ?_
  show OG p e _ s below _ T4 (mkF m 17 #[.val (.ref a1), .val (.long (2000 : Int64)), .second, .val (.int (4 : Int32))] [(.ref a1), (.int (4 : Int32))])
  obtain ⟨T5, X5, e5, st5⟩ := getF X4 hx hZ hown (host := "") (Or.inl (hw _ (List.mem_of_getElem? (i := 14) rfl))) Via.refl e4 R0 (g := (mkF m 17 #[.val (.ref a1), .val (.long (2000 : Int64)), .second, .val (.int (4 : Int32))] [(.ref a1), (.int (4 : Int32))])) rfl rfl (hb hby d3_17)
  refine own_st st5 ?_
  show OG p e _ s below _ T5 (mkF m 20 #[.val (.ref a1), .val (.long (2000 : Int64)), .second, .val (.int (4 : Int32))] [(.int (8 : Int32)), (.int (4 : Int32))])
  refine own_st (fun t k => XS.icmpNo X5.here hx rfl (hb hby d3_20) rfl (by decide) k) ?_
  show OG p e _ s below _ T5 (mkF m 23 #[.val (.ref a1), .val (.long (2000 : Int64)), .second, .val (.int (4 : Int32))] [])
  refine own_st (fun t k => XS.lloadN X5.here hx rfl (hb hby d3_23) rfl k) ?_
  show OG p e _ s below _ T5 (mkF m 24 #[.val (.ref a1), .val (.long (2000 : Int64)), .second, .val (.int (4 : Int32))] [(.long (2000 : Int64))])
  refine own_st (fun t k => X5.ldc2Long hx hown (mvT hZ (hw _ (List.mem_of_getElem? (i := 27) rfl))) (g := (mkF m 24 #[.val (.ref a1), .val (.long (2000 : Int64)), .second, .val (.int (4 : Int32))] [(.long (2000 : Int64))])) rfl (hb hby d3_24) _ k) ?_
  show OG p e _ s below _ T5 (mkF m 27 #[.val (.ref a1), .val (.long (2000 : Int64)), .second, .val (.int (4 : Int32))] [(.long (10000 : Int64)), (.long (2000 : Int64))])
  refine own_st (fun t k => XS.lcmp X5.here hx rfl (hb hby d3_27) rfl k) ?_
  show OG p e _ s below _ T5 (mkF m 28 #[.val (.ref a1), .val (.long (2000 : Int64)), .second, .val (.int (4 : Int32))] [(.int (lcmpW (2000 : Int64) (10000 : Int64)))])
  refine own_st (fun t k => XS.ifNo X5.here hx rfl (hb hby d3_28) rfl (by decide) k) ?_
  show OG p e _ s below _ T5 (mkF m 31 #[.val (.ref a1), .val (.long (2000 : Int64)), .second, .val (.int (4 : Int32))] [])
  refine own_st (fun t k => XS.lloadN X5.here hx rfl (hb hby d3_31) rfl k) ?_
  show OG p e _ s below _ T5 (mkF m 32 #[.val (.ref a1), .val (.long (2000 : Int64)), .second, .val (.int (4 : Int32))] [(.long (2000 : Int64))])
  refine own_st (fun t k => X5.ldc2Long hx hown (mvT hZ (hw _ (List.mem_of_getElem? (i := 28) rfl))) (g := (mkF m 32 #[.val (.ref a1), .val (.long (2000 : Int64)), .second, .val (.int (4 : Int32))] [(.long (2000 : Int64))])) rfl (hb hby d3_32) _ k) ?_
  show OG p e _ s below _ T5 (mkF m 35 #[.val (.ref a1), .val (.long (2000 : Int64)), .second, .val (.int (4 : Int32))] [(.long (2 : Int64)), (.long (2000 : Int64))])
  refine own_st (fun t k => XS.lmul X5.here hx rfl (hb hby d3_35) rfl k) ?_
  show OG p e _ s below _ T5 (mkF m 36 #[.val (.ref a1), .val (.long (2000 : Int64)), .second, .val (.int (4 : Int32))] [(.long (4000 : Int64))])
  refine own_st (fun t k => XS.lstoreN X5.here hx rfl (hb hby d3_36) rfl (l' := #[.val (.ref a1), .val (.long (4000 : Int64)), .second, .val (.int (4 : Int32))]) rfl k) ?_
  show OG p e _ s below _ T5 (mkF m 37 #[.val (.ref a1), .val (.long (4000 : Int64)), .second, .val (.int (4 : Int32))] [])
  refine own_st (fun t k => XS.iinc X5.here hx rfl (hb hby d3_37) rfl (l' := #[.val (.ref a1), .val (.long (4000 : Int64)), .second, .val (.int ((4 : Int32) + (1 : Int32)))]) rfl k) ?_
  show OG p e _ s below _ T5 (mkF m 40 #[.val (.ref a1), .val (.long (4000 : Int64)), .second, .val (.int (5 : Int32))] [])
  refine own_st (fun t k => XS.goto X5.here hx rfl (pc0 := 40) (pc' := 15) rfl (hb hby d3_40) (by decide) (by decide) k) ?_
  show OG p e _ s below _ T5 (mkF m 15 #[.val (.ref a1), .val (.long (4000 : Int64)), .second, .val (.int (5 : Int32))] [])
  refine own_st (fun t k => XS.iloadN X5.here hx rfl (hb hby d3_15) rfl k) ?_
  show OG p e _ s below _ T5 (mkF m 16 #[.val (.ref a1), .val (.long (4000 : Int64)), .second, .val (.int (5 : Int32))] [(.int (5 : Int32))])
  refine own_st (fun t k => XS.aloadN X5.here hx rfl (hb hby d3_16) rfl rfl k) ?_
  show OG p e _ s below _ T5 (mkF m 17 #[.val (.ref a1), .val (.long (4000 : Int64)), .second, .val (.int (5 : Int32))] [(.ref a1), (.int (5 : Int32))])
  obtain ⟨T6, X6, e6, st6⟩ := getF X5 hx hZ hown (host := "") (Or.inl (hw _ (List.mem_of_getElem? (i := 14) rfl))) Via.refl e5 R0 (g := (mkF m 17 #[.val (.ref a1), .val (.long (4000 : Int64)), .second, .val (.int (5 : Int32))] [(.ref a1), (.int (5 : Int32))])) rfl rfl (hb hby d3_17)
  refine own_st st6 ?_
  show OG p e _ s below _ T6 (mkF m 20 #[.val (.ref a1), .val (.long (4000 : Int64)), .second, .val (.int (5 : Int32))] [(.int (8 : Int32)), (.int (5 : Int32))])
  refine own_st (fun t k => XS.icmpNo X6.here hx rfl (hb hby d3_20) rfl (by decide) k) ?_
  show OG p e _ s below _ T6 (mkF m 23 #[.val (.ref a1), .val (.long (4000 : Int64)), .second, .val (.int (5 : Int32))] [])
  refine own_st (fun t k => XS.lloadN X6.here hx rfl (hb hby d3_23) rfl k) ?_
  show OG p e _ s below _ T6 (mkF m 24 #[.val (.ref a1), .val (.long (4000 : Int64)), .second, .val (.int (5 : Int32))] [(.long (4000 : Int64))])
  refine own_st (fun t k => X6.ldc2Long hx hown (mvT hZ (hw _ (List.mem_of_getElem? (i := 27) rfl))) (g := (mkF m 24 #[.val (.ref a1), .val (.long (4000 : Int64)), .second, .val (.int (5 : Int32))] [(.long (4000 : Int64))])) rfl (hb hby d3_24) _ k) ?_
  show OG p e _ s below _ T6 (mkF m 27 #[.val (.ref a1), .val (.long (4000 : Int64)), .second, .val (.int (5 : Int32))] [(.long (10000 : Int64)), (.long (4000 : Int64))])
  refine own_st (fun t k => XS.lcmp X6.here hx rfl (hb hby d3_27) rfl k) ?_
  show OG p e _ s below _ T6 (mkF m 28 #[.val (.ref a1), .val (.long (4000 : Int64)), .second, .val (.int (5 : Int32))] [(.int (lcmpW (4000 : Int64) (10000 : Int64)))])
  refine own_st (fun t k => XS.ifNo X6.here hx rfl (hb hby d3_28) rfl (by decide) k) ?_
  show OG p e _ s below _ T6 (mkF m 31 #[.val (.ref a1), .val (.long (4000 : Int64)), .second, .val (.int (5 : Int32))] [])
  refine own_st (fun t k => XS.lloadN X6.here hx rfl (hb hby d3_31) rfl k) ?_
  show OG p e _ s below _ T6 (mkF m 32 #[.val (.ref a1), .val (.long (4000 : Int64)), .second, .val (.int (5 : Int32))] [(.long (4000 : Int64))])
  refine own_st (fun t k => X6.ldc2Long hx hown (mvT hZ (hw _ (List.mem_of_getElem? (i := 28) rfl))) (g := (mkF m 32 #[.val (.ref a1), .val (.long (4000 : Int64)), .second, .val (.int (5 : Int32))] [(.long (4000 : Int64))])) rfl (hb hby d3_32) _ k) ?_
  show OG p e _ s below _ T6 (mkF m 35 #[.val (.ref a1), .val (.long (4000 : Int64)), .second, .val (.int (5 : Int32))] [(.long (2 : Int64)), (.long (4000 : Int64))])
  refine own_st (fun t k => XS.lmul X6.here hx rfl (hb hby d3_35) rfl k) ?_
  show OG p e _ s below _ T6 (mkF m 36 #[.val (.ref a1), .val (.long (4000 : Int64)), .second, .val (.int (5 : Int32))] [(.long (8000 : Int64))])
  refine own_st (fun t k => XS.lstoreN X6.here hx rfl (hb hby d3_36) rfl (l' := #[.val (.ref a1), .val (.long (8000 : Int64)), .second, .val (.int (5 : Int32))]) rfl k) ?_
  show OG p e _ s below _ T6 (mkF m 37 #[.val (.ref a1), .val (.long (8000 : Int64)), .second, .val (.int (5 : Int32))] [])
  refine own_st (fun t k => XS.iinc X6.here hx rfl (hb hby d3_37) rfl (l' := #[.val (.ref a1), .val (.long (8000 : Int64)), .second, .val (.int ((5 : Int32) + (1 : Int32)))]) rfl k) ?_
  show OG p e _ s below _ T6 (mkF m 40 #[.val (.ref a1), .val (.long (8000 : Int64)), .second, .val (.int (6 : Int32))] [])
  refine own_st (fun t k => XS.goto X6.here hx rfl (pc0 := 40) (pc' := 15) rfl (hb hby d3_40) (by decide) (by decide) k) ?_
  show OG p e _ s below _ T6 (mkF m 15 #[.val (.ref a1), .val (.long (8000 : Int64)), .second, .val (.int (6 : Int32))] [])
  refine own_st (fun t k => XS.iloadN X6.here hx rfl (hb hby d3_15) rfl k) ?_
  show OG p e _ s below _ T6 (mkF m 16 #[.val (.ref a1), .val (.long (8000 : Int64)), .second, .val (.int (6 : Int32))] [(.int (6 : Int32))])
  refine own_st (fun t k => XS.aloadN X6.here hx rfl (hb hby d3_16) rfl rfl k) ?_
  show OG p e _ s below _ T6 (mkF m 17 #[.val (.ref a1), .val (.long (8000 : Int64)), .second, .val (.int (6 : Int32))] [(.ref a1), (.int (6 : Int32))])
  obtain ⟨T7, X7, e7, st7⟩ := getF X6 hx hZ hown (host := "") (Or.inl (hw _ (List.mem_of_getElem? (i := 14) rfl))) Via.refl e6 R0 (g := (mkF m 17 #[.val (.ref a1), .val (.long (8000 : Int64)), .second, .val (.int (6 : Int32))] [(.ref a1), (.int (6 : Int32))])) rfl rfl (hb hby d3_17)
  refine own_st st7 ?_
  show OG p e _ s below _ T7 (mkF m 20 #[.val (.ref a1), .val (.long (8000 : Int64)), .second, .val (.int (6 : Int32))] [(.int (8 : Int32)), (.int (6 : Int32))])
  refine own_st (fun t k => XS.icmpNo X7.here hx rfl (hb hby d3_20) rfl (by decide) k) ?_
  show OG p e _ s below _ T7 (mkF m 23 #[.val (.ref a1), .val (.long (8000 : Int64)), .second, .val (.int (6 : Int32))] [])
  refine own_st (fun t k => XS.lloadN X7.here hx rfl (hb hby d3_23) rfl k) ?_
  show OG p e _ s below _ T7 (mkF m 24 #[.val (.ref a1), .val (.long (8000 : Int64)), .second, .val (.int (6 : Int32))] [(.long (8000 : Int64))])
  refine own_st (fun t k => X7.ldc2Long hx hown (mvT hZ (hw _ (List.mem_of_getElem? (i := 27) rfl))) (g := (mkF m 24 #[.val (.ref a1), .val (.long (8000 : Int64)), .second, .val (.int (6 : Int32))] [(.long (8000 : Int64))])) rfl (hb hby d3_24) _ k) ?_
  show OG p e _ s below _ T7 (mkF m 27 #[.val (.ref a1), .val (.long (8000 : Int64)), .second, .val (.int (6 : Int32))] [(.long (10000 : Int64)), (.long (8000 : Int64))])
  refine own_st (fun t k => XS.lcmp X7.here hx rfl (hb hby d3_27) rfl k) ?_
  show OG p e _ s below _ T7 (mkF m 28 #[.val (.ref a1), .val (.long (8000 : Int64)), .second, .val (.int (6 : Int32))] [(.int (lcmpW (8000 : Int64) (10000 : Int64)))])
  refine own_st (fun t k => XS.ifNo X7.here hx rfl (hb hby d3_28) rfl (by decide) k) ?_
  show OG p e _ s below _ T7 (mkF m 31 #[.val (.ref a1), .val (.long (8000 : Int64)), .second, .val (.int (6 : Int32))] [])
  refine own_st (fun t k => XS.lloadN X7.here hx rfl (hb hby d3_31) rfl k) ?_
  show OG p e _ s below _ T7 (mkF m 32 #[.val (.ref a1), .val (.long (8000 : Int64)), .second, .val (.int (6 : Int32))] [(.long (8000 : Int64))])
  refine own_st (fun t k => X7.ldc2Long hx hown (mvT hZ (hw _ (List.mem_of_getElem? (i := 28) rfl))) (g := (mkF m 32 #[.val (.ref a1), .val (.long (8000 : Int64)), .second, .val (.int (6 : Int32))] [(.long (8000 : Int64))])) rfl (hb hby d3_32) _ k) ?_
  show OG p e _ s below _ T7 (mkF m 35 #[.val (.ref a1), .val (.long (8000 : Int64)), .second, .val (.int (6 : Int32))] [(.long (2 : Int64)), (.long (8000 : Int64))])
  refine own_st (fun t k => XS.lmul X7.here hx rfl (hb hby d3_35) rfl k) ?_
  show OG p e _ s below _ T7 (mkF m 36 #[.val (.ref a1), .val (.long (8000 : Int64)), .second, .val (.int (6 : Int32))] [(.long (16000 : Int64))])
  refine own_st (fun t k => XS.lstoreN X7.here hx rfl (hb hby d3_36) rfl (l' := #[.val (.ref a1), .val (.long (16000 : Int64)), .second, .val (.int (6 : Int32))]) rfl k) ?_
  show OG p e _ s below _ T7 (mkF m 37 #[.val (.ref a1), .val (.long (16000 : Int64)), .second, .val (.int (6 : Int32))] [])
  refine own_st (fun t k => XS.iinc X7.here hx rfl (hb hby d3_37) rfl (l' := #[.val (.ref a1), .val (.long (16000 : Int64)), .second, .val (.int ((6 : Int32) + (1 : Int32)))]) rfl k) ?_
  show OG p e _ s below _ T7 (mkF m 40 #[.val (.ref a1), .val (.long (16000 : Int64)), .second, .val (.int (7 : Int32))] [])
  refine own_st (fun t k => XS.goto X7.here hx rfl (pc0 := 40) (pc' := 15) rfl (hb hby d3_40) (by decide) (by decide) k) ?_
  show OG p e _ s below _ T7 (mkF m 15 #[.val (.ref a1), .val (.long (16000 : Int64)), .second, .val (.int (7 : Int32))] [])
  refine own_st (fun t k => XS.iloadN X7.here hx rfl (hb hby d3_15) rfl k) ?_
  show OG p e _ s below _ T7 (mkF m 16 #[.val (.ref a1), .val (.long (16000 : Int64)), .second, .val (.int (7 : Int32))] [(.int (7 : Int32))])
  refine own_st (fun t k => XS.aloadN X7.here hx rfl (hb hby d3_16) rfl rfl k) ?_
  show OG p e _ s below _ T7 (mkF m 17 #[.val (.ref a1), .val (.long (16000 : Int64)), .second, .val (.int (7 : Int32))] [(.ref a1), (.int (7 : Int32))])
  obtain ⟨T8, X8, e8, st8⟩ := getF X7 hx hZ hown (host := "") (Or.inl (hw _ (List.mem_of_getElem? (i := 14) rfl))) Via.refl e7 R0 (g := (mkF m 17 #[.val (.ref a1), .val (.long (16000 : Int64)), .second, .val (.int (7 : Int32))] [(.ref a1), (.int (7 : Int32))])) rfl rfl (hb hby d3_17)
  refine own_st st8 ?_
  show OG p e _ s below _ T8 (mkF m 20 #[.val (.ref a1), .val (.long (16000 : Int64)), .second, .val (.int (7 : Int32))] [(.int (8 : Int32)), (.int (7 : Int32))])
  refine own_st (fun t k => XS.icmpNo X8.here hx rfl (hb hby d3_20) rfl (by decide) k) ?_
  show OG p e _ s below _ T8 (mkF m 23 #[.val (.ref a1), .val (.long (16000 : Int64)), .second, .val (.int (7 : Int32))] [])
  refine own_st (fun t k => XS.lloadN X8.here hx rfl (hb hby d3_23) rfl k) ?_
  show OG p e _ s below _ T8 (mkF m 24 #[.val (.ref a1), .val (.long (16000 : Int64)), .second, .val (.int (7 : Int32))] [(.long (16000 : Int64))])
  refine own_st (fun t k => X8.ldc2Long hx hown (mvT hZ (hw _ (List.mem_of_getElem? (i := 27) rfl))) (g := (mkF m 24 #[.val (.ref a1), .val (.long (16000 : Int64)), .second, .val (.int (7 : Int32))] [(.long (16000 : Int64))])) rfl (hb hby d3_24) _ k) ?_
  show OG p e _ s below _ T8 (mkF m 27 #[.val (.ref a1), .val (.long (16000 : Int64)), .second, .val (.int (7 : Int32))] [(.long (10000 : Int64)), (.long (16000 : Int64))])
  refine own_st (fun t k => XS.lcmp X8.here hx rfl (hb hby d3_27) rfl k) ?_
  show OG p e _ s below _ T8 (mkF m 28 #[.val (.ref a1), .val (.long (16000 : Int64)), .second, .val (.int (7 : Int32))] [(.int (lcmpW (16000 : Int64) (10000 : Int64)))])
  refine own_st (fun t k => XS.ifYes X8.here hx rfl (pc0 := 28) (pc' := 43) rfl (hb hby d3_28) rfl (by decide) (by decide) (by decide) k) ?_
  show OG p e _ s below _ T8 (mkF m 43 #[.val (.ref a1), .val (.long (16000 : Int64)), .second, .val (.int (7 : Int32))] [])
  refine own_st (fun t k => XS.lloadN X8.here hx rfl (hb hby d3_43) rfl k) ?_
  show OG p e _ s below _ T8 (mkF m 44 #[.val (.ref a1), .val (.long (16000 : Int64)), .second, .val (.int (7 : Int32))] [(.long (16000 : Int64))])
  refine own_st (fun t k => X8.ldc2Long hx hown (mvT hZ (hw _ (List.mem_of_getElem? (i := 27) rfl))) (g := (mkF m 44 #[.val (.ref a1), .val (.long (16000 : Int64)), .second, .val (.int (7 : Int32))] [(.long (16000 : Int64))])) rfl (hb hby d3_44) _ k) ?_
  show OG p e _ s below _ T8 (mkF m 47 #[.val (.ref a1), .val (.long (16000 : Int64)), .second, .val (.int (7 : Int32))] [(.long (10000 : Int64)), (.long (16000 : Int64))])
  obtain ⟨_, _, ⟨T9, L9, k9, n9⟩, -, X9, ⟨Lc9, hQ9, l9, y9, z9⟩, st9⟩ := Jvm.LawKit.callS X8 hx (y := (⟨"java/lang/Math", "min", "(JJ)J"⟩ : MethodName)) hown (mvT hZ (hw _ (List.mem_of_getElem? (i := 29) rfl))) (mvT hZ (hw _ (List.mem_of_getElem? (i := 30) rfl))) (mvT hZ (hw _ (List.mem_of_getElem? (i := 31) rfl))) (mvT hZ (hw _ (List.mem_of_getElem? (i := 32) rfl))) (by decide) (backOf (W := 0) (rm := ({ frames := 0, cells := 0, slots := 0, locals := 0 } : Room)) (rm6 l Z a0 hw [] (16000 : Int64) (10000 : Int64) h0) hZ (hw _ (List.mem_of_getElem? (i := 32) rfl)) (hw _ (List.mem_of_getElem? (i := 31) rfl)) (by decide) (by decide)) (g := (mkF m 47 #[.val (.ref a1), .val (.long (16000 : Int64)), .second, .val (.int (7 : Int32))] [(.long (10000 : Int64)), (.long (16000 : Int64))])) rfl (by rw [hml]; rfl) (argsL := [(.long (16000 : Int64)), (.long (10000 : Int64))]) (rest := []) (lenOf pd__JJ_J rfl) rfl (by show 2 * 0 + _ ≤ _; exact Nat.le_of_eq rfl) (hb hby d3_47) (fun _ _ => ⟨rfl, e8, (by decide : 0 + 0 ≤ _), (by decide : 0 + 0 ≤ _)⟩)
  dsimp only [Pt.U, Pt.locs, Pt.cells, Pt.slots] at X9 l9 y9 z9 st9 hQ9
  subst l9 y9 z9
  obtain ⟨rfl, rfl, e9⟩ := hQ9
  refine own_st st9 ?_
  show OG p e _ s below _ T9 (mkF m 50 #[.val (.ref a1), .val (.long (16000 : Int64)), .second, .val (.int (7 : Int32))] [(.long (f6 (16000 : Int64) (10000 : Int64)))])
  exact own_retL X9 hx hret hlk (hb hby d3_50) (by decide) (by decide) ⟨congrArg (fun z => some (Value.long z)) (show f3_8  = (f6 (16000 : Int64) (10000 : Int64)) from (by rw [f3_8])).symm, rfl, e9⟩
theorem d4_0 : decode method_3_code 0 = .ok (.iload_n 0, 1) := by decide +kernel
theorem d4_1 : decode method_3_code 1 = .ok (.ifCond .ne 5, 3) := by decide +kernel
theorem d4_4 : decode method_3_code 4 = .ok (.lconst 0, 1) := by decide +kernel
theorem d4_5 : decode method_3_code 5 = .ok (.lreturn, 1) := by decide +kernel
theorem d4_6 : decode method_3_code 6 = .ok (.iload_n 0, 1) := by decide +kernel
theorem d4_7 : decode method_3_code 7 = .ok (.bipush 7, 2) := by decide +kernel
theorem d4_9 : decode method_3_code 9 = .ok (.if_icmp .lt 7, 3) := by decide +kernel
theorem d4_12 : decode method_3_code 12 = .ok (.ldc2_w 23, 3) := by decide +kernel
theorem d4_15 : decode method_3_code 15 = .ok (.lreturn, 1) := by decide +kernel
theorem d4_16 : decode method_3_code 16 = .ok (.ldc2_w 25, 3) := by decide +kernel
theorem d4_19 : decode method_3_code 19 = .ok (.iload_n 0, 1) := by decide +kernel
theorem d4_20 : decode method_3_code 20 = .ok (.iconst 1, 1) := by decide +kernel
theorem d4_21 : decode method_3_code 21 = .ok (.isub, 1) := by decide +kernel
theorem d4_22 : decode method_3_code 22 = .ok (.lshl, 1) := by decide +kernel
theorem d4_23 : decode method_3_code 23 = .ok (.lreturn, 1) := by decide +kernel
theorem pn_4 : plainFor (⟨"com/example/tidewire/tidewire/internal/BackoffDelayMsPinLaw", "expected", "(I)J"⟩ : MethodName) = true := by first | exact plainFor_of_name (by first | (simp [plainName, overriddenIn]; done) | decide +kernel) | decide +kernel
def f4 (p1 : Int32) : Int64 := (if p1 = (0 : Int32) then (0 : Int64) else (if p1 < (7 : Int32) then ((250 : Int64) <<< ((p1 - (1 : Int32)) &&& 0x3f).toInt64) else (10000 : Int64)))
theorem ef_4 (m : MethodId) (p1 : Int32) : entryFrame m #[(.int p1)] 1 = (mkF m 0 #[.val (.int p1)] []) := by first | (simp [entryFrame, mkF, argsToLocals, Value.category]; done) | rfl
abbrev Q4 (Z : State) (p1 : Int32) (h0 : Heap)  : Option Value → Heap → List Loc → Prop := (fun v h L => v = some (.long (f4 p1)) ∧ L = [] ∧ h = h0)
set_option maxRecDepth 65536 in
set_option maxHeartbeats 40000000 in
theorem rm4 (l : Launch) (Z : State) (a0 : Array Value) (hw : ∀ d ∈ tables_1, d.before a0 Z = true) (ws : List Jvm.Cond) (p1 : Int32) (h0 : Heap)  :
    OMet l Z (⟨"com/example/tidewire/tidewire/internal/BackoffDelayMsPinLaw", "expected", "(I)J"⟩ : MethodName) method_3_code 1 (some .long) ws ({ frames := 0, cells := 0, slots := 0, locals := 0 } : Room) #[(.int p1)] h0 (Q4 Z p1 h0) := by
  refine own_enter pn_4 ?_
  intro p e s m below meth c s₁ hx hby hml0 hown hret hlk hnm hZ X0 e0
  have hml : c.maxLocals = 1 := hml0
  refine own_cast (ef_4 m p1) ?_
  show OG p e ({ frames := 0, cells := 0, slots := 0, locals := 0 } : Room) s below (fun v h L => v = some (.long (f4 p1)) ∧ L = [] ∧ h = h0) s₁ (mkF m 0 #[.val (.int p1)] [])
  refine own_st (fun t k => XS.iloadN X0.here hx rfl (hb hby d4_0) rfl k) ?_
  show OG p e _ s below _ s₁ (mkF m 1 #[.val (.int p1)] [(.int p1)])
  by_cases c1 : p1 = (0 : Int32)
  · refine own_st (fun t k => XS.ifNo X0.here hx rfl (hb hby d4_1) rfl (own_if0 (teq c1).2) k) ?_
    show OG p e _ s below _ s₁ (mkF m 4 #[.val (.int p1)] [])
    refine own_st (fun t k => XS.lconst X0.here hx rfl (hb hby d4_4) k) ?_
    show OG p e _ s below _ s₁ (mkF m 5 #[.val (.int p1)] [(.long (0 : Int64))])
    exact own_retL X0 hx hret hlk (hb hby d4_5) (by decide) (by decide) ⟨congrArg (fun z => some (Value.long z)) (show f4 p1 = (0 : Int64) from (by rw [f4, if_pos c1])).symm, rfl, e0⟩
  · refine own_st (fun t k => XS.ifYes X0.here hx rfl (pc0 := 1) (pc' := 6) rfl (hb hby d4_1) rfl (own_if0 (feq c1).2) (by decide) (by decide) k) ?_
    show OG p e _ s below _ s₁ (mkF m 6 #[.val (.int p1)] [])
    refine own_st (fun t k => XS.iloadN X0.here hx rfl (hb hby d4_6) rfl k) ?_
    show OG p e _ s below _ s₁ (mkF m 7 #[.val (.int p1)] [(.int p1)])
    refine own_st (fun t k => XS.bipush X0.here hx rfl (hb hby d4_7) k) ?_
    show OG p e _ s below _ s₁ (mkF m 9 #[.val (.int p1)] [(.int (7 : Int32)), (.int p1)])
    by_cases c2 : p1 < (7 : Int32)
    · refine own_st (fun t k => XS.icmpYes X0.here hx rfl (pc0 := 9) (pc' := 16) rfl (hb hby d4_9) rfl (tlt c2).1 (by decide) (by decide) k) ?_
      show OG p e _ s below _ s₁ (mkF m 16 #[.val (.int p1)] [])
      refine own_st (fun t k => X0.ldc2Long hx hown (mvT hZ (hw _ (List.mem_of_getElem? (i := 33) rfl))) (g := (mkF m 16 #[.val (.int p1)] [])) rfl (hb hby d4_16) _ k) ?_
      show OG p e _ s below _ s₁ (mkF m 19 #[.val (.int p1)] [(.long (250 : Int64))])
      refine own_st (fun t k => XS.iloadN X0.here hx rfl (hb hby d4_19) rfl k) ?_
      show OG p e _ s below _ s₁ (mkF m 20 #[.val (.int p1)] [(.int p1), (.long (250 : Int64))])
      refine own_st (fun t k => XS.iconst X0.here hx rfl (hb hby d4_20) k) ?_
      show OG p e _ s below _ s₁ (mkF m 21 #[.val (.int p1)] [(.int (1 : Int32)), (.int p1), (.long (250 : Int64))])
      refine own_st (fun t k => XS.isub X0.here hx rfl (hb hby d4_21) rfl k) ?_
      show OG p e _ s below _ s₁ (mkF m 22 #[.val (.int p1)] [(.int (p1 - (1 : Int32))), (.long (250 : Int64))])
      refine own_st (fun t k => XS.lshl X0.here hx rfl (hb hby d4_22) rfl k) ?_
      show OG p e _ s below _ s₁ (mkF m 23 #[.val (.int p1)] [(.long ((250 : Int64) <<< ((p1 - (1 : Int32)) &&& 0x3f).toInt64))])
      exact own_retL X0 hx hret hlk (hb hby d4_23) (by decide) (by decide) ⟨congrArg (fun z => some (Value.long z)) (show f4 p1 = ((250 : Int64) <<< ((p1 - (1 : Int32)) &&& 0x3f).toInt64) from (by rw [f4, if_neg c1, if_pos c2])).symm, rfl, e0⟩
    · refine own_st (fun t k => XS.icmpNo X0.here hx rfl (hb hby d4_9) rfl (flt c2).1 k) ?_
      show OG p e _ s below _ s₁ (mkF m 12 #[.val (.int p1)] [])
      refine own_st (fun t k => X0.ldc2Long hx hown (mvT hZ (hw _ (List.mem_of_getElem? (i := 34) rfl))) (g := (mkF m 12 #[.val (.int p1)] [])) rfl (hb hby d4_12) _ k) ?_
      show OG p e _ s below _ s₁ (mkF m 15 #[.val (.int p1)] [(.long (10000 : Int64))])
      exact own_retL X0 hx hret hlk (hb hby d4_15) (by decide) (by decide) ⟨congrArg (fun z => some (Value.long z)) (show f4 p1 = (10000 : Int64) from (by rw [f4, if_neg c1, if_neg c2])).symm, rfl, e0⟩
theorem pd___J : parseMethodDescriptor "()J" = some ⟨[], some .long⟩ := by decide +kernel
theorem pd___V : parseMethodDescriptor "()V" = some ⟨[], none⟩ := by decide +kernel
theorem pd__I_J : parseMethodDescriptor "(I)J" = some ⟨[.int], some .long⟩ := by decide +kernel
theorem pn_0 : plainFor (⟨"com/example/tidewire/tidewire/internal/BackoffDelayMsPinLaw", "law", "(I)Z"⟩ : MethodName) = true := by first | exact plainFor_of_name (by first | (simp [plainName, overriddenIn]; done) | decide +kernel) | decide +kernel
def g0_1 (p1 : Int32) : Int32 := ((p1 &&& (15 : Int32)) % (9 : Int32))
def f0 (p1 : Int32) : Int32 := (if (g0_1 p1) = (0 : Int32) then (if f3_0 = (f4 (0 : Int32)) then (1 : Int32) else (0 : Int32)) else (if (g0_1 p1) = (1 : Int32) then (if f3_1 = (f4 (1 : Int32)) then (1 : Int32) else (0 : Int32)) else (if (g0_1 p1) = (2 : Int32) then (if f3_2 = (f4 (2 : Int32)) then (1 : Int32) else (0 : Int32)) else (if (g0_1 p1) = (3 : Int32) then (if f3_3 = (f4 (3 : Int32)) then (1 : Int32) else (0 : Int32)) else (if (g0_1 p1) = (4 : Int32) then (if f3_4 = (f4 (4 : Int32)) then (1 : Int32) else (0 : Int32)) else (if (g0_1 p1) = (5 : Int32) then (if f3_5 = (f4 (5 : Int32)) then (1 : Int32) else (0 : Int32)) else (if (g0_1 p1) = (6 : Int32) then (if f3_6 = (f4 (6 : Int32)) then (1 : Int32) else (0 : Int32)) else (if (g0_1 p1) = (7 : Int32) then (if f3_7 = (f4 (7 : Int32)) then (1 : Int32) else (0 : Int32)) else (if (g0_1 p1) = (8 : Int32) then (if f3_8 = (f4 (8 : Int32)) then (1 : Int32) else (0 : Int32)) else 0)))))))))
theorem own_range (p1 : Int32) (c0 : ¬ g0_1 p1 = (0 : Int32)) (c1 : ¬ g0_1 p1 = (1 : Int32)) (c2 : ¬ g0_1 p1 = (2 : Int32)) (c3 : ¬ g0_1 p1 = (3 : Int32)) (c4 : ¬ g0_1 p1 = (4 : Int32)) (c5 : ¬ g0_1 p1 = (5 : Int32)) (c6 : ¬ g0_1 p1 = (6 : Int32)) (c7 : ¬ g0_1 p1 = (7 : Int32)) (c8 : ¬ g0_1 p1 = (8 : Int32)) : False := by
  have h1 := c_mask p1 15 4 (by decide) (by decide)
  have h2 := (c_irem (p1 &&& 15) 9 9 (by decide)).1
  have hr := rng32 p1
  simp only [← Int32.toInt_inj, g0_1] at *
  have k0 : (0 : Int32).toInt = 0 := by decide
  have k1 : (1 : Int32).toInt = 1 := by decide
  have k2 : (2 : Int32).toInt = 2 := by decide
  have k3 : (3 : Int32).toInt = 3 := by decide
  have k4 : (4 : Int32).toInt = 4 := by decide
  have k5 : (5 : Int32).toInt = 5 := by decide
  have k6 : (6 : Int32).toInt = 6 := by decide
  have k7 : (7 : Int32).toInt = 7 := by decide
  have k8 : (8 : Int32).toInt = 8 := by decide
  rw [h1] at h2
  omega
theorem ef_0 (m : MethodId) (p1 : Int32) : entryFrame m #[(.int p1)] 5 = (mkF m 0 #[.val (.int p1), .unset, .unset, .unset, .unset] []) := by first | (simp [entryFrame, mkF, argsToLocals, Value.category]; done) | rfl
abbrev Q0 (Z : State) (p1 : Int32) (h0 : Heap) (n0 : Nat) : Option Value → Heap → List Loc → Prop := (fun v h L => v = some (.int (f0 p1)) ∧ Fr n0 L)
set_option maxRecDepth 65536 in
set_option maxHeartbeats 40000000 in
theorem rm0 (l : Launch) (Z : State) (a0 : Array Value) (hw : ∀ d ∈ tables_1, d.before a0 Z = true) (ws : List Jvm.Cond) (p1 : Int32) (h0 : Heap) (n0 : Nat) (Z0 : n0 ≤ h0.size) :
    OMet l Z x code maxLocals ret ws room_1 #[(.int p1)] h0 (Q0 Z p1 h0 n0) := by
  refine own_enter pn_0 ?_
  intro p e s m below meth c s₁ hx hby hml0 hown hret hlk hnm hZ X0 e0
  have hml : c.maxLocals = 5 := hml0
  have N0 := Fr.nil n0
  refine own_cast (ef_0 m p1) ?_
  show OG p e room_1 s below (fun v h L => v = some (.int (f0 p1)) ∧ Fr n0 L) s₁ (mkF m 0 #[.val (.int p1), .unset, .unset, .unset, .unset] [])
  refine own_st (fun t k => XS.iloadN X0.here hx rfl (hb hby at_0) rfl k) ?_
  show OG p e _ s below _ s₁ (mkF m 1 #[.val (.int p1), .unset, .unset, .unset, .unset] [(.int p1)])
  refine own_st (fun t k => XS.bipush X0.here hx rfl (hb hby at_1) k) ?_
  show OG p e _ s below _ s₁ (mkF m 3 #[.val (.int p1), .unset, .unset, .unset, .unset] [(.int (15 : Int32)), (.int p1)])
  refine own_st (fun t k => XS.iand X0.here hx rfl (hb hby at_3) rfl k) ?_
  show OG p e _ s below _ s₁ (mkF m 4 #[.val (.int p1), .unset, .unset, .unset, .unset] [(.int (p1 &&& (15 : Int32)))])
  refine own_st (fun t k => XS.bipush X0.here hx rfl (hb hby at_4) k) ?_
  show OG p e _ s below _ s₁ (mkF m 6 #[.val (.int p1), .unset, .unset, .unset, .unset] [(.int (9 : Int32)), (.int (p1 &&& (15 : Int32)))])
  refine own_st (fun t k => iremM X0 hx rfl (hb hby at_6) rfl (by decide) k) ?_
  show OG p e _ s below _ s₁ (mkF m 7 #[.val (.int p1), .unset, .unset, .unset, .unset] [(.int ((p1 &&& (15 : Int32)) % (9 : Int32)))])
  refine own_st (fun t k => XS.istoreN X0.here hx rfl (hb hby at_7) rfl (l' := #[.val (.int p1), .val (.int (g0_1 p1)), .unset, .unset, .unset]) rfl k) ?_
  show OG p e _ s below _ s₁ (mkF m 8 #[.val (.int p1), .val (.int (g0_1 p1)), .unset, .unset, .unset] [])
  by_cases c1 : (g0_1 p1) = (0 : Int32)
  · rw [c1]
    show OG p e _ s below _ s₁ (mkF m 8 #[.val (.int p1), .val (.int (0 : Int32)), .unset, .unset, .unset] [])
    obtain ⟨T2, h2, X2, e2, E2, A2, D2, -, st2⟩ := newO X0 hx hZ hown (hw _ (List.mem_of_getElem? (i := 0) rfl)) (hw _ (List.mem_of_getElem? (i := 1) rfl)) (hw _ (List.mem_of_getElem? (i := 2) rfl)) e0 (g := (mkF m 8 #[.val (.int p1), .val (.int (0 : Int32)), .unset, .unset, .unset] [])) rfl (hb hby at_8) (by decide) (by decide)
    obtain ⟨o2, gb2⟩ : ∃ z, z = h0.size := ⟨_, rfl⟩
    rw [← gb2] at A2 D2 st2
    refine own_st st2 ?_
    have ge_o2 : n0 ≤ o2 := by rw [gb2]; exact Nat.le_trans Z0 (Keep.refl h0 []).1
    have sz_o2 : h0.size ≤ o2 := by rw [gb2]; exact (Keep.refl h0 []).1
    have K3 : Keep h0 h2 [] := (Keep.refl h0 []).ext E2
    have F4 : Fld Z h2 o2 "com/example/tidewire/tidewire/internal/Backoff" "attempts" "I" (.int (0 : Int32)) := D2 (Or.inl (hw _ (List.mem_of_getElem? (i := 15) rfl))) (ty := .int) (by decide)
    show OG p e _ s below _ T2 (mkF m 11 #[.val (.int p1), .val (.int (0 : Int32)), .unset, .unset, .unset] [(.ref o2)])
    refine own_st (fun t k => XS.dup X2.here hx rfl (hb hby at_11) rfl rfl k) ?_
    show OG p e _ s below _ T2 (mkF m 12 #[.val (.int p1), .val (.int (0 : Int32)), .unset, .unset, .unset] [(.ref o2), (.ref o2)])
    obtain ⟨_, _, ⟨T5, L5, k5, n5⟩, -, X5, ⟨Lc5, hQ5, l5, y5, z5⟩, st5⟩ := X2.specialBack hx (y := (⟨"com/example/tidewire/tidewire/internal/Backoff", "<init>", "()V"⟩ : MethodName)) rfl hown (mvT hZ (hw _ (List.mem_of_getElem? (i := 3) rfl))) (mvT hZ (hw _ (List.mem_of_getElem? (i := 4) rfl))) (mvT hZ (hw _ (List.mem_of_getElem? (i := 5) rfl))) (by decide) (backOf (W := 1) (rm := ({ frames := 1, cells := 0, slots := 0, locals := 12 } : Room)) (rm1 l Z a0 hw [] o2 h2 n0) hZ (hw _ (List.mem_of_getElem? (i := 5) rfl)) (hw _ (List.mem_of_getElem? (i := 2) rfl)) (by decide) (by decide)) (g := (mkF m 12 #[.val (.int p1), .val (.int (0 : Int32)), .unset, .unset, .unset] [(.ref o2), (.ref o2)])) rfl (by rw [hml]; rfl) (Steps.refl _) (a := o2) (argsL := []) (rest := [(.ref o2)]) (lenOf pd___V rfl) rfl (by show 2 * 0 + _ ≤ _; exact Nat.le_of_eq rfl) (hb hby at_12) (fun _ _ => ⟨rfl, e2, (by decide : 1 + 0 ≤ _), (by decide : 1 + 0 ≤ _)⟩)
    dsimp only [Pt.U, Pt.locs, Pt.cells, Pt.slots] at X5 l5 y5 z5 st5 hQ5
    subst l5 y5 z5
    obtain ⟨rfl, N5q, K5q⟩ := hQ5
    refine own_st (fun t k => st5.trans k) ?_
    have N5 := Fr.app N0 N5q
    have K5 : Keep h0 T5.heap [] := K3.trans K5q (own_all0 )
    have F6 : Exa Z T5.heap o2 "com/example/tidewire/tidewire/internal/Backoff" := (A2.keep K5q)
    have F7 : Fld Z T5.heap o2 "com/example/tidewire/tidewire/internal/Backoff" "attempts" "I" (.int (0 : Int32)) := (F4.keep K5q (own_nin0 ))
    show OG p e _ s below _ T5 (mkF m 15 #[.val (.int p1), .val (.int (0 : Int32)), .unset, .unset, .unset] [(.ref o2)])
    refine own_st (fun t k => XS.astoreN X5.here hx rfl (hb hby at_15) rfl rfl (l' := #[.val (.int p1), .val (.int (0 : Int32)), .val (.ref o2), .unset, .unset]) rfl k) ?_
    show OG p e _ s below _ T5 (mkF m 16 #[.val (.int p1), .val (.int (0 : Int32)), .val (.ref o2), .unset, .unset] [])
    refine own_st (fun t k => XS.iloadN X5.here hx rfl (hb hby at_16) rfl k) ?_
    show OG p e _ s below _ T5 (mkF m 17 #[.val (.int p1), .val (.int (0 : Int32)), .val (.ref o2), .unset, .unset] [(.int (0 : Int32))])
    refine own_st (fun t k => XS.ifYes X5.here hx rfl (pc0 := 17) (pc' := 24) rfl (hb hby at_17) rfl (by decide) (by decide) (by decide) k) ?_
    show OG p e _ s below _ T5 (mkF m 24 #[.val (.int p1), .val (.int (0 : Int32)), .val (.ref o2), .unset, .unset] [])
    refine own_st (fun t k => XS.iloadN X5.here hx rfl (hb hby at_24) rfl k) ?_
    show OG p e _ s below _ T5 (mkF m 25 #[.val (.int p1), .val (.int (0 : Int32)), .val (.ref o2), .unset, .unset] [(.int (0 : Int32))])
    refine own_st (fun t k => XS.iconst X5.here hx rfl (hb hby at_25) k) ?_
    show OG p e _ s below _ T5 (mkF m 26 #[.val (.int p1), .val (.int (0 : Int32)), .val (.ref o2), .unset, .unset] [(.int (1 : Int32)), (.int (0 : Int32))])
    refine own_st (fun t k => XS.icmpYes X5.here hx rfl (pc0 := 26) (pc' := 33) rfl (hb hby at_26) rfl (by decide) (by decide) (by decide) k) ?_
    show OG p e _ s below _ T5 (mkF m 33 #[.val (.int p1), .val (.int (0 : Int32)), .val (.ref o2), .unset, .unset] [])
    refine own_st (fun t k => XS.iloadN X5.here hx rfl (hb hby at_33) rfl k) ?_
    show OG p e _ s below _ T5 (mkF m 34 #[.val (.int p1), .val (.int (0 : Int32)), .val (.ref o2), .unset, .unset] [(.int (0 : Int32))])
    refine own_st (fun t k => XS.iconst X5.here hx rfl (hb hby at_34) k) ?_
    show OG p e _ s below _ T5 (mkF m 35 #[.val (.int p1), .val (.int (0 : Int32)), .val (.ref o2), .unset, .unset] [(.int (2 : Int32)), (.int (0 : Int32))])
    refine own_st (fun t k => XS.icmpYes X5.here hx rfl (pc0 := 35) (pc' := 42) rfl (hb hby at_35) rfl (by decide) (by decide) (by decide) k) ?_
    show OG p e _ s below _ T5 (mkF m 42 #[.val (.int p1), .val (.int (0 : Int32)), .val (.ref o2), .unset, .unset] [])
    refine own_st (fun t k => XS.iloadN X5.here hx rfl (hb hby at_42) rfl k) ?_
    show OG p e _ s below _ T5 (mkF m 43 #[.val (.int p1), .val (.int (0 : Int32)), .val (.ref o2), .unset, .unset] [(.int (0 : Int32))])
    refine own_st (fun t k => XS.iconst X5.here hx rfl (hb hby at_43) k) ?_
    show OG p e _ s below _ T5 (mkF m 44 #[.val (.int p1), .val (.int (0 : Int32)), .val (.ref o2), .unset, .unset] [(.int (3 : Int32)), (.int (0 : Int32))])
    refine own_st (fun t k => XS.icmpYes X5.here hx rfl (pc0 := 44) (pc' := 51) rfl (hb hby at_44) rfl (by decide) (by decide) (by decide) k) ?_
    show OG p e _ s below _ T5 (mkF m 51 #[.val (.int p1), .val (.int (0 : Int32)), .val (.ref o2), .unset, .unset] [])
    refine own_st (fun t k => XS.iloadN X5.here hx rfl (hb hby at_51) rfl k) ?_
    show OG p e _ s below _ T5 (mkF m 52 #[.val (.int p1), .val (.int (0 : Int32)), .val (.ref o2), .unset, .unset] [(.int (0 : Int32))])
    refine own_st (fun t k => XS.iconst X5.here hx rfl (hb hby at_52) k) ?_
    show OG p e _ s below _ T5 (mkF m 53 #[.val (.int p1), .val (.int (0 : Int32)), .val (.ref o2), .unset, .unset] [(.int (4 : Int32)), (.int (0 : Int32))])
    refine own_st (fun t k => XS.icmpYes X5.here hx rfl (pc0 := 53) (pc' := 60) rfl (hb hby at_53) rfl (by decide) (by decide) (by decide) k) ?_
    show OG p e _ s below _ T5 (mkF m 60 #[.val (.int p1), .val (.int (0 : Int32)), .val (.ref o2), .unset, .unset] [])
    refine own_st (fun t k => XS.iloadN X5.here hx rfl (hb hby at_60) rfl k) ?_
    show OG p e _ s below _ T5 (mkF m 61 #[.val (.int p1), .val (.int (0 : Int32)), .val (.ref o2), .unset, .unset] [(.int (0 : Int32))])
    refine own_st (fun t k => XS.iconst X5.here hx rfl (hb hby at_61) k) ?_
    show OG p e _ s below _ T5 (mkF m 62 #[.val (.int p1), .val (.int (0 : Int32)), .val (.ref o2), .unset, .unset] [(.int (5 : Int32)), (.int (0 : Int32))])
    refine own_st (fun t k => XS.icmpYes X5.here hx rfl (pc0 := 62) (pc' := 69) rfl (hb hby at_62) rfl (by decide) (by decide) (by decide) k) ?_
    show OG p e _ s below _ T5 (mkF m 69 #[.val (.int p1), .val (.int (0 : Int32)), .val (.ref o2), .unset, .unset] [])
    refine own_st (fun t k => XS.iloadN X5.here hx rfl (hb hby at_69) rfl k) ?_
    show OG p e _ s below _ T5 (mkF m 70 #[.val (.int p1), .val (.int (0 : Int32)), .val (.ref o2), .unset, .unset] [(.int (0 : Int32))])
    refine own_st (fun t k => XS.bipush X5.here hx rfl (hb hby at_70) k) ?_
    show OG p e _ s below _ T5 (mkF m 72 #[.val (.int p1), .val (.int (0 : Int32)), .val (.ref o2), .unset, .unset] [(.int (6 : Int32)), (.int (0 : Int32))])
    refine own_st (fun t k => XS.icmpYes X5.here hx rfl (pc0 := 72) (pc' := 79) rfl (hb hby at_72) rfl (by decide) (by decide) (by decide) k) ?_
    show OG p e _ s below _ T5 (mkF m 79 #[.val (.int p1), .val (.int (0 : Int32)), .val (.ref o2), .unset, .unset] [])
    refine own_st (fun t k => XS.iloadN X5.here hx rfl (hb hby at_79) rfl k) ?_
    show OG p e _ s below _ T5 (mkF m 80 #[.val (.int p1), .val (.int (0 : Int32)), .val (.ref o2), .unset, .unset] [(.int (0 : Int32))])
    refine own_st (fun t k => XS.bipush X5.here hx rfl (hb hby at_80) k) ?_
    show OG p e _ s below _ T5 (mkF m 82 #[.val (.int p1), .val (.int (0 : Int32)), .val (.ref o2), .unset, .unset] [(.int (7 : Int32)), (.int (0 : Int32))])
    refine own_st (fun t k => XS.icmpYes X5.here hx rfl (pc0 := 82) (pc' := 89) rfl (hb hby at_82) rfl (by decide) (by decide) (by decide) k) ?_
    show OG p e _ s below _ T5 (mkF m 89 #[.val (.int p1), .val (.int (0 : Int32)), .val (.ref o2), .unset, .unset] [])
    refine own_st (fun t k => XS.aloadN X5.here hx rfl (hb hby at_89) rfl rfl k) ?_
    show OG p e _ s below _ T5 (mkF m 90 #[.val (.int p1), .val (.int (0 : Int32)), .val (.ref o2), .unset, .unset] [(.ref o2)])
    obtain ⟨cq8, kq8, q8a, q8b, q8c⟩ := isOf hZ rfl F6
    obtain ⟨_, _, ⟨T8, L8, k8, n8⟩, -, X8, ⟨Lc8, hQ8, l8, y8, z8⟩, st8⟩ := X5.virtualBack hx (y := (⟨"com/example/tidewire/tidewire/internal/Backoff", "delayMs", "()J"⟩ : MethodName)) (z := (⟨"com/example/tidewire/tidewire/internal/Backoff", "delayMs", "()J"⟩ : MethodName)) hown (mvT hZ (hw _ (List.mem_of_getElem? (i := 9) rfl))) (mvT hZ (hw _ (List.mem_of_getElem? (i := 10) rfl))) (notFace_of_selects (args := #[]) (mvT hZ (hw _ (List.mem_of_getElem? (i := 12) rfl)))) (mvT hZ (hw _ (List.mem_of_getElem? (i := 12) rfl))) (mvT hZ (hw _ (List.mem_of_getElem? (i := 11) rfl))) (by decide) (backOf (W := 0) (rm := ({ frames := 0, cells := 0, slots := 0, locals := 0 } : Room)) (rm3_0 l Z a0 hw [] o2 T5.heap F7) hZ (hw _ (List.mem_of_getElem? (i := 13) rfl)) (hw _ (List.mem_of_getElem? (i := 2) rfl)) (by decide) (by decide)) q8a q8c (g := (mkF m 90 #[.val (.int p1), .val (.int (0 : Int32)), .val (.ref o2), .unset, .unset] [(.ref o2)])) rfl (by rw [hml]; rfl) (Steps.refl _) (argsL := []) (rest := []) (lenOf pd___J rfl) rfl (by show 2 * 0 + _ ≤ _; exact Nat.le_of_eq rfl) (hb hby at_90) (fun _ _ => ⟨rfl, rfl, (by decide : 1 + 0 ≤ _), (by decide : 1 + 0 ≤ _)⟩)
    dsimp only [Pt.U, Pt.locs, Pt.cells, Pt.slots] at X8 l8 y8 z8 st8 hQ8
    subst l8 y8 z8
    obtain ⟨rfl, rfl, e8⟩ := hQ8
    refine own_st (fun t k => st8.trans k) ?_
    have N8 := Fr.app N5 (Fr.nil n0)
    show OG p e _ s below _ T8 (mkF m 93 #[.val (.int p1), .val (.int (0 : Int32)), .val (.ref o2), .unset, .unset] [(.long f3_0)])
    refine own_st (fun t k => XS.lstoreN X8.here hx rfl (hb hby at_93) rfl (l' := #[.val (.int p1), .val (.int (0 : Int32)), .val (.ref o2), .val (.long f3_0), .second]) rfl k) ?_
    show OG p e _ s below _ T8 (mkF m 94 #[.val (.int p1), .val (.int (0 : Int32)), .val (.ref o2), .val (.long f3_0), .second] [])
    refine own_st (fun t k => XS.lloadN X8.here hx rfl (hb hby at_94) rfl k) ?_
    show OG p e _ s below _ T8 (mkF m 95 #[.val (.int p1), .val (.int (0 : Int32)), .val (.ref o2), .val (.long f3_0), .second] [(.long f3_0)])
    refine own_st (fun t k => XS.iloadN X8.here hx rfl (hb hby at_95) rfl k) ?_
    show OG p e _ s below _ T8 (mkF m 96 #[.val (.int p1), .val (.int (0 : Int32)), .val (.ref o2), .val (.long f3_0), .second] [(.int (0 : Int32)), (.long f3_0)])
    obtain ⟨_, _, ⟨T9, L9, k9, n9⟩, -, X9, ⟨Lc9, hQ9, l9, y9, z9⟩, st9⟩ := Jvm.LawKit.callS X8 hx (y := (⟨"com/example/tidewire/tidewire/internal/BackoffDelayMsPinLaw", "expected", "(I)J"⟩ : MethodName)) hown (mvT hZ (hw _ (List.mem_of_getElem? (i := 16) rfl))) (mvT hZ (hw _ (List.mem_of_getElem? (i := 17) rfl))) (mvT hZ (hw _ (List.mem_of_getElem? (i := 18) rfl))) (mvT hZ (hw _ (List.mem_of_getElem? (i := 19) rfl))) (by decide) (backOf (W := 2) (rm := ({ frames := 0, cells := 0, slots := 0, locals := 0 } : Room)) (rm4 l Z a0 hw [] (0 : Int32) T5.heap) hZ (hw _ (List.mem_of_getElem? (i := 19) rfl)) (hw _ (List.mem_of_getElem? (i := 18) rfl)) (by decide) (by decide)) (g := (mkF m 96 #[.val (.int p1), .val (.int (0 : Int32)), .val (.ref o2), .val (.long f3_0), .second] [(.int (0 : Int32)), (.long f3_0)])) rfl (by rw [hml]; rfl) (argsL := [(.int (0 : Int32))]) (rest := [(.long f3_0)]) (lenOf pd__I_J rfl) rfl (by show 2 * 0 + _ ≤ _; exact Nat.le_of_eq rfl) (hb hby at_96) (fun _ _ => ⟨rfl, e8, (by decide : 1 + 0 ≤ _), (by decide : 1 + 0 ≤ _)⟩)
    dsimp only [Pt.U, Pt.locs, Pt.cells, Pt.slots] at X9 l9 y9 z9 st9 hQ9
    subst l9 y9 z9
    obtain ⟨rfl, rfl, e9⟩ := hQ9
    refine own_st st9 ?_
    have N9 := Fr.app N8 (Fr.nil n0)
    show OG p e _ s below _ T9 (mkF m 99 #[.val (.int p1), .val (.int (0 : Int32)), .val (.ref o2), .val (.long f3_0), .second] [(.long (f4 (0 : Int32))), (.long f3_0)])
    refine own_st (fun t k => XS.lcmp X9.here hx rfl (hb hby at_99) rfl k) ?_
    show OG p e _ s below _ T9 (mkF m 100 #[.val (.int p1), .val (.int (0 : Int32)), .val (.ref o2), .val (.long f3_0), .second] [(.int (lcmpW f3_0 (f4 (0 : Int32))))])
    by_cases c10 : f3_0 = (f4 (0 : Int32))
    · refine own_st (fun t k => XS.ifNo X9.here hx rfl (hb hby at_100) rfl (own_if0 (teq ((lw_eq _ _).mpr c10)).2) k) ?_
      show OG p e _ s below _ T9 (mkF m 103 #[.val (.int p1), .val (.int (0 : Int32)), .val (.ref o2), .val (.long f3_0), .second] [])
      refine own_st (fun t k => XS.iconst X9.here hx rfl (hb hby at_103) k) ?_
      show OG p e _ s below _ T9 (mkF m 104 #[.val (.int p1), .val (.int (0 : Int32)), .val (.ref o2), .val (.long f3_0), .second] [(.int (1 : Int32))])
      refine own_st (fun t k => XS.goto X9.here hx rfl (pc0 := 104) (pc' := 108) rfl (hb hby at_104) (by decide) (by decide) k) ?_
      show OG p e _ s below _ T9 (mkF m 108 #[.val (.int p1), .val (.int (0 : Int32)), .val (.ref o2), .val (.long f3_0), .second] [(.int (1 : Int32))])
      refine own_retZ X9 hx (t := .boolean) hret (by simp) hlk (hb hby at_108) (by decide) (by decide) (w := (1 : Int32)) rfl ?_
      exact ⟨congrArg (fun z => some (Value.int z)) (show f0 p1 = (1 : Int32) from (by rw [f0, if_pos c1, if_pos c10])).symm, N9⟩
    · refine own_st (fun t k => XS.ifYes X9.here hx rfl (pc0 := 100) (pc' := 107) rfl (hb hby at_100) rfl (own_if0 (feq (fun q => c10 ((lw_eq _ _).mp q))).2) (by decide) (by decide) k) ?_
      show OG p e _ s below _ T9 (mkF m 107 #[.val (.int p1), .val (.int (0 : Int32)), .val (.ref o2), .val (.long f3_0), .second] [])
      refine own_st (fun t k => XS.iconst X9.here hx rfl (hb hby at_107) k) ?_
      show OG p e _ s below _ T9 (mkF m 108 #[.val (.int p1), .val (.int (0 : Int32)), .val (.ref o2), .val (.long f3_0), .second] [(.int (0 : Int32))])
      refine own_retZ X9 hx (t := .boolean) hret (by simp) hlk (hb hby at_108) (by decide) (by decide) (w := (0 : Int32)) rfl ?_
      exact ⟨congrArg (fun z => some (Value.int z)) (show f0 p1 = (0 : Int32) from (by rw [f0, if_pos c1, if_neg c10])).symm, N9⟩
  · skip
    by_cases c11 : (g0_1 p1) = (1 : Int32)
    · rw [c11]
      show OG p e _ s below _ s₁ (mkF m 8 #[.val (.int p1), .val (.int (1 : Int32)), .unset, .unset, .unset] [])
      obtain ⟨T12, h12, X12, e12, E12, A12, D12, -, st12⟩ := newO X0 hx hZ hown (hw _ (List.mem_of_getElem? (i := 0) rfl)) (hw _ (List.mem_of_getElem? (i := 1) rfl)) (hw _ (List.mem_of_getElem? (i := 2) rfl)) e0 (g := (mkF m 8 #[.val (.int p1), .val (.int (1 : Int32)), .unset, .unset, .unset] [])) rfl (hb hby at_8) (by decide) (by decide)
      obtain ⟨o12, gb12⟩ : ∃ z, z = h0.size := ⟨_, rfl⟩
      rw [← gb12] at A12 D12 st12
      refine own_st st12 ?_
      have ge_o12 : n0 ≤ o12 := by rw [gb12]; exact Nat.le_trans Z0 (Keep.refl h0 []).1
      have sz_o12 : h0.size ≤ o12 := by rw [gb12]; exact (Keep.refl h0 []).1
      have K13 : Keep h0 h12 [] := (Keep.refl h0 []).ext E12
      have F14 : Fld Z h12 o12 "com/example/tidewire/tidewire/internal/Backoff" "attempts" "I" (.int (0 : Int32)) := D12 (Or.inl (hw _ (List.mem_of_getElem? (i := 15) rfl))) (ty := .int) (by decide)
      show OG p e _ s below _ T12 (mkF m 11 #[.val (.int p1), .val (.int (1 : Int32)), .unset, .unset, .unset] [(.ref o12)])
      refine own_st (fun t k => XS.dup X12.here hx rfl (hb hby at_11) rfl rfl k) ?_
      show OG p e _ s below _ T12 (mkF m 12 #[.val (.int p1), .val (.int (1 : Int32)), .unset, .unset, .unset] [(.ref o12), (.ref o12)])
      obtain ⟨_, _, ⟨T15, L15, k15, n15⟩, -, X15, ⟨Lc15, hQ15, l15, y15, z15⟩, st15⟩ := X12.specialBack hx (y := (⟨"com/example/tidewire/tidewire/internal/Backoff", "<init>", "()V"⟩ : MethodName)) rfl hown (mvT hZ (hw _ (List.mem_of_getElem? (i := 3) rfl))) (mvT hZ (hw _ (List.mem_of_getElem? (i := 4) rfl))) (mvT hZ (hw _ (List.mem_of_getElem? (i := 5) rfl))) (by decide) (backOf (W := 1) (rm := ({ frames := 1, cells := 0, slots := 0, locals := 12 } : Room)) (rm1 l Z a0 hw [] o12 h12 n0) hZ (hw _ (List.mem_of_getElem? (i := 5) rfl)) (hw _ (List.mem_of_getElem? (i := 2) rfl)) (by decide) (by decide)) (g := (mkF m 12 #[.val (.int p1), .val (.int (1 : Int32)), .unset, .unset, .unset] [(.ref o12), (.ref o12)])) rfl (by rw [hml]; rfl) (Steps.refl _) (a := o12) (argsL := []) (rest := [(.ref o12)]) (lenOf pd___V rfl) rfl (by show 2 * 0 + _ ≤ _; exact Nat.le_of_eq rfl) (hb hby at_12) (fun _ _ => ⟨rfl, e12, (by decide : 1 + 0 ≤ _), (by decide : 1 + 0 ≤ _)⟩)
      dsimp only [Pt.U, Pt.locs, Pt.cells, Pt.slots] at X15 l15 y15 z15 st15 hQ15
      subst l15 y15 z15
      obtain ⟨rfl, N15q, K15q⟩ := hQ15
      refine own_st (fun t k => st15.trans k) ?_
      have N15 := Fr.app N0 N15q
      have K15 : Keep h0 T15.heap [] := K13.trans K15q (own_all0 )
      have F16 : Exa Z T15.heap o12 "com/example/tidewire/tidewire/internal/Backoff" := (A12.keep K15q)
      have F17 : Fld Z T15.heap o12 "com/example/tidewire/tidewire/internal/Backoff" "attempts" "I" (.int (0 : Int32)) := (F14.keep K15q (own_nin0 ))
      show OG p e _ s below _ T15 (mkF m 15 #[.val (.int p1), .val (.int (1 : Int32)), .unset, .unset, .unset] [(.ref o12)])
      refine own_st (fun t k => XS.astoreN X15.here hx rfl (hb hby at_15) rfl rfl (l' := #[.val (.int p1), .val (.int (1 : Int32)), .val (.ref o12), .unset, .unset]) rfl k) ?_
      show OG p e _ s below _ T15 (mkF m 16 #[.val (.int p1), .val (.int (1 : Int32)), .val (.ref o12), .unset, .unset] [])
      refine own_st (fun t k => XS.iloadN X15.here hx rfl (hb hby at_16) rfl k) ?_
      show OG p e _ s below _ T15 (mkF m 17 #[.val (.int p1), .val (.int (1 : Int32)), .val (.ref o12), .unset, .unset] [(.int (1 : Int32))])
      refine own_st (fun t k => XS.ifNo X15.here hx rfl (hb hby at_17) rfl (by decide) k) ?_
      show OG p e _ s below _ T15 (mkF m 20 #[.val (.int p1), .val (.int (1 : Int32)), .val (.ref o12), .unset, .unset] [])
      refine own_st (fun t k => XS.aloadN X15.here hx rfl (hb hby at_20) rfl rfl k) ?_
      show OG p e _ s below _ T15 (mkF m 21 #[.val (.int p1), .val (.int (1 : Int32)), .val (.ref o12), .unset, .unset] [(.ref o12)])
      obtain ⟨cq18, kq18, q18a, q18b, q18c⟩ := isOf hZ rfl F16
      obtain ⟨_, _, ⟨T18, L18, k18, n18⟩, -, X18, ⟨Lc18, hQ18, l18, y18, z18⟩, st18⟩ := X15.virtualBack hx (y := (⟨"com/example/tidewire/tidewire/internal/Backoff", "attempted", "()V"⟩ : MethodName)) (z := (⟨"com/example/tidewire/tidewire/internal/Backoff", "attempted", "()V"⟩ : MethodName)) hown (mvT hZ (hw _ (List.mem_of_getElem? (i := 20) rfl))) (mvT hZ (hw _ (List.mem_of_getElem? (i := 21) rfl))) (notFace_of_selects (args := #[]) (mvT hZ (hw _ (List.mem_of_getElem? (i := 23) rfl)))) (mvT hZ (hw _ (List.mem_of_getElem? (i := 23) rfl))) (mvT hZ (hw _ (List.mem_of_getElem? (i := 22) rfl))) (by decide) (backOf (W := 0) (rm := ({ frames := 0, cells := 0, slots := 0, locals := 0 } : Room)) (rm5 l Z a0 hw [] o12 (0 : Int32) T15.heap n0 F16 F17 ge_o12 (by decide)) hZ (hw _ (List.mem_of_getElem? (i := 24) rfl)) (hw _ (List.mem_of_getElem? (i := 2) rfl)) (by decide) (by decide)) q18a q18c (g := (mkF m 21 #[.val (.int p1), .val (.int (1 : Int32)), .val (.ref o12), .unset, .unset] [(.ref o12)])) rfl (by rw [hml]; rfl) (Steps.refl _) (argsL := []) (rest := []) (lenOf pd___V rfl) rfl (by show 2 * 0 + _ ≤ _; exact Nat.le_of_eq rfl) (hb hby at_21) (fun _ _ => ⟨rfl, rfl, (by decide : 1 + 0 ≤ _), (by decide : 1 + 0 ≤ _)⟩)
      dsimp only [Pt.U, Pt.locs, Pt.cells, Pt.slots] at X18 l18 y18 z18 st18 hQ18
      subst l18 y18 z18
      obtain ⟨rfl, N18q, K18q, P18_0, P18_1⟩ := hQ18
      refine own_st (fun t k => st18.trans k) ?_
      have N18 := Fr.app N15 N18q
      have K18 : Keep h0 T18.heap [] := K15.trans K18q (own_all1 (Or.inr sz_o12))
      have F19 : Fld Z T18.heap o12 "com/example/tidewire/tidewire/internal/Backoff" "attempts" "I" (.int (1 : Int32)) := P18_1
      show OG p e _ s below _ T18 (mkF m 24 #[.val (.int p1), .val (.int (1 : Int32)), .val (.ref o12), .unset, .unset] [])
      refine own_st (fun t k => XS.iloadN X18.here hx rfl (hb hby at_24) rfl k) ?_
      show OG p e _ s below _ T18 (mkF m 25 #[.val (.int p1), .val (.int (1 : Int32)), .val (.ref o12), .unset, .unset] [(.int (1 : Int32))])
      refine own_st (fun t k => XS.iconst X18.here hx rfl (hb hby at_25) k) ?_
      show OG p e _ s below _ T18 (mkF m 26 #[.val (.int p1), .val (.int (1 : Int32)), .val (.ref o12), .unset, .unset] [(.int (1 : Int32)), (.int (1 : Int32))])
      refine own_st (fun t k => XS.icmpYes X18.here hx rfl (pc0 := 26) (pc' := 33) rfl (hb hby at_26) rfl (by decide) (by decide) (by decide) k) ?_
      show OG p e _ s below _ T18 (mkF m 33 #[.val (.int p1), .val (.int (1 : Int32)), .val (.ref o12), .unset, .unset] [])
      refine own_st (fun t k => XS.iloadN X18.here hx rfl (hb hby at_33) rfl k) ?_
      show OG p e _ s below _ T18 (mkF m 34 #[.val (.int p1), .val (.int (1 : Int32)), .val (.ref o12), .unset, .unset] [(.int (1 : Int32))])
      refine own_st (fun t k => XS.iconst X18.here hx rfl (hb hby at_34) k) ?_
      show OG p e _ s below _ T18 (mkF m 35 #[.val (.int p1), .val (.int (1 : Int32)), .val (.ref o12), .unset, .unset] [(.int (2 : Int32)), (.int (1 : Int32))])
      refine own_st (fun t k => XS.icmpYes X18.here hx rfl (pc0 := 35) (pc' := 42) rfl (hb hby at_35) rfl (by decide) (by decide) (by decide) k) ?_
      show OG p e _ s below _ T18 (mkF m 42 #[.val (.int p1), .val (.int (1 : Int32)), .val (.ref o12), .unset, .unset] [])
      refine own_st (fun t k => XS.iloadN X18.here hx rfl (hb hby at_42) rfl k) ?_
      show OG p e _ s below _ T18 (mkF m 43 #[.val (.int p1), .val (.int (1 : Int32)), .val (.ref o12), .unset, .unset] [(.int (1 : Int32))])
      refine own_st (fun t k => XS.iconst X18.here hx rfl (hb hby at_43) k) ?_
      show OG p e _ s below _ T18 (mkF m 44 #[.val (.int p1), .val (.int (1 : Int32)), .val (.ref o12), .unset, .unset] [(.int (3 : Int32)), (.int (1 : Int32))])
      refine own_st (fun t k => XS.icmpYes X18.here hx rfl (pc0 := 44) (pc' := 51) rfl (hb hby at_44) rfl (by decide) (by decide) (by decide) k) ?_
      show OG p e _ s below _ T18 (mkF m 51 #[.val (.int p1), .val (.int (1 : Int32)), .val (.ref o12), .unset, .unset] [])
      refine own_st (fun t k => XS.iloadN X18.here hx rfl (hb hby at_51) rfl k) ?_
      show OG p e _ s below _ T18 (mkF m 52 #[.val (.int p1), .val (.int (1 : Int32)), .val (.ref o12), .unset, .unset] [(.int (1 : Int32))])
      refine own_st (fun t k => XS.iconst X18.here hx rfl (hb hby at_52) k) ?_
      show OG p e _ s below _ T18 (mkF m 53 #[.val (.int p1), .val (.int (1 : Int32)), .val (.ref o12), .unset, .unset] [(.int (4 : Int32)), (.int (1 : Int32))])
      refine own_st (fun t k => XS.icmpYes X18.here hx rfl (pc0 := 53) (pc' := 60) rfl (hb hby at_53) rfl (by decide) (by decide) (by decide) k) ?_
      show OG p e _ s below _ T18 (mkF m 60 #[.val (.int p1), .val (.int (1 : Int32)), .val (.ref o12), .unset, .unset] [])
      refine own_st (fun t k => XS.iloadN X18.here hx rfl (hb hby at_60) rfl k) ?_
      show OG p e _ s below _ T18 (mkF m 61 #[.val (.int p1), .val (.int (1 : Int32)), .val (.ref o12), .unset, .unset] [(.int (1 : Int32))])
      refine own_st (fun t k => XS.iconst X18.here hx rfl (hb hby at_61) k) ?_
      show OG p e _ s below _ T18 (mkF m 62 #[.val (.int p1), .val (.int (1 : Int32)), .val (.ref o12), .unset, .unset] [(.int (5 : Int32)), (.int (1 : Int32))])
      refine own_st (fun t k => XS.icmpYes X18.here hx rfl (pc0 := 62) (pc' := 69) rfl (hb hby at_62) rfl (by decide) (by decide) (by decide) k) ?_
      show OG p e _ s below _ T18 (mkF m 69 #[.val (.int p1), .val (.int (1 : Int32)), .val (.ref o12), .unset, .unset] [])
      refine own_st (fun t k => XS.iloadN X18.here hx rfl (hb hby at_69) rfl k) ?_
      show OG p e _ s below _ T18 (mkF m 70 #[.val (.int p1), .val (.int (1 : Int32)), .val (.ref o12), .unset, .unset] [(.int (1 : Int32))])
      refine own_st (fun t k => XS.bipush X18.here hx rfl (hb hby at_70) k) ?_
      show OG p e _ s below _ T18 (mkF m 72 #[.val (.int p1), .val (.int (1 : Int32)), .val (.ref o12), .unset, .unset] [(.int (6 : Int32)), (.int (1 : Int32))])
      refine own_st (fun t k => XS.icmpYes X18.here hx rfl (pc0 := 72) (pc' := 79) rfl (hb hby at_72) rfl (by decide) (by decide) (by decide) k) ?_
      show OG p e _ s below _ T18 (mkF m 79 #[.val (.int p1), .val (.int (1 : Int32)), .val (.ref o12), .unset, .unset] [])
      refine own_st (fun t k => XS.iloadN X18.here hx rfl (hb hby at_79) rfl k) ?_
      show OG p e _ s below _ T18 (mkF m 80 #[.val (.int p1), .val (.int (1 : Int32)), .val (.ref o12), .unset, .unset] [(.int (1 : Int32))])
      refine own_st (fun t k => XS.bipush X18.here hx rfl (hb hby at_80) k) ?_
      show OG p e _ s below _ T18 (mkF m 82 #[.val (.int p1), .val (.int (1 : Int32)), .val (.ref o12), .unset, .unset] [(.int (7 : Int32)), (.int (1 : Int32))])
      refine own_st (fun t k => XS.icmpYes X18.here hx rfl (pc0 := 82) (pc' := 89) rfl (hb hby at_82) rfl (by decide) (by decide) (by decide) k) ?_
      show OG p e _ s below _ T18 (mkF m 89 #[.val (.int p1), .val (.int (1 : Int32)), .val (.ref o12), .unset, .unset] [])
      refine own_st (fun t k => XS.aloadN X18.here hx rfl (hb hby at_89) rfl rfl k) ?_
      show OG p e _ s below _ T18 (mkF m 90 #[.val (.int p1), .val (.int (1 : Int32)), .val (.ref o12), .unset, .unset] [(.ref o12)])
      obtain ⟨cq20, kq20, q20a, q20b, q20c⟩ := isOf hZ rfl P18_0
      obtain ⟨_, _, ⟨T20, L20, k20, n20⟩, -, X20, ⟨Lc20, hQ20, l20, y20, z20⟩, st20⟩ := X18.virtualBack hx (y := (⟨"com/example/tidewire/tidewire/internal/Backoff", "delayMs", "()J"⟩ : MethodName)) (z := (⟨"com/example/tidewire/tidewire/internal/Backoff", "delayMs", "()J"⟩ : MethodName)) hown (mvT hZ (hw _ (List.mem_of_getElem? (i := 9) rfl))) (mvT hZ (hw _ (List.mem_of_getElem? (i := 10) rfl))) (notFace_of_selects (args := #[]) (mvT hZ (hw _ (List.mem_of_getElem? (i := 12) rfl)))) (mvT hZ (hw _ (List.mem_of_getElem? (i := 12) rfl))) (mvT hZ (hw _ (List.mem_of_getElem? (i := 11) rfl))) (by decide) (backOf (W := 0) (rm := ({ frames := 1, cells := 0, slots := 0, locals := 15 } : Room)) (rm3_1 l Z a0 hw [] o12 T18.heap F19) hZ (hw _ (List.mem_of_getElem? (i := 13) rfl)) (hw _ (List.mem_of_getElem? (i := 2) rfl)) (by decide) (by decide)) q20a q20c (g := (mkF m 90 #[.val (.int p1), .val (.int (1 : Int32)), .val (.ref o12), .unset, .unset] [(.ref o12)])) rfl (by rw [hml]; rfl) (Steps.refl _) (argsL := []) (rest := []) (lenOf pd___J rfl) rfl (by show 2 * 0 + _ ≤ _; exact Nat.le_of_eq rfl) (hb hby at_90) (fun _ _ => ⟨rfl, rfl, (by decide : 1 + 0 ≤ _), (by decide : 1 + 0 ≤ _)⟩)
      dsimp only [Pt.U, Pt.locs, Pt.cells, Pt.slots] at X20 l20 y20 z20 st20 hQ20
      subst l20 y20 z20
      obtain ⟨rfl, rfl, e20⟩ := hQ20
      refine own_st (fun t k => st20.trans k) ?_
      have N20 := Fr.app N18 (Fr.nil n0)
      show OG p e _ s below _ T20 (mkF m 93 #[.val (.int p1), .val (.int (1 : Int32)), .val (.ref o12), .unset, .unset] [(.long f3_1)])
      refine own_st (fun t k => XS.lstoreN X20.here hx rfl (hb hby at_93) rfl (l' := #[.val (.int p1), .val (.int (1 : Int32)), .val (.ref o12), .val (.long f3_1), .second]) rfl k) ?_
      show OG p e _ s below _ T20 (mkF m 94 #[.val (.int p1), .val (.int (1 : Int32)), .val (.ref o12), .val (.long f3_1), .second] [])
      refine own_st (fun t k => XS.lloadN X20.here hx rfl (hb hby at_94) rfl k) ?_
      show OG p e _ s below _ T20 (mkF m 95 #[.val (.int p1), .val (.int (1 : Int32)), .val (.ref o12), .val (.long f3_1), .second] [(.long f3_1)])
      refine own_st (fun t k => XS.iloadN X20.here hx rfl (hb hby at_95) rfl k) ?_
      show OG p e _ s below _ T20 (mkF m 96 #[.val (.int p1), .val (.int (1 : Int32)), .val (.ref o12), .val (.long f3_1), .second] [(.int (1 : Int32)), (.long f3_1)])
      obtain ⟨_, _, ⟨T21, L21, k21, n21⟩, -, X21, ⟨Lc21, hQ21, l21, y21, z21⟩, st21⟩ := Jvm.LawKit.callS X20 hx (y := (⟨"com/example/tidewire/tidewire/internal/BackoffDelayMsPinLaw", "expected", "(I)J"⟩ : MethodName)) hown (mvT hZ (hw _ (List.mem_of_getElem? (i := 16) rfl))) (mvT hZ (hw _ (List.mem_of_getElem? (i := 17) rfl))) (mvT hZ (hw _ (List.mem_of_getElem? (i := 18) rfl))) (mvT hZ (hw _ (List.mem_of_getElem? (i := 19) rfl))) (by decide) (backOf (W := 2) (rm := ({ frames := 0, cells := 0, slots := 0, locals := 0 } : Room)) (rm4 l Z a0 hw [] (1 : Int32) T18.heap) hZ (hw _ (List.mem_of_getElem? (i := 19) rfl)) (hw _ (List.mem_of_getElem? (i := 18) rfl)) (by decide) (by decide)) (g := (mkF m 96 #[.val (.int p1), .val (.int (1 : Int32)), .val (.ref o12), .val (.long f3_1), .second] [(.int (1 : Int32)), (.long f3_1)])) rfl (by rw [hml]; rfl) (argsL := [(.int (1 : Int32))]) (rest := [(.long f3_1)]) (lenOf pd__I_J rfl) rfl (by show 2 * 0 + _ ≤ _; exact Nat.le_of_eq rfl) (hb hby at_96) (fun _ _ => ⟨rfl, e20, (by decide : 1 + 0 ≤ _), (by decide : 1 + 0 ≤ _)⟩)
      dsimp only [Pt.U, Pt.locs, Pt.cells, Pt.slots] at X21 l21 y21 z21 st21 hQ21
      subst l21 y21 z21
      obtain ⟨rfl, rfl, e21⟩ := hQ21
      refine own_st st21 ?_
      have N21 := Fr.app N20 (Fr.nil n0)
      show OG p e _ s below _ T21 (mkF m 99 #[.val (.int p1), .val (.int (1 : Int32)), .val (.ref o12), .val (.long f3_1), .second] [(.long (f4 (1 : Int32))), (.long f3_1)])
      refine own_st (fun t k => XS.lcmp X21.here hx rfl (hb hby at_99) rfl k) ?_
      show OG p e _ s below _ T21 (mkF m 100 #[.val (.int p1), .val (.int (1 : Int32)), .val (.ref o12), .val (.long f3_1), .second] [(.int (lcmpW f3_1 (f4 (1 : Int32))))])
      by_cases c22 : f3_1 = (f4 (1 : Int32))
      · refine own_st (fun t k => XS.ifNo X21.here hx rfl (hb hby at_100) rfl (own_if0 (teq ((lw_eq _ _).mpr c22)).2) k) ?_
        show OG p e _ s below _ T21 (mkF m 103 #[.val (.int p1), .val (.int (1 : Int32)), .val (.ref o12), .val (.long f3_1), .second] [])
        refine own_st (fun t k => XS.iconst X21.here hx rfl (hb hby at_103) k) ?_
        show OG p e _ s below _ T21 (mkF m 104 #[.val (.int p1), .val (.int (1 : Int32)), .val (.ref o12), .val (.long f3_1), .second] [(.int (1 : Int32))])
        refine own_st (fun t k => XS.goto X21.here hx rfl (pc0 := 104) (pc' := 108) rfl (hb hby at_104) (by decide) (by decide) k) ?_
        show OG p e _ s below _ T21 (mkF m 108 #[.val (.int p1), .val (.int (1 : Int32)), .val (.ref o12), .val (.long f3_1), .second] [(.int (1 : Int32))])
        refine own_retZ X21 hx (t := .boolean) hret (by simp) hlk (hb hby at_108) (by decide) (by decide) (w := (1 : Int32)) rfl ?_
        exact ⟨congrArg (fun z => some (Value.int z)) (show f0 p1 = (1 : Int32) from (by rw [f0, if_neg c1, if_pos c11, if_pos c22])).symm, N21⟩
      · refine own_st (fun t k => XS.ifYes X21.here hx rfl (pc0 := 100) (pc' := 107) rfl (hb hby at_100) rfl (own_if0 (feq (fun q => c22 ((lw_eq _ _).mp q))).2) (by decide) (by decide) k) ?_
        show OG p e _ s below _ T21 (mkF m 107 #[.val (.int p1), .val (.int (1 : Int32)), .val (.ref o12), .val (.long f3_1), .second] [])
        refine own_st (fun t k => XS.iconst X21.here hx rfl (hb hby at_107) k) ?_
        show OG p e _ s below _ T21 (mkF m 108 #[.val (.int p1), .val (.int (1 : Int32)), .val (.ref o12), .val (.long f3_1), .second] [(.int (0 : Int32))])
        refine own_retZ X21 hx (t := .boolean) hret (by simp) hlk (hb hby at_108) (by decide) (by decide) (w := (0 : Int32)) rfl ?_
        exact ⟨congrArg (fun z => some (Value.int z)) (show f0 p1 = (0 : Int32) from (by rw [f0, if_neg c1, if_pos c11, if_neg c22])).symm, N21⟩
    · skip
      by_cases c23 : (g0_1 p1) = (2 : Int32)
      · rw [c23]
        show OG p e _ s below _ s₁ (mkF m 8 #[.val (.int p1), .val (.int (2 : Int32)), .unset, .unset, .unset] [])
        obtain ⟨T24, h24, X24, e24, E24, A24, D24, -, st24⟩ := newO X0 hx hZ hown (hw _ (List.mem_of_getElem? (i := 0) rfl)) (hw _ (List.mem_of_getElem? (i := 1) rfl)) (hw _ (List.mem_of_getElem? (i := 2) rfl)) e0 (g := (mkF m 8 #[.val (.int p1), .val (.int (2 : Int32)), .unset, .unset, .unset] [])) rfl (hb hby at_8) (by decide) (by decide)
        obtain ⟨o24, gb24⟩ : ∃ z, z = h0.size := ⟨_, rfl⟩
        rw [← gb24] at A24 D24 st24
        refine own_st st24 ?_
        have ge_o24 : n0 ≤ o24 := by rw [gb24]; exact Nat.le_trans Z0 (Keep.refl h0 []).1
        have sz_o24 : h0.size ≤ o24 := by rw [gb24]; exact (Keep.refl h0 []).1
        have K25 : Keep h0 h24 [] := (Keep.refl h0 []).ext E24
        have F26 : Fld Z h24 o24 "com/example/tidewire/tidewire/internal/Backoff" "attempts" "I" (.int (0 : Int32)) := D24 (Or.inl (hw _ (List.mem_of_getElem? (i := 15) rfl))) (ty := .int) (by decide)
        show OG p e _ s below _ T24 (mkF m 11 #[.val (.int p1), .val (.int (2 : Int32)), .unset, .unset, .unset] [(.ref o24)])
        refine own_st (fun t k => XS.dup X24.here hx rfl (hb hby at_11) rfl rfl k) ?_
        show OG p e _ s below _ T24 (mkF m 12 #[.val (.int p1), .val (.int (2 : Int32)), .unset, .unset, .unset] [(.ref o24), (.ref o24)])
        obtain ⟨_, _, ⟨T27, L27, k27, n27⟩, -, X27, ⟨Lc27, hQ27, l27, y27, z27⟩, st27⟩ := X24.specialBack hx (y := (⟨"com/example/tidewire/tidewire/internal/Backoff", "<init>", "()V"⟩ : MethodName)) rfl hown (mvT hZ (hw _ (List.mem_of_getElem? (i := 3) rfl))) (mvT hZ (hw _ (List.mem_of_getElem? (i := 4) rfl))) (mvT hZ (hw _ (List.mem_of_getElem? (i := 5) rfl))) (by decide) (backOf (W := 1) (rm := ({ frames := 1, cells := 0, slots := 0, locals := 12 } : Room)) (rm1 l Z a0 hw [] o24 h24 n0) hZ (hw _ (List.mem_of_getElem? (i := 5) rfl)) (hw _ (List.mem_of_getElem? (i := 2) rfl)) (by decide) (by decide)) (g := (mkF m 12 #[.val (.int p1), .val (.int (2 : Int32)), .unset, .unset, .unset] [(.ref o24), (.ref o24)])) rfl (by rw [hml]; rfl) (Steps.refl _) (a := o24) (argsL := []) (rest := [(.ref o24)]) (lenOf pd___V rfl) rfl (by show 2 * 0 + _ ≤ _; exact Nat.le_of_eq rfl) (hb hby at_12) (fun _ _ => ⟨rfl, e24, (by decide : 1 + 0 ≤ _), (by decide : 1 + 0 ≤ _)⟩)
        dsimp only [Pt.U, Pt.locs, Pt.cells, Pt.slots] at X27 l27 y27 z27 st27 hQ27
        subst l27 y27 z27
        obtain ⟨rfl, N27q, K27q⟩ := hQ27
        refine own_st (fun t k => st27.trans k) ?_
        have N27 := Fr.app N0 N27q
        have K27 : Keep h0 T27.heap [] := K25.trans K27q (own_all0 )
        have F28 : Exa Z T27.heap o24 "com/example/tidewire/tidewire/internal/Backoff" := (A24.keep K27q)
        have F29 : Fld Z T27.heap o24 "com/example/tidewire/tidewire/internal/Backoff" "attempts" "I" (.int (0 : Int32)) := (F26.keep K27q (own_nin0 ))
        show OG p e _ s below _ T27 (mkF m 15 #[.val (.int p1), .val (.int (2 : Int32)), .unset, .unset, .unset] [(.ref o24)])
        refine own_st (fun t k => XS.astoreN X27.here hx rfl (hb hby at_15) rfl rfl (l' := #[.val (.int p1), .val (.int (2 : Int32)), .val (.ref o24), .unset, .unset]) rfl k) ?_
        show OG p e _ s below _ T27 (mkF m 16 #[.val (.int p1), .val (.int (2 : Int32)), .val (.ref o24), .unset, .unset] [])
        refine own_st (fun t k => XS.iloadN X27.here hx rfl (hb hby at_16) rfl k) ?_
        show OG p e _ s below _ T27 (mkF m 17 #[.val (.int p1), .val (.int (2 : Int32)), .val (.ref o24), .unset, .unset] [(.int (2 : Int32))])
        refine own_st (fun t k => XS.ifNo X27.here hx rfl (hb hby at_17) rfl (by decide) k) ?_
        show OG p e _ s below _ T27 (mkF m 20 #[.val (.int p1), .val (.int (2 : Int32)), .val (.ref o24), .unset, .unset] [])
        refine own_st (fun t k => XS.aloadN X27.here hx rfl (hb hby at_20) rfl rfl k) ?_
        show OG p e _ s below _ T27 (mkF m 21 #[.val (.int p1), .val (.int (2 : Int32)), .val (.ref o24), .unset, .unset] [(.ref o24)])
        obtain ⟨cq30, kq30, q30a, q30b, q30c⟩ := isOf hZ rfl F28
        obtain ⟨_, _, ⟨T30, L30, k30, n30⟩, -, X30, ⟨Lc30, hQ30, l30, y30, z30⟩, st30⟩ := X27.virtualBack hx (y := (⟨"com/example/tidewire/tidewire/internal/Backoff", "attempted", "()V"⟩ : MethodName)) (z := (⟨"com/example/tidewire/tidewire/internal/Backoff", "attempted", "()V"⟩ : MethodName)) hown (mvT hZ (hw _ (List.mem_of_getElem? (i := 20) rfl))) (mvT hZ (hw _ (List.mem_of_getElem? (i := 21) rfl))) (notFace_of_selects (args := #[]) (mvT hZ (hw _ (List.mem_of_getElem? (i := 23) rfl)))) (mvT hZ (hw _ (List.mem_of_getElem? (i := 23) rfl))) (mvT hZ (hw _ (List.mem_of_getElem? (i := 22) rfl))) (by decide) (backOf (W := 0) (rm := ({ frames := 0, cells := 0, slots := 0, locals := 0 } : Room)) (rm5 l Z a0 hw [] o24 (0 : Int32) T27.heap n0 F28 F29 ge_o24 (by decide)) hZ (hw _ (List.mem_of_getElem? (i := 24) rfl)) (hw _ (List.mem_of_getElem? (i := 2) rfl)) (by decide) (by decide)) q30a q30c (g := (mkF m 21 #[.val (.int p1), .val (.int (2 : Int32)), .val (.ref o24), .unset, .unset] [(.ref o24)])) rfl (by rw [hml]; rfl) (Steps.refl _) (argsL := []) (rest := []) (lenOf pd___V rfl) rfl (by show 2 * 0 + _ ≤ _; exact Nat.le_of_eq rfl) (hb hby at_21) (fun _ _ => ⟨rfl, rfl, (by decide : 1 + 0 ≤ _), (by decide : 1 + 0 ≤ _)⟩)
        dsimp only [Pt.U, Pt.locs, Pt.cells, Pt.slots] at X30 l30 y30 z30 st30 hQ30
        subst l30 y30 z30
        obtain ⟨rfl, N30q, K30q, P30_0, P30_1⟩ := hQ30
        refine own_st (fun t k => st30.trans k) ?_
        have N30 := Fr.app N27 N30q
        have K30 : Keep h0 T30.heap [] := K27.trans K30q (own_all1 (Or.inr sz_o24))
        have F31 : Fld Z T30.heap o24 "com/example/tidewire/tidewire/internal/Backoff" "attempts" "I" (.int (1 : Int32)) := P30_1
        show OG p e _ s below _ T30 (mkF m 24 #[.val (.int p1), .val (.int (2 : Int32)), .val (.ref o24), .unset, .unset] [])
        refine own_st (fun t k => XS.iloadN X30.here hx rfl (hb hby at_24) rfl k) ?_
        show OG p e _ s below _ T30 (mkF m 25 #[.val (.int p1), .val (.int (2 : Int32)), .val (.ref o24), .unset, .unset] [(.int (2 : Int32))])
        refine own_st (fun t k => XS.iconst X30.here hx rfl (hb hby at_25) k) ?_
        show OG p e _ s below _ T30 (mkF m 26 #[.val (.int p1), .val (.int (2 : Int32)), .val (.ref o24), .unset, .unset] [(.int (1 : Int32)), (.int (2 : Int32))])
        refine own_st (fun t k => XS.icmpNo X30.here hx rfl (hb hby at_26) rfl (by decide) k) ?_
        show OG p e _ s below _ T30 (mkF m 29 #[.val (.int p1), .val (.int (2 : Int32)), .val (.ref o24), .unset, .unset] [])
        refine own_st (fun t k => XS.aloadN X30.here hx rfl (hb hby at_29) rfl rfl k) ?_
        show OG p e _ s below _ T30 (mkF m 30 #[.val (.int p1), .val (.int (2 : Int32)), .val (.ref o24), .unset, .unset] [(.ref o24)])
        obtain ⟨cq32, kq32, q32a, q32b, q32c⟩ := isOf hZ rfl P30_0
        obtain ⟨_, _, ⟨T32, L32, k32, n32⟩, -, X32, ⟨Lc32, hQ32, l32, y32, z32⟩, st32⟩ := X30.virtualBack hx (y := (⟨"com/example/tidewire/tidewire/internal/Backoff", "attempted", "()V"⟩ : MethodName)) (z := (⟨"com/example/tidewire/tidewire/internal/Backoff", "attempted", "()V"⟩ : MethodName)) hown (mvT hZ (hw _ (List.mem_of_getElem? (i := 20) rfl))) (mvT hZ (hw _ (List.mem_of_getElem? (i := 21) rfl))) (notFace_of_selects (args := #[]) (mvT hZ (hw _ (List.mem_of_getElem? (i := 23) rfl)))) (mvT hZ (hw _ (List.mem_of_getElem? (i := 23) rfl))) (mvT hZ (hw _ (List.mem_of_getElem? (i := 22) rfl))) (by decide) (backOf (W := 0) (rm := ({ frames := 0, cells := 0, slots := 0, locals := 0 } : Room)) (rm5 l Z a0 hw [] o24 (1 : Int32) T30.heap n0 P30_0 F31 ge_o24 (by decide)) hZ (hw _ (List.mem_of_getElem? (i := 24) rfl)) (hw _ (List.mem_of_getElem? (i := 2) rfl)) (by decide) (by decide)) q32a q32c (g := (mkF m 30 #[.val (.int p1), .val (.int (2 : Int32)), .val (.ref o24), .unset, .unset] [(.ref o24)])) rfl (by rw [hml]; rfl) (Steps.refl _) (argsL := []) (rest := []) (lenOf pd___V rfl) rfl (by show 2 * 0 + _ ≤ _; exact Nat.le_of_eq rfl) (hb hby at_30) (fun _ _ => ⟨rfl, rfl, (by decide : 1 + 0 ≤ _), (by decide : 1 + 0 ≤ _)⟩)
        dsimp only [Pt.U, Pt.locs, Pt.cells, Pt.slots] at X32 l32 y32 z32 st32 hQ32
        subst l32 y32 z32
        obtain ⟨rfl, N32q, K32q, P32_0, P32_1⟩ := hQ32
        refine own_st (fun t k => st32.trans k) ?_
        have N32 := Fr.app N30 N32q
        have K32 : Keep h0 T32.heap [] := K30.trans K32q (own_all1 (Or.inr sz_o24))
        have F33 : Fld Z T32.heap o24 "com/example/tidewire/tidewire/internal/Backoff" "attempts" "I" (.int (2 : Int32)) := P32_1
        show OG p e _ s below _ T32 (mkF m 33 #[.val (.int p1), .val (.int (2 : Int32)), .val (.ref o24), .unset, .unset] [])
        refine own_st (fun t k => XS.iloadN X32.here hx rfl (hb hby at_33) rfl k) ?_
        show OG p e _ s below _ T32 (mkF m 34 #[.val (.int p1), .val (.int (2 : Int32)), .val (.ref o24), .unset, .unset] [(.int (2 : Int32))])
        refine own_st (fun t k => XS.iconst X32.here hx rfl (hb hby at_34) k) ?_
        show OG p e _ s below _ T32 (mkF m 35 #[.val (.int p1), .val (.int (2 : Int32)), .val (.ref o24), .unset, .unset] [(.int (2 : Int32)), (.int (2 : Int32))])
        refine own_st (fun t k => XS.icmpYes X32.here hx rfl (pc0 := 35) (pc' := 42) rfl (hb hby at_35) rfl (by decide) (by decide) (by decide) k) ?_
        show OG p e _ s below _ T32 (mkF m 42 #[.val (.int p1), .val (.int (2 : Int32)), .val (.ref o24), .unset, .unset] [])
        refine own_st (fun t k => XS.iloadN X32.here hx rfl (hb hby at_42) rfl k) ?_
        show OG p e _ s below _ T32 (mkF m 43 #[.val (.int p1), .val (.int (2 : Int32)), .val (.ref o24), .unset, .unset] [(.int (2 : Int32))])
        refine own_st (fun t k => XS.iconst X32.here hx rfl (hb hby at_43) k) ?_
        show OG p e _ s below _ T32 (mkF m 44 #[.val (.int p1), .val (.int (2 : Int32)), .val (.ref o24), .unset, .unset] [(.int (3 : Int32)), (.int (2 : Int32))])
        refine own_st (fun t k => XS.icmpYes X32.here hx rfl (pc0 := 44) (pc' := 51) rfl (hb hby at_44) rfl (by decide) (by decide) (by decide) k) ?_
        show OG p e _ s below _ T32 (mkF m 51 #[.val (.int p1), .val (.int (2 : Int32)), .val (.ref o24), .unset, .unset] [])
        refine own_st (fun t k => XS.iloadN X32.here hx rfl (hb hby at_51) rfl k) ?_
        show OG p e _ s below _ T32 (mkF m 52 #[.val (.int p1), .val (.int (2 : Int32)), .val (.ref o24), .unset, .unset] [(.int (2 : Int32))])
        refine own_st (fun t k => XS.iconst X32.here hx rfl (hb hby at_52) k) ?_
        show OG p e _ s below _ T32 (mkF m 53 #[.val (.int p1), .val (.int (2 : Int32)), .val (.ref o24), .unset, .unset] [(.int (4 : Int32)), (.int (2 : Int32))])
        refine own_st (fun t k => XS.icmpYes X32.here hx rfl (pc0 := 53) (pc' := 60) rfl (hb hby at_53) rfl (by decide) (by decide) (by decide) k) ?_
        show OG p e _ s below _ T32 (mkF m 60 #[.val (.int p1), .val (.int (2 : Int32)), .val (.ref o24), .unset, .unset] [])
        refine own_st (fun t k => XS.iloadN X32.here hx rfl (hb hby at_60) rfl k) ?_
        show OG p e _ s below _ T32 (mkF m 61 #[.val (.int p1), .val (.int (2 : Int32)), .val (.ref o24), .unset, .unset] [(.int (2 : Int32))])
        refine own_st (fun t k => XS.iconst X32.here hx rfl (hb hby at_61) k) ?_
        show OG p e _ s below _ T32 (mkF m 62 #[.val (.int p1), .val (.int (2 : Int32)), .val (.ref o24), .unset, .unset] [(.int (5 : Int32)), (.int (2 : Int32))])
        refine own_st (fun t k => XS.icmpYes X32.here hx rfl (pc0 := 62) (pc' := 69) rfl (hb hby at_62) rfl (by decide) (by decide) (by decide) k) ?_
        show OG p e _ s below _ T32 (mkF m 69 #[.val (.int p1), .val (.int (2 : Int32)), .val (.ref o24), .unset, .unset] [])
        refine own_st (fun t k => XS.iloadN X32.here hx rfl (hb hby at_69) rfl k) ?_
        show OG p e _ s below _ T32 (mkF m 70 #[.val (.int p1), .val (.int (2 : Int32)), .val (.ref o24), .unset, .unset] [(.int (2 : Int32))])
        refine own_st (fun t k => XS.bipush X32.here hx rfl (hb hby at_70) k) ?_
        show OG p e _ s below _ T32 (mkF m 72 #[.val (.int p1), .val (.int (2 : Int32)), .val (.ref o24), .unset, .unset] [(.int (6 : Int32)), (.int (2 : Int32))])
        refine own_st (fun t k => XS.icmpYes X32.here hx rfl (pc0 := 72) (pc' := 79) rfl (hb hby at_72) rfl (by decide) (by decide) (by decide) k) ?_
        show OG p e _ s below _ T32 (mkF m 79 #[.val (.int p1), .val (.int (2 : Int32)), .val (.ref o24), .unset, .unset] [])
        refine own_st (fun t k => XS.iloadN X32.here hx rfl (hb hby at_79) rfl k) ?_
        show OG p e _ s below _ T32 (mkF m 80 #[.val (.int p1), .val (.int (2 : Int32)), .val (.ref o24), .unset, .unset] [(.int (2 : Int32))])
        refine own_st (fun t k => XS.bipush X32.here hx rfl (hb hby at_80) k) ?_
        show OG p e _ s below _ T32 (mkF m 82 #[.val (.int p1), .val (.int (2 : Int32)), .val (.ref o24), .unset, .unset] [(.int (7 : Int32)), (.int (2 : Int32))])
        refine own_st (fun t k => XS.icmpYes X32.here hx rfl (pc0 := 82) (pc' := 89) rfl (hb hby at_82) rfl (by decide) (by decide) (by decide) k) ?_
        show OG p e _ s below _ T32 (mkF m 89 #[.val (.int p1), .val (.int (2 : Int32)), .val (.ref o24), .unset, .unset] [])
        refine own_st (fun t k => XS.aloadN X32.here hx rfl (hb hby at_89) rfl rfl k) ?_
        show OG p e _ s below _ T32 (mkF m 90 #[.val (.int p1), .val (.int (2 : Int32)), .val (.ref o24), .unset, .unset] [(.ref o24)])
        obtain ⟨cq34, kq34, q34a, q34b, q34c⟩ := isOf hZ rfl P32_0
        obtain ⟨_, _, ⟨T34, L34, k34, n34⟩, -, X34, ⟨Lc34, hQ34, l34, y34, z34⟩, st34⟩ := X32.virtualBack hx (y := (⟨"com/example/tidewire/tidewire/internal/Backoff", "delayMs", "()J"⟩ : MethodName)) (z := (⟨"com/example/tidewire/tidewire/internal/Backoff", "delayMs", "()J"⟩ : MethodName)) hown (mvT hZ (hw _ (List.mem_of_getElem? (i := 9) rfl))) (mvT hZ (hw _ (List.mem_of_getElem? (i := 10) rfl))) (notFace_of_selects (args := #[]) (mvT hZ (hw _ (List.mem_of_getElem? (i := 12) rfl)))) (mvT hZ (hw _ (List.mem_of_getElem? (i := 12) rfl))) (mvT hZ (hw _ (List.mem_of_getElem? (i := 11) rfl))) (by decide) (backOf (W := 0) (rm := ({ frames := 1, cells := 0, slots := 0, locals := 15 } : Room)) (rm3_2 l Z a0 hw [] o24 T32.heap F33) hZ (hw _ (List.mem_of_getElem? (i := 13) rfl)) (hw _ (List.mem_of_getElem? (i := 2) rfl)) (by decide) (by decide)) q34a q34c (g := (mkF m 90 #[.val (.int p1), .val (.int (2 : Int32)), .val (.ref o24), .unset, .unset] [(.ref o24)])) rfl (by rw [hml]; rfl) (Steps.refl _) (argsL := []) (rest := []) (lenOf pd___J rfl) rfl (by show 2 * 0 + _ ≤ _; exact Nat.le_of_eq rfl) (hb hby at_90) (fun _ _ => ⟨rfl, rfl, (by decide : 1 + 0 ≤ _), (by decide : 1 + 0 ≤ _)⟩)
        dsimp only [Pt.U, Pt.locs, Pt.cells, Pt.slots] at X34 l34 y34 z34 st34 hQ34
        subst l34 y34 z34
        obtain ⟨rfl, rfl, e34⟩ := hQ34
        refine own_st (fun t k => st34.trans k) ?_
        have N34 := Fr.app N32 (Fr.nil n0)
        show OG p e _ s below _ T34 (mkF m 93 #[.val (.int p1), .val (.int (2 : Int32)), .val (.ref o24), .unset, .unset] [(.long f3_2)])
        refine own_st (fun t k => XS.lstoreN X34.here hx rfl (hb hby at_93) rfl (l' := #[.val (.int p1), .val (.int (2 : Int32)), .val (.ref o24), .val (.long f3_2), .second]) rfl k) ?_
        show OG p e _ s below _ T34 (mkF m 94 #[.val (.int p1), .val (.int (2 : Int32)), .val (.ref o24), .val (.long f3_2), .second] [])
        refine own_st (fun t k => XS.lloadN X34.here hx rfl (hb hby at_94) rfl k) ?_
        show OG p e _ s below _ T34 (mkF m 95 #[.val (.int p1), .val (.int (2 : Int32)), .val (.ref o24), .val (.long f3_2), .second] [(.long f3_2)])
        refine own_st (fun t k => XS.iloadN X34.here hx rfl (hb hby at_95) rfl k) ?_
        show OG p e _ s below _ T34 (mkF m 96 #[.val (.int p1), .val (.int (2 : Int32)), .val (.ref o24), .val (.long f3_2), .second] [(.int (2 : Int32)), (.long f3_2)])
        obtain ⟨_, _, ⟨T35, L35, k35, n35⟩, -, X35, ⟨Lc35, hQ35, l35, y35, z35⟩, st35⟩ := Jvm.LawKit.callS X34 hx (y := (⟨"com/example/tidewire/tidewire/internal/BackoffDelayMsPinLaw", "expected", "(I)J"⟩ : MethodName)) hown (mvT hZ (hw _ (List.mem_of_getElem? (i := 16) rfl))) (mvT hZ (hw _ (List.mem_of_getElem? (i := 17) rfl))) (mvT hZ (hw _ (List.mem_of_getElem? (i := 18) rfl))) (mvT hZ (hw _ (List.mem_of_getElem? (i := 19) rfl))) (by decide) (backOf (W := 2) (rm := ({ frames := 0, cells := 0, slots := 0, locals := 0 } : Room)) (rm4 l Z a0 hw [] (2 : Int32) T32.heap) hZ (hw _ (List.mem_of_getElem? (i := 19) rfl)) (hw _ (List.mem_of_getElem? (i := 18) rfl)) (by decide) (by decide)) (g := (mkF m 96 #[.val (.int p1), .val (.int (2 : Int32)), .val (.ref o24), .val (.long f3_2), .second] [(.int (2 : Int32)), (.long f3_2)])) rfl (by rw [hml]; rfl) (argsL := [(.int (2 : Int32))]) (rest := [(.long f3_2)]) (lenOf pd__I_J rfl) rfl (by show 2 * 0 + _ ≤ _; exact Nat.le_of_eq rfl) (hb hby at_96) (fun _ _ => ⟨rfl, e34, (by decide : 1 + 0 ≤ _), (by decide : 1 + 0 ≤ _)⟩)
        dsimp only [Pt.U, Pt.locs, Pt.cells, Pt.slots] at X35 l35 y35 z35 st35 hQ35
        subst l35 y35 z35
        obtain ⟨rfl, rfl, e35⟩ := hQ35
        refine own_st st35 ?_
        have N35 := Fr.app N34 (Fr.nil n0)
        show OG p e _ s below _ T35 (mkF m 99 #[.val (.int p1), .val (.int (2 : Int32)), .val (.ref o24), .val (.long f3_2), .second] [(.long (f4 (2 : Int32))), (.long f3_2)])
        refine own_st (fun t k => XS.lcmp X35.here hx rfl (hb hby at_99) rfl k) ?_
        show OG p e _ s below _ T35 (mkF m 100 #[.val (.int p1), .val (.int (2 : Int32)), .val (.ref o24), .val (.long f3_2), .second] [(.int (lcmpW f3_2 (f4 (2 : Int32))))])
        by_cases c36 : f3_2 = (f4 (2 : Int32))
        · refine own_st (fun t k => XS.ifNo X35.here hx rfl (hb hby at_100) rfl (own_if0 (teq ((lw_eq _ _).mpr c36)).2) k) ?_
          show OG p e _ s below _ T35 (mkF m 103 #[.val (.int p1), .val (.int (2 : Int32)), .val (.ref o24), .val (.long f3_2), .second] [])
          refine own_st (fun t k => XS.iconst X35.here hx rfl (hb hby at_103) k) ?_
          show OG p e _ s below _ T35 (mkF m 104 #[.val (.int p1), .val (.int (2 : Int32)), .val (.ref o24), .val (.long f3_2), .second] [(.int (1 : Int32))])
          refine own_st (fun t k => XS.goto X35.here hx rfl (pc0 := 104) (pc' := 108) rfl (hb hby at_104) (by decide) (by decide) k) ?_
          show OG p e _ s below _ T35 (mkF m 108 #[.val (.int p1), .val (.int (2 : Int32)), .val (.ref o24), .val (.long f3_2), .second] [(.int (1 : Int32))])
          refine own_retZ X35 hx (t := .boolean) hret (by simp) hlk (hb hby at_108) (by decide) (by decide) (w := (1 : Int32)) rfl ?_
          exact ⟨congrArg (fun z => some (Value.int z)) (show f0 p1 = (1 : Int32) from (by rw [f0, if_neg c1, if_neg c11, if_pos c23, if_pos c36])).symm, N35⟩
        · refine own_st (fun t k => XS.ifYes X35.here hx rfl (pc0 := 100) (pc' := 107) rfl (hb hby at_100) rfl (own_if0 (feq (fun q => c36 ((lw_eq _ _).mp q))).2) (by decide) (by decide) k) ?_
          show OG p e _ s below _ T35 (mkF m 107 #[.val (.int p1), .val (.int (2 : Int32)), .val (.ref o24), .val (.long f3_2), .second] [])
          refine own_st (fun t k => XS.iconst X35.here hx rfl (hb hby at_107) k) ?_
          show OG p e _ s below _ T35 (mkF m 108 #[.val (.int p1), .val (.int (2 : Int32)), .val (.ref o24), .val (.long f3_2), .second] [(.int (0 : Int32))])
          refine own_retZ X35 hx (t := .boolean) hret (by simp) hlk (hb hby at_108) (by decide) (by decide) (w := (0 : Int32)) rfl ?_
          exact ⟨congrArg (fun z => some (Value.int z)) (show f0 p1 = (0 : Int32) from (by rw [f0, if_neg c1, if_neg c11, if_pos c23, if_neg c36])).symm, N35⟩
      · skip
        by_cases c37 : (g0_1 p1) = (3 : Int32)
        · rw [c37]
          show OG p e _ s below _ s₁ (mkF m 8 #[.val (.int p1), .val (.int (3 : Int32)), .unset, .unset, .unset] [])
          obtain ⟨T38, h38, X38, e38, E38, A38, D38, -, st38⟩ := newO X0 hx hZ hown (hw _ (List.mem_of_getElem? (i := 0) rfl)) (hw _ (List.mem_of_getElem? (i := 1) rfl)) (hw _ (List.mem_of_getElem? (i := 2) rfl)) e0 (g := (mkF m 8 #[.val (.int p1), .val (.int (3 : Int32)), .unset, .unset, .unset] [])) rfl (hb hby at_8) (by decide) (by decide)
          obtain ⟨o38, gb38⟩ : ∃ z, z = h0.size := ⟨_, rfl⟩
          rw [← gb38] at A38 D38 st38
          refine own_st st38 ?_
          have ge_o38 : n0 ≤ o38 := by rw [gb38]; exact Nat.le_trans Z0 (Keep.refl h0 []).1
          have sz_o38 : h0.size ≤ o38 := by rw [gb38]; exact (Keep.refl h0 []).1
          have K39 : Keep h0 h38 [] := (Keep.refl h0 []).ext E38
          have F40 : Fld Z h38 o38 "com/example/tidewire/tidewire/internal/Backoff" "attempts" "I" (.int (0 : Int32)) := D38 (Or.inl (hw _ (List.mem_of_getElem? (i := 15) rfl))) (ty := .int) (by decide)
          show OG p e _ s below _ T38 (mkF m 11 #[.val (.int p1), .val (.int (3 : Int32)), .unset, .unset, .unset] [(.ref o38)])
          refine own_st (fun t k => XS.dup X38.here hx rfl (hb hby at_11) rfl rfl k) ?_
          show OG p e _ s below _ T38 (mkF m 12 #[.val (.int p1), .val (.int (3 : Int32)), .unset, .unset, .unset] [(.ref o38), (.ref o38)])
          obtain ⟨_, _, ⟨T41, L41, k41, n41⟩, -, X41, ⟨Lc41, hQ41, l41, y41, z41⟩, st41⟩ := X38.specialBack hx (y := (⟨"com/example/tidewire/tidewire/internal/Backoff", "<init>", "()V"⟩ : MethodName)) rfl hown (mvT hZ (hw _ (List.mem_of_getElem? (i := 3) rfl))) (mvT hZ (hw _ (List.mem_of_getElem? (i := 4) rfl))) (mvT hZ (hw _ (List.mem_of_getElem? (i := 5) rfl))) (by decide) (backOf (W := 1) (rm := ({ frames := 1, cells := 0, slots := 0, locals := 12 } : Room)) (rm1 l Z a0 hw [] o38 h38 n0) hZ (hw _ (List.mem_of_getElem? (i := 5) rfl)) (hw _ (List.mem_of_getElem? (i := 2) rfl)) (by decide) (by decide)) (g := (mkF m 12 #[.val (.int p1), .val (.int (3 : Int32)), .unset, .unset, .unset] [(.ref o38), (.ref o38)])) rfl (by rw [hml]; rfl) (Steps.refl _) (a := o38) (argsL := []) (rest := [(.ref o38)]) (lenOf pd___V rfl) rfl (by show 2 * 0 + _ ≤ _; exact Nat.le_of_eq rfl) (hb hby at_12) (fun _ _ => ⟨rfl, e38, (by decide : 1 + 0 ≤ _), (by decide : 1 + 0 ≤ _)⟩)
          dsimp only [Pt.U, Pt.locs, Pt.cells, Pt.slots] at X41 l41 y41 z41 st41 hQ41
          subst l41 y41 z41
          obtain ⟨rfl, N41q, K41q⟩ := hQ41
          refine own_st (fun t k => st41.trans k) ?_
          have N41 := Fr.app N0 N41q
          have K41 : Keep h0 T41.heap [] := K39.trans K41q (own_all0 )
          have F42 : Exa Z T41.heap o38 "com/example/tidewire/tidewire/internal/Backoff" := (A38.keep K41q)
          have F43 : Fld Z T41.heap o38 "com/example/tidewire/tidewire/internal/Backoff" "attempts" "I" (.int (0 : Int32)) := (F40.keep K41q (own_nin0 ))
          show OG p e _ s below _ T41 (mkF m 15 #[.val (.int p1), .val (.int (3 : Int32)), .unset, .unset, .unset] [(.ref o38)])
          refine own_st (fun t k => XS.astoreN X41.here hx rfl (hb hby at_15) rfl rfl (l' := #[.val (.int p1), .val (.int (3 : Int32)), .val (.ref o38), .unset, .unset]) rfl k) ?_
          show OG p e _ s below _ T41 (mkF m 16 #[.val (.int p1), .val (.int (3 : Int32)), .val (.ref o38), .unset, .unset] [])
          refine own_st (fun t k => XS.iloadN X41.here hx rfl (hb hby at_16) rfl k) ?_
          show OG p e _ s below _ T41 (mkF m 17 #[.val (.int p1), .val (.int (3 : Int32)), .val (.ref o38), .unset, .unset] [(.int (3 : Int32))])
          refine own_st (fun t k => XS.ifNo X41.here hx rfl (hb hby at_17) rfl (by decide) k) ?_
          show OG p e _ s below _ T41 (mkF m 20 #[.val (.int p1), .val (.int (3 : Int32)), .val (.ref o38), .unset, .unset] [])
          refine own_st (fun t k => XS.aloadN X41.here hx rfl (hb hby at_20) rfl rfl k) ?_
          show OG p e _ s below _ T41 (mkF m 21 #[.val (.int p1), .val (.int (3 : Int32)), .val (.ref o38), .unset, .unset] [(.ref o38)])
          obtain ⟨cq44, kq44, q44a, q44b, q44c⟩ := isOf hZ rfl F42
          obtain ⟨_, _, ⟨T44, L44, k44, n44⟩, -, X44, ⟨Lc44, hQ44, l44, y44, z44⟩, st44⟩ := X41.virtualBack hx (y := (⟨"com/example/tidewire/tidewire/internal/Backoff", "attempted", "()V"⟩ : MethodName)) (z := (⟨"com/example/tidewire/tidewire/internal/Backoff", "attempted", "()V"⟩ : MethodName)) hown (mvT hZ (hw _ (List.mem_of_getElem? (i := 20) rfl))) (mvT hZ (hw _ (List.mem_of_getElem? (i := 21) rfl))) (notFace_of_selects (args := #[]) (mvT hZ (hw _ (List.mem_of_getElem? (i := 23) rfl)))) (mvT hZ (hw _ (List.mem_of_getElem? (i := 23) rfl))) (mvT hZ (hw _ (List.mem_of_getElem? (i := 22) rfl))) (by decide) (backOf (W := 0) (rm := ({ frames := 0, cells := 0, slots := 0, locals := 0 } : Room)) (rm5 l Z a0 hw [] o38 (0 : Int32) T41.heap n0 F42 F43 ge_o38 (by decide)) hZ (hw _ (List.mem_of_getElem? (i := 24) rfl)) (hw _ (List.mem_of_getElem? (i := 2) rfl)) (by decide) (by decide)) q44a q44c (g := (mkF m 21 #[.val (.int p1), .val (.int (3 : Int32)), .val (.ref o38), .unset, .unset] [(.ref o38)])) rfl (by rw [hml]; rfl) (Steps.refl _) (argsL := []) (rest := []) (lenOf pd___V rfl) rfl (by show 2 * 0 + _ ≤ _; exact Nat.le_of_eq rfl) (hb hby at_21) (fun _ _ => ⟨rfl, rfl, (by decide : 1 + 0 ≤ _), (by decide : 1 + 0 ≤ _)⟩)
          dsimp only [Pt.U, Pt.locs, Pt.cells, Pt.slots] at X44 l44 y44 z44 st44 hQ44
          subst l44 y44 z44
          obtain ⟨rfl, N44q, K44q, P44_0, P44_1⟩ := hQ44
          refine own_st (fun t k => st44.trans k) ?_
          have N44 := Fr.app N41 N44q
          have K44 : Keep h0 T44.heap [] := K41.trans K44q (own_all1 (Or.inr sz_o38))
          have F45 : Fld Z T44.heap o38 "com/example/tidewire/tidewire/internal/Backoff" "attempts" "I" (.int (1 : Int32)) := P44_1
          show OG p e _ s below _ T44 (mkF m 24 #[.val (.int p1), .val (.int (3 : Int32)), .val (.ref o38), .unset, .unset] [])
          refine own_st (fun t k => XS.iloadN X44.here hx rfl (hb hby at_24) rfl k) ?_
          show OG p e _ s below _ T44 (mkF m 25 #[.val (.int p1), .val (.int (3 : Int32)), .val (.ref o38), .unset, .unset] [(.int (3 : Int32))])
          refine own_st (fun t k => XS.iconst X44.here hx rfl (hb hby at_25) k) ?_
          show OG p e _ s below _ T44 (mkF m 26 #[.val (.int p1), .val (.int (3 : Int32)), .val (.ref o38), .unset, .unset] [(.int (1 : Int32)), (.int (3 : Int32))])
          refine own_st (fun t k => XS.icmpNo X44.here hx rfl (hb hby at_26) rfl (by decide) k) ?_
          show OG p e _ s below _ T44 (mkF m 29 #[.val (.int p1), .val (.int (3 : Int32)), .val (.ref o38), .unset, .unset] [])
          refine own_st (fun t k => XS.aloadN X44.here hx rfl (hb hby at_29) rfl rfl k) ?_
          show OG p e _ s below _ T44 (mkF m 30 #[.val (.int p1), .val (.int (3 : Int32)), .val (.ref o38), .unset, .unset] [(.ref o38)])
          obtain ⟨cq46, kq46, q46a, q46b, q46c⟩ := isOf hZ rfl P44_0
          obtain ⟨_, _, ⟨T46, L46, k46, n46⟩, -, X46, ⟨Lc46, hQ46, l46, y46, z46⟩, st46⟩ := X44.virtualBack hx (y := (⟨"com/example/tidewire/tidewire/internal/Backoff", "attempted", "()V"⟩ : MethodName)) (z := (⟨"com/example/tidewire/tidewire/internal/Backoff", "attempted", "()V"⟩ : MethodName)) hown (mvT hZ (hw _ (List.mem_of_getElem? (i := 20) rfl))) (mvT hZ (hw _ (List.mem_of_getElem? (i := 21) rfl))) (notFace_of_selects (args := #[]) (mvT hZ (hw _ (List.mem_of_getElem? (i := 23) rfl)))) (mvT hZ (hw _ (List.mem_of_getElem? (i := 23) rfl))) (mvT hZ (hw _ (List.mem_of_getElem? (i := 22) rfl))) (by decide) (backOf (W := 0) (rm := ({ frames := 0, cells := 0, slots := 0, locals := 0 } : Room)) (rm5 l Z a0 hw [] o38 (1 : Int32) T44.heap n0 P44_0 F45 ge_o38 (by decide)) hZ (hw _ (List.mem_of_getElem? (i := 24) rfl)) (hw _ (List.mem_of_getElem? (i := 2) rfl)) (by decide) (by decide)) q46a q46c (g := (mkF m 30 #[.val (.int p1), .val (.int (3 : Int32)), .val (.ref o38), .unset, .unset] [(.ref o38)])) rfl (by rw [hml]; rfl) (Steps.refl _) (argsL := []) (rest := []) (lenOf pd___V rfl) rfl (by show 2 * 0 + _ ≤ _; exact Nat.le_of_eq rfl) (hb hby at_30) (fun _ _ => ⟨rfl, rfl, (by decide : 1 + 0 ≤ _), (by decide : 1 + 0 ≤ _)⟩)
          dsimp only [Pt.U, Pt.locs, Pt.cells, Pt.slots] at X46 l46 y46 z46 st46 hQ46
          subst l46 y46 z46
          obtain ⟨rfl, N46q, K46q, P46_0, P46_1⟩ := hQ46
          refine own_st (fun t k => st46.trans k) ?_
          have N46 := Fr.app N44 N46q
          have K46 : Keep h0 T46.heap [] := K44.trans K46q (own_all1 (Or.inr sz_o38))
          have F47 : Fld Z T46.heap o38 "com/example/tidewire/tidewire/internal/Backoff" "attempts" "I" (.int (2 : Int32)) := P46_1
          show OG p e _ s below _ T46 (mkF m 33 #[.val (.int p1), .val (.int (3 : Int32)), .val (.ref o38), .unset, .unset] [])
          refine own_st (fun t k => XS.iloadN X46.here hx rfl (hb hby at_33) rfl k) ?_
          show OG p e _ s below _ T46 (mkF m 34 #[.val (.int p1), .val (.int (3 : Int32)), .val (.ref o38), .unset, .unset] [(.int (3 : Int32))])
          refine own_st (fun t k => XS.iconst X46.here hx rfl (hb hby at_34) k) ?_
          show OG p e _ s below _ T46 (mkF m 35 #[.val (.int p1), .val (.int (3 : Int32)), .val (.ref o38), .unset, .unset] [(.int (2 : Int32)), (.int (3 : Int32))])
          refine own_st (fun t k => XS.icmpNo X46.here hx rfl (hb hby at_35) rfl (by decide) k) ?_
          show OG p e _ s below _ T46 (mkF m 38 #[.val (.int p1), .val (.int (3 : Int32)), .val (.ref o38), .unset, .unset] [])
          refine own_st (fun t k => XS.aloadN X46.here hx rfl (hb hby at_38) rfl rfl k) ?_
          show OG p e _ s below _ T46 (mkF m 39 #[.val (.int p1), .val (.int (3 : Int32)), .val (.ref o38), .unset, .unset] [(.ref o38)])
          obtain ⟨cq48, kq48, q48a, q48b, q48c⟩ := isOf hZ rfl P46_0
          obtain ⟨_, _, ⟨T48, L48, k48, n48⟩, -, X48, ⟨Lc48, hQ48, l48, y48, z48⟩, st48⟩ := X46.virtualBack hx (y := (⟨"com/example/tidewire/tidewire/internal/Backoff", "attempted", "()V"⟩ : MethodName)) (z := (⟨"com/example/tidewire/tidewire/internal/Backoff", "attempted", "()V"⟩ : MethodName)) hown (mvT hZ (hw _ (List.mem_of_getElem? (i := 20) rfl))) (mvT hZ (hw _ (List.mem_of_getElem? (i := 21) rfl))) (notFace_of_selects (args := #[]) (mvT hZ (hw _ (List.mem_of_getElem? (i := 23) rfl)))) (mvT hZ (hw _ (List.mem_of_getElem? (i := 23) rfl))) (mvT hZ (hw _ (List.mem_of_getElem? (i := 22) rfl))) (by decide) (backOf (W := 0) (rm := ({ frames := 0, cells := 0, slots := 0, locals := 0 } : Room)) (rm5 l Z a0 hw [] o38 (2 : Int32) T46.heap n0 P46_0 F47 ge_o38 (by decide)) hZ (hw _ (List.mem_of_getElem? (i := 24) rfl)) (hw _ (List.mem_of_getElem? (i := 2) rfl)) (by decide) (by decide)) q48a q48c (g := (mkF m 39 #[.val (.int p1), .val (.int (3 : Int32)), .val (.ref o38), .unset, .unset] [(.ref o38)])) rfl (by rw [hml]; rfl) (Steps.refl _) (argsL := []) (rest := []) (lenOf pd___V rfl) rfl (by show 2 * 0 + _ ≤ _; exact Nat.le_of_eq rfl) (hb hby at_39) (fun _ _ => ⟨rfl, rfl, (by decide : 1 + 0 ≤ _), (by decide : 1 + 0 ≤ _)⟩)
          dsimp only [Pt.U, Pt.locs, Pt.cells, Pt.slots] at X48 l48 y48 z48 st48 hQ48
          subst l48 y48 z48
          obtain ⟨rfl, N48q, K48q, P48_0, P48_1⟩ := hQ48
          refine own_st (fun t k => st48.trans k) ?_
          have N48 := Fr.app N46 N48q
          have K48 : Keep h0 T48.heap [] := K46.trans K48q (own_all1 (Or.inr sz_o38))
          have F49 : Fld Z T48.heap o38 "com/example/tidewire/tidewire/internal/Backoff" "attempts" "I" (.int (3 : Int32)) := P48_1
          show OG p e _ s below _ T48 (mkF m 42 #[.val (.int p1), .val (.int (3 : Int32)), .val (.ref o38), .unset, .unset] [])
          refine own_st (fun t k => XS.iloadN X48.here hx rfl (hb hby at_42) rfl k) ?_
          show OG p e _ s below _ T48 (mkF m 43 #[.val (.int p1), .val (.int (3 : Int32)), .val (.ref o38), .unset, .unset] [(.int (3 : Int32))])
          refine own_st (fun t k => XS.iconst X48.here hx rfl (hb hby at_43) k) ?_
          show OG p e _ s below _ T48 (mkF m 44 #[.val (.int p1), .val (.int (3 : Int32)), .val (.ref o38), .unset, .unset] [(.int (3 : Int32)), (.int (3 : Int32))])
          refine own_st (fun t k => XS.icmpYes X48.here hx rfl (pc0 := 44) (pc' := 51) rfl (hb hby at_44) rfl (by decide) (by decide) (by decide) k) ?_
          show OG p e _ s below _ T48 (mkF m 51 #[.val (.int p1), .val (.int (3 : Int32)), .val (.ref o38), .unset, .unset] [])
          refine own_st (fun t k => XS.iloadN X48.here hx rfl (hb hby at_51) rfl k) ?_
          show OG p e _ s below _ T48 (mkF m 52 #[.val (.int p1), .val (.int (3 : Int32)), .val (.ref o38), .unset, .unset] [(.int (3 : Int32))])
          refine own_st (fun t k => XS.iconst X48.here hx rfl (hb hby at_52) k) ?_
          show OG p e _ s below _ T48 (mkF m 53 #[.val (.int p1), .val (.int (3 : Int32)), .val (.ref o38), .unset, .unset] [(.int (4 : Int32)), (.int (3 : Int32))])
          refine own_st (fun t k => XS.icmpYes X48.here hx rfl (pc0 := 53) (pc' := 60) rfl (hb hby at_53) rfl (by decide) (by decide) (by decide) k) ?_
          show OG p e _ s below _ T48 (mkF m 60 #[.val (.int p1), .val (.int (3 : Int32)), .val (.ref o38), .unset, .unset] [])
          refine own_st (fun t k => XS.iloadN X48.here hx rfl (hb hby at_60) rfl k) ?_
          show OG p e _ s below _ T48 (mkF m 61 #[.val (.int p1), .val (.int (3 : Int32)), .val (.ref o38), .unset, .unset] [(.int (3 : Int32))])
          refine own_st (fun t k => XS.iconst X48.here hx rfl (hb hby at_61) k) ?_
          show OG p e _ s below _ T48 (mkF m 62 #[.val (.int p1), .val (.int (3 : Int32)), .val (.ref o38), .unset, .unset] [(.int (5 : Int32)), (.int (3 : Int32))])
          refine own_st (fun t k => XS.icmpYes X48.here hx rfl (pc0 := 62) (pc' := 69) rfl (hb hby at_62) rfl (by decide) (by decide) (by decide) k) ?_
          show OG p e _ s below _ T48 (mkF m 69 #[.val (.int p1), .val (.int (3 : Int32)), .val (.ref o38), .unset, .unset] [])
          refine own_st (fun t k => XS.iloadN X48.here hx rfl (hb hby at_69) rfl k) ?_
          show OG p e _ s below _ T48 (mkF m 70 #[.val (.int p1), .val (.int (3 : Int32)), .val (.ref o38), .unset, .unset] [(.int (3 : Int32))])
          refine own_st (fun t k => XS.bipush X48.here hx rfl (hb hby at_70) k) ?_
          show OG p e _ s below _ T48 (mkF m 72 #[.val (.int p1), .val (.int (3 : Int32)), .val (.ref o38), .unset, .unset] [(.int (6 : Int32)), (.int (3 : Int32))])
          refine own_st (fun t k => XS.icmpYes X48.here hx rfl (pc0 := 72) (pc' := 79) rfl (hb hby at_72) rfl (by decide) (by decide) (by decide) k) ?_
          show OG p e _ s below _ T48 (mkF m 79 #[.val (.int p1), .val (.int (3 : Int32)), .val (.ref o38), .unset, .unset] [])
          refine own_st (fun t k => XS.iloadN X48.here hx rfl (hb hby at_79) rfl k) ?_
          show OG p e _ s below _ T48 (mkF m 80 #[.val (.int p1), .val (.int (3 : Int32)), .val (.ref o38), .unset, .unset] [(.int (3 : Int32))])
          refine own_st (fun t k => XS.bipush X48.here hx rfl (hb hby at_80) k) ?_
          show OG p e _ s below _ T48 (mkF m 82 #[.val (.int p1), .val (.int (3 : Int32)), .val (.ref o38), .unset, .unset] [(.int (7 : Int32)), (.int (3 : Int32))])
          refine own_st (fun t k => XS.icmpYes X48.here hx rfl (pc0 := 82) (pc' := 89) rfl (hb hby at_82) rfl (by decide) (by decide) (by decide) k) ?_
          show OG p e _ s below _ T48 (mkF m 89 #[.val (.int p1), .val (.int (3 : Int32)), .val (.ref o38), .unset, .unset] [])
          refine own_st (fun t k => XS.aloadN X48.here hx rfl (hb hby at_89) rfl rfl k) ?_
          show OG p e _ s below _ T48 (mkF m 90 #[.val (.int p1), .val (.int (3 : Int32)), .val (.ref o38), .unset, .unset] [(.ref o38)])
          obtain ⟨cq50, kq50, q50a, q50b, q50c⟩ := isOf hZ rfl P48_0
          obtain ⟨_, _, ⟨T50, L50, k50, n50⟩, -, X50, ⟨Lc50, hQ50, l50, y50, z50⟩, st50⟩ := X48.virtualBack hx (y := (⟨"com/example/tidewire/tidewire/internal/Backoff", "delayMs", "()J"⟩ : MethodName)) (z := (⟨"com/example/tidewire/tidewire/internal/Backoff", "delayMs", "()J"⟩ : MethodName)) hown (mvT hZ (hw _ (List.mem_of_getElem? (i := 9) rfl))) (mvT hZ (hw _ (List.mem_of_getElem? (i := 10) rfl))) (notFace_of_selects (args := #[]) (mvT hZ (hw _ (List.mem_of_getElem? (i := 12) rfl)))) (mvT hZ (hw _ (List.mem_of_getElem? (i := 12) rfl))) (mvT hZ (hw _ (List.mem_of_getElem? (i := 11) rfl))) (by decide) (backOf (W := 0) (rm := ({ frames := 1, cells := 0, slots := 0, locals := 15 } : Room)) (rm3_3 l Z a0 hw [] o38 T48.heap F49) hZ (hw _ (List.mem_of_getElem? (i := 13) rfl)) (hw _ (List.mem_of_getElem? (i := 2) rfl)) (by decide) (by decide)) q50a q50c (g := (mkF m 90 #[.val (.int p1), .val (.int (3 : Int32)), .val (.ref o38), .unset, .unset] [(.ref o38)])) rfl (by rw [hml]; rfl) (Steps.refl _) (argsL := []) (rest := []) (lenOf pd___J rfl) rfl (by show 2 * 0 + _ ≤ _; exact Nat.le_of_eq rfl) (hb hby at_90) (fun _ _ => ⟨rfl, rfl, (by decide : 1 + 0 ≤ _), (by decide : 1 + 0 ≤ _)⟩)
          dsimp only [Pt.U, Pt.locs, Pt.cells, Pt.slots] at X50 l50 y50 z50 st50 hQ50
          subst l50 y50 z50
          obtain ⟨rfl, rfl, e50⟩ := hQ50
          refine own_st (fun t k => st50.trans k) ?_
          have N50 := Fr.app N48 (Fr.nil n0)
          show OG p e _ s below _ T50 (mkF m 93 #[.val (.int p1), .val (.int (3 : Int32)), .val (.ref o38), .unset, .unset] [(.long f3_3)])
          refine own_st (fun t k => XS.lstoreN X50.here hx rfl (hb hby at_93) rfl (l' := #[.val (.int p1), .val (.int (3 : Int32)), .val (.ref o38), .val (.long f3_3), .second]) rfl k) ?_
          show OG p e _ s below _ T50 (mkF m 94 #[.val (.int p1), .val (.int (3 : Int32)), .val (.ref o38), .val (.long f3_3), .second] [])
          refine own_st (fun t k => XS.lloadN X50.here hx rfl (hb hby at_94) rfl k) ?_
          show OG p e _ s below _ T50 (mkF m 95 #[.val (.int p1), .val (.int (3 : Int32)), .val (.ref o38), .val (.long f3_3), .second] [(.long f3_3)])
          refine own_st (fun t k => XS.iloadN X50.here hx rfl (hb hby at_95) rfl k) ?_
          show OG p e _ s below _ T50 (mkF m 96 #[.val (.int p1), .val (.int (3 : Int32)), .val (.ref o38), .val (.long f3_3), .second] [(.int (3 : Int32)), (.long f3_3)])
          obtain ⟨_, _, ⟨T51, L51, k51, n51⟩, -, X51, ⟨Lc51, hQ51, l51, y51, z51⟩, st51⟩ := Jvm.LawKit.callS X50 hx (y := (⟨"com/example/tidewire/tidewire/internal/BackoffDelayMsPinLaw", "expected", "(I)J"⟩ : MethodName)) hown (mvT hZ (hw _ (List.mem_of_getElem? (i := 16) rfl))) (mvT hZ (hw _ (List.mem_of_getElem? (i := 17) rfl))) (mvT hZ (hw _ (List.mem_of_getElem? (i := 18) rfl))) (mvT hZ (hw _ (List.mem_of_getElem? (i := 19) rfl))) (by decide) (backOf (W := 2) (rm := ({ frames := 0, cells := 0, slots := 0, locals := 0 } : Room)) (rm4 l Z a0 hw [] (3 : Int32) T48.heap) hZ (hw _ (List.mem_of_getElem? (i := 19) rfl)) (hw _ (List.mem_of_getElem? (i := 18) rfl)) (by decide) (by decide)) (g := (mkF m 96 #[.val (.int p1), .val (.int (3 : Int32)), .val (.ref o38), .val (.long f3_3), .second] [(.int (3 : Int32)), (.long f3_3)])) rfl (by rw [hml]; rfl) (argsL := [(.int (3 : Int32))]) (rest := [(.long f3_3)]) (lenOf pd__I_J rfl) rfl (by show 2 * 0 + _ ≤ _; exact Nat.le_of_eq rfl) (hb hby at_96) (fun _ _ => ⟨rfl, e50, (by decide : 1 + 0 ≤ _), (by decide : 1 + 0 ≤ _)⟩)
          dsimp only [Pt.U, Pt.locs, Pt.cells, Pt.slots] at X51 l51 y51 z51 st51 hQ51
          subst l51 y51 z51
          obtain ⟨rfl, rfl, e51⟩ := hQ51
          refine own_st st51 ?_
          have N51 := Fr.app N50 (Fr.nil n0)
          show OG p e _ s below _ T51 (mkF m 99 #[.val (.int p1), .val (.int (3 : Int32)), .val (.ref o38), .val (.long f3_3), .second] [(.long (f4 (3 : Int32))), (.long f3_3)])
          refine own_st (fun t k => XS.lcmp X51.here hx rfl (hb hby at_99) rfl k) ?_
          show OG p e _ s below _ T51 (mkF m 100 #[.val (.int p1), .val (.int (3 : Int32)), .val (.ref o38), .val (.long f3_3), .second] [(.int (lcmpW f3_3 (f4 (3 : Int32))))])
          by_cases c52 : f3_3 = (f4 (3 : Int32))
          · refine own_st (fun t k => XS.ifNo X51.here hx rfl (hb hby at_100) rfl (own_if0 (teq ((lw_eq _ _).mpr c52)).2) k) ?_
            show OG p e _ s below _ T51 (mkF m 103 #[.val (.int p1), .val (.int (3 : Int32)), .val (.ref o38), .val (.long f3_3), .second] [])
            refine own_st (fun t k => XS.iconst X51.here hx rfl (hb hby at_103) k) ?_
            show OG p e _ s below _ T51 (mkF m 104 #[.val (.int p1), .val (.int (3 : Int32)), .val (.ref o38), .val (.long f3_3), .second] [(.int (1 : Int32))])
            refine own_st (fun t k => XS.goto X51.here hx rfl (pc0 := 104) (pc' := 108) rfl (hb hby at_104) (by decide) (by decide) k) ?_
            show OG p e _ s below _ T51 (mkF m 108 #[.val (.int p1), .val (.int (3 : Int32)), .val (.ref o38), .val (.long f3_3), .second] [(.int (1 : Int32))])
            refine own_retZ X51 hx (t := .boolean) hret (by simp) hlk (hb hby at_108) (by decide) (by decide) (w := (1 : Int32)) rfl ?_
            exact ⟨congrArg (fun z => some (Value.int z)) (show f0 p1 = (1 : Int32) from (by rw [f0, if_neg c1, if_neg c11, if_neg c23, if_pos c37, if_pos c52])).symm, N51⟩
          · refine own_st (fun t k => XS.ifYes X51.here hx rfl (pc0 := 100) (pc' := 107) rfl (hb hby at_100) rfl (own_if0 (feq (fun q => c52 ((lw_eq _ _).mp q))).2) (by decide) (by decide) k) ?_
            show OG p e _ s below _ T51 (mkF m 107 #[.val (.int p1), .val (.int (3 : Int32)), .val (.ref o38), .val (.long f3_3), .second] [])
            refine own_st (fun t k => XS.iconst X51.here hx rfl (hb hby at_107) k) ?_
            show OG p e _ s below _ T51 (mkF m 108 #[.val (.int p1), .val (.int (3 : Int32)), .val (.ref o38), .val (.long f3_3), .second] [(.int (0 : Int32))])
            refine own_retZ X51 hx (t := .boolean) hret (by simp) hlk (hb hby at_108) (by decide) (by decide) (w := (0 : Int32)) rfl ?_
            exact ⟨congrArg (fun z => some (Value.int z)) (show f0 p1 = (0 : Int32) from (by rw [f0, if_neg c1, if_neg c11, if_neg c23, if_pos c37, if_neg c52])).symm, N51⟩
        · skip
          by_cases c53 : (g0_1 p1) = (4 : Int32)
          · rw [c53]
            show OG p e _ s below _ s₁ (mkF m 8 #[.val (.int p1), .val (.int (4 : Int32)), .unset, .unset, .unset] [])
            obtain ⟨T54, h54, X54, e54, E54, A54, D54, -, st54⟩ := newO X0 hx hZ hown (hw _ (List.mem_of_getElem? (i := 0) rfl)) (hw _ (List.mem_of_getElem? (i := 1) rfl)) (hw _ (List.mem_of_getElem? (i := 2) rfl)) e0 (g := (mkF m 8 #[.val (.int p1), .val (.int (4 : Int32)), .unset, .unset, .unset] [])) rfl (hb hby at_8) (by decide) (by decide)
            obtain ⟨o54, gb54⟩ : ∃ z, z = h0.size := ⟨_, rfl⟩
            rw [← gb54] at A54 D54 st54
            refine own_st st54 ?_
            have ge_o54 : n0 ≤ o54 := by rw [gb54]; exact Nat.le_trans Z0 (Keep.refl h0 []).1
            have sz_o54 : h0.size ≤ o54 := by rw [gb54]; exact (Keep.refl h0 []).1
            have K55 : Keep h0 h54 [] := (Keep.refl h0 []).ext E54
            have F56 : Fld Z h54 o54 "com/example/tidewire/tidewire/internal/Backoff" "attempts" "I" (.int (0 : Int32)) := D54 (Or.inl (hw _ (List.mem_of_getElem? (i := 15) rfl))) (ty := .int) (by decide)
            show OG p e _ s below _ T54 (mkF m 11 #[.val (.int p1), .val (.int (4 : Int32)), .unset, .unset, .unset] [(.ref o54)])
            refine own_st (fun t k => XS.dup X54.here hx rfl (hb hby at_11) rfl rfl k) ?_
            show OG p e _ s below _ T54 (mkF m 12 #[.val (.int p1), .val (.int (4 : Int32)), .unset, .unset, .unset] [(.ref o54), (.ref o54)])
            obtain ⟨_, _, ⟨T57, L57, k57, n57⟩, -, X57, ⟨Lc57, hQ57, l57, y57, z57⟩, st57⟩ := X54.specialBack hx (y := (⟨"com/example/tidewire/tidewire/internal/Backoff", "<init>", "()V"⟩ : MethodName)) rfl hown (mvT hZ (hw _ (List.mem_of_getElem? (i := 3) rfl))) (mvT hZ (hw _ (List.mem_of_getElem? (i := 4) rfl))) (mvT hZ (hw _ (List.mem_of_getElem? (i := 5) rfl))) (by decide) (backOf (W := 1) (rm := ({ frames := 1, cells := 0, slots := 0, locals := 12 } : Room)) (rm1 l Z a0 hw [] o54 h54 n0) hZ (hw _ (List.mem_of_getElem? (i := 5) rfl)) (hw _ (List.mem_of_getElem? (i := 2) rfl)) (by decide) (by decide)) (g := (mkF m 12 #[.val (.int p1), .val (.int (4 : Int32)), .unset, .unset, .unset] [(.ref o54), (.ref o54)])) rfl (by rw [hml]; rfl) (Steps.refl _) (a := o54) (argsL := []) (rest := [(.ref o54)]) (lenOf pd___V rfl) rfl (by show 2 * 0 + _ ≤ _; exact Nat.le_of_eq rfl) (hb hby at_12) (fun _ _ => ⟨rfl, e54, (by decide : 1 + 0 ≤ _), (by decide : 1 + 0 ≤ _)⟩)
            dsimp only [Pt.U, Pt.locs, Pt.cells, Pt.slots] at X57 l57 y57 z57 st57 hQ57
            subst l57 y57 z57
            obtain ⟨rfl, N57q, K57q⟩ := hQ57
            refine own_st (fun t k => st57.trans k) ?_
            have N57 := Fr.app N0 N57q
            have K57 : Keep h0 T57.heap [] := K55.trans K57q (own_all0 )
            have F58 : Exa Z T57.heap o54 "com/example/tidewire/tidewire/internal/Backoff" := (A54.keep K57q)
            have F59 : Fld Z T57.heap o54 "com/example/tidewire/tidewire/internal/Backoff" "attempts" "I" (.int (0 : Int32)) := (F56.keep K57q (own_nin0 ))
            show OG p e _ s below _ T57 (mkF m 15 #[.val (.int p1), .val (.int (4 : Int32)), .unset, .unset, .unset] [(.ref o54)])
            refine own_st (fun t k => XS.astoreN X57.here hx rfl (hb hby at_15) rfl rfl (l' := #[.val (.int p1), .val (.int (4 : Int32)), .val (.ref o54), .unset, .unset]) rfl k) ?_
            show OG p e _ s below _ T57 (mkF m 16 #[.val (.int p1), .val (.int (4 : Int32)), .val (.ref o54), .unset, .unset] [])
            refine own_st (fun t k => XS.iloadN X57.here hx rfl (hb hby at_16) rfl k) ?_
            show OG p e _ s below _ T57 (mkF m 17 #[.val (.int p1), .val (.int (4 : Int32)), .val (.ref o54), .unset, .unset] [(.int (4 : Int32))])
            refine own_st (fun t k => XS.ifNo X57.here hx rfl (hb hby at_17) rfl (by decide) k) ?_
            show OG p e _ s below _ T57 (mkF m 20 #[.val (.int p1), .val (.int (4 : Int32)), .val (.ref o54), .unset, .unset] [])
            refine own_st (fun t k => XS.aloadN X57.here hx rfl (hb hby at_20) rfl rfl k) ?_
            show OG p e _ s below _ T57 (mkF m 21 #[.val (.int p1), .val (.int (4 : Int32)), .val (.ref o54), .unset, .unset] [(.ref o54)])
            obtain ⟨cq60, kq60, q60a, q60b, q60c⟩ := isOf hZ rfl F58
            obtain ⟨_, _, ⟨T60, L60, k60, n60⟩, -, X60, ⟨Lc60, hQ60, l60, y60, z60⟩, st60⟩ := X57.virtualBack hx (y := (⟨"com/example/tidewire/tidewire/internal/Backoff", "attempted", "()V"⟩ : MethodName)) (z := (⟨"com/example/tidewire/tidewire/internal/Backoff", "attempted", "()V"⟩ : MethodName)) hown (mvT hZ (hw _ (List.mem_of_getElem? (i := 20) rfl))) (mvT hZ (hw _ (List.mem_of_getElem? (i := 21) rfl))) (notFace_of_selects (args := #[]) (mvT hZ (hw _ (List.mem_of_getElem? (i := 23) rfl)))) (mvT hZ (hw _ (List.mem_of_getElem? (i := 23) rfl))) (mvT hZ (hw _ (List.mem_of_getElem? (i := 22) rfl))) (by decide) (backOf (W := 0) (rm := ({ frames := 0, cells := 0, slots := 0, locals := 0 } : Room)) (rm5 l Z a0 hw [] o54 (0 : Int32) T57.heap n0 F58 F59 ge_o54 (by decide)) hZ (hw _ (List.mem_of_getElem? (i := 24) rfl)) (hw _ (List.mem_of_getElem? (i := 2) rfl)) (by decide) (by decide)) q60a q60c (g := (mkF m 21 #[.val (.int p1), .val (.int (4 : Int32)), .val (.ref o54), .unset, .unset] [(.ref o54)])) rfl (by rw [hml]; rfl) (Steps.refl _) (argsL := []) (rest := []) (lenOf pd___V rfl) rfl (by show 2 * 0 + _ ≤ _; exact Nat.le_of_eq rfl) (hb hby at_21) (fun _ _ => ⟨rfl, rfl, (by decide : 1 + 0 ≤ _), (by decide : 1 + 0 ≤ _)⟩)
            dsimp only [Pt.U, Pt.locs, Pt.cells, Pt.slots] at X60 l60 y60 z60 st60 hQ60
            subst l60 y60 z60
            obtain ⟨rfl, N60q, K60q, P60_0, P60_1⟩ := hQ60
            refine own_st (fun t k => st60.trans k) ?_
            have N60 := Fr.app N57 N60q
            have K60 : Keep h0 T60.heap [] := K57.trans K60q (own_all1 (Or.inr sz_o54))
            have F61 : Fld Z T60.heap o54 "com/example/tidewire/tidewire/internal/Backoff" "attempts" "I" (.int (1 : Int32)) := P60_1
            show OG p e _ s below _ T60 (mkF m 24 #[.val (.int p1), .val (.int (4 : Int32)), .val (.ref o54), .unset, .unset] [])
            refine own_st (fun t k => XS.iloadN X60.here hx rfl (hb hby at_24) rfl k) ?_
            show OG p e _ s below _ T60 (mkF m 25 #[.val (.int p1), .val (.int (4 : Int32)), .val (.ref o54), .unset, .unset] [(.int (4 : Int32))])
            refine own_st (fun t k => XS.iconst X60.here hx rfl (hb hby at_25) k) ?_
            show OG p e _ s below _ T60 (mkF m 26 #[.val (.int p1), .val (.int (4 : Int32)), .val (.ref o54), .unset, .unset] [(.int (1 : Int32)), (.int (4 : Int32))])
            refine own_st (fun t k => XS.icmpNo X60.here hx rfl (hb hby at_26) rfl (by decide) k) ?_
            show OG p e _ s below _ T60 (mkF m 29 #[.val (.int p1), .val (.int (4 : Int32)), .val (.ref o54), .unset, .unset] [])
            refine own_st (fun t k => XS.aloadN X60.here hx rfl (hb hby at_29) rfl rfl k) ?_
            show OG p e _ s below _ T60 (mkF m 30 #[.val (.int p1), .val (.int (4 : Int32)), .val (.ref o54), .unset, .unset] [(.ref o54)])
            obtain ⟨cq62, kq62, q62a, q62b, q62c⟩ := isOf hZ rfl P60_0
            obtain ⟨_, _, ⟨T62, L62, k62, n62⟩, -, X62, ⟨Lc62, hQ62, l62, y62, z62⟩, st62⟩ := X60.virtualBack hx (y := (⟨"com/example/tidewire/tidewire/internal/Backoff", "attempted", "()V"⟩ : MethodName)) (z := (⟨"com/example/tidewire/tidewire/internal/Backoff", "attempted", "()V"⟩ : MethodName)) hown (mvT hZ (hw _ (List.mem_of_getElem? (i := 20) rfl))) (mvT hZ (hw _ (List.mem_of_getElem? (i := 21) rfl))) (notFace_of_selects (args := #[]) (mvT hZ (hw _ (List.mem_of_getElem? (i := 23) rfl)))) (mvT hZ (hw _ (List.mem_of_getElem? (i := 23) rfl))) (mvT hZ (hw _ (List.mem_of_getElem? (i := 22) rfl))) (by decide) (backOf (W := 0) (rm := ({ frames := 0, cells := 0, slots := 0, locals := 0 } : Room)) (rm5 l Z a0 hw [] o54 (1 : Int32) T60.heap n0 P60_0 F61 ge_o54 (by decide)) hZ (hw _ (List.mem_of_getElem? (i := 24) rfl)) (hw _ (List.mem_of_getElem? (i := 2) rfl)) (by decide) (by decide)) q62a q62c (g := (mkF m 30 #[.val (.int p1), .val (.int (4 : Int32)), .val (.ref o54), .unset, .unset] [(.ref o54)])) rfl (by rw [hml]; rfl) (Steps.refl _) (argsL := []) (rest := []) (lenOf pd___V rfl) rfl (by show 2 * 0 + _ ≤ _; exact Nat.le_of_eq rfl) (hb hby at_30) (fun _ _ => ⟨rfl, rfl, (by decide : 1 + 0 ≤ _), (by decide : 1 + 0 ≤ _)⟩)
            dsimp only [Pt.U, Pt.locs, Pt.cells, Pt.slots] at X62 l62 y62 z62 st62 hQ62
            subst l62 y62 z62
            obtain ⟨rfl, N62q, K62q, P62_0, P62_1⟩ := hQ62
            refine own_st (fun t k => st62.trans k) ?_
            have N62 := Fr.app N60 N62q
            have K62 : Keep h0 T62.heap [] := K60.trans K62q (own_all1 (Or.inr sz_o54))
            have F63 : Fld Z T62.heap o54 "com/example/tidewire/tidewire/internal/Backoff" "attempts" "I" (.int (2 : Int32)) := P62_1
            show OG p e _ s below _ T62 (mkF m 33 #[.val (.int p1), .val (.int (4 : Int32)), .val (.ref o54), .unset, .unset] [])
            refine own_st (fun t k => XS.iloadN X62.here hx rfl (hb hby at_33) rfl k) ?_
            show OG p e _ s below _ T62 (mkF m 34 #[.val (.int p1), .val (.int (4 : Int32)), .val (.ref o54), .unset, .unset] [(.int (4 : Int32))])
            refine own_st (fun t k => XS.iconst X62.here hx rfl (hb hby at_34) k) ?_
            show OG p e _ s below _ T62 (mkF m 35 #[.val (.int p1), .val (.int (4 : Int32)), .val (.ref o54), .unset, .unset] [(.int (2 : Int32)), (.int (4 : Int32))])
            refine own_st (fun t k => XS.icmpNo X62.here hx rfl (hb hby at_35) rfl (by decide) k) ?_
            show OG p e _ s below _ T62 (mkF m 38 #[.val (.int p1), .val (.int (4 : Int32)), .val (.ref o54), .unset, .unset] [])
            refine own_st (fun t k => XS.aloadN X62.here hx rfl (hb hby at_38) rfl rfl k) ?_
            show OG p e _ s below _ T62 (mkF m 39 #[.val (.int p1), .val (.int (4 : Int32)), .val (.ref o54), .unset, .unset] [(.ref o54)])
            obtain ⟨cq64, kq64, q64a, q64b, q64c⟩ := isOf hZ rfl P62_0
            obtain ⟨_, _, ⟨T64, L64, k64, n64⟩, -, X64, ⟨Lc64, hQ64, l64, y64, z64⟩, st64⟩ := X62.virtualBack hx (y := (⟨"com/example/tidewire/tidewire/internal/Backoff", "attempted", "()V"⟩ : MethodName)) (z := (⟨"com/example/tidewire/tidewire/internal/Backoff", "attempted", "()V"⟩ : MethodName)) hown (mvT hZ (hw _ (List.mem_of_getElem? (i := 20) rfl))) (mvT hZ (hw _ (List.mem_of_getElem? (i := 21) rfl))) (notFace_of_selects (args := #[]) (mvT hZ (hw _ (List.mem_of_getElem? (i := 23) rfl)))) (mvT hZ (hw _ (List.mem_of_getElem? (i := 23) rfl))) (mvT hZ (hw _ (List.mem_of_getElem? (i := 22) rfl))) (by decide) (backOf (W := 0) (rm := ({ frames := 0, cells := 0, slots := 0, locals := 0 } : Room)) (rm5 l Z a0 hw [] o54 (2 : Int32) T62.heap n0 P62_0 F63 ge_o54 (by decide)) hZ (hw _ (List.mem_of_getElem? (i := 24) rfl)) (hw _ (List.mem_of_getElem? (i := 2) rfl)) (by decide) (by decide)) q64a q64c (g := (mkF m 39 #[.val (.int p1), .val (.int (4 : Int32)), .val (.ref o54), .unset, .unset] [(.ref o54)])) rfl (by rw [hml]; rfl) (Steps.refl _) (argsL := []) (rest := []) (lenOf pd___V rfl) rfl (by show 2 * 0 + _ ≤ _; exact Nat.le_of_eq rfl) (hb hby at_39) (fun _ _ => ⟨rfl, rfl, (by decide : 1 + 0 ≤ _), (by decide : 1 + 0 ≤ _)⟩)
            dsimp only [Pt.U, Pt.locs, Pt.cells, Pt.slots] at X64 l64 y64 z64 st64 hQ64
            subst l64 y64 z64
            obtain ⟨rfl, N64q, K64q, P64_0, P64_1⟩ := hQ64
            refine own_st (fun t k => st64.trans k) ?_
            have N64 := Fr.app N62 N64q
            have K64 : Keep h0 T64.heap [] := K62.trans K64q (own_all1 (Or.inr sz_o54))
            have F65 : Fld Z T64.heap o54 "com/example/tidewire/tidewire/internal/Backoff" "attempts" "I" (.int (3 : Int32)) := P64_1
            show OG p e _ s below _ T64 (mkF m 42 #[.val (.int p1), .val (.int (4 : Int32)), .val (.ref o54), .unset, .unset] [])
            refine own_st (fun t k => XS.iloadN X64.here hx rfl (hb hby at_42) rfl k) ?_
            show OG p e _ s below _ T64 (mkF m 43 #[.val (.int p1), .val (.int (4 : Int32)), .val (.ref o54), .unset, .unset] [(.int (4 : Int32))])
            refine own_st (fun t k => XS.iconst X64.here hx rfl (hb hby at_43) k) ?_
            show OG p e _ s below _ T64 (mkF m 44 #[.val (.int p1), .val (.int (4 : Int32)), .val (.ref o54), .unset, .unset] [(.int (3 : Int32)), (.int (4 : Int32))])
            refine own_st (fun t k => XS.icmpNo X64.here hx rfl (hb hby at_44) rfl (by decide) k) ?_
            show OG p e _ s below _ T64 (mkF m 47 #[.val (.int p1), .val (.int (4 : Int32)), .val (.ref o54), .unset, .unset] [])
            refine own_st (fun t k => XS.aloadN X64.here hx rfl (hb hby at_47) rfl rfl k) ?_
            show OG p e _ s below _ T64 (mkF m 48 #[.val (.int p1), .val (.int (4 : Int32)), .val (.ref o54), .unset, .unset] [(.ref o54)])
            obtain ⟨cq66, kq66, q66a, q66b, q66c⟩ := isOf hZ rfl P64_0
            obtain ⟨_, _, ⟨T66, L66, k66, n66⟩, -, X66, ⟨Lc66, hQ66, l66, y66, z66⟩, st66⟩ := X64.virtualBack hx (y := (⟨"com/example/tidewire/tidewire/internal/Backoff", "attempted", "()V"⟩ : MethodName)) (z := (⟨"com/example/tidewire/tidewire/internal/Backoff", "attempted", "()V"⟩ : MethodName)) hown (mvT hZ (hw _ (List.mem_of_getElem? (i := 20) rfl))) (mvT hZ (hw _ (List.mem_of_getElem? (i := 21) rfl))) (notFace_of_selects (args := #[]) (mvT hZ (hw _ (List.mem_of_getElem? (i := 23) rfl)))) (mvT hZ (hw _ (List.mem_of_getElem? (i := 23) rfl))) (mvT hZ (hw _ (List.mem_of_getElem? (i := 22) rfl))) (by decide) (backOf (W := 0) (rm := ({ frames := 0, cells := 0, slots := 0, locals := 0 } : Room)) (rm5 l Z a0 hw [] o54 (3 : Int32) T64.heap n0 P64_0 F65 ge_o54 (by decide)) hZ (hw _ (List.mem_of_getElem? (i := 24) rfl)) (hw _ (List.mem_of_getElem? (i := 2) rfl)) (by decide) (by decide)) q66a q66c (g := (mkF m 48 #[.val (.int p1), .val (.int (4 : Int32)), .val (.ref o54), .unset, .unset] [(.ref o54)])) rfl (by rw [hml]; rfl) (Steps.refl _) (argsL := []) (rest := []) (lenOf pd___V rfl) rfl (by show 2 * 0 + _ ≤ _; exact Nat.le_of_eq rfl) (hb hby at_48) (fun _ _ => ⟨rfl, rfl, (by decide : 1 + 0 ≤ _), (by decide : 1 + 0 ≤ _)⟩)
            dsimp only [Pt.U, Pt.locs, Pt.cells, Pt.slots] at X66 l66 y66 z66 st66 hQ66
            subst l66 y66 z66
            obtain ⟨rfl, N66q, K66q, P66_0, P66_1⟩ := hQ66
            refine own_st (fun t k => st66.trans k) ?_
            have N66 := Fr.app N64 N66q
            have K66 : Keep h0 T66.heap [] := K64.trans K66q (own_all1 (Or.inr sz_o54))
            have F67 : Fld Z T66.heap o54 "com/example/tidewire/tidewire/internal/Backoff" "attempts" "I" (.int (4 : Int32)) := P66_1
            show OG p e _ s below _ T66 (mkF m 51 #[.val (.int p1), .val (.int (4 : Int32)), .val (.ref o54), .unset, .unset] [])
            refine own_st (fun t k => XS.iloadN X66.here hx rfl (hb hby at_51) rfl k) ?_
            show OG p e _ s below _ T66 (mkF m 52 #[.val (.int p1), .val (.int (4 : Int32)), .val (.ref o54), .unset, .unset] [(.int (4 : Int32))])
            refine own_st (fun t k => XS.iconst X66.here hx rfl (hb hby at_52) k) ?_
            show OG p e _ s below _ T66 (mkF m 53 #[.val (.int p1), .val (.int (4 : Int32)), .val (.ref o54), .unset, .unset] [(.int (4 : Int32)), (.int (4 : Int32))])
            refine own_st (fun t k => XS.icmpYes X66.here hx rfl (pc0 := 53) (pc' := 60) rfl (hb hby at_53) rfl (by decide) (by decide) (by decide) k) ?_
            show OG p e _ s below _ T66 (mkF m 60 #[.val (.int p1), .val (.int (4 : Int32)), .val (.ref o54), .unset, .unset] [])
            refine own_st (fun t k => XS.iloadN X66.here hx rfl (hb hby at_60) rfl k) ?_
            show OG p e _ s below _ T66 (mkF m 61 #[.val (.int p1), .val (.int (4 : Int32)), .val (.ref o54), .unset, .unset] [(.int (4 : Int32))])
            refine own_st (fun t k => XS.iconst X66.here hx rfl (hb hby at_61) k) ?_
            show OG p e _ s below _ T66 (mkF m 62 #[.val (.int p1), .val (.int (4 : Int32)), .val (.ref o54), .unset, .unset] [(.int (5 : Int32)), (.int (4 : Int32))])
            refine own_st (fun t k => XS.icmpYes X66.here hx rfl (pc0 := 62) (pc' := 69) rfl (hb hby at_62) rfl (by decide) (by decide) (by decide) k) ?_
            show OG p e _ s below _ T66 (mkF m 69 #[.val (.int p1), .val (.int (4 : Int32)), .val (.ref o54), .unset, .unset] [])
            refine own_st (fun t k => XS.iloadN X66.here hx rfl (hb hby at_69) rfl k) ?_
            show OG p e _ s below _ T66 (mkF m 70 #[.val (.int p1), .val (.int (4 : Int32)), .val (.ref o54), .unset, .unset] [(.int (4 : Int32))])
            refine own_st (fun t k => XS.bipush X66.here hx rfl (hb hby at_70) k) ?_
            show OG p e _ s below _ T66 (mkF m 72 #[.val (.int p1), .val (.int (4 : Int32)), .val (.ref o54), .unset, .unset] [(.int (6 : Int32)), (.int (4 : Int32))])
            refine own_st (fun t k => XS.icmpYes X66.here hx rfl (pc0 := 72) (pc' := 79) rfl (hb hby at_72) rfl (by decide) (by decide) (by decide) k) ?_
            show OG p e _ s below _ T66 (mkF m 79 #[.val (.int p1), .val (.int (4 : Int32)), .val (.ref o54), .unset, .unset] [])
            refine own_st (fun t k => XS.iloadN X66.here hx rfl (hb hby at_79) rfl k) ?_
            show OG p e _ s below _ T66 (mkF m 80 #[.val (.int p1), .val (.int (4 : Int32)), .val (.ref o54), .unset, .unset] [(.int (4 : Int32))])
            refine own_st (fun t k => XS.bipush X66.here hx rfl (hb hby at_80) k) ?_
            show OG p e _ s below _ T66 (mkF m 82 #[.val (.int p1), .val (.int (4 : Int32)), .val (.ref o54), .unset, .unset] [(.int (7 : Int32)), (.int (4 : Int32))])
            refine own_st (fun t k => XS.icmpYes X66.here hx rfl (pc0 := 82) (pc' := 89) rfl (hb hby at_82) rfl (by decide) (by decide) (by decide) k) ?_
            show OG p e _ s below _ T66 (mkF m 89 #[.val (.int p1), .val (.int (4 : Int32)), .val (.ref o54), .unset, .unset] [])
            refine own_st (fun t k => XS.aloadN X66.here hx rfl (hb hby at_89) rfl rfl k) ?_
            show OG p e _ s below _ T66 (mkF m 90 #[.val (.int p1), .val (.int (4 : Int32)), .val (.ref o54), .unset, .unset] [(.ref o54)])
            obtain ⟨cq68, kq68, q68a, q68b, q68c⟩ := isOf hZ rfl P66_0
            obtain ⟨_, _, ⟨T68, L68, k68, n68⟩, -, X68, ⟨Lc68, hQ68, l68, y68, z68⟩, st68⟩ := X66.virtualBack hx (y := (⟨"com/example/tidewire/tidewire/internal/Backoff", "delayMs", "()J"⟩ : MethodName)) (z := (⟨"com/example/tidewire/tidewire/internal/Backoff", "delayMs", "()J"⟩ : MethodName)) hown (mvT hZ (hw _ (List.mem_of_getElem? (i := 9) rfl))) (mvT hZ (hw _ (List.mem_of_getElem? (i := 10) rfl))) (notFace_of_selects (args := #[]) (mvT hZ (hw _ (List.mem_of_getElem? (i := 12) rfl)))) (mvT hZ (hw _ (List.mem_of_getElem? (i := 12) rfl))) (mvT hZ (hw _ (List.mem_of_getElem? (i := 11) rfl))) (by decide) (backOf (W := 0) (rm := ({ frames := 1, cells := 0, slots := 0, locals := 15 } : Room)) (rm3_4 l Z a0 hw [] o54 T66.heap F67) hZ (hw _ (List.mem_of_getElem? (i := 13) rfl)) (hw _ (List.mem_of_getElem? (i := 2) rfl)) (by decide) (by decide)) q68a q68c (g := (mkF m 90 #[.val (.int p1), .val (.int (4 : Int32)), .val (.ref o54), .unset, .unset] [(.ref o54)])) rfl (by rw [hml]; rfl) (Steps.refl _) (argsL := []) (rest := []) (lenOf pd___J rfl) rfl (by show 2 * 0 + _ ≤ _; exact Nat.le_of_eq rfl) (hb hby at_90) (fun _ _ => ⟨rfl, rfl, (by decide : 1 + 0 ≤ _), (by decide : 1 + 0 ≤ _)⟩)
            dsimp only [Pt.U, Pt.locs, Pt.cells, Pt.slots] at X68 l68 y68 z68 st68 hQ68
            subst l68 y68 z68
            obtain ⟨rfl, rfl, e68⟩ := hQ68
            refine own_st (fun t k => st68.trans k) ?_
            have N68 := Fr.app N66 (Fr.nil n0)
            show OG p e _ s below _ T68 (mkF m 93 #[.val (.int p1), .val (.int (4 : Int32)), .val (.ref o54), .unset, .unset] [(.long f3_4)])
            refine own_st (fun t k => XS.lstoreN X68.here hx rfl (hb hby at_93) rfl (l' := #[.val (.int p1), .val (.int (4 : Int32)), .val (.ref o54), .val (.long f3_4), .second]) rfl k) ?_
            show OG p e _ s below _ T68 (mkF m 94 #[.val (.int p1), .val (.int (4 : Int32)), .val (.ref o54), .val (.long f3_4), .second] [])
            refine own_st (fun t k => XS.lloadN X68.here hx rfl (hb hby at_94) rfl k) ?_
            show OG p e _ s below _ T68 (mkF m 95 #[.val (.int p1), .val (.int (4 : Int32)), .val (.ref o54), .val (.long f3_4), .second] [(.long f3_4)])
            refine own_st (fun t k => XS.iloadN X68.here hx rfl (hb hby at_95) rfl k) ?_
            show OG p e _ s below _ T68 (mkF m 96 #[.val (.int p1), .val (.int (4 : Int32)), .val (.ref o54), .val (.long f3_4), .second] [(.int (4 : Int32)), (.long f3_4)])
            obtain ⟨_, _, ⟨T69, L69, k69, n69⟩, -, X69, ⟨Lc69, hQ69, l69, y69, z69⟩, st69⟩ := Jvm.LawKit.callS X68 hx (y := (⟨"com/example/tidewire/tidewire/internal/BackoffDelayMsPinLaw", "expected", "(I)J"⟩ : MethodName)) hown (mvT hZ (hw _ (List.mem_of_getElem? (i := 16) rfl))) (mvT hZ (hw _ (List.mem_of_getElem? (i := 17) rfl))) (mvT hZ (hw _ (List.mem_of_getElem? (i := 18) rfl))) (mvT hZ (hw _ (List.mem_of_getElem? (i := 19) rfl))) (by decide) (backOf (W := 2) (rm := ({ frames := 0, cells := 0, slots := 0, locals := 0 } : Room)) (rm4 l Z a0 hw [] (4 : Int32) T66.heap) hZ (hw _ (List.mem_of_getElem? (i := 19) rfl)) (hw _ (List.mem_of_getElem? (i := 18) rfl)) (by decide) (by decide)) (g := (mkF m 96 #[.val (.int p1), .val (.int (4 : Int32)), .val (.ref o54), .val (.long f3_4), .second] [(.int (4 : Int32)), (.long f3_4)])) rfl (by rw [hml]; rfl) (argsL := [(.int (4 : Int32))]) (rest := [(.long f3_4)]) (lenOf pd__I_J rfl) rfl (by show 2 * 0 + _ ≤ _; exact Nat.le_of_eq rfl) (hb hby at_96) (fun _ _ => ⟨rfl, e68, (by decide : 1 + 0 ≤ _), (by decide : 1 + 0 ≤ _)⟩)
            dsimp only [Pt.U, Pt.locs, Pt.cells, Pt.slots] at X69 l69 y69 z69 st69 hQ69
            subst l69 y69 z69
            obtain ⟨rfl, rfl, e69⟩ := hQ69
            refine own_st st69 ?_
            have N69 := Fr.app N68 (Fr.nil n0)
            show OG p e _ s below _ T69 (mkF m 99 #[.val (.int p1), .val (.int (4 : Int32)), .val (.ref o54), .val (.long f3_4), .second] [(.long (f4 (4 : Int32))), (.long f3_4)])
            refine own_st (fun t k => XS.lcmp X69.here hx rfl (hb hby at_99) rfl k) ?_
            show OG p e _ s below _ T69 (mkF m 100 #[.val (.int p1), .val (.int (4 : Int32)), .val (.ref o54), .val (.long f3_4), .second] [(.int (lcmpW f3_4 (f4 (4 : Int32))))])
            by_cases c70 : f3_4 = (f4 (4 : Int32))
            · refine own_st (fun t k => XS.ifNo X69.here hx rfl (hb hby at_100) rfl (own_if0 (teq ((lw_eq _ _).mpr c70)).2) k) ?_
              show OG p e _ s below _ T69 (mkF m 103 #[.val (.int p1), .val (.int (4 : Int32)), .val (.ref o54), .val (.long f3_4), .second] [])
              refine own_st (fun t k => XS.iconst X69.here hx rfl (hb hby at_103) k) ?_
              show OG p e _ s below _ T69 (mkF m 104 #[.val (.int p1), .val (.int (4 : Int32)), .val (.ref o54), .val (.long f3_4), .second] [(.int (1 : Int32))])
              refine own_st (fun t k => XS.goto X69.here hx rfl (pc0 := 104) (pc' := 108) rfl (hb hby at_104) (by decide) (by decide) k) ?_
              show OG p e _ s below _ T69 (mkF m 108 #[.val (.int p1), .val (.int (4 : Int32)), .val (.ref o54), .val (.long f3_4), .second] [(.int (1 : Int32))])
              refine own_retZ X69 hx (t := .boolean) hret (by simp) hlk (hb hby at_108) (by decide) (by decide) (w := (1 : Int32)) rfl ?_
              exact ⟨congrArg (fun z => some (Value.int z)) (show f0 p1 = (1 : Int32) from (by rw [f0, if_neg c1, if_neg c11, if_neg c23, if_neg c37, if_pos c53, if_pos c70])).symm, N69⟩
            · refine own_st (fun t k => XS.ifYes X69.here hx rfl (pc0 := 100) (pc' := 107) rfl (hb hby at_100) rfl (own_if0 (feq (fun q => c70 ((lw_eq _ _).mp q))).2) (by decide) (by decide) k) ?_
              show OG p e _ s below _ T69 (mkF m 107 #[.val (.int p1), .val (.int (4 : Int32)), .val (.ref o54), .val (.long f3_4), .second] [])
              refine own_st (fun t k => XS.iconst X69.here hx rfl (hb hby at_107) k) ?_
              show OG p e _ s below _ T69 (mkF m 108 #[.val (.int p1), .val (.int (4 : Int32)), .val (.ref o54), .val (.long f3_4), .second] [(.int (0 : Int32))])
              refine own_retZ X69 hx (t := .boolean) hret (by simp) hlk (hb hby at_108) (by decide) (by decide) (w := (0 : Int32)) rfl ?_
              exact ⟨congrArg (fun z => some (Value.int z)) (show f0 p1 = (0 : Int32) from (by rw [f0, if_neg c1, if_neg c11, if_neg c23, if_neg c37, if_pos c53, if_neg c70])).symm, N69⟩
          · skip
            by_cases c71 : (g0_1 p1) = (5 : Int32)
            · rw [c71]
              show OG p e _ s below _ s₁ (mkF m 8 #[.val (.int p1), .val (.int (5 : Int32)), .unset, .unset, .unset] [])
              obtain ⟨T72, h72, X72, e72, E72, A72, D72, -, st72⟩ := newO X0 hx hZ hown (hw _ (List.mem_of_getElem? (i := 0) rfl)) (hw _ (List.mem_of_getElem? (i := 1) rfl)) (hw _ (List.mem_of_getElem? (i := 2) rfl)) e0 (g := (mkF m 8 #[.val (.int p1), .val (.int (5 : Int32)), .unset, .unset, .unset] [])) rfl (hb hby at_8) (by decide) (by decide)
              obtain ⟨o72, gb72⟩ : ∃ z, z = h0.size := ⟨_, rfl⟩
              rw [← gb72] at A72 D72 st72
              refine own_st st72 ?_
              have ge_o72 : n0 ≤ o72 := by rw [gb72]; exact Nat.le_trans Z0 (Keep.refl h0 []).1
              have sz_o72 : h0.size ≤ o72 := by rw [gb72]; exact (Keep.refl h0 []).1
              have K73 : Keep h0 h72 [] := (Keep.refl h0 []).ext E72
              have F74 : Fld Z h72 o72 "com/example/tidewire/tidewire/internal/Backoff" "attempts" "I" (.int (0 : Int32)) := D72 (Or.inl (hw _ (List.mem_of_getElem? (i := 15) rfl))) (ty := .int) (by decide)
              show OG p e _ s below _ T72 (mkF m 11 #[.val (.int p1), .val (.int (5 : Int32)), .unset, .unset, .unset] [(.ref o72)])
              refine own_st (fun t k => XS.dup X72.here hx rfl (hb hby at_11) rfl rfl k) ?_
              show OG p e _ s below _ T72 (mkF m 12 #[.val (.int p1), .val (.int (5 : Int32)), .unset, .unset, .unset] [(.ref o72), (.ref o72)])
              obtain ⟨_, _, ⟨T75, L75, k75, n75⟩, -, X75, ⟨Lc75, hQ75, l75, y75, z75⟩, st75⟩ := X72.specialBack hx (y := (⟨"com/example/tidewire/tidewire/internal/Backoff", "<init>", "()V"⟩ : MethodName)) rfl hown (mvT hZ (hw _ (List.mem_of_getElem? (i := 3) rfl))) (mvT hZ (hw _ (List.mem_of_getElem? (i := 4) rfl))) (mvT hZ (hw _ (List.mem_of_getElem? (i := 5) rfl))) (by decide) (backOf (W := 1) (rm := ({ frames := 1, cells := 0, slots := 0, locals := 12 } : Room)) (rm1 l Z a0 hw [] o72 h72 n0) hZ (hw _ (List.mem_of_getElem? (i := 5) rfl)) (hw _ (List.mem_of_getElem? (i := 2) rfl)) (by decide) (by decide)) (g := (mkF m 12 #[.val (.int p1), .val (.int (5 : Int32)), .unset, .unset, .unset] [(.ref o72), (.ref o72)])) rfl (by rw [hml]; rfl) (Steps.refl _) (a := o72) (argsL := []) (rest := [(.ref o72)]) (lenOf pd___V rfl) rfl (by show 2 * 0 + _ ≤ _; exact Nat.le_of_eq rfl) (hb hby at_12) (fun _ _ => ⟨rfl, e72, (by decide : 1 + 0 ≤ _), (by decide : 1 + 0 ≤ _)⟩)
              dsimp only [Pt.U, Pt.locs, Pt.cells, Pt.slots] at X75 l75 y75 z75 st75 hQ75
              subst l75 y75 z75
              obtain ⟨rfl, N75q, K75q⟩ := hQ75
              refine own_st (fun t k => st75.trans k) ?_
              have N75 := Fr.app N0 N75q
              have K75 : Keep h0 T75.heap [] := K73.trans K75q (own_all0 )
              have F76 : Exa Z T75.heap o72 "com/example/tidewire/tidewire/internal/Backoff" := (A72.keep K75q)
              have F77 : Fld Z T75.heap o72 "com/example/tidewire/tidewire/internal/Backoff" "attempts" "I" (.int (0 : Int32)) := (F74.keep K75q (own_nin0 ))
              show OG p e _ s below _ T75 (mkF m 15 #[.val (.int p1), .val (.int (5 : Int32)), .unset, .unset, .unset] [(.ref o72)])
              refine own_st (fun t k => XS.astoreN X75.here hx rfl (hb hby at_15) rfl rfl (l' := #[.val (.int p1), .val (.int (5 : Int32)), .val (.ref o72), .unset, .unset]) rfl k) ?_
              show OG p e _ s below _ T75 (mkF m 16 #[.val (.int p1), .val (.int (5 : Int32)), .val (.ref o72), .unset, .unset] [])
              refine own_st (fun t k => XS.iloadN X75.here hx rfl (hb hby at_16) rfl k) ?_
              show OG p e _ s below _ T75 (mkF m 17 #[.val (.int p1), .val (.int (5 : Int32)), .val (.ref o72), .unset, .unset] [(.int (5 : Int32))])
              refine own_st (fun t k => XS.ifNo X75.here hx rfl (hb hby at_17) rfl (by decide) k) ?_
              show OG p e _ s below _ T75 (mkF m 20 #[.val (.int p1), .val (.int (5 : Int32)), .val (.ref o72), .unset, .unset] [])
              refine own_st (fun t k => XS.aloadN X75.here hx rfl (hb hby at_20) rfl rfl k) ?_
              show OG p e _ s below _ T75 (mkF m 21 #[.val (.int p1), .val (.int (5 : Int32)), .val (.ref o72), .unset, .unset] [(.ref o72)])
              obtain ⟨cq78, kq78, q78a, q78b, q78c⟩ := isOf hZ rfl F76
              obtain ⟨_, _, ⟨T78, L78, k78, n78⟩, -, X78, ⟨Lc78, hQ78, l78, y78, z78⟩, st78⟩ := X75.virtualBack hx (y := (⟨"com/example/tidewire/tidewire/internal/Backoff", "attempted", "()V"⟩ : MethodName)) (z := (⟨"com/example/tidewire/tidewire/internal/Backoff", "attempted", "()V"⟩ : MethodName)) hown (mvT hZ (hw _ (List.mem_of_getElem? (i := 20) rfl))) (mvT hZ (hw _ (List.mem_of_getElem? (i := 21) rfl))) (notFace_of_selects (args := #[]) (mvT hZ (hw _ (List.mem_of_getElem? (i := 23) rfl)))) (mvT hZ (hw _ (List.mem_of_getElem? (i := 23) rfl))) (mvT hZ (hw _ (List.mem_of_getElem? (i := 22) rfl))) (by decide) (backOf (W := 0) (rm := ({ frames := 0, cells := 0, slots := 0, locals := 0 } : Room)) (rm5 l Z a0 hw [] o72 (0 : Int32) T75.heap n0 F76 F77 ge_o72 (by decide)) hZ (hw _ (List.mem_of_getElem? (i := 24) rfl)) (hw _ (List.mem_of_getElem? (i := 2) rfl)) (by decide) (by decide)) q78a q78c (g := (mkF m 21 #[.val (.int p1), .val (.int (5 : Int32)), .val (.ref o72), .unset, .unset] [(.ref o72)])) rfl (by rw [hml]; rfl) (Steps.refl _) (argsL := []) (rest := []) (lenOf pd___V rfl) rfl (by show 2 * 0 + _ ≤ _; exact Nat.le_of_eq rfl) (hb hby at_21) (fun _ _ => ⟨rfl, rfl, (by decide : 1 + 0 ≤ _), (by decide : 1 + 0 ≤ _)⟩)
              dsimp only [Pt.U, Pt.locs, Pt.cells, Pt.slots] at X78 l78 y78 z78 st78 hQ78
              subst l78 y78 z78
              obtain ⟨rfl, N78q, K78q, P78_0, P78_1⟩ := hQ78
              refine own_st (fun t k => st78.trans k) ?_
              have N78 := Fr.app N75 N78q
              have K78 : Keep h0 T78.heap [] := K75.trans K78q (own_all1 (Or.inr sz_o72))
              have F79 : Fld Z T78.heap o72 "com/example/tidewire/tidewire/internal/Backoff" "attempts" "I" (.int (1 : Int32)) := P78_1
              show OG p e _ s below _ T78 (mkF m 24 #[.val (.int p1), .val (.int (5 : Int32)), .val (.ref o72), .unset, .unset] [])
              refine own_st (fun t k => XS.iloadN X78.here hx rfl (hb hby at_24) rfl k) ?_
              show OG p e _ s below _ T78 (mkF m 25 #[.val (.int p1), .val (.int (5 : Int32)), .val (.ref o72), .unset, .unset] [(.int (5 : Int32))])
              refine own_st (fun t k => XS.iconst X78.here hx rfl (hb hby at_25) k) ?_
              show OG p e _ s below _ T78 (mkF m 26 #[.val (.int p1), .val (.int (5 : Int32)), .val (.ref o72), .unset, .unset] [(.int (1 : Int32)), (.int (5 : Int32))])
              refine own_st (fun t k => XS.icmpNo X78.here hx rfl (hb hby at_26) rfl (by decide) k) ?_
              show OG p e _ s below _ T78 (mkF m 29 #[.val (.int p1), .val (.int (5 : Int32)), .val (.ref o72), .unset, .unset] [])
              refine own_st (fun t k => XS.aloadN X78.here hx rfl (hb hby at_29) rfl rfl k) ?_
              show OG p e _ s below _ T78 (mkF m 30 #[.val (.int p1), .val (.int (5 : Int32)), .val (.ref o72), .unset, .unset] [(.ref o72)])
              obtain ⟨cq80, kq80, q80a, q80b, q80c⟩ := isOf hZ rfl P78_0
              obtain ⟨_, _, ⟨T80, L80, k80, n80⟩, -, X80, ⟨Lc80, hQ80, l80, y80, z80⟩, st80⟩ := X78.virtualBack hx (y := (⟨"com/example/tidewire/tidewire/internal/Backoff", "attempted", "()V"⟩ : MethodName)) (z := (⟨"com/example/tidewire/tidewire/internal/Backoff", "attempted", "()V"⟩ : MethodName)) hown (mvT hZ (hw _ (List.mem_of_getElem? (i := 20) rfl))) (mvT hZ (hw _ (List.mem_of_getElem? (i := 21) rfl))) (notFace_of_selects (args := #[]) (mvT hZ (hw _ (List.mem_of_getElem? (i := 23) rfl)))) (mvT hZ (hw _ (List.mem_of_getElem? (i := 23) rfl))) (mvT hZ (hw _ (List.mem_of_getElem? (i := 22) rfl))) (by decide) (backOf (W := 0) (rm := ({ frames := 0, cells := 0, slots := 0, locals := 0 } : Room)) (rm5 l Z a0 hw [] o72 (1 : Int32) T78.heap n0 P78_0 F79 ge_o72 (by decide)) hZ (hw _ (List.mem_of_getElem? (i := 24) rfl)) (hw _ (List.mem_of_getElem? (i := 2) rfl)) (by decide) (by decide)) q80a q80c (g := (mkF m 30 #[.val (.int p1), .val (.int (5 : Int32)), .val (.ref o72), .unset, .unset] [(.ref o72)])) rfl (by rw [hml]; rfl) (Steps.refl _) (argsL := []) (rest := []) (lenOf pd___V rfl) rfl (by show 2 * 0 + _ ≤ _; exact Nat.le_of_eq rfl) (hb hby at_30) (fun _ _ => ⟨rfl, rfl, (by decide : 1 + 0 ≤ _), (by decide : 1 + 0 ≤ _)⟩)
              dsimp only [Pt.U, Pt.locs, Pt.cells, Pt.slots] at X80 l80 y80 z80 st80 hQ80
              subst l80 y80 z80
              obtain ⟨rfl, N80q, K80q, P80_0, P80_1⟩ := hQ80
              refine own_st (fun t k => st80.trans k) ?_
              have N80 := Fr.app N78 N80q
              have K80 : Keep h0 T80.heap [] := K78.trans K80q (own_all1 (Or.inr sz_o72))
              have F81 : Fld Z T80.heap o72 "com/example/tidewire/tidewire/internal/Backoff" "attempts" "I" (.int (2 : Int32)) := P80_1
              show OG p e _ s below _ T80 (mkF m 33 #[.val (.int p1), .val (.int (5 : Int32)), .val (.ref o72), .unset, .unset] [])
              refine own_st (fun t k => XS.iloadN X80.here hx rfl (hb hby at_33) rfl k) ?_
              show OG p e _ s below _ T80 (mkF m 34 #[.val (.int p1), .val (.int (5 : Int32)), .val (.ref o72), .unset, .unset] [(.int (5 : Int32))])
              refine own_st (fun t k => XS.iconst X80.here hx rfl (hb hby at_34) k) ?_
              show OG p e _ s below _ T80 (mkF m 35 #[.val (.int p1), .val (.int (5 : Int32)), .val (.ref o72), .unset, .unset] [(.int (2 : Int32)), (.int (5 : Int32))])
              refine own_st (fun t k => XS.icmpNo X80.here hx rfl (hb hby at_35) rfl (by decide) k) ?_
              show OG p e _ s below _ T80 (mkF m 38 #[.val (.int p1), .val (.int (5 : Int32)), .val (.ref o72), .unset, .unset] [])
              refine own_st (fun t k => XS.aloadN X80.here hx rfl (hb hby at_38) rfl rfl k) ?_
              show OG p e _ s below _ T80 (mkF m 39 #[.val (.int p1), .val (.int (5 : Int32)), .val (.ref o72), .unset, .unset] [(.ref o72)])
              obtain ⟨cq82, kq82, q82a, q82b, q82c⟩ := isOf hZ rfl P80_0
              obtain ⟨_, _, ⟨T82, L82, k82, n82⟩, -, X82, ⟨Lc82, hQ82, l82, y82, z82⟩, st82⟩ := X80.virtualBack hx (y := (⟨"com/example/tidewire/tidewire/internal/Backoff", "attempted", "()V"⟩ : MethodName)) (z := (⟨"com/example/tidewire/tidewire/internal/Backoff", "attempted", "()V"⟩ : MethodName)) hown (mvT hZ (hw _ (List.mem_of_getElem? (i := 20) rfl))) (mvT hZ (hw _ (List.mem_of_getElem? (i := 21) rfl))) (notFace_of_selects (args := #[]) (mvT hZ (hw _ (List.mem_of_getElem? (i := 23) rfl)))) (mvT hZ (hw _ (List.mem_of_getElem? (i := 23) rfl))) (mvT hZ (hw _ (List.mem_of_getElem? (i := 22) rfl))) (by decide) (backOf (W := 0) (rm := ({ frames := 0, cells := 0, slots := 0, locals := 0 } : Room)) (rm5 l Z a0 hw [] o72 (2 : Int32) T80.heap n0 P80_0 F81 ge_o72 (by decide)) hZ (hw _ (List.mem_of_getElem? (i := 24) rfl)) (hw _ (List.mem_of_getElem? (i := 2) rfl)) (by decide) (by decide)) q82a q82c (g := (mkF m 39 #[.val (.int p1), .val (.int (5 : Int32)), .val (.ref o72), .unset, .unset] [(.ref o72)])) rfl (by rw [hml]; rfl) (Steps.refl _) (argsL := []) (rest := []) (lenOf pd___V rfl) rfl (by show 2 * 0 + _ ≤ _; exact Nat.le_of_eq rfl) (hb hby at_39) (fun _ _ => ⟨rfl, rfl, (by decide : 1 + 0 ≤ _), (by decide : 1 + 0 ≤ _)⟩)
              dsimp only [Pt.U, Pt.locs, Pt.cells, Pt.slots] at X82 l82 y82 z82 st82 hQ82
              subst l82 y82 z82
              obtain ⟨rfl, N82q, K82q, P82_0, P82_1⟩ := hQ82
              refine own_st (fun t k => st82.trans k) ?_
              have N82 := Fr.app N80 N82q
              have K82 : Keep h0 T82.heap [] := K80.trans K82q (own_all1 (Or.inr sz_o72))
              have F83 : Fld Z T82.heap o72 "com/example/tidewire/tidewire/internal/Backoff" "attempts" "I" (.int (3 : Int32)) := P82_1
              show OG p e _ s below _ T82 (mkF m 42 #[.val (.int p1), .val (.int (5 : Int32)), .val (.ref o72), .unset, .unset] [])
              refine own_st (fun t k => XS.iloadN X82.here hx rfl (hb hby at_42) rfl k) ?_
              show OG p e _ s below _ T82 (mkF m 43 #[.val (.int p1), .val (.int (5 : Int32)), .val (.ref o72), .unset, .unset] [(.int (5 : Int32))])
              refine own_st (fun t k => XS.iconst X82.here hx rfl (hb hby at_43) k) ?_
              show OG p e _ s below _ T82 (mkF m 44 #[.val (.int p1), .val (.int (5 : Int32)), .val (.ref o72), .unset, .unset] [(.int (3 : Int32)), (.int (5 : Int32))])
              refine own_st (fun t k => XS.icmpNo X82.here hx rfl (hb hby at_44) rfl (by decide) k) ?_
              show OG p e _ s below _ T82 (mkF m 47 #[.val (.int p1), .val (.int (5 : Int32)), .val (.ref o72), .unset, .unset] [])
              refine own_st (fun t k => XS.aloadN X82.here hx rfl (hb hby at_47) rfl rfl k) ?_
              show OG p e _ s below _ T82 (mkF m 48 #[.val (.int p1), .val (.int (5 : Int32)), .val (.ref o72), .unset, .unset] [(.ref o72)])
              obtain ⟨cq84, kq84, q84a, q84b, q84c⟩ := isOf hZ rfl P82_0
              obtain ⟨_, _, ⟨T84, L84, k84, n84⟩, -, X84, ⟨Lc84, hQ84, l84, y84, z84⟩, st84⟩ := X82.virtualBack hx (y := (⟨"com/example/tidewire/tidewire/internal/Backoff", "attempted", "()V"⟩ : MethodName)) (z := (⟨"com/example/tidewire/tidewire/internal/Backoff", "attempted", "()V"⟩ : MethodName)) hown (mvT hZ (hw _ (List.mem_of_getElem? (i := 20) rfl))) (mvT hZ (hw _ (List.mem_of_getElem? (i := 21) rfl))) (notFace_of_selects (args := #[]) (mvT hZ (hw _ (List.mem_of_getElem? (i := 23) rfl)))) (mvT hZ (hw _ (List.mem_of_getElem? (i := 23) rfl))) (mvT hZ (hw _ (List.mem_of_getElem? (i := 22) rfl))) (by decide) (backOf (W := 0) (rm := ({ frames := 0, cells := 0, slots := 0, locals := 0 } : Room)) (rm5 l Z a0 hw [] o72 (3 : Int32) T82.heap n0 P82_0 F83 ge_o72 (by decide)) hZ (hw _ (List.mem_of_getElem? (i := 24) rfl)) (hw _ (List.mem_of_getElem? (i := 2) rfl)) (by decide) (by decide)) q84a q84c (g := (mkF m 48 #[.val (.int p1), .val (.int (5 : Int32)), .val (.ref o72), .unset, .unset] [(.ref o72)])) rfl (by rw [hml]; rfl) (Steps.refl _) (argsL := []) (rest := []) (lenOf pd___V rfl) rfl (by show 2 * 0 + _ ≤ _; exact Nat.le_of_eq rfl) (hb hby at_48) (fun _ _ => ⟨rfl, rfl, (by decide : 1 + 0 ≤ _), (by decide : 1 + 0 ≤ _)⟩)
              dsimp only [Pt.U, Pt.locs, Pt.cells, Pt.slots] at X84 l84 y84 z84 st84 hQ84
              subst l84 y84 z84
              obtain ⟨rfl, N84q, K84q, P84_0, P84_1⟩ := hQ84
              refine own_st (fun t k => st84.trans k) ?_
              have N84 := Fr.app N82 N84q
              have K84 : Keep h0 T84.heap [] := K82.trans K84q (own_all1 (Or.inr sz_o72))
              have F85 : Fld Z T84.heap o72 "com/example/tidewire/tidewire/internal/Backoff" "attempts" "I" (.int (4 : Int32)) := P84_1
              show OG p e _ s below _ T84 (mkF m 51 #[.val (.int p1), .val (.int (5 : Int32)), .val (.ref o72), .unset, .unset] [])
              refine own_st (fun t k => XS.iloadN X84.here hx rfl (hb hby at_51) rfl k) ?_
              show OG p e _ s below _ T84 (mkF m 52 #[.val (.int p1), .val (.int (5 : Int32)), .val (.ref o72), .unset, .unset] [(.int (5 : Int32))])
              refine own_st (fun t k => XS.iconst X84.here hx rfl (hb hby at_52) k) ?_
              show OG p e _ s below _ T84 (mkF m 53 #[.val (.int p1), .val (.int (5 : Int32)), .val (.ref o72), .unset, .unset] [(.int (4 : Int32)), (.int (5 : Int32))])
              refine own_st (fun t k => XS.icmpNo X84.here hx rfl (hb hby at_53) rfl (by decide) k) ?_
              show OG p e _ s below _ T84 (mkF m 56 #[.val (.int p1), .val (.int (5 : Int32)), .val (.ref o72), .unset, .unset] [])
              refine own_st (fun t k => XS.aloadN X84.here hx rfl (hb hby at_56) rfl rfl k) ?_
              show OG p e _ s below _ T84 (mkF m 57 #[.val (.int p1), .val (.int (5 : Int32)), .val (.ref o72), .unset, .unset] [(.ref o72)])
              obtain ⟨cq86, kq86, q86a, q86b, q86c⟩ := isOf hZ rfl P84_0
              obtain ⟨_, _, ⟨T86, L86, k86, n86⟩, -, X86, ⟨Lc86, hQ86, l86, y86, z86⟩, st86⟩ := X84.virtualBack hx (y := (⟨"com/example/tidewire/tidewire/internal/Backoff", "attempted", "()V"⟩ : MethodName)) (z := (⟨"com/example/tidewire/tidewire/internal/Backoff", "attempted", "()V"⟩ : MethodName)) hown (mvT hZ (hw _ (List.mem_of_getElem? (i := 20) rfl))) (mvT hZ (hw _ (List.mem_of_getElem? (i := 21) rfl))) (notFace_of_selects (args := #[]) (mvT hZ (hw _ (List.mem_of_getElem? (i := 23) rfl)))) (mvT hZ (hw _ (List.mem_of_getElem? (i := 23) rfl))) (mvT hZ (hw _ (List.mem_of_getElem? (i := 22) rfl))) (by decide) (backOf (W := 0) (rm := ({ frames := 0, cells := 0, slots := 0, locals := 0 } : Room)) (rm5 l Z a0 hw [] o72 (4 : Int32) T84.heap n0 P84_0 F85 ge_o72 (by decide)) hZ (hw _ (List.mem_of_getElem? (i := 24) rfl)) (hw _ (List.mem_of_getElem? (i := 2) rfl)) (by decide) (by decide)) q86a q86c (g := (mkF m 57 #[.val (.int p1), .val (.int (5 : Int32)), .val (.ref o72), .unset, .unset] [(.ref o72)])) rfl (by rw [hml]; rfl) (Steps.refl _) (argsL := []) (rest := []) (lenOf pd___V rfl) rfl (by show 2 * 0 + _ ≤ _; exact Nat.le_of_eq rfl) (hb hby at_57) (fun _ _ => ⟨rfl, rfl, (by decide : 1 + 0 ≤ _), (by decide : 1 + 0 ≤ _)⟩)
              dsimp only [Pt.U, Pt.locs, Pt.cells, Pt.slots] at X86 l86 y86 z86 st86 hQ86
              subst l86 y86 z86
              obtain ⟨rfl, N86q, K86q, P86_0, P86_1⟩ := hQ86
              refine own_st (fun t k => st86.trans k) ?_
              have N86 := Fr.app N84 N86q
              have K86 : Keep h0 T86.heap [] := K84.trans K86q (own_all1 (Or.inr sz_o72))
              have F87 : Fld Z T86.heap o72 "com/example/tidewire/tidewire/internal/Backoff" "attempts" "I" (.int (5 : Int32)) := P86_1
              show OG p e _ s below _ T86 (mkF m 60 #[.val (.int p1), .val (.int (5 : Int32)), .val (.ref o72), .unset, .unset] [])
              refine own_st (fun t k => XS.iloadN X86.here hx rfl (hb hby at_60) rfl k) ?_
              show OG p e _ s below _ T86 (mkF m 61 #[.val (.int p1), .val (.int (5 : Int32)), .val (.ref o72), .unset, .unset] [(.int (5 : Int32))])
              refine own_st (fun t k => XS.iconst X86.here hx rfl (hb hby at_61) k) ?_
              show OG p e _ s below _ T86 (mkF m 62 #[.val (.int p1), .val (.int (5 : Int32)), .val (.ref o72), .unset, .unset] [(.int (5 : Int32)), (.int (5 : Int32))])
              refine own_st (fun t k => XS.icmpYes X86.here hx rfl (pc0 := 62) (pc' := 69) rfl (hb hby at_62) rfl (by decide) (by decide) (by decide) k) ?_
              show OG p e _ s below _ T86 (mkF m 69 #[.val (.int p1), .val (.int (5 : Int32)), .val (.ref o72), .unset, .unset] [])
              refine own_st (fun t k => XS.iloadN X86.here hx rfl (hb hby at_69) rfl k) ?_
              show OG p e _ s below _ T86 (mkF m 70 #[.val (.int p1), .val (.int (5 : Int32)), .val (.ref o72), .unset, .unset] [(.int (5 : Int32))])
              refine own_st (fun t k => XS.bipush X86.here hx rfl (hb hby at_70) k) ?_
              show OG p e _ s below _ T86 (mkF m 72 #[.val (.int p1), .val (.int (5 : Int32)), .val (.ref o72), .unset, .unset] [(.int (6 : Int32)), (.int (5 : Int32))])
              refine own_st (fun t k => XS.icmpYes X86.here hx rfl (pc0 := 72) (pc' := 79) rfl (hb hby at_72) rfl (by decide) (by decide) (by decide) k) ?_
              show OG p e _ s below _ T86 (mkF m 79 #[.val (.int p1), .val (.int (5 : Int32)), .val (.ref o72), .unset, .unset] [])
              refine own_st (fun t k => XS.iloadN X86.here hx rfl (hb hby at_79) rfl k) ?_
              show OG p e _ s below _ T86 (mkF m 80 #[.val (.int p1), .val (.int (5 : Int32)), .val (.ref o72), .unset, .unset] [(.int (5 : Int32))])
              refine own_st (fun t k => XS.bipush X86.here hx rfl (hb hby at_80) k) ?_
              show OG p e _ s below _ T86 (mkF m 82 #[.val (.int p1), .val (.int (5 : Int32)), .val (.ref o72), .unset, .unset] [(.int (7 : Int32)), (.int (5 : Int32))])
              refine own_st (fun t k => XS.icmpYes X86.here hx rfl (pc0 := 82) (pc' := 89) rfl (hb hby at_82) rfl (by decide) (by decide) (by decide) k) ?_
              show OG p e _ s below _ T86 (mkF m 89 #[.val (.int p1), .val (.int (5 : Int32)), .val (.ref o72), .unset, .unset] [])
              refine own_st (fun t k => XS.aloadN X86.here hx rfl (hb hby at_89) rfl rfl k) ?_
              show OG p e _ s below _ T86 (mkF m 90 #[.val (.int p1), .val (.int (5 : Int32)), .val (.ref o72), .unset, .unset] [(.ref o72)])
              obtain ⟨cq88, kq88, q88a, q88b, q88c⟩ := isOf hZ rfl P86_0
              obtain ⟨_, _, ⟨T88, L88, k88, n88⟩, -, X88, ⟨Lc88, hQ88, l88, y88, z88⟩, st88⟩ := X86.virtualBack hx (y := (⟨"com/example/tidewire/tidewire/internal/Backoff", "delayMs", "()J"⟩ : MethodName)) (z := (⟨"com/example/tidewire/tidewire/internal/Backoff", "delayMs", "()J"⟩ : MethodName)) hown (mvT hZ (hw _ (List.mem_of_getElem? (i := 9) rfl))) (mvT hZ (hw _ (List.mem_of_getElem? (i := 10) rfl))) (notFace_of_selects (args := #[]) (mvT hZ (hw _ (List.mem_of_getElem? (i := 12) rfl)))) (mvT hZ (hw _ (List.mem_of_getElem? (i := 12) rfl))) (mvT hZ (hw _ (List.mem_of_getElem? (i := 11) rfl))) (by decide) (backOf (W := 0) (rm := ({ frames := 1, cells := 0, slots := 0, locals := 15 } : Room)) (rm3_5 l Z a0 hw [] o72 T86.heap F87) hZ (hw _ (List.mem_of_getElem? (i := 13) rfl)) (hw _ (List.mem_of_getElem? (i := 2) rfl)) (by decide) (by decide)) q88a q88c (g := (mkF m 90 #[.val (.int p1), .val (.int (5 : Int32)), .val (.ref o72), .unset, .unset] [(.ref o72)])) rfl (by rw [hml]; rfl) (Steps.refl _) (argsL := []) (rest := []) (lenOf pd___J rfl) rfl (by show 2 * 0 + _ ≤ _; exact Nat.le_of_eq rfl) (hb hby at_90) (fun _ _ => ⟨rfl, rfl, (by decide : 1 + 0 ≤ _), (by decide : 1 + 0 ≤ _)⟩)
              dsimp only [Pt.U, Pt.locs, Pt.cells, Pt.slots] at X88 l88 y88 z88 st88 hQ88
              subst l88 y88 z88
              obtain ⟨rfl, rfl, e88⟩ := hQ88
              refine own_st (fun t k => st88.trans k) ?_
              have N88 := Fr.app N86 (Fr.nil n0)
              show OG p e _ s below _ T88 (mkF m 93 #[.val (.int p1), .val (.int (5 : Int32)), .val (.ref o72), .unset, .unset] [(.long f3_5)])
              refine own_st (fun t k => XS.lstoreN X88.here hx rfl (hb hby at_93) rfl (l' := #[.val (.int p1), .val (.int (5 : Int32)), .val (.ref o72), .val (.long f3_5), .second]) rfl k) ?_
              show OG p e _ s below _ T88 (mkF m 94 #[.val (.int p1), .val (.int (5 : Int32)), .val (.ref o72), .val (.long f3_5), .second] [])
              refine own_st (fun t k => XS.lloadN X88.here hx rfl (hb hby at_94) rfl k) ?_
              show OG p e _ s below _ T88 (mkF m 95 #[.val (.int p1), .val (.int (5 : Int32)), .val (.ref o72), .val (.long f3_5), .second] [(.long f3_5)])
              refine own_st (fun t k => XS.iloadN X88.here hx rfl (hb hby at_95) rfl k) ?_
              show OG p e _ s below _ T88 (mkF m 96 #[.val (.int p1), .val (.int (5 : Int32)), .val (.ref o72), .val (.long f3_5), .second] [(.int (5 : Int32)), (.long f3_5)])
              obtain ⟨_, _, ⟨T89, L89, k89, n89⟩, -, X89, ⟨Lc89, hQ89, l89, y89, z89⟩, st89⟩ := Jvm.LawKit.callS X88 hx (y := (⟨"com/example/tidewire/tidewire/internal/BackoffDelayMsPinLaw", "expected", "(I)J"⟩ : MethodName)) hown (mvT hZ (hw _ (List.mem_of_getElem? (i := 16) rfl))) (mvT hZ (hw _ (List.mem_of_getElem? (i := 17) rfl))) (mvT hZ (hw _ (List.mem_of_getElem? (i := 18) rfl))) (mvT hZ (hw _ (List.mem_of_getElem? (i := 19) rfl))) (by decide) (backOf (W := 2) (rm := ({ frames := 0, cells := 0, slots := 0, locals := 0 } : Room)) (rm4 l Z a0 hw [] (5 : Int32) T86.heap) hZ (hw _ (List.mem_of_getElem? (i := 19) rfl)) (hw _ (List.mem_of_getElem? (i := 18) rfl)) (by decide) (by decide)) (g := (mkF m 96 #[.val (.int p1), .val (.int (5 : Int32)), .val (.ref o72), .val (.long f3_5), .second] [(.int (5 : Int32)), (.long f3_5)])) rfl (by rw [hml]; rfl) (argsL := [(.int (5 : Int32))]) (rest := [(.long f3_5)]) (lenOf pd__I_J rfl) rfl (by show 2 * 0 + _ ≤ _; exact Nat.le_of_eq rfl) (hb hby at_96) (fun _ _ => ⟨rfl, e88, (by decide : 1 + 0 ≤ _), (by decide : 1 + 0 ≤ _)⟩)
              dsimp only [Pt.U, Pt.locs, Pt.cells, Pt.slots] at X89 l89 y89 z89 st89 hQ89
              subst l89 y89 z89
              obtain ⟨rfl, rfl, e89⟩ := hQ89
              refine own_st st89 ?_
              have N89 := Fr.app N88 (Fr.nil n0)
              show OG p e _ s below _ T89 (mkF m 99 #[.val (.int p1), .val (.int (5 : Int32)), .val (.ref o72), .val (.long f3_5), .second] [(.long (f4 (5 : Int32))), (.long f3_5)])
              refine own_st (fun t k => XS.lcmp X89.here hx rfl (hb hby at_99) rfl k) ?_
              show OG p e _ s below _ T89 (mkF m 100 #[.val (.int p1), .val (.int (5 : Int32)), .val (.ref o72), .val (.long f3_5), .second] [(.int (lcmpW f3_5 (f4 (5 : Int32))))])
              by_cases c90 : f3_5 = (f4 (5 : Int32))
              · refine own_st (fun t k => XS.ifNo X89.here hx rfl (hb hby at_100) rfl (own_if0 (teq ((lw_eq _ _).mpr c90)).2) k) ?_
                show OG p e _ s below _ T89 (mkF m 103 #[.val (.int p1), .val (.int (5 : Int32)), .val (.ref o72), .val (.long f3_5), .second] [])
                refine own_st (fun t k => XS.iconst X89.here hx rfl (hb hby at_103) k) ?_
                show OG p e _ s below _ T89 (mkF m 104 #[.val (.int p1), .val (.int (5 : Int32)), .val (.ref o72), .val (.long f3_5), .second] [(.int (1 : Int32))])
                refine own_st (fun t k => XS.goto X89.here hx rfl (pc0 := 104) (pc' := 108) rfl (hb hby at_104) (by decide) (by decide) k) ?_
                show OG p e _ s below _ T89 (mkF m 108 #[.val (.int p1), .val (.int (5 : Int32)), .val (.ref o72), .val (.long f3_5), .second] [(.int (1 : Int32))])
                refine own_retZ X89 hx (t := .boolean) hret (by simp) hlk (hb hby at_108) (by decide) (by decide) (w := (1 : Int32)) rfl ?_
                exact ⟨congrArg (fun z => some (Value.int z)) (show f0 p1 = (1 : Int32) from (by rw [f0, if_neg c1, if_neg c11, if_neg c23, if_neg c37, if_neg c53, if_pos c71, if_pos c90])).symm, N89⟩
              · refine own_st (fun t k => XS.ifYes X89.here hx rfl (pc0 := 100) (pc' := 107) rfl (hb hby at_100) rfl (own_if0 (feq (fun q => c90 ((lw_eq _ _).mp q))).2) (by decide) (by decide) k) ?_
                show OG p e _ s below _ T89 (mkF m 107 #[.val (.int p1), .val (.int (5 : Int32)), .val (.ref o72), .val (.long f3_5), .second] [])
                refine own_st (fun t k => XS.iconst X89.here hx rfl (hb hby at_107) k) ?_
                show OG p e _ s below _ T89 (mkF m 108 #[.val (.int p1), .val (.int (5 : Int32)), .val (.ref o72), .val (.long f3_5), .second] [(.int (0 : Int32))])
                refine own_retZ X89 hx (t := .boolean) hret (by simp) hlk (hb hby at_108) (by decide) (by decide) (w := (0 : Int32)) rfl ?_
                exact ⟨congrArg (fun z => some (Value.int z)) (show f0 p1 = (0 : Int32) from (by rw [f0, if_neg c1, if_neg c11, if_neg c23, if_neg c37, if_neg c53, if_pos c71, if_neg c90])).symm, N89⟩
            · skip
              by_cases c91 : (g0_1 p1) = (6 : Int32)
              · rw [c91]
                show OG p e _ s below _ s₁ (mkF m 8 #[.val (.int p1), .val (.int (6 : Int32)), .unset, .unset, .unset] [])
                obtain ⟨T92, h92, X92, e92, E92, A92, D92, -, st92⟩ := newO X0 hx hZ hown (hw _ (List.mem_of_getElem? (i := 0) rfl)) (hw _ (List.mem_of_getElem? (i := 1) rfl)) (hw _ (List.mem_of_getElem? (i := 2) rfl)) e0 (g := (mkF m 8 #[.val (.int p1), .val (.int (6 : Int32)), .unset, .unset, .unset] [])) rfl (hb hby at_8) (by decide) (by decide)
                obtain ⟨o92, gb92⟩ : ∃ z, z = h0.size := ⟨_, rfl⟩
                rw [← gb92] at A92 D92 st92
                refine own_st st92 ?_
                have ge_o92 : n0 ≤ o92 := by rw [gb92]; exact Nat.le_trans Z0 (Keep.refl h0 []).1
                have sz_o92 : h0.size ≤ o92 := by rw [gb92]; exact (Keep.refl h0 []).1
                have K93 : Keep h0 h92 [] := (Keep.refl h0 []).ext E92
                have F94 : Fld Z h92 o92 "com/example/tidewire/tidewire/internal/Backoff" "attempts" "I" (.int (0 : Int32)) := D92 (Or.inl (hw _ (List.mem_of_getElem? (i := 15) rfl))) (ty := .int) (by decide)
                show OG p e _ s below _ T92 (mkF m 11 #[.val (.int p1), .val (.int (6 : Int32)), .unset, .unset, .unset] [(.ref o92)])
                refine own_st (fun t k => XS.dup X92.here hx rfl (hb hby at_11) rfl rfl k) ?_
                show OG p e _ s below _ T92 (mkF m 12 #[.val (.int p1), .val (.int (6 : Int32)), .unset, .unset, .unset] [(.ref o92), (.ref o92)])
                obtain ⟨_, _, ⟨T95, L95, k95, n95⟩, -, X95, ⟨Lc95, hQ95, l95, y95, z95⟩, st95⟩ := X92.specialBack hx (y := (⟨"com/example/tidewire/tidewire/internal/Backoff", "<init>", "()V"⟩ : MethodName)) rfl hown (mvT hZ (hw _ (List.mem_of_getElem? (i := 3) rfl))) (mvT hZ (hw _ (List.mem_of_getElem? (i := 4) rfl))) (mvT hZ (hw _ (List.mem_of_getElem? (i := 5) rfl))) (by decide) (backOf (W := 1) (rm := ({ frames := 1, cells := 0, slots := 0, locals := 12 } : Room)) (rm1 l Z a0 hw [] o92 h92 n0) hZ (hw _ (List.mem_of_getElem? (i := 5) rfl)) (hw _ (List.mem_of_getElem? (i := 2) rfl)) (by decide) (by decide)) (g := (mkF m 12 #[.val (.int p1), .val (.int (6 : Int32)), .unset, .unset, .unset] [(.ref o92), (.ref o92)])) rfl (by rw [hml]; rfl) (Steps.refl _) (a := o92) (argsL := []) (rest := [(.ref o92)]) (lenOf pd___V rfl) rfl (by show 2 * 0 + _ ≤ _; exact Nat.le_of_eq rfl) (hb hby at_12) (fun _ _ => ⟨rfl, e92, (by decide : 1 + 0 ≤ _), (by decide : 1 + 0 ≤ _)⟩)
                dsimp only [Pt.U, Pt.locs, Pt.cells, Pt.slots] at X95 l95 y95 z95 st95 hQ95
                subst l95 y95 z95
                obtain ⟨rfl, N95q, K95q⟩ := hQ95
                refine own_st (fun t k => st95.trans k) ?_
                have N95 := Fr.app N0 N95q
                have K95 : Keep h0 T95.heap [] := K93.trans K95q (own_all0 )
                have F96 : Exa Z T95.heap o92 "com/example/tidewire/tidewire/internal/Backoff" := (A92.keep K95q)
                have F97 : Fld Z T95.heap o92 "com/example/tidewire/tidewire/internal/Backoff" "attempts" "I" (.int (0 : Int32)) := (F94.keep K95q (own_nin0 ))
                show OG p e _ s below _ T95 (mkF m 15 #[.val (.int p1), .val (.int (6 : Int32)), .unset, .unset, .unset] [(.ref o92)])
                refine own_st (fun t k => XS.astoreN X95.here hx rfl (hb hby at_15) rfl rfl (l' := #[.val (.int p1), .val (.int (6 : Int32)), .val (.ref o92), .unset, .unset]) rfl k) ?_
                show OG p e _ s below _ T95 (mkF m 16 #[.val (.int p1), .val (.int (6 : Int32)), .val (.ref o92), .unset, .unset] [])
                refine own_st (fun t k => XS.iloadN X95.here hx rfl (hb hby at_16) rfl k) ?_
                show OG p e _ s below _ T95 (mkF m 17 #[.val (.int p1), .val (.int (6 : Int32)), .val (.ref o92), .unset, .unset] [(.int (6 : Int32))])
                refine own_st (fun t k => XS.ifNo X95.here hx rfl (hb hby at_17) rfl (by decide) k) ?_
                show OG p e _ s below _ T95 (mkF m 20 #[.val (.int p1), .val (.int (6 : Int32)), .val (.ref o92), .unset, .unset] [])
                refine own_st (fun t k => XS.aloadN X95.here hx rfl (hb hby at_20) rfl rfl k) ?_
                show OG p e _ s below _ T95 (mkF m 21 #[.val (.int p1), .val (.int (6 : Int32)), .val (.ref o92), .unset, .unset] [(.ref o92)])
                obtain ⟨cq98, kq98, q98a, q98b, q98c⟩ := isOf hZ rfl F96
                obtain ⟨_, _, ⟨T98, L98, k98, n98⟩, -, X98, ⟨Lc98, hQ98, l98, y98, z98⟩, st98⟩ := X95.virtualBack hx (y := (⟨"com/example/tidewire/tidewire/internal/Backoff", "attempted", "()V"⟩ : MethodName)) (z := (⟨"com/example/tidewire/tidewire/internal/Backoff", "attempted", "()V"⟩ : MethodName)) hown (mvT hZ (hw _ (List.mem_of_getElem? (i := 20) rfl))) (mvT hZ (hw _ (List.mem_of_getElem? (i := 21) rfl))) (notFace_of_selects (args := #[]) (mvT hZ (hw _ (List.mem_of_getElem? (i := 23) rfl)))) (mvT hZ (hw _ (List.mem_of_getElem? (i := 23) rfl))) (mvT hZ (hw _ (List.mem_of_getElem? (i := 22) rfl))) (by decide) (backOf (W := 0) (rm := ({ frames := 0, cells := 0, slots := 0, locals := 0 } : Room)) (rm5 l Z a0 hw [] o92 (0 : Int32) T95.heap n0 F96 F97 ge_o92 (by decide)) hZ (hw _ (List.mem_of_getElem? (i := 24) rfl)) (hw _ (List.mem_of_getElem? (i := 2) rfl)) (by decide) (by decide)) q98a q98c (g := (mkF m 21 #[.val (.int p1), .val (.int (6 : Int32)), .val (.ref o92), .unset, .unset] [(.ref o92)])) rfl (by rw [hml]; rfl) (Steps.refl _) (argsL := []) (rest := []) (lenOf pd___V rfl) rfl (by show 2 * 0 + _ ≤ _; exact Nat.le_of_eq rfl) (hb hby at_21) (fun _ _ => ⟨rfl, rfl, (by decide : 1 + 0 ≤ _), (by decide : 1 + 0 ≤ _)⟩)
                dsimp only [Pt.U, Pt.locs, Pt.cells, Pt.slots] at X98 l98 y98 z98 st98 hQ98
                subst l98 y98 z98
                obtain ⟨rfl, N98q, K98q, P98_0, P98_1⟩ := hQ98
                refine own_st (fun t k => st98.trans k) ?_
                have N98 := Fr.app N95 N98q
                have K98 : Keep h0 T98.heap [] := K95.trans K98q (own_all1 (Or.inr sz_o92))
                have F99 : Fld Z T98.heap o92 "com/example/tidewire/tidewire/internal/Backoff" "attempts" "I" (.int (1 : Int32)) := P98_1
                show OG p e _ s below _ T98 (mkF m 24 #[.val (.int p1), .val (.int (6 : Int32)), .val (.ref o92), .unset, .unset] [])
                refine own_st (fun t k => XS.iloadN X98.here hx rfl (hb hby at_24) rfl k) ?_
                show OG p e _ s below _ T98 (mkF m 25 #[.val (.int p1), .val (.int (6 : Int32)), .val (.ref o92), .unset, .unset] [(.int (6 : Int32))])
                refine own_st (fun t k => XS.iconst X98.here hx rfl (hb hby at_25) k) ?_
                show OG p e _ s below _ T98 (mkF m 26 #[.val (.int p1), .val (.int (6 : Int32)), .val (.ref o92), .unset, .unset] [(.int (1 : Int32)), (.int (6 : Int32))])
                refine own_st (fun t k => XS.icmpNo X98.here hx rfl (hb hby at_26) rfl (by decide) k) ?_
                show OG p e _ s below _ T98 (mkF m 29 #[.val (.int p1), .val (.int (6 : Int32)), .val (.ref o92), .unset, .unset] [])
                refine own_st (fun t k => XS.aloadN X98.here hx rfl (hb hby at_29) rfl rfl k) ?_
                show OG p e _ s below _ T98 (mkF m 30 #[.val (.int p1), .val (.int (6 : Int32)), .val (.ref o92), .unset, .unset] [(.ref o92)])
                obtain ⟨cq100, kq100, q100a, q100b, q100c⟩ := isOf hZ rfl P98_0
                obtain ⟨_, _, ⟨T100, L100, k100, n100⟩, -, X100, ⟨Lc100, hQ100, l100, y100, z100⟩, st100⟩ := X98.virtualBack hx (y := (⟨"com/example/tidewire/tidewire/internal/Backoff", "attempted", "()V"⟩ : MethodName)) (z := (⟨"com/example/tidewire/tidewire/internal/Backoff", "attempted", "()V"⟩ : MethodName)) hown (mvT hZ (hw _ (List.mem_of_getElem? (i := 20) rfl))) (mvT hZ (hw _ (List.mem_of_getElem? (i := 21) rfl))) (notFace_of_selects (args := #[]) (mvT hZ (hw _ (List.mem_of_getElem? (i := 23) rfl)))) (mvT hZ (hw _ (List.mem_of_getElem? (i := 23) rfl))) (mvT hZ (hw _ (List.mem_of_getElem? (i := 22) rfl))) (by decide) (backOf (W := 0) (rm := ({ frames := 0, cells := 0, slots := 0, locals := 0 } : Room)) (rm5 l Z a0 hw [] o92 (1 : Int32) T98.heap n0 P98_0 F99 ge_o92 (by decide)) hZ (hw _ (List.mem_of_getElem? (i := 24) rfl)) (hw _ (List.mem_of_getElem? (i := 2) rfl)) (by decide) (by decide)) q100a q100c (g := (mkF m 30 #[.val (.int p1), .val (.int (6 : Int32)), .val (.ref o92), .unset, .unset] [(.ref o92)])) rfl (by rw [hml]; rfl) (Steps.refl _) (argsL := []) (rest := []) (lenOf pd___V rfl) rfl (by show 2 * 0 + _ ≤ _; exact Nat.le_of_eq rfl) (hb hby at_30) (fun _ _ => ⟨rfl, rfl, (by decide : 1 + 0 ≤ _), (by decide : 1 + 0 ≤ _)⟩)
                dsimp only [Pt.U, Pt.locs, Pt.cells, Pt.slots] at X100 l100 y100 z100 st100 hQ100
                subst l100 y100 z100
                obtain ⟨rfl, N100q, K100q, P100_0, P100_1⟩ := hQ100
                refine own_st (fun t k => st100.trans k) ?_
                have N100 := Fr.app N98 N100q
                have K100 : Keep h0 T100.heap [] := K98.trans K100q (own_all1 (Or.inr sz_o92))
                have F101 : Fld Z T100.heap o92 "com/example/tidewire/tidewire/internal/Backoff" "attempts" "I" (.int (2 : Int32)) := P100_1
                show OG p e _ s below _ T100 (mkF m 33 #[.val (.int p1), .val (.int (6 : Int32)), .val (.ref o92), .unset, .unset] [])
                refine own_st (fun t k => XS.iloadN X100.here hx rfl (hb hby at_33) rfl k) ?_
                show OG p e _ s below _ T100 (mkF m 34 #[.val (.int p1), .val (.int (6 : Int32)), .val (.ref o92), .unset, .unset] [(.int (6 : Int32))])
                refine own_st (fun t k => XS.iconst X100.here hx rfl (hb hby at_34) k) ?_
                show OG p e _ s below _ T100 (mkF m 35 #[.val (.int p1), .val (.int (6 : Int32)), .val (.ref o92), .unset, .unset] [(.int (2 : Int32)), (.int (6 : Int32))])
                refine own_st (fun t k => XS.icmpNo X100.here hx rfl (hb hby at_35) rfl (by decide) k) ?_
                show OG p e _ s below _ T100 (mkF m 38 #[.val (.int p1), .val (.int (6 : Int32)), .val (.ref o92), .unset, .unset] [])
                refine own_st (fun t k => XS.aloadN X100.here hx rfl (hb hby at_38) rfl rfl k) ?_
                show OG p e _ s below _ T100 (mkF m 39 #[.val (.int p1), .val (.int (6 : Int32)), .val (.ref o92), .unset, .unset] [(.ref o92)])
                obtain ⟨cq102, kq102, q102a, q102b, q102c⟩ := isOf hZ rfl P100_0
                obtain ⟨_, _, ⟨T102, L102, k102, n102⟩, -, X102, ⟨Lc102, hQ102, l102, y102, z102⟩, st102⟩ := X100.virtualBack hx (y := (⟨"com/example/tidewire/tidewire/internal/Backoff", "attempted", "()V"⟩ : MethodName)) (z := (⟨"com/example/tidewire/tidewire/internal/Backoff", "attempted", "()V"⟩ : MethodName)) hown (mvT hZ (hw _ (List.mem_of_getElem? (i := 20) rfl))) (mvT hZ (hw _ (List.mem_of_getElem? (i := 21) rfl))) (notFace_of_selects (args := #[]) (mvT hZ (hw _ (List.mem_of_getElem? (i := 23) rfl)))) (mvT hZ (hw _ (List.mem_of_getElem? (i := 23) rfl))) (mvT hZ (hw _ (List.mem_of_getElem? (i := 22) rfl))) (by decide) (backOf (W := 0) (rm := ({ frames := 0, cells := 0, slots := 0, locals := 0 } : Room)) (rm5 l Z a0 hw [] o92 (2 : Int32) T100.heap n0 P100_0 F101 ge_o92 (by decide)) hZ (hw _ (List.mem_of_getElem? (i := 24) rfl)) (hw _ (List.mem_of_getElem? (i := 2) rfl)) (by decide) (by decide)) q102a q102c (g := (mkF m 39 #[.val (.int p1), .val (.int (6 : Int32)), .val (.ref o92), .unset, .unset] [(.ref o92)])) rfl (by rw [hml]; rfl) (Steps.refl _) (argsL := []) (rest := []) (lenOf pd___V rfl) rfl (by show 2 * 0 + _ ≤ _; exact Nat.le_of_eq rfl) (hb hby at_39) (fun _ _ => ⟨rfl, rfl, (by decide : 1 + 0 ≤ _), (by decide : 1 + 0 ≤ _)⟩)
                dsimp only [Pt.U, Pt.locs, Pt.cells, Pt.slots] at X102 l102 y102 z102 st102 hQ102
                subst l102 y102 z102
                obtain ⟨rfl, N102q, K102q, P102_0, P102_1⟩ := hQ102
                refine own_st (fun t k => st102.trans k) ?_
                have N102 := Fr.app N100 N102q
                have K102 : Keep h0 T102.heap [] := K100.trans K102q (own_all1 (Or.inr sz_o92))
                have F103 : Fld Z T102.heap o92 "com/example/tidewire/tidewire/internal/Backoff" "attempts" "I" (.int (3 : Int32)) := P102_1
                show OG p e _ s below _ T102 (mkF m 42 #[.val (.int p1), .val (.int (6 : Int32)), .val (.ref o92), .unset, .unset] [])
                refine own_st (fun t k => XS.iloadN X102.here hx rfl (hb hby at_42) rfl k) ?_
                show OG p e _ s below _ T102 (mkF m 43 #[.val (.int p1), .val (.int (6 : Int32)), .val (.ref o92), .unset, .unset] [(.int (6 : Int32))])
                refine own_st (fun t k => XS.iconst X102.here hx rfl (hb hby at_43) k) ?_
                show OG p e _ s below _ T102 (mkF m 44 #[.val (.int p1), .val (.int (6 : Int32)), .val (.ref o92), .unset, .unset] [(.int (3 : Int32)), (.int (6 : Int32))])
                refine own_st (fun t k => XS.icmpNo X102.here hx rfl (hb hby at_44) rfl (by decide) k) ?_
                show OG p e _ s below _ T102 (mkF m 47 #[.val (.int p1), .val (.int (6 : Int32)), .val (.ref o92), .unset, .unset] [])
                refine own_st (fun t k => XS.aloadN X102.here hx rfl (hb hby at_47) rfl rfl k) ?_
                show OG p e _ s below _ T102 (mkF m 48 #[.val (.int p1), .val (.int (6 : Int32)), .val (.ref o92), .unset, .unset] [(.ref o92)])
                obtain ⟨cq104, kq104, q104a, q104b, q104c⟩ := isOf hZ rfl P102_0
                obtain ⟨_, _, ⟨T104, L104, k104, n104⟩, -, X104, ⟨Lc104, hQ104, l104, y104, z104⟩, st104⟩ := X102.virtualBack hx (y := (⟨"com/example/tidewire/tidewire/internal/Backoff", "attempted", "()V"⟩ : MethodName)) (z := (⟨"com/example/tidewire/tidewire/internal/Backoff", "attempted", "()V"⟩ : MethodName)) hown (mvT hZ (hw _ (List.mem_of_getElem? (i := 20) rfl))) (mvT hZ (hw _ (List.mem_of_getElem? (i := 21) rfl))) (notFace_of_selects (args := #[]) (mvT hZ (hw _ (List.mem_of_getElem? (i := 23) rfl)))) (mvT hZ (hw _ (List.mem_of_getElem? (i := 23) rfl))) (mvT hZ (hw _ (List.mem_of_getElem? (i := 22) rfl))) (by decide) (backOf (W := 0) (rm := ({ frames := 0, cells := 0, slots := 0, locals := 0 } : Room)) (rm5 l Z a0 hw [] o92 (3 : Int32) T102.heap n0 P102_0 F103 ge_o92 (by decide)) hZ (hw _ (List.mem_of_getElem? (i := 24) rfl)) (hw _ (List.mem_of_getElem? (i := 2) rfl)) (by decide) (by decide)) q104a q104c (g := (mkF m 48 #[.val (.int p1), .val (.int (6 : Int32)), .val (.ref o92), .unset, .unset] [(.ref o92)])) rfl (by rw [hml]; rfl) (Steps.refl _) (argsL := []) (rest := []) (lenOf pd___V rfl) rfl (by show 2 * 0 + _ ≤ _; exact Nat.le_of_eq rfl) (hb hby at_48) (fun _ _ => ⟨rfl, rfl, (by decide : 1 + 0 ≤ _), (by decide : 1 + 0 ≤ _)⟩)
                dsimp only [Pt.U, Pt.locs, Pt.cells, Pt.slots] at X104 l104 y104 z104 st104 hQ104
                subst l104 y104 z104
                obtain ⟨rfl, N104q, K104q, P104_0, P104_1⟩ := hQ104
                refine own_st (fun t k => st104.trans k) ?_
                have N104 := Fr.app N102 N104q
                have K104 : Keep h0 T104.heap [] := K102.trans K104q (own_all1 (Or.inr sz_o92))
                have F105 : Fld Z T104.heap o92 "com/example/tidewire/tidewire/internal/Backoff" "attempts" "I" (.int (4 : Int32)) := P104_1
                show OG p e _ s below _ T104 (mkF m 51 #[.val (.int p1), .val (.int (6 : Int32)), .val (.ref o92), .unset, .unset] [])
                refine own_st (fun t k => XS.iloadN X104.here hx rfl (hb hby at_51) rfl k) ?_
                show OG p e _ s below _ T104 (mkF m 52 #[.val (.int p1), .val (.int (6 : Int32)), .val (.ref o92), .unset, .unset] [(.int (6 : Int32))])
                refine own_st (fun t k => XS.iconst X104.here hx rfl (hb hby at_52) k) ?_
                show OG p e _ s below _ T104 (mkF m 53 #[.val (.int p1), .val (.int (6 : Int32)), .val (.ref o92), .unset, .unset] [(.int (4 : Int32)), (.int (6 : Int32))])
                refine own_st (fun t k => XS.icmpNo X104.here hx rfl (hb hby at_53) rfl (by decide) k) ?_
                show OG p e _ s below _ T104 (mkF m 56 #[.val (.int p1), .val (.int (6 : Int32)), .val (.ref o92), .unset, .unset] [])
                refine own_st (fun t k => XS.aloadN X104.here hx rfl (hb hby at_56) rfl rfl k) ?_
                show OG p e _ s below _ T104 (mkF m 57 #[.val (.int p1), .val (.int (6 : Int32)), .val (.ref o92), .unset, .unset] [(.ref o92)])
                obtain ⟨cq106, kq106, q106a, q106b, q106c⟩ := isOf hZ rfl P104_0
                obtain ⟨_, _, ⟨T106, L106, k106, n106⟩, -, X106, ⟨Lc106, hQ106, l106, y106, z106⟩, st106⟩ := X104.virtualBack hx (y := (⟨"com/example/tidewire/tidewire/internal/Backoff", "attempted", "()V"⟩ : MethodName)) (z := (⟨"com/example/tidewire/tidewire/internal/Backoff", "attempted", "()V"⟩ : MethodName)) hown (mvT hZ (hw _ (List.mem_of_getElem? (i := 20) rfl))) (mvT hZ (hw _ (List.mem_of_getElem? (i := 21) rfl))) (notFace_of_selects (args := #[]) (mvT hZ (hw _ (List.mem_of_getElem? (i := 23) rfl)))) (mvT hZ (hw _ (List.mem_of_getElem? (i := 23) rfl))) (mvT hZ (hw _ (List.mem_of_getElem? (i := 22) rfl))) (by decide) (backOf (W := 0) (rm := ({ frames := 0, cells := 0, slots := 0, locals := 0 } : Room)) (rm5 l Z a0 hw [] o92 (4 : Int32) T104.heap n0 P104_0 F105 ge_o92 (by decide)) hZ (hw _ (List.mem_of_getElem? (i := 24) rfl)) (hw _ (List.mem_of_getElem? (i := 2) rfl)) (by decide) (by decide)) q106a q106c (g := (mkF m 57 #[.val (.int p1), .val (.int (6 : Int32)), .val (.ref o92), .unset, .unset] [(.ref o92)])) rfl (by rw [hml]; rfl) (Steps.refl _) (argsL := []) (rest := []) (lenOf pd___V rfl) rfl (by show 2 * 0 + _ ≤ _; exact Nat.le_of_eq rfl) (hb hby at_57) (fun _ _ => ⟨rfl, rfl, (by decide : 1 + 0 ≤ _), (by decide : 1 + 0 ≤ _)⟩)
                dsimp only [Pt.U, Pt.locs, Pt.cells, Pt.slots] at X106 l106 y106 z106 st106 hQ106
                subst l106 y106 z106
                obtain ⟨rfl, N106q, K106q, P106_0, P106_1⟩ := hQ106
                refine own_st (fun t k => st106.trans k) ?_
                have N106 := Fr.app N104 N106q
                have K106 : Keep h0 T106.heap [] := K104.trans K106q (own_all1 (Or.inr sz_o92))
                have F107 : Fld Z T106.heap o92 "com/example/tidewire/tidewire/internal/Backoff" "attempts" "I" (.int (5 : Int32)) := P106_1
                show OG p e _ s below _ T106 (mkF m 60 #[.val (.int p1), .val (.int (6 : Int32)), .val (.ref o92), .unset, .unset] [])
                refine own_st (fun t k => XS.iloadN X106.here hx rfl (hb hby at_60) rfl k) ?_
                show OG p e _ s below _ T106 (mkF m 61 #[.val (.int p1), .val (.int (6 : Int32)), .val (.ref o92), .unset, .unset] [(.int (6 : Int32))])
                refine own_st (fun t k => XS.iconst X106.here hx rfl (hb hby at_61) k) ?_
                show OG p e _ s below _ T106 (mkF m 62 #[.val (.int p1), .val (.int (6 : Int32)), .val (.ref o92), .unset, .unset] [(.int (5 : Int32)), (.int (6 : Int32))])
                refine own_st (fun t k => XS.icmpNo X106.here hx rfl (hb hby at_62) rfl (by decide) k) ?_
                show OG p e _ s below _ T106 (mkF m 65 #[.val (.int p1), .val (.int (6 : Int32)), .val (.ref o92), .unset, .unset] [])
                refine own_st (fun t k => XS.aloadN X106.here hx rfl (hb hby at_65) rfl rfl k) ?_
                show OG p e _ s below _ T106 (mkF m 66 #[.val (.int p1), .val (.int (6 : Int32)), .val (.ref o92), .unset, .unset] [(.ref o92)])
                obtain ⟨cq108, kq108, q108a, q108b, q108c⟩ := isOf hZ rfl P106_0
                obtain ⟨_, _, ⟨T108, L108, k108, n108⟩, -, X108, ⟨Lc108, hQ108, l108, y108, z108⟩, st108⟩ := X106.virtualBack hx (y := (⟨"com/example/tidewire/tidewire/internal/Backoff", "attempted", "()V"⟩ : MethodName)) (z := (⟨"com/example/tidewire/tidewire/internal/Backoff", "attempted", "()V"⟩ : MethodName)) hown (mvT hZ (hw _ (List.mem_of_getElem? (i := 20) rfl))) (mvT hZ (hw _ (List.mem_of_getElem? (i := 21) rfl))) (notFace_of_selects (args := #[]) (mvT hZ (hw _ (List.mem_of_getElem? (i := 23) rfl)))) (mvT hZ (hw _ (List.mem_of_getElem? (i := 23) rfl))) (mvT hZ (hw _ (List.mem_of_getElem? (i := 22) rfl))) (by decide) (backOf (W := 0) (rm := ({ frames := 0, cells := 0, slots := 0, locals := 0 } : Room)) (rm5 l Z a0 hw [] o92 (5 : Int32) T106.heap n0 P106_0 F107 ge_o92 (by decide)) hZ (hw _ (List.mem_of_getElem? (i := 24) rfl)) (hw _ (List.mem_of_getElem? (i := 2) rfl)) (by decide) (by decide)) q108a q108c (g := (mkF m 66 #[.val (.int p1), .val (.int (6 : Int32)), .val (.ref o92), .unset, .unset] [(.ref o92)])) rfl (by rw [hml]; rfl) (Steps.refl _) (argsL := []) (rest := []) (lenOf pd___V rfl) rfl (by show 2 * 0 + _ ≤ _; exact Nat.le_of_eq rfl) (hb hby at_66) (fun _ _ => ⟨rfl, rfl, (by decide : 1 + 0 ≤ _), (by decide : 1 + 0 ≤ _)⟩)
                dsimp only [Pt.U, Pt.locs, Pt.cells, Pt.slots] at X108 l108 y108 z108 st108 hQ108
                subst l108 y108 z108
                obtain ⟨rfl, N108q, K108q, P108_0, P108_1⟩ := hQ108
                refine own_st (fun t k => st108.trans k) ?_
                have N108 := Fr.app N106 N108q
                have K108 : Keep h0 T108.heap [] := K106.trans K108q (own_all1 (Or.inr sz_o92))
                have F109 : Fld Z T108.heap o92 "com/example/tidewire/tidewire/internal/Backoff" "attempts" "I" (.int (6 : Int32)) := P108_1
                show OG p e _ s below _ T108 (mkF m 69 #[.val (.int p1), .val (.int (6 : Int32)), .val (.ref o92), .unset, .unset] [])
                refine own_st (fun t k => XS.iloadN X108.here hx rfl (hb hby at_69) rfl k) ?_
                show OG p e _ s below _ T108 (mkF m 70 #[.val (.int p1), .val (.int (6 : Int32)), .val (.ref o92), .unset, .unset] [(.int (6 : Int32))])
                refine own_st (fun t k => XS.bipush X108.here hx rfl (hb hby at_70) k) ?_
                show OG p e _ s below _ T108 (mkF m 72 #[.val (.int p1), .val (.int (6 : Int32)), .val (.ref o92), .unset, .unset] [(.int (6 : Int32)), (.int (6 : Int32))])
                refine own_st (fun t k => XS.icmpYes X108.here hx rfl (pc0 := 72) (pc' := 79) rfl (hb hby at_72) rfl (by decide) (by decide) (by decide) k) ?_
                show OG p e _ s below _ T108 (mkF m 79 #[.val (.int p1), .val (.int (6 : Int32)), .val (.ref o92), .unset, .unset] [])
                refine own_st (fun t k => XS.iloadN X108.here hx rfl (hb hby at_79) rfl k) ?_
                show OG p e _ s below _ T108 (mkF m 80 #[.val (.int p1), .val (.int (6 : Int32)), .val (.ref o92), .unset, .unset] [(.int (6 : Int32))])
                refine own_st (fun t k => XS.bipush X108.here hx rfl (hb hby at_80) k) ?_
                show OG p e _ s below _ T108 (mkF m 82 #[.val (.int p1), .val (.int (6 : Int32)), .val (.ref o92), .unset, .unset] [(.int (7 : Int32)), (.int (6 : Int32))])
                refine own_st (fun t k => XS.icmpYes X108.here hx rfl (pc0 := 82) (pc' := 89) rfl (hb hby at_82) rfl (by decide) (by decide) (by decide) k) ?_
                show OG p e _ s below _ T108 (mkF m 89 #[.val (.int p1), .val (.int (6 : Int32)), .val (.ref o92), .unset, .unset] [])
                refine own_st (fun t k => XS.aloadN X108.here hx rfl (hb hby at_89) rfl rfl k) ?_
                show OG p e _ s below _ T108 (mkF m 90 #[.val (.int p1), .val (.int (6 : Int32)), .val (.ref o92), .unset, .unset] [(.ref o92)])
                obtain ⟨cq110, kq110, q110a, q110b, q110c⟩ := isOf hZ rfl P108_0
                obtain ⟨_, _, ⟨T110, L110, k110, n110⟩, -, X110, ⟨Lc110, hQ110, l110, y110, z110⟩, st110⟩ := X108.virtualBack hx (y := (⟨"com/example/tidewire/tidewire/internal/Backoff", "delayMs", "()J"⟩ : MethodName)) (z := (⟨"com/example/tidewire/tidewire/internal/Backoff", "delayMs", "()J"⟩ : MethodName)) hown (mvT hZ (hw _ (List.mem_of_getElem? (i := 9) rfl))) (mvT hZ (hw _ (List.mem_of_getElem? (i := 10) rfl))) (notFace_of_selects (args := #[]) (mvT hZ (hw _ (List.mem_of_getElem? (i := 12) rfl)))) (mvT hZ (hw _ (List.mem_of_getElem? (i := 12) rfl))) (mvT hZ (hw _ (List.mem_of_getElem? (i := 11) rfl))) (by decide) (backOf (W := 0) (rm := ({ frames := 1, cells := 0, slots := 0, locals := 15 } : Room)) (rm3_6 l Z a0 hw [] o92 T108.heap F109) hZ (hw _ (List.mem_of_getElem? (i := 13) rfl)) (hw _ (List.mem_of_getElem? (i := 2) rfl)) (by decide) (by decide)) q110a q110c (g := (mkF m 90 #[.val (.int p1), .val (.int (6 : Int32)), .val (.ref o92), .unset, .unset] [(.ref o92)])) rfl (by rw [hml]; rfl) (Steps.refl _) (argsL := []) (rest := []) (lenOf pd___J rfl) rfl (by show 2 * 0 + _ ≤ _; exact Nat.le_of_eq rfl) (hb hby at_90) (fun _ _ => ⟨rfl, rfl, (by decide : 1 + 0 ≤ _), (by decide : 1 + 0 ≤ _)⟩)
                dsimp only [Pt.U, Pt.locs, Pt.cells, Pt.slots] at X110 l110 y110 z110 st110 hQ110
                subst l110 y110 z110
                obtain ⟨rfl, rfl, e110⟩ := hQ110
                refine own_st (fun t k => st110.trans k) ?_
                have N110 := Fr.app N108 (Fr.nil n0)
                show OG p e _ s below _ T110 (mkF m 93 #[.val (.int p1), .val (.int (6 : Int32)), .val (.ref o92), .unset, .unset] [(.long f3_6)])
                refine own_st (fun t k => XS.lstoreN X110.here hx rfl (hb hby at_93) rfl (l' := #[.val (.int p1), .val (.int (6 : Int32)), .val (.ref o92), .val (.long f3_6), .second]) rfl k) ?_
                show OG p e _ s below _ T110 (mkF m 94 #[.val (.int p1), .val (.int (6 : Int32)), .val (.ref o92), .val (.long f3_6), .second] [])
                refine own_st (fun t k => XS.lloadN X110.here hx rfl (hb hby at_94) rfl k) ?_
                show OG p e _ s below _ T110 (mkF m 95 #[.val (.int p1), .val (.int (6 : Int32)), .val (.ref o92), .val (.long f3_6), .second] [(.long f3_6)])
                refine own_st (fun t k => XS.iloadN X110.here hx rfl (hb hby at_95) rfl k) ?_
                show OG p e _ s below _ T110 (mkF m 96 #[.val (.int p1), .val (.int (6 : Int32)), .val (.ref o92), .val (.long f3_6), .second] [(.int (6 : Int32)), (.long f3_6)])
                obtain ⟨_, _, ⟨T111, L111, k111, n111⟩, -, X111, ⟨Lc111, hQ111, l111, y111, z111⟩, st111⟩ := Jvm.LawKit.callS X110 hx (y := (⟨"com/example/tidewire/tidewire/internal/BackoffDelayMsPinLaw", "expected", "(I)J"⟩ : MethodName)) hown (mvT hZ (hw _ (List.mem_of_getElem? (i := 16) rfl))) (mvT hZ (hw _ (List.mem_of_getElem? (i := 17) rfl))) (mvT hZ (hw _ (List.mem_of_getElem? (i := 18) rfl))) (mvT hZ (hw _ (List.mem_of_getElem? (i := 19) rfl))) (by decide) (backOf (W := 2) (rm := ({ frames := 0, cells := 0, slots := 0, locals := 0 } : Room)) (rm4 l Z a0 hw [] (6 : Int32) T108.heap) hZ (hw _ (List.mem_of_getElem? (i := 19) rfl)) (hw _ (List.mem_of_getElem? (i := 18) rfl)) (by decide) (by decide)) (g := (mkF m 96 #[.val (.int p1), .val (.int (6 : Int32)), .val (.ref o92), .val (.long f3_6), .second] [(.int (6 : Int32)), (.long f3_6)])) rfl (by rw [hml]; rfl) (argsL := [(.int (6 : Int32))]) (rest := [(.long f3_6)]) (lenOf pd__I_J rfl) rfl (by show 2 * 0 + _ ≤ _; exact Nat.le_of_eq rfl) (hb hby at_96) (fun _ _ => ⟨rfl, e110, (by decide : 1 + 0 ≤ _), (by decide : 1 + 0 ≤ _)⟩)
                dsimp only [Pt.U, Pt.locs, Pt.cells, Pt.slots] at X111 l111 y111 z111 st111 hQ111
                subst l111 y111 z111
                obtain ⟨rfl, rfl, e111⟩ := hQ111
                refine own_st st111 ?_
                have N111 := Fr.app N110 (Fr.nil n0)
                show OG p e _ s below _ T111 (mkF m 99 #[.val (.int p1), .val (.int (6 : Int32)), .val (.ref o92), .val (.long f3_6), .second] [(.long (f4 (6 : Int32))), (.long f3_6)])
                refine own_st (fun t k => XS.lcmp X111.here hx rfl (hb hby at_99) rfl k) ?_
                show OG p e _ s below _ T111 (mkF m 100 #[.val (.int p1), .val (.int (6 : Int32)), .val (.ref o92), .val (.long f3_6), .second] [(.int (lcmpW f3_6 (f4 (6 : Int32))))])
                by_cases c112 : f3_6 = (f4 (6 : Int32))
                · refine own_st (fun t k => XS.ifNo X111.here hx rfl (hb hby at_100) rfl (own_if0 (teq ((lw_eq _ _).mpr c112)).2) k) ?_
                  show OG p e _ s below _ T111 (mkF m 103 #[.val (.int p1), .val (.int (6 : Int32)), .val (.ref o92), .val (.long f3_6), .second] [])
                  refine own_st (fun t k => XS.iconst X111.here hx rfl (hb hby at_103) k) ?_
                  show OG p e _ s below _ T111 (mkF m 104 #[.val (.int p1), .val (.int (6 : Int32)), .val (.ref o92), .val (.long f3_6), .second] [(.int (1 : Int32))])
                  refine own_st (fun t k => XS.goto X111.here hx rfl (pc0 := 104) (pc' := 108) rfl (hb hby at_104) (by decide) (by decide) k) ?_
                  show OG p e _ s below _ T111 (mkF m 108 #[.val (.int p1), .val (.int (6 : Int32)), .val (.ref o92), .val (.long f3_6), .second] [(.int (1 : Int32))])
                  refine own_retZ X111 hx (t := .boolean) hret (by simp) hlk (hb hby at_108) (by decide) (by decide) (w := (1 : Int32)) rfl ?_
                  exact ⟨congrArg (fun z => some (Value.int z)) (show f0 p1 = (1 : Int32) from (by rw [f0, if_neg c1, if_neg c11, if_neg c23, if_neg c37, if_neg c53, if_neg c71, if_pos c91, if_pos c112])).symm, N111⟩
                · refine own_st (fun t k => XS.ifYes X111.here hx rfl (pc0 := 100) (pc' := 107) rfl (hb hby at_100) rfl (own_if0 (feq (fun q => c112 ((lw_eq _ _).mp q))).2) (by decide) (by decide) k) ?_
                  show OG p e _ s below _ T111 (mkF m 107 #[.val (.int p1), .val (.int (6 : Int32)), .val (.ref o92), .val (.long f3_6), .second] [])
                  refine own_st (fun t k => XS.iconst X111.here hx rfl (hb hby at_107) k) ?_
                  show OG p e _ s below _ T111 (mkF m 108 #[.val (.int p1), .val (.int (6 : Int32)), .val (.ref o92), .val (.long f3_6), .second] [(.int (0 : Int32))])
                  refine own_retZ X111 hx (t := .boolean) hret (by simp) hlk (hb hby at_108) (by decide) (by decide) (w := (0 : Int32)) rfl ?_
                  exact ⟨congrArg (fun z => some (Value.int z)) (show f0 p1 = (0 : Int32) from (by rw [f0, if_neg c1, if_neg c11, if_neg c23, if_neg c37, if_neg c53, if_neg c71, if_pos c91, if_neg c112])).symm, N111⟩
              · skip
                by_cases c113 : (g0_1 p1) = (7 : Int32)
                · rw [c113]
                  show OG p e _ s below _ s₁ (mkF m 8 #[.val (.int p1), .val (.int (7 : Int32)), .unset, .unset, .unset] [])
                  obtain ⟨T114, h114, X114, e114, E114, A114, D114, -, st114⟩ := newO X0 hx hZ hown (hw _ (List.mem_of_getElem? (i := 0) rfl)) (hw _ (List.mem_of_getElem? (i := 1) rfl)) (hw _ (List.mem_of_getElem? (i := 2) rfl)) e0 (g := (mkF m 8 #[.val (.int p1), .val (.int (7 : Int32)), .unset, .unset, .unset] [])) rfl (hb hby at_8) (by decide) (by decide)
                  obtain ⟨o114, gb114⟩ : ∃ z, z = h0.size := ⟨_, rfl⟩
                  rw [← gb114] at A114 D114 st114
                  refine own_st st114 ?_
                  have ge_o114 : n0 ≤ o114 := by rw [gb114]; exact Nat.le_trans Z0 (Keep.refl h0 []).1
                  have sz_o114 : h0.size ≤ o114 := by rw [gb114]; exact (Keep.refl h0 []).1
                  have K115 : Keep h0 h114 [] := (Keep.refl h0 []).ext E114
                  have F116 : Fld Z h114 o114 "com/example/tidewire/tidewire/internal/Backoff" "attempts" "I" (.int (0 : Int32)) := D114 (Or.inl (hw _ (List.mem_of_getElem? (i := 15) rfl))) (ty := .int) (by decide)
                  show OG p e _ s below _ T114 (mkF m 11 #[.val (.int p1), .val (.int (7 : Int32)), .unset, .unset, .unset] [(.ref o114)])
                  refine own_st (fun t k => XS.dup X114.here hx rfl (hb hby at_11) rfl rfl k) ?_
                  show OG p e _ s below _ T114 (mkF m 12 #[.val (.int p1), .val (.int (7 : Int32)), .unset, .unset, .unset] [(.ref o114), (.ref o114)])
                  obtain ⟨_, _, ⟨T117, L117, k117, n117⟩, -, X117, ⟨Lc117, hQ117, l117, y117, z117⟩, st117⟩ := X114.specialBack hx (y := (⟨"com/example/tidewire/tidewire/internal/Backoff", "<init>", "()V"⟩ : MethodName)) rfl hown (mvT hZ (hw _ (List.mem_of_getElem? (i := 3) rfl))) (mvT hZ (hw _ (List.mem_of_getElem? (i := 4) rfl))) (mvT hZ (hw _ (List.mem_of_getElem? (i := 5) rfl))) (by decide) (backOf (W := 1) (rm := ({ frames := 1, cells := 0, slots := 0, locals := 12 } : Room)) (rm1 l Z a0 hw [] o114 h114 n0) hZ (hw _ (List.mem_of_getElem? (i := 5) rfl)) (hw _ (List.mem_of_getElem? (i := 2) rfl)) (by decide) (by decide)) (g := (mkF m 12 #[.val (.int p1), .val (.int (7 : Int32)), .unset, .unset, .unset] [(.ref o114), (.ref o114)])) rfl (by rw [hml]; rfl) (Steps.refl _) (a := o114) (argsL := []) (rest := [(.ref o114)]) (lenOf pd___V rfl) rfl (by show 2 * 0 + _ ≤ _; exact Nat.le_of_eq rfl) (hb hby at_12) (fun _ _ => ⟨rfl, e114, (by decide : 1 + 0 ≤ _), (by decide : 1 + 0 ≤ _)⟩)
                  dsimp only [Pt.U, Pt.locs, Pt.cells, Pt.slots] at X117 l117 y117 z117 st117 hQ117
                  subst l117 y117 z117
                  obtain ⟨rfl, N117q, K117q⟩ := hQ117
                  refine own_st (fun t k => st117.trans k) ?_
                  have N117 := Fr.app N0 N117q
                  have K117 : Keep h0 T117.heap [] := K115.trans K117q (own_all0 )
                  have F118 : Exa Z T117.heap o114 "com/example/tidewire/tidewire/internal/Backoff" := (A114.keep K117q)
                  have F119 : Fld Z T117.heap o114 "com/example/tidewire/tidewire/internal/Backoff" "attempts" "I" (.int (0 : Int32)) := (F116.keep K117q (own_nin0 ))
                  show OG p e _ s below _ T117 (mkF m 15 #[.val (.int p1), .val (.int (7 : Int32)), .unset, .unset, .unset] [(.ref o114)])
                  refine own_st (fun t k => XS.astoreN X117.here hx rfl (hb hby at_15) rfl rfl (l' := #[.val (.int p1), .val (.int (7 : Int32)), .val (.ref o114), .unset, .unset]) rfl k) ?_
                  show OG p e _ s below _ T117 (mkF m 16 #[.val (.int p1), .val (.int (7 : Int32)), .val (.ref o114), .unset, .unset] [])
                  refine own_st (fun t k => XS.iloadN X117.here hx rfl (hb hby at_16) rfl k) ?_
                  show OG p e _ s below _ T117 (mkF m 17 #[.val (.int p1), .val (.int (7 : Int32)), .val (.ref o114), .unset, .unset] [(.int (7 : Int32))])
                  refine own_st (fun t k => XS.ifNo X117.here hx rfl (hb hby at_17) rfl (by decide) k) ?_
                  show OG p e _ s below _ T117 (mkF m 20 #[.val (.int p1), .val (.int (7 : Int32)), .val (.ref o114), .unset, .unset] [])
                  refine own_st (fun t k => XS.aloadN X117.here hx rfl (hb hby at_20) rfl rfl k) ?_
                  show OG p e _ s below _ T117 (mkF m 21 #[.val (.int p1), .val (.int (7 : Int32)), .val (.ref o114), .unset, .unset] [(.ref o114)])
                  obtain ⟨cq120, kq120, q120a, q120b, q120c⟩ := isOf hZ rfl F118
                  obtain ⟨_, _, ⟨T120, L120, k120, n120⟩, -, X120, ⟨Lc120, hQ120, l120, y120, z120⟩, st120⟩ := X117.virtualBack hx (y := (⟨"com/example/tidewire/tidewire/internal/Backoff", "attempted", "()V"⟩ : MethodName)) (z := (⟨"com/example/tidewire/tidewire/internal/Backoff", "attempted", "()V"⟩ : MethodName)) hown (mvT hZ (hw _ (List.mem_of_getElem? (i := 20) rfl))) (mvT hZ (hw _ (List.mem_of_getElem? (i := 21) rfl))) (notFace_of_selects (args := #[]) (mvT hZ (hw _ (List.mem_of_getElem? (i := 23) rfl)))) (mvT hZ (hw _ (List.mem_of_getElem? (i := 23) rfl))) (mvT hZ (hw _ (List.mem_of_getElem? (i := 22) rfl))) (by decide) (backOf (W := 0) (rm := ({ frames := 0, cells := 0, slots := 0, locals := 0 } : Room)) (rm5 l Z a0 hw [] o114 (0 : Int32) T117.heap n0 F118 F119 ge_o114 (by decide)) hZ (hw _ (List.mem_of_getElem? (i := 24) rfl)) (hw _ (List.mem_of_getElem? (i := 2) rfl)) (by decide) (by decide)) q120a q120c (g := (mkF m 21 #[.val (.int p1), .val (.int (7 : Int32)), .val (.ref o114), .unset, .unset] [(.ref o114)])) rfl (by rw [hml]; rfl) (Steps.refl _) (argsL := []) (rest := []) (lenOf pd___V rfl) rfl (by show 2 * 0 + _ ≤ _; exact Nat.le_of_eq rfl) (hb hby at_21) (fun _ _ => ⟨rfl, rfl, (by decide : 1 + 0 ≤ _), (by decide : 1 + 0 ≤ _)⟩)
                  dsimp only [Pt.U, Pt.locs, Pt.cells, Pt.slots] at X120 l120 y120 z120 st120 hQ120
                  subst l120 y120 z120
                  obtain ⟨rfl, N120q, K120q, P120_0, P120_1⟩ := hQ120
                  refine own_st (fun t k => st120.trans k) ?_
                  have N120 := Fr.app N117 N120q
                  have K120 : Keep h0 T120.heap [] := K117.trans K120q (own_all1 (Or.inr sz_o114))
                  have F121 : Fld Z T120.heap o114 "com/example/tidewire/tidewire/internal/Backoff" "attempts" "I" (.int (1 : Int32)) := P120_1
                  show OG p e _ s below _ T120 (mkF m 24 #[.val (.int p1), .val (.int (7 : Int32)), .val (.ref o114), .unset, .unset] [])
                  refine own_st (fun t k => XS.iloadN X120.here hx rfl (hb hby at_24) rfl k) ?_
                  show OG p e _ s below _ T120 (mkF m 25 #[.val (.int p1), .val (.int (7 : Int32)), .val (.ref o114), .unset, .unset] [(.int (7 : Int32))])
                  refine own_st (fun t k => XS.iconst X120.here hx rfl (hb hby at_25) k) ?_
                  show OG p e _ s below _ T120 (mkF m 26 #[.val (.int p1), .val (.int (7 : Int32)), .val (.ref o114), .unset, .unset] [(.int (1 : Int32)), (.int (7 : Int32))])
                  refine own_st (fun t k => XS.icmpNo X120.here hx rfl (hb hby at_26) rfl (by decide) k) ?_
                  show OG p e _ s below _ T120 (mkF m 29 #[.val (.int p1), .val (.int (7 : Int32)), .val (.ref o114), .unset, .unset] [])
                  refine own_st (fun t k => XS.aloadN X120.here hx rfl (hb hby at_29) rfl rfl k) ?_
                  show OG p e _ s below _ T120 (mkF m 30 #[.val (.int p1), .val (.int (7 : Int32)), .val (.ref o114), .unset, .unset] [(.ref o114)])
                  obtain ⟨cq122, kq122, q122a, q122b, q122c⟩ := isOf hZ rfl P120_0
                  obtain ⟨_, _, ⟨T122, L122, k122, n122⟩, -, X122, ⟨Lc122, hQ122, l122, y122, z122⟩, st122⟩ := X120.virtualBack hx (y := (⟨"com/example/tidewire/tidewire/internal/Backoff", "attempted", "()V"⟩ : MethodName)) (z := (⟨"com/example/tidewire/tidewire/internal/Backoff", "attempted", "()V"⟩ : MethodName)) hown (mvT hZ (hw _ (List.mem_of_getElem? (i := 20) rfl))) (mvT hZ (hw _ (List.mem_of_getElem? (i := 21) rfl))) (notFace_of_selects (args := #[]) (mvT hZ (hw _ (List.mem_of_getElem? (i := 23) rfl)))) (mvT hZ (hw _ (List.mem_of_getElem? (i := 23) rfl))) (mvT hZ (hw _ (List.mem_of_getElem? (i := 22) rfl))) (by decide) (backOf (W := 0) (rm := ({ frames := 0, cells := 0, slots := 0, locals := 0 } : Room)) (rm5 l Z a0 hw [] o114 (1 : Int32) T120.heap n0 P120_0 F121 ge_o114 (by decide)) hZ (hw _ (List.mem_of_getElem? (i := 24) rfl)) (hw _ (List.mem_of_getElem? (i := 2) rfl)) (by decide) (by decide)) q122a q122c (g := (mkF m 30 #[.val (.int p1), .val (.int (7 : Int32)), .val (.ref o114), .unset, .unset] [(.ref o114)])) rfl (by rw [hml]; rfl) (Steps.refl _) (argsL := []) (rest := []) (lenOf pd___V rfl) rfl (by show 2 * 0 + _ ≤ _; exact Nat.le_of_eq rfl) (hb hby at_30) (fun _ _ => ⟨rfl, rfl, (by decide : 1 + 0 ≤ _), (by decide : 1 + 0 ≤ _)⟩)
                  dsimp only [Pt.U, Pt.locs, Pt.cells, Pt.slots] at X122 l122 y122 z122 st122 hQ122
                  subst l122 y122 z122
                  obtain ⟨rfl, N122q, K122q, P122_0, P122_1⟩ := hQ122
                  refine own_st (fun t k => st122.trans k) ?_
                  have N122 := Fr.app N120 N122q
                  have K122 : Keep h0 T122.heap [] := K120.trans K122q (own_all1 (Or.inr sz_o114))
                  have F123 : Fld Z T122.heap o114 "com/example/tidewire/tidewire/internal/Backoff" "attempts" "I" (.int (2 : Int32)) := P122_1
                  show OG p e _ s below _ T122 (mkF m 33 #[.val (.int p1), .val (.int (7 : Int32)), .val (.ref o114), .unset, .unset] [])
                  refine own_st (fun t k => XS.iloadN X122.here hx rfl (hb hby at_33) rfl k) ?_
                  show OG p e _ s below _ T122 (mkF m 34 #[.val (.int p1), .val (.int (7 : Int32)), .val (.ref o114), .unset, .unset] [(.int (7 : Int32))])
                  refine own_st (fun t k => XS.iconst X122.here hx rfl (hb hby at_34) k) ?_
                  show OG p e _ s below _ T122 (mkF m 35 #[.val (.int p1), .val (.int (7 : Int32)), .val (.ref o114), .unset, .unset] [(.int (2 : Int32)), (.int (7 : Int32))])
                  refine own_st (fun t k => XS.icmpNo X122.here hx rfl (hb hby at_35) rfl (by decide) k) ?_
                  show OG p e _ s below _ T122 (mkF m 38 #[.val (.int p1), .val (.int (7 : Int32)), .val (.ref o114), .unset, .unset] [])
                  refine own_st (fun t k => XS.aloadN X122.here hx rfl (hb hby at_38) rfl rfl k) ?_
                  show OG p e _ s below _ T122 (mkF m 39 #[.val (.int p1), .val (.int (7 : Int32)), .val (.ref o114), .unset, .unset] [(.ref o114)])
                  obtain ⟨cq124, kq124, q124a, q124b, q124c⟩ := isOf hZ rfl P122_0
                  obtain ⟨_, _, ⟨T124, L124, k124, n124⟩, -, X124, ⟨Lc124, hQ124, l124, y124, z124⟩, st124⟩ := X122.virtualBack hx (y := (⟨"com/example/tidewire/tidewire/internal/Backoff", "attempted", "()V"⟩ : MethodName)) (z := (⟨"com/example/tidewire/tidewire/internal/Backoff", "attempted", "()V"⟩ : MethodName)) hown (mvT hZ (hw _ (List.mem_of_getElem? (i := 20) rfl))) (mvT hZ (hw _ (List.mem_of_getElem? (i := 21) rfl))) (notFace_of_selects (args := #[]) (mvT hZ (hw _ (List.mem_of_getElem? (i := 23) rfl)))) (mvT hZ (hw _ (List.mem_of_getElem? (i := 23) rfl))) (mvT hZ (hw _ (List.mem_of_getElem? (i := 22) rfl))) (by decide) (backOf (W := 0) (rm := ({ frames := 0, cells := 0, slots := 0, locals := 0 } : Room)) (rm5 l Z a0 hw [] o114 (2 : Int32) T122.heap n0 P122_0 F123 ge_o114 (by decide)) hZ (hw _ (List.mem_of_getElem? (i := 24) rfl)) (hw _ (List.mem_of_getElem? (i := 2) rfl)) (by decide) (by decide)) q124a q124c (g := (mkF m 39 #[.val (.int p1), .val (.int (7 : Int32)), .val (.ref o114), .unset, .unset] [(.ref o114)])) rfl (by rw [hml]; rfl) (Steps.refl _) (argsL := []) (rest := []) (lenOf pd___V rfl) rfl (by show 2 * 0 + _ ≤ _; exact Nat.le_of_eq rfl) (hb hby at_39) (fun _ _ => ⟨rfl, rfl, (by decide : 1 + 0 ≤ _), (by decide : 1 + 0 ≤ _)⟩)
                  dsimp only [Pt.U, Pt.locs, Pt.cells, Pt.slots] at X124 l124 y124 z124 st124 hQ124
                  subst l124 y124 z124
                  obtain ⟨rfl, N124q, K124q, P124_0, P124_1⟩ := hQ124
                  refine own_st (fun t k => st124.trans k) ?_
                  have N124 := Fr.app N122 N124q
                  have K124 : Keep h0 T124.heap [] := K122.trans K124q (own_all1 (Or.inr sz_o114))
                  have F125 : Fld Z T124.heap o114 "com/example/tidewire/tidewire/internal/Backoff" "attempts" "I" (.int (3 : Int32)) := P124_1
                  show OG p e _ s below _ T124 (mkF m 42 #[.val (.int p1), .val (.int (7 : Int32)), .val (.ref o114), .unset, .unset] [])
                  refine own_st (fun t k => XS.iloadN X124.here hx rfl (hb hby at_42) rfl k) ?_
                  show OG p e _ s below _ T124 (mkF m 43 #[.val (.int p1), .val (.int (7 : Int32)), .val (.ref o114), .unset, .unset] [(.int (7 : Int32))])
                  refine own_st (fun t k => XS.iconst X124.here hx rfl (hb hby at_43) k) ?_
                  show OG p e _ s below _ T124 (mkF m 44 #[.val (.int p1), .val (.int (7 : Int32)), .val (.ref o114), .unset, .unset] [(.int (3 : Int32)), (.int (7 : Int32))])
                  refine own_st (fun t k => XS.icmpNo X124.here hx rfl (hb hby at_44) rfl (by decide) k) ?_
                  show OG p e _ s below _ T124 (mkF m 47 #[.val (.int p1), .val (.int (7 : Int32)), .val (.ref o114), .unset, .unset] [])
                  refine own_st (fun t k => XS.aloadN X124.here hx rfl (hb hby at_47) rfl rfl k) ?_
                  show OG p e _ s below _ T124 (mkF m 48 #[.val (.int p1), .val (.int (7 : Int32)), .val (.ref o114), .unset, .unset] [(.ref o114)])
                  obtain ⟨cq126, kq126, q126a, q126b, q126c⟩ := isOf hZ rfl P124_0
                  obtain ⟨_, _, ⟨T126, L126, k126, n126⟩, -, X126, ⟨Lc126, hQ126, l126, y126, z126⟩, st126⟩ := X124.virtualBack hx (y := (⟨"com/example/tidewire/tidewire/internal/Backoff", "attempted", "()V"⟩ : MethodName)) (z := (⟨"com/example/tidewire/tidewire/internal/Backoff", "attempted", "()V"⟩ : MethodName)) hown (mvT hZ (hw _ (List.mem_of_getElem? (i := 20) rfl))) (mvT hZ (hw _ (List.mem_of_getElem? (i := 21) rfl))) (notFace_of_selects (args := #[]) (mvT hZ (hw _ (List.mem_of_getElem? (i := 23) rfl)))) (mvT hZ (hw _ (List.mem_of_getElem? (i := 23) rfl))) (mvT hZ (hw _ (List.mem_of_getElem? (i := 22) rfl))) (by decide) (backOf (W := 0) (rm := ({ frames := 0, cells := 0, slots := 0, locals := 0 } : Room)) (rm5 l Z a0 hw [] o114 (3 : Int32) T124.heap n0 P124_0 F125 ge_o114 (by decide)) hZ (hw _ (List.mem_of_getElem? (i := 24) rfl)) (hw _ (List.mem_of_getElem? (i := 2) rfl)) (by decide) (by decide)) q126a q126c (g := (mkF m 48 #[.val (.int p1), .val (.int (7 : Int32)), .val (.ref o114), .unset, .unset] [(.ref o114)])) rfl (by rw [hml]; rfl) (Steps.refl _) (argsL := []) (rest := []) (lenOf pd___V rfl) rfl (by show 2 * 0 + _ ≤ _; exact Nat.le_of_eq rfl) (hb hby at_48) (fun _ _ => ⟨rfl, rfl, (by decide : 1 + 0 ≤ _), (by decide : 1 + 0 ≤ _)⟩)
                  dsimp only [Pt.U, Pt.locs, Pt.cells, Pt.slots] at X126 l126 y126 z126 st126 hQ126
                  subst l126 y126 z126
                  obtain ⟨rfl, N126q, K126q, P126_0, P126_1⟩ := hQ126
                  refine own_st (fun t k => st126.trans k) ?_
                  have N126 := Fr.app N124 N126q
                  have K126 : Keep h0 T126.heap [] := K124.trans K126q (own_all1 (Or.inr sz_o114))
                  have F127 : Fld Z T126.heap o114 "com/example/tidewire/tidewire/internal/Backoff" "attempts" "I" (.int (4 : Int32)) := P126_1
                  show OG p e _ s below _ T126 (mkF m 51 #[.val (.int p1), .val (.int (7 : Int32)), .val (.ref o114), .unset, .unset] [])
                  refine own_st (fun t k => XS.iloadN X126.here hx rfl (hb hby at_51) rfl k) ?_
                  show OG p e _ s below _ T126 (mkF m 52 #[.val (.int p1), .val (.int (7 : Int32)), .val (.ref o114), .unset, .unset] [(.int (7 : Int32))])
                  refine own_st (fun t k => XS.iconst X126.here hx rfl (hb hby at_52) k) ?_
                  show OG p e _ s below _ T126 (mkF m 53 #[.val (.int p1), .val (.int (7 : Int32)), .val (.ref o114), .unset, .unset] [(.int (4 : Int32)), (.int (7 : Int32))])
                  refine own_st (fun t k => XS.icmpNo X126.here hx rfl (hb hby at_53) rfl (by decide) k) ?_
                  show OG p e _ s below _ T126 (mkF m 56 #[.val (.int p1), .val (.int (7 : Int32)), .val (.ref o114), .unset, .unset] [])
                  refine own_st (fun t k => XS.aloadN X126.here hx rfl (hb hby at_56) rfl rfl k) ?_
                  show OG p e _ s below _ T126 (mkF m 57 #[.val (.int p1), .val (.int (7 : Int32)), .val (.ref o114), .unset, .unset] [(.ref o114)])
                  obtain ⟨cq128, kq128, q128a, q128b, q128c⟩ := isOf hZ rfl P126_0
                  obtain ⟨_, _, ⟨T128, L128, k128, n128⟩, -, X128, ⟨Lc128, hQ128, l128, y128, z128⟩, st128⟩ := X126.virtualBack hx (y := (⟨"com/example/tidewire/tidewire/internal/Backoff", "attempted", "()V"⟩ : MethodName)) (z := (⟨"com/example/tidewire/tidewire/internal/Backoff", "attempted", "()V"⟩ : MethodName)) hown (mvT hZ (hw _ (List.mem_of_getElem? (i := 20) rfl))) (mvT hZ (hw _ (List.mem_of_getElem? (i := 21) rfl))) (notFace_of_selects (args := #[]) (mvT hZ (hw _ (List.mem_of_getElem? (i := 23) rfl)))) (mvT hZ (hw _ (List.mem_of_getElem? (i := 23) rfl))) (mvT hZ (hw _ (List.mem_of_getElem? (i := 22) rfl))) (by decide) (backOf (W := 0) (rm := ({ frames := 0, cells := 0, slots := 0, locals := 0 } : Room)) (rm5 l Z a0 hw [] o114 (4 : Int32) T126.heap n0 P126_0 F127 ge_o114 (by decide)) hZ (hw _ (List.mem_of_getElem? (i := 24) rfl)) (hw _ (List.mem_of_getElem? (i := 2) rfl)) (by decide) (by decide)) q128a q128c (g := (mkF m 57 #[.val (.int p1), .val (.int (7 : Int32)), .val (.ref o114), .unset, .unset] [(.ref o114)])) rfl (by rw [hml]; rfl) (Steps.refl _) (argsL := []) (rest := []) (lenOf pd___V rfl) rfl (by show 2 * 0 + _ ≤ _; exact Nat.le_of_eq rfl) (hb hby at_57) (fun _ _ => ⟨rfl, rfl, (by decide : 1 + 0 ≤ _), (by decide : 1 + 0 ≤ _)⟩)
                  dsimp only [Pt.U, Pt.locs, Pt.cells, Pt.slots] at X128 l128 y128 z128 st128 hQ128
                  subst l128 y128 z128
                  obtain ⟨rfl, N128q, K128q, P128_0, P128_1⟩ := hQ128
                  refine own_st (fun t k => st128.trans k) ?_
                  have N128 := Fr.app N126 N128q
                  have K128 : Keep h0 T128.heap [] := K126.trans K128q (own_all1 (Or.inr sz_o114))
                  have F129 : Fld Z T128.heap o114 "com/example/tidewire/tidewire/internal/Backoff" "attempts" "I" (.int (5 : Int32)) := P128_1
                  show OG p e _ s below _ T128 (mkF m 60 #[.val (.int p1), .val (.int (7 : Int32)), .val (.ref o114), .unset, .unset] [])
                  refine own_st (fun t k => XS.iloadN X128.here hx rfl (hb hby at_60) rfl k) ?_
                  show OG p e _ s below _ T128 (mkF m 61 #[.val (.int p1), .val (.int (7 : Int32)), .val (.ref o114), .unset, .unset] [(.int (7 : Int32))])
                  refine own_st (fun t k => XS.iconst X128.here hx rfl (hb hby at_61) k) ?_
                  show OG p e _ s below _ T128 (mkF m 62 #[.val (.int p1), .val (.int (7 : Int32)), .val (.ref o114), .unset, .unset] [(.int (5 : Int32)), (.int (7 : Int32))])
                  refine own_st (fun t k => XS.icmpNo X128.here hx rfl (hb hby at_62) rfl (by decide) k) ?_
                  show OG p e _ s below _ T128 (mkF m 65 #[.val (.int p1), .val (.int (7 : Int32)), .val (.ref o114), .unset, .unset] [])
                  refine own_st (fun t k => XS.aloadN X128.here hx rfl (hb hby at_65) rfl rfl k) ?_
                  show OG p e _ s below _ T128 (mkF m 66 #[.val (.int p1), .val (.int (7 : Int32)), .val (.ref o114), .unset, .unset] [(.ref o114)])
                  obtain ⟨cq130, kq130, q130a, q130b, q130c⟩ := isOf hZ rfl P128_0
                  obtain ⟨_, _, ⟨T130, L130, k130, n130⟩, -, X130, ⟨Lc130, hQ130, l130, y130, z130⟩, st130⟩ := X128.virtualBack hx (y := (⟨"com/example/tidewire/tidewire/internal/Backoff", "attempted", "()V"⟩ : MethodName)) (z := (⟨"com/example/tidewire/tidewire/internal/Backoff", "attempted", "()V"⟩ : MethodName)) hown (mvT hZ (hw _ (List.mem_of_getElem? (i := 20) rfl))) (mvT hZ (hw _ (List.mem_of_getElem? (i := 21) rfl))) (notFace_of_selects (args := #[]) (mvT hZ (hw _ (List.mem_of_getElem? (i := 23) rfl)))) (mvT hZ (hw _ (List.mem_of_getElem? (i := 23) rfl))) (mvT hZ (hw _ (List.mem_of_getElem? (i := 22) rfl))) (by decide) (backOf (W := 0) (rm := ({ frames := 0, cells := 0, slots := 0, locals := 0 } : Room)) (rm5 l Z a0 hw [] o114 (5 : Int32) T128.heap n0 P128_0 F129 ge_o114 (by decide)) hZ (hw _ (List.mem_of_getElem? (i := 24) rfl)) (hw _ (List.mem_of_getElem? (i := 2) rfl)) (by decide) (by decide)) q130a q130c (g := (mkF m 66 #[.val (.int p1), .val (.int (7 : Int32)), .val (.ref o114), .unset, .unset] [(.ref o114)])) rfl (by rw [hml]; rfl) (Steps.refl _) (argsL := []) (rest := []) (lenOf pd___V rfl) rfl (by show 2 * 0 + _ ≤ _; exact Nat.le_of_eq rfl) (hb hby at_66) (fun _ _ => ⟨rfl, rfl, (by decide : 1 + 0 ≤ _), (by decide : 1 + 0 ≤ _)⟩)
                  dsimp only [Pt.U, Pt.locs, Pt.cells, Pt.slots] at X130 l130 y130 z130 st130 hQ130
                  subst l130 y130 z130
                  obtain ⟨rfl, N130q, K130q, P130_0, P130_1⟩ := hQ130
                  refine own_st (fun t k => st130.trans k) ?_
                  have N130 := Fr.app N128 N130q
                  have K130 : Keep h0 T130.heap [] := K128.trans K130q (own_all1 (Or.inr sz_o114))
                  have F131 : Fld Z T130.heap o114 "com/example/tidewire/tidewire/internal/Backoff" "attempts" "I" (.int (6 : Int32)) := P130_1
                  show OG p e _ s below _ T130 (mkF m 69 #[.val (.int p1), .val (.int (7 : Int32)), .val (.ref o114), .unset, .unset] [])
                  refine own_st (fun t k => XS.iloadN X130.here hx rfl (hb hby at_69) rfl k) ?_
                  show OG p e _ s below _ T130 (mkF m 70 #[.val (.int p1), .val (.int (7 : Int32)), .val (.ref o114), .unset, .unset] [(.int (7 : Int32))])
                  refine own_st (fun t k => XS.bipush X130.here hx rfl (hb hby at_70) k) ?_
                  show OG p e _ s below _ T130 (mkF m 72 #[.val (.int p1), .val (.int (7 : Int32)), .val (.ref o114), .unset, .unset] [(.int (6 : Int32)), (.int (7 : Int32))])
                  refine own_st (fun t k => XS.icmpNo X130.here hx rfl (hb hby at_72) rfl (by decide) k) ?_
                  show OG p e _ s below _ T130 (mkF m 75 #[.val (.int p1), .val (.int (7 : Int32)), .val (.ref o114), .unset, .unset] [])
                  refine own_st (fun t k => XS.aloadN X130.here hx rfl (hb hby at_75) rfl rfl k) ?_
                  show OG p e _ s below _ T130 (mkF m 76 #[.val (.int p1), .val (.int (7 : Int32)), .val (.ref o114), .unset, .unset] [(.ref o114)])
                  obtain ⟨cq132, kq132, q132a, q132b, q132c⟩ := isOf hZ rfl P130_0
                  obtain ⟨_, _, ⟨T132, L132, k132, n132⟩, -, X132, ⟨Lc132, hQ132, l132, y132, z132⟩, st132⟩ := X130.virtualBack hx (y := (⟨"com/example/tidewire/tidewire/internal/Backoff", "attempted", "()V"⟩ : MethodName)) (z := (⟨"com/example/tidewire/tidewire/internal/Backoff", "attempted", "()V"⟩ : MethodName)) hown (mvT hZ (hw _ (List.mem_of_getElem? (i := 20) rfl))) (mvT hZ (hw _ (List.mem_of_getElem? (i := 21) rfl))) (notFace_of_selects (args := #[]) (mvT hZ (hw _ (List.mem_of_getElem? (i := 23) rfl)))) (mvT hZ (hw _ (List.mem_of_getElem? (i := 23) rfl))) (mvT hZ (hw _ (List.mem_of_getElem? (i := 22) rfl))) (by decide) (backOf (W := 0) (rm := ({ frames := 0, cells := 0, slots := 0, locals := 0 } : Room)) (rm5 l Z a0 hw [] o114 (6 : Int32) T130.heap n0 P130_0 F131 ge_o114 (by decide)) hZ (hw _ (List.mem_of_getElem? (i := 24) rfl)) (hw _ (List.mem_of_getElem? (i := 2) rfl)) (by decide) (by decide)) q132a q132c (g := (mkF m 76 #[.val (.int p1), .val (.int (7 : Int32)), .val (.ref o114), .unset, .unset] [(.ref o114)])) rfl (by rw [hml]; rfl) (Steps.refl _) (argsL := []) (rest := []) (lenOf pd___V rfl) rfl (by show 2 * 0 + _ ≤ _; exact Nat.le_of_eq rfl) (hb hby at_76) (fun _ _ => ⟨rfl, rfl, (by decide : 1 + 0 ≤ _), (by decide : 1 + 0 ≤ _)⟩)
                  dsimp only [Pt.U, Pt.locs, Pt.cells, Pt.slots] at X132 l132 y132 z132 st132 hQ132
                  subst l132 y132 z132
                  obtain ⟨rfl, N132q, K132q, P132_0, P132_1⟩ := hQ132
                  refine own_st (fun t k => st132.trans k) ?_
                  have N132 := Fr.app N130 N132q
                  have K132 : Keep h0 T132.heap [] := K130.trans K132q (own_all1 (Or.inr sz_o114))
                  have F133 : Fld Z T132.heap o114 "com/example/tidewire/tidewire/internal/Backoff" "attempts" "I" (.int (7 : Int32)) := P132_1
                  show OG p e _ s below _ T132 (mkF m 79 #[.val (.int p1), .val (.int (7 : Int32)), .val (.ref o114), .unset, .unset] [])
                  refine own_st (fun t k => XS.iloadN X132.here hx rfl (hb hby at_79) rfl k) ?_
                  show OG p e _ s below _ T132 (mkF m 80 #[.val (.int p1), .val (.int (7 : Int32)), .val (.ref o114), .unset, .unset] [(.int (7 : Int32))])
                  refine own_st (fun t k => XS.bipush X132.here hx rfl (hb hby at_80) k) ?_
                  show OG p e _ s below _ T132 (mkF m 82 #[.val (.int p1), .val (.int (7 : Int32)), .val (.ref o114), .unset, .unset] [(.int (7 : Int32)), (.int (7 : Int32))])
                  refine own_st (fun t k => XS.icmpYes X132.here hx rfl (pc0 := 82) (pc' := 89) rfl (hb hby at_82) rfl (by decide) (by decide) (by decide) k) ?_
                  show OG p e _ s below _ T132 (mkF m 89 #[.val (.int p1), .val (.int (7 : Int32)), .val (.ref o114), .unset, .unset] [])
                  refine own_st (fun t k => XS.aloadN X132.here hx rfl (hb hby at_89) rfl rfl k) ?_
                  show OG p e _ s below _ T132 (mkF m 90 #[.val (.int p1), .val (.int (7 : Int32)), .val (.ref o114), .unset, .unset] [(.ref o114)])
                  obtain ⟨cq134, kq134, q134a, q134b, q134c⟩ := isOf hZ rfl P132_0
                  obtain ⟨_, _, ⟨T134, L134, k134, n134⟩, -, X134, ⟨Lc134, hQ134, l134, y134, z134⟩, st134⟩ := X132.virtualBack hx (y := (⟨"com/example/tidewire/tidewire/internal/Backoff", "delayMs", "()J"⟩ : MethodName)) (z := (⟨"com/example/tidewire/tidewire/internal/Backoff", "delayMs", "()J"⟩ : MethodName)) hown (mvT hZ (hw _ (List.mem_of_getElem? (i := 9) rfl))) (mvT hZ (hw _ (List.mem_of_getElem? (i := 10) rfl))) (notFace_of_selects (args := #[]) (mvT hZ (hw _ (List.mem_of_getElem? (i := 12) rfl)))) (mvT hZ (hw _ (List.mem_of_getElem? (i := 12) rfl))) (mvT hZ (hw _ (List.mem_of_getElem? (i := 11) rfl))) (by decide) (backOf (W := 0) (rm := ({ frames := 1, cells := 0, slots := 0, locals := 15 } : Room)) (rm3_7 l Z a0 hw [] o114 T132.heap F133) hZ (hw _ (List.mem_of_getElem? (i := 13) rfl)) (hw _ (List.mem_of_getElem? (i := 2) rfl)) (by decide) (by decide)) q134a q134c (g := (mkF m 90 #[.val (.int p1), .val (.int (7 : Int32)), .val (.ref o114), .unset, .unset] [(.ref o114)])) rfl (by rw [hml]; rfl) (Steps.refl _) (argsL := []) (rest := []) (lenOf pd___J rfl) rfl (by show 2 * 0 + _ ≤ _; exact Nat.le_of_eq rfl) (hb hby at_90) (fun _ _ => ⟨rfl, rfl, (by decide : 1 + 0 ≤ _), (by decide : 1 + 0 ≤ _)⟩)
                  dsimp only [Pt.U, Pt.locs, Pt.cells, Pt.slots] at X134 l134 y134 z134 st134 hQ134
                  subst l134 y134 z134
                  obtain ⟨rfl, rfl, e134⟩ := hQ134
                  refine own_st (fun t k => st134.trans k) ?_
                  have N134 := Fr.app N132 (Fr.nil n0)
                  show OG p e _ s below _ T134 (mkF m 93 #[.val (.int p1), .val (.int (7 : Int32)), .val (.ref o114), .unset, .unset] [(.long f3_7)])
                  refine own_st (fun t k => XS.lstoreN X134.here hx rfl (hb hby at_93) rfl (l' := #[.val (.int p1), .val (.int (7 : Int32)), .val (.ref o114), .val (.long f3_7), .second]) rfl k) ?_
                  show OG p e _ s below _ T134 (mkF m 94 #[.val (.int p1), .val (.int (7 : Int32)), .val (.ref o114), .val (.long f3_7), .second] [])
                  refine own_st (fun t k => XS.lloadN X134.here hx rfl (hb hby at_94) rfl k) ?_
                  show OG p e _ s below _ T134 (mkF m 95 #[.val (.int p1), .val (.int (7 : Int32)), .val (.ref o114), .val (.long f3_7), .second] [(.long f3_7)])
                  refine own_st (fun t k => XS.iloadN X134.here hx rfl (hb hby at_95) rfl k) ?_
                  show OG p e _ s below _ T134 (mkF m 96 #[.val (.int p1), .val (.int (7 : Int32)), .val (.ref o114), .val (.long f3_7), .second] [(.int (7 : Int32)), (.long f3_7)])
                  obtain ⟨_, _, ⟨T135, L135, k135, n135⟩, -, X135, ⟨Lc135, hQ135, l135, y135, z135⟩, st135⟩ := Jvm.LawKit.callS X134 hx (y := (⟨"com/example/tidewire/tidewire/internal/BackoffDelayMsPinLaw", "expected", "(I)J"⟩ : MethodName)) hown (mvT hZ (hw _ (List.mem_of_getElem? (i := 16) rfl))) (mvT hZ (hw _ (List.mem_of_getElem? (i := 17) rfl))) (mvT hZ (hw _ (List.mem_of_getElem? (i := 18) rfl))) (mvT hZ (hw _ (List.mem_of_getElem? (i := 19) rfl))) (by decide) (backOf (W := 2) (rm := ({ frames := 0, cells := 0, slots := 0, locals := 0 } : Room)) (rm4 l Z a0 hw [] (7 : Int32) T132.heap) hZ (hw _ (List.mem_of_getElem? (i := 19) rfl)) (hw _ (List.mem_of_getElem? (i := 18) rfl)) (by decide) (by decide)) (g := (mkF m 96 #[.val (.int p1), .val (.int (7 : Int32)), .val (.ref o114), .val (.long f3_7), .second] [(.int (7 : Int32)), (.long f3_7)])) rfl (by rw [hml]; rfl) (argsL := [(.int (7 : Int32))]) (rest := [(.long f3_7)]) (lenOf pd__I_J rfl) rfl (by show 2 * 0 + _ ≤ _; exact Nat.le_of_eq rfl) (hb hby at_96) (fun _ _ => ⟨rfl, e134, (by decide : 1 + 0 ≤ _), (by decide : 1 + 0 ≤ _)⟩)
                  dsimp only [Pt.U, Pt.locs, Pt.cells, Pt.slots] at X135 l135 y135 z135 st135 hQ135
                  subst l135 y135 z135
                  obtain ⟨rfl, rfl, e135⟩ := hQ135
                  refine own_st st135 ?_
                  have N135 := Fr.app N134 (Fr.nil n0)
                  show OG p e _ s below _ T135 (mkF m 99 #[.val (.int p1), .val (.int (7 : Int32)), .val (.ref o114), .val (.long f3_7), .second] [(.long (f4 (7 : Int32))), (.long f3_7)])
                  refine own_st (fun t k => XS.lcmp X135.here hx rfl (hb hby at_99) rfl k) ?_
                  show OG p e _ s below _ T135 (mkF m 100 #[.val (.int p1), .val (.int (7 : Int32)), .val (.ref o114), .val (.long f3_7), .second] [(.int (lcmpW f3_7 (f4 (7 : Int32))))])
                  by_cases c136 : f3_7 = (f4 (7 : Int32))
                  · refine own_st (fun t k => XS.ifNo X135.here hx rfl (hb hby at_100) rfl (own_if0 (teq ((lw_eq _ _).mpr c136)).2) k) ?_
                    show OG p e _ s below _ T135 (mkF m 103 #[.val (.int p1), .val (.int (7 : Int32)), .val (.ref o114), .val (.long f3_7), .second] [])
                    refine own_st (fun t k => XS.iconst X135.here hx rfl (hb hby at_103) k) ?_
                    show OG p e _ s below _ T135 (mkF m 104 #[.val (.int p1), .val (.int (7 : Int32)), .val (.ref o114), .val (.long f3_7), .second] [(.int (1 : Int32))])
                    refine own_st (fun t k => XS.goto X135.here hx rfl (pc0 := 104) (pc' := 108) rfl (hb hby at_104) (by decide) (by decide) k) ?_
                    show OG p e _ s below _ T135 (mkF m 108 #[.val (.int p1), .val (.int (7 : Int32)), .val (.ref o114), .val (.long f3_7), .second] [(.int (1 : Int32))])
                    refine own_retZ X135 hx (t := .boolean) hret (by simp) hlk (hb hby at_108) (by decide) (by decide) (w := (1 : Int32)) rfl ?_
                    exact ⟨congrArg (fun z => some (Value.int z)) (show f0 p1 = (1 : Int32) from (by rw [f0, if_neg c1, if_neg c11, if_neg c23, if_neg c37, if_neg c53, if_neg c71, if_neg c91, if_pos c113, if_pos c136])).symm, N135⟩
                  · refine own_st (fun t k => XS.ifYes X135.here hx rfl (pc0 := 100) (pc' := 107) rfl (hb hby at_100) rfl (own_if0 (feq (fun q => c136 ((lw_eq _ _).mp q))).2) (by decide) (by decide) k) ?_
                    show OG p e _ s below _ T135 (mkF m 107 #[.val (.int p1), .val (.int (7 : Int32)), .val (.ref o114), .val (.long f3_7), .second] [])
                    refine own_st (fun t k => XS.iconst X135.here hx rfl (hb hby at_107) k) ?_
                    show OG p e _ s below _ T135 (mkF m 108 #[.val (.int p1), .val (.int (7 : Int32)), .val (.ref o114), .val (.long f3_7), .second] [(.int (0 : Int32))])
                    refine own_retZ X135 hx (t := .boolean) hret (by simp) hlk (hb hby at_108) (by decide) (by decide) (w := (0 : Int32)) rfl ?_
                    exact ⟨congrArg (fun z => some (Value.int z)) (show f0 p1 = (0 : Int32) from (by rw [f0, if_neg c1, if_neg c11, if_neg c23, if_neg c37, if_neg c53, if_neg c71, if_neg c91, if_pos c113, if_neg c136])).symm, N135⟩
                · skip
                  by_cases c137 : (g0_1 p1) = (8 : Int32)
                  · rw [c137]
                    show OG p e _ s below _ s₁ (mkF m 8 #[.val (.int p1), .val (.int (8 : Int32)), .unset, .unset, .unset] [])
                    obtain ⟨T138, h138, X138, e138, E138, A138, D138, -, st138⟩ := newO X0 hx hZ hown (hw _ (List.mem_of_getElem? (i := 0) rfl)) (hw _ (List.mem_of_getElem? (i := 1) rfl)) (hw _ (List.mem_of_getElem? (i := 2) rfl)) e0 (g := (mkF m 8 #[.val (.int p1), .val (.int (8 : Int32)), .unset, .unset, .unset] [])) rfl (hb hby at_8) (by decide) (by decide)
                    obtain ⟨o138, gb138⟩ : ∃ z, z = h0.size := ⟨_, rfl⟩
                    rw [← gb138] at A138 D138 st138
                    refine own_st st138 ?_
                    have ge_o138 : n0 ≤ o138 := by rw [gb138]; exact Nat.le_trans Z0 (Keep.refl h0 []).1
                    have sz_o138 : h0.size ≤ o138 := by rw [gb138]; exact (Keep.refl h0 []).1
                    have K139 : Keep h0 h138 [] := (Keep.refl h0 []).ext E138
                    have F140 : Fld Z h138 o138 "com/example/tidewire/tidewire/internal/Backoff" "attempts" "I" (.int (0 : Int32)) := D138 (Or.inl (hw _ (List.mem_of_getElem? (i := 15) rfl))) (ty := .int) (by decide)
                    show OG p e _ s below _ T138 (mkF m 11 #[.val (.int p1), .val (.int (8 : Int32)), .unset, .unset, .unset] [(.ref o138)])
                    refine own_st (fun t k => XS.dup X138.here hx rfl (hb hby at_11) rfl rfl k) ?_
                    show OG p e _ s below _ T138 (mkF m 12 #[.val (.int p1), .val (.int (8 : Int32)), .unset, .unset, .unset] [(.ref o138), (.ref o138)])
                    obtain ⟨_, _, ⟨T141, L141, k141, n141⟩, -, X141, ⟨Lc141, hQ141, l141, y141, z141⟩, st141⟩ := X138.specialBack hx (y := (⟨"com/example/tidewire/tidewire/internal/Backoff", "<init>", "()V"⟩ : MethodName)) rfl hown (mvT hZ (hw _ (List.mem_of_getElem? (i := 3) rfl))) (mvT hZ (hw _ (List.mem_of_getElem? (i := 4) rfl))) (mvT hZ (hw _ (List.mem_of_getElem? (i := 5) rfl))) (by decide) (backOf (W := 1) (rm := ({ frames := 1, cells := 0, slots := 0, locals := 12 } : Room)) (rm1 l Z a0 hw [] o138 h138 n0) hZ (hw _ (List.mem_of_getElem? (i := 5) rfl)) (hw _ (List.mem_of_getElem? (i := 2) rfl)) (by decide) (by decide)) (g := (mkF m 12 #[.val (.int p1), .val (.int (8 : Int32)), .unset, .unset, .unset] [(.ref o138), (.ref o138)])) rfl (by rw [hml]; rfl) (Steps.refl _) (a := o138) (argsL := []) (rest := [(.ref o138)]) (lenOf pd___V rfl) rfl (by show 2 * 0 + _ ≤ _; exact Nat.le_of_eq rfl) (hb hby at_12) (fun _ _ => ⟨rfl, e138, (by decide : 1 + 0 ≤ _), (by decide : 1 + 0 ≤ _)⟩)
                    dsimp only [Pt.U, Pt.locs, Pt.cells, Pt.slots] at X141 l141 y141 z141 st141 hQ141
                    subst l141 y141 z141
                    obtain ⟨rfl, N141q, K141q⟩ := hQ141
                    refine own_st (fun t k => st141.trans k) ?_
                    have N141 := Fr.app N0 N141q
                    have K141 : Keep h0 T141.heap [] := K139.trans K141q (own_all0 )
                    have F142 : Exa Z T141.heap o138 "com/example/tidewire/tidewire/internal/Backoff" := (A138.keep K141q)
                    have F143 : Fld Z T141.heap o138 "com/example/tidewire/tidewire/internal/Backoff" "attempts" "I" (.int (0 : Int32)) := (F140.keep K141q (own_nin0 ))
                    show OG p e _ s below _ T141 (mkF m 15 #[.val (.int p1), .val (.int (8 : Int32)), .unset, .unset, .unset] [(.ref o138)])
                    refine own_st (fun t k => XS.astoreN X141.here hx rfl (hb hby at_15) rfl rfl (l' := #[.val (.int p1), .val (.int (8 : Int32)), .val (.ref o138), .unset, .unset]) rfl k) ?_
                    show OG p e _ s below _ T141 (mkF m 16 #[.val (.int p1), .val (.int (8 : Int32)), .val (.ref o138), .unset, .unset] [])
                    refine own_st (fun t k => XS.iloadN X141.here hx rfl (hb hby at_16) rfl k) ?_
                    show OG p e _ s below _ T141 (mkF m 17 #[.val (.int p1), .val (.int (8 : Int32)), .val (.ref o138), .unset, .unset] [(.int (8 : Int32))])
                    refine own_st (fun t k => XS.ifNo X141.here hx rfl (hb hby at_17) rfl (by decide) k) ?_
                    show OG p e _ s below _ T141 (mkF m 20 #[.val (.int p1), .val (.int (8 : Int32)), .val (.ref o138), .unset, .unset] [])
                    refine own_st (fun t k => XS.aloadN X141.here hx rfl (hb hby at_20) rfl rfl k) ?_
                    show OG p e _ s below _ T141 (mkF m 21 #[.val (.int p1), .val (.int (8 : Int32)), .val (.ref o138), .unset, .unset] [(.ref o138)])
                    obtain ⟨cq144, kq144, q144a, q144b, q144c⟩ := isOf hZ rfl F142
                    obtain ⟨_, _, ⟨T144, L144, k144, n144⟩, -, X144, ⟨Lc144, hQ144, l144, y144, z144⟩, st144⟩ := X141.virtualBack hx (y := (⟨"com/example/tidewire/tidewire/internal/Backoff", "attempted", "()V"⟩ : MethodName)) (z := (⟨"com/example/tidewire/tidewire/internal/Backoff", "attempted", "()V"⟩ : MethodName)) hown (mvT hZ (hw _ (List.mem_of_getElem? (i := 20) rfl))) (mvT hZ (hw _ (List.mem_of_getElem? (i := 21) rfl))) (notFace_of_selects (args := #[]) (mvT hZ (hw _ (List.mem_of_getElem? (i := 23) rfl)))) (mvT hZ (hw _ (List.mem_of_getElem? (i := 23) rfl))) (mvT hZ (hw _ (List.mem_of_getElem? (i := 22) rfl))) (by decide) (backOf (W := 0) (rm := ({ frames := 0, cells := 0, slots := 0, locals := 0 } : Room)) (rm5 l Z a0 hw [] o138 (0 : Int32) T141.heap n0 F142 F143 ge_o138 (by decide)) hZ (hw _ (List.mem_of_getElem? (i := 24) rfl)) (hw _ (List.mem_of_getElem? (i := 2) rfl)) (by decide) (by decide)) q144a q144c (g := (mkF m 21 #[.val (.int p1), .val (.int (8 : Int32)), .val (.ref o138), .unset, .unset] [(.ref o138)])) rfl (by rw [hml]; rfl) (Steps.refl _) (argsL := []) (rest := []) (lenOf pd___V rfl) rfl (by show 2 * 0 + _ ≤ _; exact Nat.le_of_eq rfl) (hb hby at_21) (fun _ _ => ⟨rfl, rfl, (by decide : 1 + 0 ≤ _), (by decide : 1 + 0 ≤ _)⟩)
                    dsimp only [Pt.U, Pt.locs, Pt.cells, Pt.slots] at X144 l144 y144 z144 st144 hQ144
                    subst l144 y144 z144
                    obtain ⟨rfl, N144q, K144q, P144_0, P144_1⟩ := hQ144
                    refine own_st (fun t k => st144.trans k) ?_
                    have N144 := Fr.app N141 N144q
                    have K144 : Keep h0 T144.heap [] := K141.trans K144q (own_all1 (Or.inr sz_o138))
                    have F145 : Fld Z T144.heap o138 "com/example/tidewire/tidewire/internal/Backoff" "attempts" "I" (.int (1 : Int32)) := P144_1
                    show OG p e _ s below _ T144 (mkF m 24 #[.val (.int p1), .val (.int (8 : Int32)), .val (.ref o138), .unset, .unset] [])
                    refine own_st (fun t k => XS.iloadN X144.here hx rfl (hb hby at_24) rfl k) ?_
                    show OG p e _ s below _ T144 (mkF m 25 #[.val (.int p1), .val (.int (8 : Int32)), .val (.ref o138), .unset, .unset] [(.int (8 : Int32))])
                    refine own_st (fun t k => XS.iconst X144.here hx rfl (hb hby at_25) k) ?_
                    show OG p e _ s below _ T144 (mkF m 26 #[.val (.int p1), .val (.int (8 : Int32)), .val (.ref o138), .unset, .unset] [(.int (1 : Int32)), (.int (8 : Int32))])
                    refine own_st (fun t k => XS.icmpNo X144.here hx rfl (hb hby at_26) rfl (by decide) k) ?_
                    show OG p e _ s below _ T144 (mkF m 29 #[.val (.int p1), .val (.int (8 : Int32)), .val (.ref o138), .unset, .unset] [])
                    refine own_st (fun t k => XS.aloadN X144.here hx rfl (hb hby at_29) rfl rfl k) ?_
                    show OG p e _ s below _ T144 (mkF m 30 #[.val (.int p1), .val (.int (8 : Int32)), .val (.ref o138), .unset, .unset] [(.ref o138)])
                    obtain ⟨cq146, kq146, q146a, q146b, q146c⟩ := isOf hZ rfl P144_0
                    obtain ⟨_, _, ⟨T146, L146, k146, n146⟩, -, X146, ⟨Lc146, hQ146, l146, y146, z146⟩, st146⟩ := X144.virtualBack hx (y := (⟨"com/example/tidewire/tidewire/internal/Backoff", "attempted", "()V"⟩ : MethodName)) (z := (⟨"com/example/tidewire/tidewire/internal/Backoff", "attempted", "()V"⟩ : MethodName)) hown (mvT hZ (hw _ (List.mem_of_getElem? (i := 20) rfl))) (mvT hZ (hw _ (List.mem_of_getElem? (i := 21) rfl))) (notFace_of_selects (args := #[]) (mvT hZ (hw _ (List.mem_of_getElem? (i := 23) rfl)))) (mvT hZ (hw _ (List.mem_of_getElem? (i := 23) rfl))) (mvT hZ (hw _ (List.mem_of_getElem? (i := 22) rfl))) (by decide) (backOf (W := 0) (rm := ({ frames := 0, cells := 0, slots := 0, locals := 0 } : Room)) (rm5 l Z a0 hw [] o138 (1 : Int32) T144.heap n0 P144_0 F145 ge_o138 (by decide)) hZ (hw _ (List.mem_of_getElem? (i := 24) rfl)) (hw _ (List.mem_of_getElem? (i := 2) rfl)) (by decide) (by decide)) q146a q146c (g := (mkF m 30 #[.val (.int p1), .val (.int (8 : Int32)), .val (.ref o138), .unset, .unset] [(.ref o138)])) rfl (by rw [hml]; rfl) (Steps.refl _) (argsL := []) (rest := []) (lenOf pd___V rfl) rfl (by show 2 * 0 + _ ≤ _; exact Nat.le_of_eq rfl) (hb hby at_30) (fun _ _ => ⟨rfl, rfl, (by decide : 1 + 0 ≤ _), (by decide : 1 + 0 ≤ _)⟩)
                    dsimp only [Pt.U, Pt.locs, Pt.cells, Pt.slots] at X146 l146 y146 z146 st146 hQ146
                    subst l146 y146 z146
                    obtain ⟨rfl, N146q, K146q, P146_0, P146_1⟩ := hQ146
                    refine own_st (fun t k => st146.trans k) ?_
                    have N146 := Fr.app N144 N146q
                    have K146 : Keep h0 T146.heap [] := K144.trans K146q (own_all1 (Or.inr sz_o138))
                    have F147 : Fld Z T146.heap o138 "com/example/tidewire/tidewire/internal/Backoff" "attempts" "I" (.int (2 : Int32)) := P146_1
                    show OG p e _ s below _ T146 (mkF m 33 #[.val (.int p1), .val (.int (8 : Int32)), .val (.ref o138), .unset, .unset] [])
                    refine own_st (fun t k => XS.iloadN X146.here hx rfl (hb hby at_33) rfl k) ?_
                    show OG p e _ s below _ T146 (mkF m 34 #[.val (.int p1), .val (.int (8 : Int32)), .val (.ref o138), .unset, .unset] [(.int (8 : Int32))])
                    refine own_st (fun t k => XS.iconst X146.here hx rfl (hb hby at_34) k) ?_
                    show OG p e _ s below _ T146 (mkF m 35 #[.val (.int p1), .val (.int (8 : Int32)), .val (.ref o138), .unset, .unset] [(.int (2 : Int32)), (.int (8 : Int32))])
                    refine own_st (fun t k => XS.icmpNo X146.here hx rfl (hb hby at_35) rfl (by decide) k) ?_
                    show OG p e _ s below _ T146 (mkF m 38 #[.val (.int p1), .val (.int (8 : Int32)), .val (.ref o138), .unset, .unset] [])
                    refine own_st (fun t k => XS.aloadN X146.here hx rfl (hb hby at_38) rfl rfl k) ?_
                    show OG p e _ s below _ T146 (mkF m 39 #[.val (.int p1), .val (.int (8 : Int32)), .val (.ref o138), .unset, .unset] [(.ref o138)])
                    obtain ⟨cq148, kq148, q148a, q148b, q148c⟩ := isOf hZ rfl P146_0
                    obtain ⟨_, _, ⟨T148, L148, k148, n148⟩, -, X148, ⟨Lc148, hQ148, l148, y148, z148⟩, st148⟩ := X146.virtualBack hx (y := (⟨"com/example/tidewire/tidewire/internal/Backoff", "attempted", "()V"⟩ : MethodName)) (z := (⟨"com/example/tidewire/tidewire/internal/Backoff", "attempted", "()V"⟩ : MethodName)) hown (mvT hZ (hw _ (List.mem_of_getElem? (i := 20) rfl))) (mvT hZ (hw _ (List.mem_of_getElem? (i := 21) rfl))) (notFace_of_selects (args := #[]) (mvT hZ (hw _ (List.mem_of_getElem? (i := 23) rfl)))) (mvT hZ (hw _ (List.mem_of_getElem? (i := 23) rfl))) (mvT hZ (hw _ (List.mem_of_getElem? (i := 22) rfl))) (by decide) (backOf (W := 0) (rm := ({ frames := 0, cells := 0, slots := 0, locals := 0 } : Room)) (rm5 l Z a0 hw [] o138 (2 : Int32) T146.heap n0 P146_0 F147 ge_o138 (by decide)) hZ (hw _ (List.mem_of_getElem? (i := 24) rfl)) (hw _ (List.mem_of_getElem? (i := 2) rfl)) (by decide) (by decide)) q148a q148c (g := (mkF m 39 #[.val (.int p1), .val (.int (8 : Int32)), .val (.ref o138), .unset, .unset] [(.ref o138)])) rfl (by rw [hml]; rfl) (Steps.refl _) (argsL := []) (rest := []) (lenOf pd___V rfl) rfl (by show 2 * 0 + _ ≤ _; exact Nat.le_of_eq rfl) (hb hby at_39) (fun _ _ => ⟨rfl, rfl, (by decide : 1 + 0 ≤ _), (by decide : 1 + 0 ≤ _)⟩)
                    dsimp only [Pt.U, Pt.locs, Pt.cells, Pt.slots] at X148 l148 y148 z148 st148 hQ148
                    subst l148 y148 z148
                    obtain ⟨rfl, N148q, K148q, P148_0, P148_1⟩ := hQ148
                    refine own_st (fun t k => st148.trans k) ?_
                    have N148 := Fr.app N146 N148q
                    have K148 : Keep h0 T148.heap [] := K146.trans K148q (own_all1 (Or.inr sz_o138))
                    have F149 : Fld Z T148.heap o138 "com/example/tidewire/tidewire/internal/Backoff" "attempts" "I" (.int (3 : Int32)) := P148_1
                    show OG p e _ s below _ T148 (mkF m 42 #[.val (.int p1), .val (.int (8 : Int32)), .val (.ref o138), .unset, .unset] [])
                    refine own_st (fun t k => XS.iloadN X148.here hx rfl (hb hby at_42) rfl k) ?_
                    show OG p e _ s below _ T148 (mkF m 43 #[.val (.int p1), .val (.int (8 : Int32)), .val (.ref o138), .unset, .unset] [(.int (8 : Int32))])
                    refine own_st (fun t k => XS.iconst X148.here hx rfl (hb hby at_43) k) ?_
                    show OG p e _ s below _ T148 (mkF m 44 #[.val (.int p1), .val (.int (8 : Int32)), .val (.ref o138), .unset, .unset] [(.int (3 : Int32)), (.int (8 : Int32))])
                    refine own_st (fun t k => XS.icmpNo X148.here hx rfl (hb hby at_44) rfl (by decide) k) ?_
                    show OG p e _ s below _ T148 (mkF m 47 #[.val (.int p1), .val (.int (8 : Int32)), .val (.ref o138), .unset, .unset] [])
                    refine own_st (fun t k => XS.aloadN X148.here hx rfl (hb hby at_47) rfl rfl k) ?_
                    show OG p e _ s below _ T148 (mkF m 48 #[.val (.int p1), .val (.int (8 : Int32)), .val (.ref o138), .unset, .unset] [(.ref o138)])
                    obtain ⟨cq150, kq150, q150a, q150b, q150c⟩ := isOf hZ rfl P148_0
                    obtain ⟨_, _, ⟨T150, L150, k150, n150⟩, -, X150, ⟨Lc150, hQ150, l150, y150, z150⟩, st150⟩ := X148.virtualBack hx (y := (⟨"com/example/tidewire/tidewire/internal/Backoff", "attempted", "()V"⟩ : MethodName)) (z := (⟨"com/example/tidewire/tidewire/internal/Backoff", "attempted", "()V"⟩ : MethodName)) hown (mvT hZ (hw _ (List.mem_of_getElem? (i := 20) rfl))) (mvT hZ (hw _ (List.mem_of_getElem? (i := 21) rfl))) (notFace_of_selects (args := #[]) (mvT hZ (hw _ (List.mem_of_getElem? (i := 23) rfl)))) (mvT hZ (hw _ (List.mem_of_getElem? (i := 23) rfl))) (mvT hZ (hw _ (List.mem_of_getElem? (i := 22) rfl))) (by decide) (backOf (W := 0) (rm := ({ frames := 0, cells := 0, slots := 0, locals := 0 } : Room)) (rm5 l Z a0 hw [] o138 (3 : Int32) T148.heap n0 P148_0 F149 ge_o138 (by decide)) hZ (hw _ (List.mem_of_getElem? (i := 24) rfl)) (hw _ (List.mem_of_getElem? (i := 2) rfl)) (by decide) (by decide)) q150a q150c (g := (mkF m 48 #[.val (.int p1), .val (.int (8 : Int32)), .val (.ref o138), .unset, .unset] [(.ref o138)])) rfl (by rw [hml]; rfl) (Steps.refl _) (argsL := []) (rest := []) (lenOf pd___V rfl) rfl (by show 2 * 0 + _ ≤ _; exact Nat.le_of_eq rfl) (hb hby at_48) (fun _ _ => ⟨rfl, rfl, (by decide : 1 + 0 ≤ _), (by decide : 1 + 0 ≤ _)⟩)
                    dsimp only [Pt.U, Pt.locs, Pt.cells, Pt.slots] at X150 l150 y150 z150 st150 hQ150
                    subst l150 y150 z150
                    obtain ⟨rfl, N150q, K150q, P150_0, P150_1⟩ := hQ150
                    refine own_st (fun t k => st150.trans k) ?_
                    have N150 := Fr.app N148 N150q
                    have K150 : Keep h0 T150.heap [] := K148.trans K150q (own_all1 (Or.inr sz_o138))
                    have F151 : Fld Z T150.heap o138 "com/example/tidewire/tidewire/internal/Backoff" "attempts" "I" (.int (4 : Int32)) := P150_1
                    show OG p e _ s below _ T150 (mkF m 51 #[.val (.int p1), .val (.int (8 : Int32)), .val (.ref o138), .unset, .unset] [])
                    refine own_st (fun t k => XS.iloadN X150.here hx rfl (hb hby at_51) rfl k) ?_
                    show OG p e _ s below _ T150 (mkF m 52 #[.val (.int p1), .val (.int (8 : Int32)), .val (.ref o138), .unset, .unset] [(.int (8 : Int32))])
                    refine own_st (fun t k => XS.iconst X150.here hx rfl (hb hby at_52) k) ?_
                    show OG p e _ s below _ T150 (mkF m 53 #[.val (.int p1), .val (.int (8 : Int32)), .val (.ref o138), .unset, .unset] [(.int (4 : Int32)), (.int (8 : Int32))])
                    refine own_st (fun t k => XS.icmpNo X150.here hx rfl (hb hby at_53) rfl (by decide) k) ?_
                    show OG p e _ s below _ T150 (mkF m 56 #[.val (.int p1), .val (.int (8 : Int32)), .val (.ref o138), .unset, .unset] [])
                    refine own_st (fun t k => XS.aloadN X150.here hx rfl (hb hby at_56) rfl rfl k) ?_
                    show OG p e _ s below _ T150 (mkF m 57 #[.val (.int p1), .val (.int (8 : Int32)), .val (.ref o138), .unset, .unset] [(.ref o138)])
                    obtain ⟨cq152, kq152, q152a, q152b, q152c⟩ := isOf hZ rfl P150_0
                    obtain ⟨_, _, ⟨T152, L152, k152, n152⟩, -, X152, ⟨Lc152, hQ152, l152, y152, z152⟩, st152⟩ := X150.virtualBack hx (y := (⟨"com/example/tidewire/tidewire/internal/Backoff", "attempted", "()V"⟩ : MethodName)) (z := (⟨"com/example/tidewire/tidewire/internal/Backoff", "attempted", "()V"⟩ : MethodName)) hown (mvT hZ (hw _ (List.mem_of_getElem? (i := 20) rfl))) (mvT hZ (hw _ (List.mem_of_getElem? (i := 21) rfl))) (notFace_of_selects (args := #[]) (mvT hZ (hw _ (List.mem_of_getElem? (i := 23) rfl)))) (mvT hZ (hw _ (List.mem_of_getElem? (i := 23) rfl))) (mvT hZ (hw _ (List.mem_of_getElem? (i := 22) rfl))) (by decide) (backOf (W := 0) (rm := ({ frames := 0, cells := 0, slots := 0, locals := 0 } : Room)) (rm5 l Z a0 hw [] o138 (4 : Int32) T150.heap n0 P150_0 F151 ge_o138 (by decide)) hZ (hw _ (List.mem_of_getElem? (i := 24) rfl)) (hw _ (List.mem_of_getElem? (i := 2) rfl)) (by decide) (by decide)) q152a q152c (g := (mkF m 57 #[.val (.int p1), .val (.int (8 : Int32)), .val (.ref o138), .unset, .unset] [(.ref o138)])) rfl (by rw [hml]; rfl) (Steps.refl _) (argsL := []) (rest := []) (lenOf pd___V rfl) rfl (by show 2 * 0 + _ ≤ _; exact Nat.le_of_eq rfl) (hb hby at_57) (fun _ _ => ⟨rfl, rfl, (by decide : 1 + 0 ≤ _), (by decide : 1 + 0 ≤ _)⟩)
                    dsimp only [Pt.U, Pt.locs, Pt.cells, Pt.slots] at X152 l152 y152 z152 st152 hQ152
                    subst l152 y152 z152
                    obtain ⟨rfl, N152q, K152q, P152_0, P152_1⟩ := hQ152
                    refine own_st (fun t k => st152.trans k) ?_
                    have N152 := Fr.app N150 N152q
                    have K152 : Keep h0 T152.heap [] := K150.trans K152q (own_all1 (Or.inr sz_o138))
                    have F153 : Fld Z T152.heap o138 "com/example/tidewire/tidewire/internal/Backoff" "attempts" "I" (.int (5 : Int32)) := P152_1
                    show OG p e _ s below _ T152 (mkF m 60 #[.val (.int p1), .val (.int (8 : Int32)), .val (.ref o138), .unset, .unset] [])
                    refine own_st (fun t k => XS.iloadN X152.here hx rfl (hb hby at_60) rfl k) ?_
                    show OG p e _ s below _ T152 (mkF m 61 #[.val (.int p1), .val (.int (8 : Int32)), .val (.ref o138), .unset, .unset] [(.int (8 : Int32))])
                    refine own_st (fun t k => XS.iconst X152.here hx rfl (hb hby at_61) k) ?_
                    show OG p e _ s below _ T152 (mkF m 62 #[.val (.int p1), .val (.int (8 : Int32)), .val (.ref o138), .unset, .unset] [(.int (5 : Int32)), (.int (8 : Int32))])
                    refine own_st (fun t k => XS.icmpNo X152.here hx rfl (hb hby at_62) rfl (by decide) k) ?_
                    show OG p e _ s below _ T152 (mkF m 65 #[.val (.int p1), .val (.int (8 : Int32)), .val (.ref o138), .unset, .unset] [])
                    refine own_st (fun t k => XS.aloadN X152.here hx rfl (hb hby at_65) rfl rfl k) ?_
                    show OG p e _ s below _ T152 (mkF m 66 #[.val (.int p1), .val (.int (8 : Int32)), .val (.ref o138), .unset, .unset] [(.ref o138)])
                    obtain ⟨cq154, kq154, q154a, q154b, q154c⟩ := isOf hZ rfl P152_0
                    obtain ⟨_, _, ⟨T154, L154, k154, n154⟩, -, X154, ⟨Lc154, hQ154, l154, y154, z154⟩, st154⟩ := X152.virtualBack hx (y := (⟨"com/example/tidewire/tidewire/internal/Backoff", "attempted", "()V"⟩ : MethodName)) (z := (⟨"com/example/tidewire/tidewire/internal/Backoff", "attempted", "()V"⟩ : MethodName)) hown (mvT hZ (hw _ (List.mem_of_getElem? (i := 20) rfl))) (mvT hZ (hw _ (List.mem_of_getElem? (i := 21) rfl))) (notFace_of_selects (args := #[]) (mvT hZ (hw _ (List.mem_of_getElem? (i := 23) rfl)))) (mvT hZ (hw _ (List.mem_of_getElem? (i := 23) rfl))) (mvT hZ (hw _ (List.mem_of_getElem? (i := 22) rfl))) (by decide) (backOf (W := 0) (rm := ({ frames := 0, cells := 0, slots := 0, locals := 0 } : Room)) (rm5 l Z a0 hw [] o138 (5 : Int32) T152.heap n0 P152_0 F153 ge_o138 (by decide)) hZ (hw _ (List.mem_of_getElem? (i := 24) rfl)) (hw _ (List.mem_of_getElem? (i := 2) rfl)) (by decide) (by decide)) q154a q154c (g := (mkF m 66 #[.val (.int p1), .val (.int (8 : Int32)), .val (.ref o138), .unset, .unset] [(.ref o138)])) rfl (by rw [hml]; rfl) (Steps.refl _) (argsL := []) (rest := []) (lenOf pd___V rfl) rfl (by show 2 * 0 + _ ≤ _; exact Nat.le_of_eq rfl) (hb hby at_66) (fun _ _ => ⟨rfl, rfl, (by decide : 1 + 0 ≤ _), (by decide : 1 + 0 ≤ _)⟩)
                    dsimp only [Pt.U, Pt.locs, Pt.cells, Pt.slots] at X154 l154 y154 z154 st154 hQ154
                    subst l154 y154 z154
                    obtain ⟨rfl, N154q, K154q, P154_0, P154_1⟩ := hQ154
                    refine own_st (fun t k => st154.trans k) ?_
                    have N154 := Fr.app N152 N154q
                    have K154 : Keep h0 T154.heap [] := K152.trans K154q (own_all1 (Or.inr sz_o138))
                    have F155 : Fld Z T154.heap o138 "com/example/tidewire/tidewire/internal/Backoff" "attempts" "I" (.int (6 : Int32)) := P154_1
                    show OG p e _ s below _ T154 (mkF m 69 #[.val (.int p1), .val (.int (8 : Int32)), .val (.ref o138), .unset, .unset] [])
                    refine own_st (fun t k => XS.iloadN X154.here hx rfl (hb hby at_69) rfl k) ?_
                    show OG p e _ s below _ T154 (mkF m 70 #[.val (.int p1), .val (.int (8 : Int32)), .val (.ref o138), .unset, .unset] [(.int (8 : Int32))])
                    refine own_st (fun t k => XS.bipush X154.here hx rfl (hb hby at_70) k) ?_
                    show OG p e _ s below _ T154 (mkF m 72 #[.val (.int p1), .val (.int (8 : Int32)), .val (.ref o138), .unset, .unset] [(.int (6 : Int32)), (.int (8 : Int32))])
                    refine own_st (fun t k => XS.icmpNo X154.here hx rfl (hb hby at_72) rfl (by decide) k) ?_
                    show OG p e _ s below _ T154 (mkF m 75 #[.val (.int p1), .val (.int (8 : Int32)), .val (.ref o138), .unset, .unset] [])
                    refine own_st (fun t k => XS.aloadN X154.here hx rfl (hb hby at_75) rfl rfl k) ?_
                    show OG p e _ s below _ T154 (mkF m 76 #[.val (.int p1), .val (.int (8 : Int32)), .val (.ref o138), .unset, .unset] [(.ref o138)])
                    obtain ⟨cq156, kq156, q156a, q156b, q156c⟩ := isOf hZ rfl P154_0
                    obtain ⟨_, _, ⟨T156, L156, k156, n156⟩, -, X156, ⟨Lc156, hQ156, l156, y156, z156⟩, st156⟩ := X154.virtualBack hx (y := (⟨"com/example/tidewire/tidewire/internal/Backoff", "attempted", "()V"⟩ : MethodName)) (z := (⟨"com/example/tidewire/tidewire/internal/Backoff", "attempted", "()V"⟩ : MethodName)) hown (mvT hZ (hw _ (List.mem_of_getElem? (i := 20) rfl))) (mvT hZ (hw _ (List.mem_of_getElem? (i := 21) rfl))) (notFace_of_selects (args := #[]) (mvT hZ (hw _ (List.mem_of_getElem? (i := 23) rfl)))) (mvT hZ (hw _ (List.mem_of_getElem? (i := 23) rfl))) (mvT hZ (hw _ (List.mem_of_getElem? (i := 22) rfl))) (by decide) (backOf (W := 0) (rm := ({ frames := 0, cells := 0, slots := 0, locals := 0 } : Room)) (rm5 l Z a0 hw [] o138 (6 : Int32) T154.heap n0 P154_0 F155 ge_o138 (by decide)) hZ (hw _ (List.mem_of_getElem? (i := 24) rfl)) (hw _ (List.mem_of_getElem? (i := 2) rfl)) (by decide) (by decide)) q156a q156c (g := (mkF m 76 #[.val (.int p1), .val (.int (8 : Int32)), .val (.ref o138), .unset, .unset] [(.ref o138)])) rfl (by rw [hml]; rfl) (Steps.refl _) (argsL := []) (rest := []) (lenOf pd___V rfl) rfl (by show 2 * 0 + _ ≤ _; exact Nat.le_of_eq rfl) (hb hby at_76) (fun _ _ => ⟨rfl, rfl, (by decide : 1 + 0 ≤ _), (by decide : 1 + 0 ≤ _)⟩)
                    dsimp only [Pt.U, Pt.locs, Pt.cells, Pt.slots] at X156 l156 y156 z156 st156 hQ156
                    subst l156 y156 z156
                    obtain ⟨rfl, N156q, K156q, P156_0, P156_1⟩ := hQ156
                    refine own_st (fun t k => st156.trans k) ?_
                    have N156 := Fr.app N154 N156q
                    have K156 : Keep h0 T156.heap [] := K154.trans K156q (own_all1 (Or.inr sz_o138))
                    have F157 : Fld Z T156.heap o138 "com/example/tidewire/tidewire/internal/Backoff" "attempts" "I" (.int (7 : Int32)) := P156_1
                    show OG p e _ s below _ T156 (mkF m 79 #[.val (.int p1), .val (.int (8 : Int32)), .val (.ref o138), .unset, .unset] [])
                    refine own_st (fun t k => XS.iloadN X156.here hx rfl (hb hby at_79) rfl k) ?_
                    show OG p e _ s below _ T156 (mkF m 80 #[.val (.int p1), .val (.int (8 : Int32)), .val (.ref o138), .unset, .unset] [(.int (8 : Int32))])
                    refine own_st (fun t k => XS.bipush X156.here hx rfl (hb hby at_80) k) ?_
                    show OG p e _ s below _ T156 (mkF m 82 #[.val (.int p1), .val (.int (8 : Int32)), .val (.ref o138), .unset, .unset] [(.int (7 : Int32)), (.int (8 : Int32))])
                    refine own_st (fun t k => XS.icmpNo X156.here hx rfl (hb hby at_82) rfl (by decide) k) ?_
                    show OG p e _ s below _ T156 (mkF m 85 #[.val (.int p1), .val (.int (8 : Int32)), .val (.ref o138), .unset, .unset] [])
                    refine own_st (fun t k => XS.aloadN X156.here hx rfl (hb hby at_85) rfl rfl k) ?_
                    show OG p e _ s below _ T156 (mkF m 86 #[.val (.int p1), .val (.int (8 : Int32)), .val (.ref o138), .unset, .unset] [(.ref o138)])
                    obtain ⟨cq158, kq158, q158a, q158b, q158c⟩ := isOf hZ rfl P156_0
                    obtain ⟨_, _, ⟨T158, L158, k158, n158⟩, -, X158, ⟨Lc158, hQ158, l158, y158, z158⟩, st158⟩ := X156.virtualBack hx (y := (⟨"com/example/tidewire/tidewire/internal/Backoff", "attempted", "()V"⟩ : MethodName)) (z := (⟨"com/example/tidewire/tidewire/internal/Backoff", "attempted", "()V"⟩ : MethodName)) hown (mvT hZ (hw _ (List.mem_of_getElem? (i := 20) rfl))) (mvT hZ (hw _ (List.mem_of_getElem? (i := 21) rfl))) (notFace_of_selects (args := #[]) (mvT hZ (hw _ (List.mem_of_getElem? (i := 23) rfl)))) (mvT hZ (hw _ (List.mem_of_getElem? (i := 23) rfl))) (mvT hZ (hw _ (List.mem_of_getElem? (i := 22) rfl))) (by decide) (backOf (W := 0) (rm := ({ frames := 0, cells := 0, slots := 0, locals := 0 } : Room)) (rm5 l Z a0 hw [] o138 (7 : Int32) T156.heap n0 P156_0 F157 ge_o138 (by decide)) hZ (hw _ (List.mem_of_getElem? (i := 24) rfl)) (hw _ (List.mem_of_getElem? (i := 2) rfl)) (by decide) (by decide)) q158a q158c (g := (mkF m 86 #[.val (.int p1), .val (.int (8 : Int32)), .val (.ref o138), .unset, .unset] [(.ref o138)])) rfl (by rw [hml]; rfl) (Steps.refl _) (argsL := []) (rest := []) (lenOf pd___V rfl) rfl (by show 2 * 0 + _ ≤ _; exact Nat.le_of_eq rfl) (hb hby at_86) (fun _ _ => ⟨rfl, rfl, (by decide : 1 + 0 ≤ _), (by decide : 1 + 0 ≤ _)⟩)
                    dsimp only [Pt.U, Pt.locs, Pt.cells, Pt.slots] at X158 l158 y158 z158 st158 hQ158
                    subst l158 y158 z158
                    obtain ⟨rfl, N158q, K158q, P158_0, P158_1⟩ := hQ158
                    refine own_st (fun t k => st158.trans k) ?_
                    have N158 := Fr.app N156 N158q
                    have K158 : Keep h0 T158.heap [] := K156.trans K158q (own_all1 (Or.inr sz_o138))
                    have F159 : Fld Z T158.heap o138 "com/example/tidewire/tidewire/internal/Backoff" "attempts" "I" (.int (8 : Int32)) := P158_1
                    show OG p e _ s below _ T158 (mkF m 89 #[.val (.int p1), .val (.int (8 : Int32)), .val (.ref o138), .unset, .unset] [])
                    refine own_st (fun t k => XS.aloadN X158.here hx rfl (hb hby at_89) rfl rfl k) ?_
                    show OG p e _ s below _ T158 (mkF m 90 #[.val (.int p1), .val (.int (8 : Int32)), .val (.ref o138), .unset, .unset] [(.ref o138)])
                    obtain ⟨cq160, kq160, q160a, q160b, q160c⟩ := isOf hZ rfl P158_0
                    obtain ⟨_, _, ⟨T160, L160, k160, n160⟩, -, X160, ⟨Lc160, hQ160, l160, y160, z160⟩, st160⟩ := X158.virtualBack hx (y := (⟨"com/example/tidewire/tidewire/internal/Backoff", "delayMs", "()J"⟩ : MethodName)) (z := (⟨"com/example/tidewire/tidewire/internal/Backoff", "delayMs", "()J"⟩ : MethodName)) hown (mvT hZ (hw _ (List.mem_of_getElem? (i := 9) rfl))) (mvT hZ (hw _ (List.mem_of_getElem? (i := 10) rfl))) (notFace_of_selects (args := #[]) (mvT hZ (hw _ (List.mem_of_getElem? (i := 12) rfl)))) (mvT hZ (hw _ (List.mem_of_getElem? (i := 12) rfl))) (mvT hZ (hw _ (List.mem_of_getElem? (i := 11) rfl))) (by decide) (backOf (W := 0) (rm := ({ frames := 1, cells := 0, slots := 0, locals := 15 } : Room)) (rm3_8 l Z a0 hw [] o138 T158.heap F159) hZ (hw _ (List.mem_of_getElem? (i := 13) rfl)) (hw _ (List.mem_of_getElem? (i := 2) rfl)) (by decide) (by decide)) q160a q160c (g := (mkF m 90 #[.val (.int p1), .val (.int (8 : Int32)), .val (.ref o138), .unset, .unset] [(.ref o138)])) rfl (by rw [hml]; rfl) (Steps.refl _) (argsL := []) (rest := []) (lenOf pd___J rfl) rfl (by show 2 * 0 + _ ≤ _; exact Nat.le_of_eq rfl) (hb hby at_90) (fun _ _ => ⟨rfl, rfl, (by decide : 1 + 0 ≤ _), (by decide : 1 + 0 ≤ _)⟩)
                    dsimp only [Pt.U, Pt.locs, Pt.cells, Pt.slots] at X160 l160 y160 z160 st160 hQ160
                    subst l160 y160 z160
                    obtain ⟨rfl, rfl, e160⟩ := hQ160
                    refine own_st (fun t k => st160.trans k) ?_
                    have N160 := Fr.app N158 (Fr.nil n0)
                    show OG p e _ s below _ T160 (mkF m 93 #[.val (.int p1), .val (.int (8 : Int32)), .val (.ref o138), .unset, .unset] [(.long f3_8)])
                    refine own_st (fun t k => XS.lstoreN X160.here hx rfl (hb hby at_93) rfl (l' := #[.val (.int p1), .val (.int (8 : Int32)), .val (.ref o138), .val (.long f3_8), .second]) rfl k) ?_
                    show OG p e _ s below _ T160 (mkF m 94 #[.val (.int p1), .val (.int (8 : Int32)), .val (.ref o138), .val (.long f3_8), .second] [])
                    refine own_st (fun t k => XS.lloadN X160.here hx rfl (hb hby at_94) rfl k) ?_
                    show OG p e _ s below _ T160 (mkF m 95 #[.val (.int p1), .val (.int (8 : Int32)), .val (.ref o138), .val (.long f3_8), .second] [(.long f3_8)])
                    refine own_st (fun t k => XS.iloadN X160.here hx rfl (hb hby at_95) rfl k) ?_
                    show OG p e _ s below _ T160 (mkF m 96 #[.val (.int p1), .val (.int (8 : Int32)), .val (.ref o138), .val (.long f3_8), .second] [(.int (8 : Int32)), (.long f3_8)])
                    obtain ⟨_, _, ⟨T161, L161, k161, n161⟩, -, X161, ⟨Lc161, hQ161, l161, y161, z161⟩, st161⟩ := Jvm.LawKit.callS X160 hx (y := (⟨"com/example/tidewire/tidewire/internal/BackoffDelayMsPinLaw", "expected", "(I)J"⟩ : MethodName)) hown (mvT hZ (hw _ (List.mem_of_getElem? (i := 16) rfl))) (mvT hZ (hw _ (List.mem_of_getElem? (i := 17) rfl))) (mvT hZ (hw _ (List.mem_of_getElem? (i := 18) rfl))) (mvT hZ (hw _ (List.mem_of_getElem? (i := 19) rfl))) (by decide) (backOf (W := 2) (rm := ({ frames := 0, cells := 0, slots := 0, locals := 0 } : Room)) (rm4 l Z a0 hw [] (8 : Int32) T158.heap) hZ (hw _ (List.mem_of_getElem? (i := 19) rfl)) (hw _ (List.mem_of_getElem? (i := 18) rfl)) (by decide) (by decide)) (g := (mkF m 96 #[.val (.int p1), .val (.int (8 : Int32)), .val (.ref o138), .val (.long f3_8), .second] [(.int (8 : Int32)), (.long f3_8)])) rfl (by rw [hml]; rfl) (argsL := [(.int (8 : Int32))]) (rest := [(.long f3_8)]) (lenOf pd__I_J rfl) rfl (by show 2 * 0 + _ ≤ _; exact Nat.le_of_eq rfl) (hb hby at_96) (fun _ _ => ⟨rfl, e160, (by decide : 1 + 0 ≤ _), (by decide : 1 + 0 ≤ _)⟩)
                    dsimp only [Pt.U, Pt.locs, Pt.cells, Pt.slots] at X161 l161 y161 z161 st161 hQ161
                    subst l161 y161 z161
                    obtain ⟨rfl, rfl, e161⟩ := hQ161
                    refine own_st st161 ?_
                    have N161 := Fr.app N160 (Fr.nil n0)
                    show OG p e _ s below _ T161 (mkF m 99 #[.val (.int p1), .val (.int (8 : Int32)), .val (.ref o138), .val (.long f3_8), .second] [(.long (f4 (8 : Int32))), (.long f3_8)])
                    refine own_st (fun t k => XS.lcmp X161.here hx rfl (hb hby at_99) rfl k) ?_
                    show OG p e _ s below _ T161 (mkF m 100 #[.val (.int p1), .val (.int (8 : Int32)), .val (.ref o138), .val (.long f3_8), .second] [(.int (lcmpW f3_8 (f4 (8 : Int32))))])
                    by_cases c162 : f3_8 = (f4 (8 : Int32))
                    · refine own_st (fun t k => XS.ifNo X161.here hx rfl (hb hby at_100) rfl (own_if0 (teq ((lw_eq _ _).mpr c162)).2) k) ?_
                      show OG p e _ s below _ T161 (mkF m 103 #[.val (.int p1), .val (.int (8 : Int32)), .val (.ref o138), .val (.long f3_8), .second] [])
                      refine own_st (fun t k => XS.iconst X161.here hx rfl (hb hby at_103) k) ?_
                      show OG p e _ s below _ T161 (mkF m 104 #[.val (.int p1), .val (.int (8 : Int32)), .val (.ref o138), .val (.long f3_8), .second] [(.int (1 : Int32))])
                      refine own_st (fun t k => XS.goto X161.here hx rfl (pc0 := 104) (pc' := 108) rfl (hb hby at_104) (by decide) (by decide) k) ?_
                      show OG p e _ s below _ T161 (mkF m 108 #[.val (.int p1), .val (.int (8 : Int32)), .val (.ref o138), .val (.long f3_8), .second] [(.int (1 : Int32))])
                      refine own_retZ X161 hx (t := .boolean) hret (by simp) hlk (hb hby at_108) (by decide) (by decide) (w := (1 : Int32)) rfl ?_
                      exact ⟨congrArg (fun z => some (Value.int z)) (show f0 p1 = (1 : Int32) from (by rw [f0, if_neg c1, if_neg c11, if_neg c23, if_neg c37, if_neg c53, if_neg c71, if_neg c91, if_neg c113, if_pos c137, if_pos c162])).symm, N161⟩
                    · refine own_st (fun t k => XS.ifYes X161.here hx rfl (pc0 := 100) (pc' := 107) rfl (hb hby at_100) rfl (own_if0 (feq (fun q => c162 ((lw_eq _ _).mp q))).2) (by decide) (by decide) k) ?_
                      show OG p e _ s below _ T161 (mkF m 107 #[.val (.int p1), .val (.int (8 : Int32)), .val (.ref o138), .val (.long f3_8), .second] [])
                      refine own_st (fun t k => XS.iconst X161.here hx rfl (hb hby at_107) k) ?_
                      show OG p e _ s below _ T161 (mkF m 108 #[.val (.int p1), .val (.int (8 : Int32)), .val (.ref o138), .val (.long f3_8), .second] [(.int (0 : Int32))])
                      refine own_retZ X161 hx (t := .boolean) hret (by simp) hlk (hb hby at_108) (by decide) (by decide) (w := (0 : Int32)) rfl ?_
                      exact ⟨congrArg (fun z => some (Value.int z)) (show f0 p1 = (0 : Int32) from (by rw [f0, if_neg c1, if_neg c11, if_neg c23, if_neg c37, if_neg c53, if_neg c71, if_neg c91, if_neg c113, if_pos c137, if_neg c162])).symm, N161⟩
                  · skip
                    exact (own_range p1 c1 c11 c23 c37 c53 c71 c91 c113 c137).elim
/-! the plain law -/
theorem own_law (p1 : Int32) : f0 p1 = 1 := by
  have e0 : f3_0 = f4 0 := by decide
  have e1 : f3_1 = f4 1 := by decide
  have e2 : f3_2 = f4 2 := by decide
  have e3 : f3_3 = f4 3 := by decide
  have e4 : f3_4 = f4 4 := by decide
  have e5 : f3_5 = f4 5 := by decide
  have e6 : f3_6 = f4 6 := by decide
  have e7 : f3_7 = f4 7 := by decide
  have e8 : f3_8 = f4 8 := by decide
  rw [f0, if_pos e0, if_pos e1, if_pos e2, if_pos e3, if_pos e4, if_pos e5, if_pos e6, if_pos e7, if_pos e8]
  repeat' split
  all_goals first | rfl | (exfalso; apply own_range p1 <;> assumption)

theorem own_met (l : Launch) (Z : State) (a0 : Array Value) (hw : ∀ d ∈ tables_1, d.before a0 Z = true) (ws : List Jvm.Cond) (p1 : Int32) (h0 : Heap) :
    OMet l Z x code maxLocals ret ws room_1 #[(.int p1)] h0 (fun v h L => v = some (.int 1) ∧ Fr h0.size L) := by
  intro p e ha hc hk s m args below hf happ hP hK
  obtain ⟨n, o, h1, h2, h3, v, L, ho, ⟨hv, hL⟩, hq⟩ := rm0 l Z a0 hw ws p1 h0 h0.size (Nat.le_refl _) p e ha hc hk s m args below hf happ hP hK
  rw [own_law] at hv
  exact ⟨n, o, h1, h2, h3, v, L, ho, ⟨hv, hL⟩, hq⟩
set_option maxRecDepth 65536 in
set_option maxHeartbeats 40000000 in
theorem comes_1 {Post : Tables → Env → Array Value → State → Outcome → State → Prop} (hpost : ∀ tb e args s v u, (limb_1_1.after args s (.returned v) u = true ∧ limb_1_2.after args s (.returned v) u = true ∧ True) → FrameEnd s (.returned v) u (Jvm.fieldLocs frame_1_writes args s ++ Jvm.arrayLocs frame_1_arrays args s ++ Jvm.staticLocs frame_1_statics s) 16 128 → Post tb e args s (.returned v) u) :
    ArmFor flags0 classFile x code maxLocals ret World_1 tables_1 room_1 Calls_1 rest_1 Pre_1 Post := by
  intro l hfl _ _ p e ha hc hk s m args below hf hA hF happ hP
  obtain ⟨hcalls, hrest, hpre⟩ := hP
  obtain ⟨-, -, -, hnamed, -, -, -, hat⟩ := (Spec.applies_iff hf).mp happ
  obtain ⟨hg, hn⟩ := and_e (Cond.before_iff.mp (show (Jvm.Cond.and given_1 narrow_1).before args s = true from hpre))
  obtain ⟨h1, g0⟩ := and_e hg
  obtain ⟨w0, rfl⟩ : ∃ w0 : Value, args = #[w0] := by
    have hs : args.size = 1 := by simpa [Cond.value, given_1] using h1
    obtain ⟨L⟩ := args
    match L, hs with
    | [w0], _ => exact ⟨w0, rfl⟩
  have hw := fun d (hd : d ∈ tables_1) => atoms_spec (ws := Jvm.Cond.code x code maxLocals ret :: tables_1) hat d (List.mem_cons_of_mem _ hd)
  obtain ⟨i0, e0⟩ := is_v g0
  obtain rfl : w0 = (.int i0) := Option.some.inj e0
  obtain ⟨n, o, h1, h2, h3, _, L, rfl, ⟨rfl, N⟩, hq⟩ := own_met l s _ hw tables_1 i0 s.heap p e ha hc hk s m _ below hf ((Spec.applies_iff_loose hf).mp happ).1 ⟨rfl, State.Warmed39.refl s, rfl⟩ trivial
  refine ⟨n, _, h1, h2, h3, hpost _ _ _ _ _ _ ⟨Cond.after_iff.mpr rfl, Cond.after_iff.mpr (eq_i res_at (Term.int_eval (1)) rfl), trivial⟩ ⟨hq.1, hq.2.1, (hq.2.2.sift fun y hy => Or.inr (N y hy)).mono (by decide) (by decide)⟩⟩
theorem main_1_1 : Claimed_1_1 := comes_1 fun _ _ _ _ _ _ h hF => ⟨h.1, hF⟩
theorem main_1_2 : Claimed_1_2 := comes_1 fun _ _ _ _ _ _ h hF => ⟨h.2.1, hF⟩
end Jvm.Pilot.@@N@@
namespace Jvm.Pilot.@@N@@
open Jvm Jvm.ClassFile Sem Op Lib Jvm.Free Jvm.Stand Jvm.Pilot.@@N@@.Jvm.D
/-! MADE BY PROGRAM (witnessworld.py) out of the Statement's table words and the real class files: 10 classes; the members and pool entries that the words name. The judged class is class 1, her method 1. -/
namespace start1
open Jvm.ClassFile
def u (s : String) : CpInfo := .utf8 (stringToUtf16 s)
/-- a pool by its gaps: so many unusable entries, then the entry; so many at the end -/
def gap : Nat → List CpInfo → List CpInfo
  | 0, r => r
  | n + 1, r => .unusable :: gap n r
def poolList (es : List (Nat × CpInfo)) (last : Nat) : List CpInfo := es.foldr (fun e r => gap e.1 (e.2 :: r)) (gap last [])
def pool (es : List (Nat × CpInfo)) (last : Nat) : Array CpInfo := ⟨poolList es last⟩
def fileOf (pool : Array CpInfo) (this : Nat) (attrs : Array Attribute := #[]) (ms : Array MethodInfo := #[]) (fl : Nat := 33) (sup : Nat := 0) (ifs : Array Nat := #[]) (fds : Array FieldInfo := #[]) : ClassFile where
  minorVersion := 0
  majorVersion := 65
  constantPool := pool
  accessFlags := fl
  thisClass := this
  superClass := sup
  interfaces := ifs
  fields := fds
  methods := ms
  attributes := attrs
def plain (name : String) (sup : Option ClassId) : Class where
  name := name
  kind := .ordinary
  loader := none
  accessFlags := 33
  super := sup
  interfaces := #[]
  cf := none
  fields := #[]
  methods := #[]
  instanceTypes := #[]
  staticTypes := #[]
  resolved := #[]
  callSites := []
  init := .initialized
  statics := none
  mirror := none

def pool0 : Array CpInfo := pool [(5, u "<init>"), (0, u "()V"), (1, .class_ 10), (1, u "java/lang/Object")] 113

def k0c0 : Code := { maxStack := 0, maxLocals := 1, code := object_method_1_code, exceptionTable := #[], attributes := #[] }
def k0m0 : Method := { name := "<init>", desc := "()V", sig := { parameters := [], returnType := none }, accessFlags := 1, code := some k0c0 }
/-- java/lang/Object -/
def k0 : Class := { plain "java/lang/Object" none with
  accessFlags := 33
  interfaces := #[]
  cf := some (fileOf pool0 8 #[] #[{ accessFlags := 1, nameIndex := 5, descriptorIndex := 6, attributes := #[] }] 33 0 #[] #[])
  fields := #[]
  methods := #[k0m0]
  instanceTypes := #[]
  staticTypes := #[]
  resolved := Array.replicate 124 none
  statics := none }

def pool1 : Array CpInfo := pool [(2, .class_ 4), (0, .nameAndType 5 6), (0, u "java/lang/Object"), (0, u "<init>"), (0, u "()V"), (0, .class_ 8), (0, u "com/example/tidewire/tidewire/internal/Backoff"), (0, .methodref 7 3), (0, .methodref 7 11), (0, .nameAndType 12 6), (0, u "attempted"), (0, .methodref 7 14), (0, .nameAndType 15 16), (0, u "delayMs"), (0, u "()J"), (0, .methodref 18 19), (0, .class_ 20), (0, .nameAndType 21 22), (0, u "com/example/tidewire/tidewire/internal/BackoffDelayMsPinLaw"), (0, u "expected"), (0, u "(I)J"), (0, .long 10000), (1, .long 250), (3, u "law"), (0, u "(I)Z")] 3

def k1m0 : Method := { name := "<init>", desc := "()V", sig := { parameters := [], returnType := none }, accessFlags := 1, code := none }
def k1c1 : Code := { maxStack := 4, maxLocals := 5, code := code, exceptionTable := #[], attributes := #[] }
def k1m1 : Method := { name := "law", desc := "(I)Z", sig := { parameters := [.int], returnType := some .boolean }, accessFlags := 9, code := some k1c1 }
def k1c2 : Code := { maxStack := 4, maxLocals := 1, code := method_3_code, exceptionTable := #[], attributes := #[] }
def k1m2 : Method := { name := "expected", desc := "(I)J", sig := { parameters := [.int], returnType := some .long }, accessFlags := 10, code := some k1c2 }
/-- com/example/tidewire/tidewire/internal/BackoffDelayMsPinLaw -/
def k1 : Class := { plain "com/example/tidewire/tidewire/internal/BackoffDelayMsPinLaw" (some 0) with
  accessFlags := 49
  interfaces := #[]
  cf := some (fileOf pool1 18 #[] #[{ accessFlags := 1, nameIndex := 5, descriptorIndex := 6, attributes := #[] }, { accessFlags := 9, nameIndex := 29, descriptorIndex := 30, attributes := #[] }, { accessFlags := 10, nameIndex := 21, descriptorIndex := 22, attributes := #[] }] 49 2 #[] #[])
  fields := #[]
  methods := #[k1m0, k1m1, k1m2]
  instanceTypes := #[]
  staticTypes := #[]
  resolved := Array.replicate 34 none
  statics := none }

def pool2 : Array CpInfo := pool [(1, .methodref 2 3), (0, .class_ 4), (0, .nameAndType 5 6), (0, u "java/lang/Object"), (0, u "<init>"), (0, u "()V"), (0, .fieldref 8 9), (0, .class_ 10), (0, .nameAndType 11 12), (0, u "com/example/tidewire/tidewire/internal/Backoff"), (0, u "attempts"), (0, u "I"), (0, .long 250), (1, .long 10000), (1, .long 2), (1, .methodref 20 21), (0, .class_ 22), (0, .nameAndType 23 24), (0, u "java/lang/Math"), (0, u "min"), (0, u "(JJ)J"), (2, .integer 2147483647), (0, u "FIRST_WAIT_MS"), (0, u "J"), (1, u "MAX_WAIT_MS"), (2, u "delayMs"), (0, u "()J"), (1, u "attempted")] 3

def k2c0 : Code := { maxStack := 1, maxLocals := 1, code := prog_2_method_1_code, exceptionTable := #[], attributes := #[] }
def k2m0 : Method := { name := "<init>", desc := "()V", sig := { parameters := [], returnType := none }, accessFlags := 1, code := some k2c0 }
def k2c1 : Code := { maxStack := 4, maxLocals := 4, code := prog_2_method_2_code, exceptionTable := #[], attributes := #[] }
def k2m1 : Method := { name := "delayMs", desc := "()J", sig := { parameters := [], returnType := some .long }, accessFlags := 1, code := some k2c1 }
def k2c2 : Code := { maxStack := 3, maxLocals := 1, code := prog_2_method_3_code, exceptionTable := #[], attributes := #[] }
def k2m2 : Method := { name := "attempted", desc := "()V", sig := { parameters := [], returnType := none }, accessFlags := 1, code := some k2c2 }
/-- com/example/tidewire/tidewire/internal/Backoff -/
def k2 : Class := { plain "com/example/tidewire/tidewire/internal/Backoff" (some 0) with
  accessFlags := 49
  interfaces := #[]
  cf := some (fileOf pool2 8 #[] #[{ accessFlags := 1, nameIndex := 5, descriptorIndex := 6, attributes := #[] }, { accessFlags := 1, nameIndex := 34, descriptorIndex := 35, attributes := #[] }, { accessFlags := 1, nameIndex := 37, descriptorIndex := 6, attributes := #[] }] 49 2 #[] #[{ accessFlags := 26, nameIndex := 28, descriptorIndex := 29, attributes := #[] }, { accessFlags := 26, nameIndex := 31, descriptorIndex := 29, attributes := #[] }, { accessFlags := 2, nameIndex := 11, descriptorIndex := 12, attributes := #[] }])
  fields := #[{ name := "FIRST_WAIT_MS", type := .long, accessFlags := 26, slot := 0, constantValue := 0 }, { name := "MAX_WAIT_MS", type := .long, accessFlags := 26, slot := 1, constantValue := 0 }, { name := "attempts", type := .int, accessFlags := 2, slot := 0, constantValue := 0 }]
  methods := #[k2m0, k2m1, k2m2]
  instanceTypes := #[.int]
  staticTypes := #[.long, .long]
  resolved := Array.replicate 41 none
  statics := none }

def pool3 : Array CpInfo := pool [(1, .class_ 2), (0, u "java/lang/Math"), (1, .class_ 6), (1, u "java/lang/Object"), (0, u "<init>"), (0, u "()V"), (89, .class_ 100), (1, u "java/lang/Math$RandomNumberGeneratorHolder"), (20, u "(JJ)J"), (50, u "negativeZeroFloatBits"), (0, u "J"), (2, u "negativeZeroDoubleBits"), (24, u "min"), (43, u "$assertionsDisabled"), (0, u "Z"), (91, u "twoToTheDoubleScaleDown"), (0, u "D"), (4, u "twoToTheDoubleScaleUp"), (9, u "E"), (3, u "PI"), (2, u "TAU"), (2, u "DEGREES_TO_RADIANS"), (0, u "RADIANS_TO_DEGREES")] 94

def k3m0 : Method := { name := "<init>", desc := "()V", sig := { parameters := [], returnType := none }, accessFlags := 2, code := none }
def k3c1 : Code := { maxStack := 4, maxLocals := 4, code := jdk_29_method_70_code, exceptionTable := #[], attributes := #[] }
def k3m1 : Method := { name := "min", desc := "(JJ)J", sig := { parameters := [.long, .long], returnType := some .long }, accessFlags := 9, code := some k3c1 }
/-- java/lang/Math -/
def k3 : Class := { plain "java/lang/Math" (some 0) with
  accessFlags := 49
  interfaces := #[]
  cf := some (fileOf pool3 1 #[.nestMembers #[98]] #[{ accessFlags := 2, nameIndex := 7, descriptorIndex := 8, attributes := #[] }, { accessFlags := 9, nameIndex := 201, descriptorIndex := 121, attributes := #[] }] 49 4 #[] #[{ accessFlags := 25, nameIndex := 354, descriptorIndex := 339, attributes := #[] }, { accessFlags := 25, nameIndex := 358, descriptorIndex := 339, attributes := #[] }, { accessFlags := 25, nameIndex := 361, descriptorIndex := 339, attributes := #[] }, { accessFlags := 26, nameIndex := 364, descriptorIndex := 339, attributes := #[] }, { accessFlags := 26, nameIndex := 365, descriptorIndex := 339, attributes := #[] }, { accessFlags := 26, nameIndex := 172, descriptorIndex := 173, attributes := #[] }, { accessFlags := 26, nameIndex := 176, descriptorIndex := 173, attributes := #[] }, { accessFlags := 8, nameIndex := 344, descriptorIndex := 339, attributes := #[] }, { accessFlags := 8, nameIndex := 338, descriptorIndex := 339, attributes := #[] }, { accessFlags := 4120, nameIndex := 245, descriptorIndex := 246, attributes := #[] }])
  fields := #[{ name := "E", type := .double, accessFlags := 25, slot := 0, constantValue := 0 }, { name := "PI", type := .double, accessFlags := 25, slot := 1, constantValue := 0 }, { name := "TAU", type := .double, accessFlags := 25, slot := 2, constantValue := 0 }, { name := "DEGREES_TO_RADIANS", type := .double, accessFlags := 26, slot := 3, constantValue := 0 }, { name := "RADIANS_TO_DEGREES", type := .double, accessFlags := 26, slot := 4, constantValue := 0 }, { name := "negativeZeroFloatBits", type := .long, accessFlags := 26, slot := 5, constantValue := 0 }, { name := "negativeZeroDoubleBits", type := .long, accessFlags := 26, slot := 6, constantValue := 0 }, { name := "twoToTheDoubleScaleUp", type := .double, accessFlags := 8, slot := 7, constantValue := 0 }, { name := "twoToTheDoubleScaleDown", type := .double, accessFlags := 8, slot := 8, constantValue := 0 }, { name := "$assertionsDisabled", type := .boolean, accessFlags := 4120, slot := 9, constantValue := 0 }]
  methods := #[k3m0, k3m1]
  instanceTypes := #[]
  staticTypes := #[.double, .double, .double, .double, .double, .long, .long, .double, .double, .boolean]
  resolved := Array.replicate 460 none
  statics := none }

def pool4 : Array CpInfo := pool [(1, u "java/lang/Cloneable"), (0, .class_ 1), (0, u "java/lang/Object"), (0, .class_ 3)] 3

/-- java/lang/Cloneable -/
def k4 : Class := { plain "java/lang/Cloneable" (some 0) with
  accessFlags := 1537
  interfaces := #[]
  cf := some (fileOf pool4 2 #[] #[] 1537 4 #[] #[])
  fields := #[]
  methods := #[]
  instanceTypes := #[]
  staticTypes := #[]
  resolved := Array.replicate 8 none
  statics := none }

def pool5 : Array CpInfo := pool [(1, u "java/io/Serializable"), (0, .class_ 1), (0, u "java/lang/Object"), (0, .class_ 3)] 3

/-- java/io/Serializable -/
def k5 : Class := { plain "java/io/Serializable" (some 0) with
  accessFlags := 1537
  interfaces := #[]
  cf := some (fileOf pool5 2 #[] #[] 1537 4 #[] #[])
  fields := #[]
  methods := #[]
  instanceTypes := #[]
  staticTypes := #[]
  resolved := Array.replicate 8 none
  statics := none }

/-- the primitive byte -/
def k6 : Class := { plain "byte" none with kind := .primitive 'B', accessFlags := 0x411 }
/-- [B -/
def k7 : Class := { plain "[B" (some 0) with kind := .array 6 .byte, interfaces := #[4, 5], accessFlags := 1041 }

/-- the primitive int -/
def k8 : Class := { plain "int" none with kind := .primitive 'I', accessFlags := 0x411 }
/-- [I -/
def k9 : Class := { plain "[I" (some 0) with kind := .array 8 .int, interfaces := #[4, 5], accessFlags := 1041 }

def heap : Heap := #[]
def classes : Array Class := #[k0, k1, k2, k3, k4, k5, k6, k7, k8, k9]
def interned : List (Array UInt16 × Addr) := []
def slotsUsed : Nat := 0
def theMethod : MethodId := ⟨1, 1⟩
def args0 : Array Value := #[.int 5]
def aboutOver (below : List Frame) : State where
  vm := { classes := classes, interned := interned.toArray }
  heap := heap
  slotsUsed := slotsUsed
  threads := #[{ frames := .invoking theMethod args0 :: below }]
def below0 : List Frame := [.native { method := ⟨0, 0⟩, args := #[] }]
def about1 : State := aboutOver below0
def p0 : Program := .bare "" "" ""
def e0 : Env := launch0.env 0 0 0
theorem w_frames : about1.frames = Frame.invoking theMethod args0 :: below0 := rfl
set_option maxRecDepth 65536 in
theorem w_args : argsFit about1.vm theMethod args0 = true := by decide +kernel
set_option maxRecDepth 65536 in
theorem w_heap : heapFits about1 = true := by decide +kernel
set_option maxRecDepth 65536 in
theorem w_runnable : about1.curStatus? = some .runnable := by decide +kernel
set_option maxRecDepth 65536 in
theorem w_alone : about1.alone = true := by decide +kernel
set_option maxRecDepth 65536 in
theorem w_named : about1.methodNamed? x = some theMethod := by decide +kernel
set_option maxRecDepth 65536 in
theorem w_hears : about1.hears theMethod below0 = true := by decide +kernel
set_option maxRecDepth 65536 in
theorem w_ripe : about1.ripe theMethod args0 below0 = true := by decide +kernel
theorem w_running : about1.status = .running := rfl
set_option maxRecDepth 65536 in
theorem w_room : about1.hasRoom e0.platform room_1 = true :=
  launch0.hasRoom_least _ room_1 (by decide +kernel) (by decide +kernel) (by decide +kernel) (by decide +kernel) (by decide +kernel) (by decide +kernel)
theorem allAtoms_all (ts : List Jvm.Cond) (a : Array Jvm.Value) (st : Jvm.State) : (allAtoms ts).before a st = ts.all (fun c => c.before a st) := by
  induction ts with
  | nil => rfl
  | cons c t ih =>
    show (Jvm.Cond.and c (allAtoms t)).before a st = _
    rw [Jvm.Cond.before_and, ih, List.all_cons]
def words1 : List Jvm.Cond := Jvm.Cond.code x code maxLocals ret :: tables_1
/-- a 'code' word, met by the world's own term for the bytes: nothing is compared byte by byte -/
theorem code_word {y : MethodName} {bytes : ByteArray} {mx : Nat} {rt : Option FieldType} {a : Array Value} {s : State} {m : MethodId} {meth : Method} {c : Code} (h1 : s.methodNamed? y = some m) (h2 : s.vm.method? m = some meth) (h3 : meth.code = some c) (h4 : c.code = bytes)
    (h5 : (c.maxLocals == mx && c.exceptionTable.isEmpty && decide (c.maxStack ≤ mostOperands) && decide (meth.sig.returnType = rt) && !meth.locks && decide (parseMethodDescriptor y.desc = some meth.sig)) = true) : (Jvm.Cond.code y bytes mx rt).before a s = true := by
  simp only [Bool.and_eq_true, beq_iff_eq, Bool.not_eq_true', decide_eq_true_eq] at h5
  obtain ⟨⟨⟨⟨⟨g1, g2⟩, g3⟩, g4⟩, g5⟩, g6⟩ := h5
  simp [Cond.before, Cond.holds, Cond.value, h1, h2, h3, h4, g1, g2, g3, g4, g5, g6]
def isCode : Jvm.Cond → Bool
  | .code _ _ _ _ => true
  | _ => false
theorem all_split {L : List Jvm.Cond} {P : Jvm.Cond → Bool} (h1 : L.all (fun c => isCode c || P c) = true) (h2 : ∀ c ∈ L.filter isCode, P c = true) : L.all P = true := by
  refine List.all_eq_true.mpr fun c hc => ?_
  have h := List.all_eq_true.mp h1 c hc
  rcases Bool.eq_false_or_eq_true (isCode c) with hi | hi
  · exact h2 c (List.mem_filter.mpr ⟨hc, hi⟩)
  · simpa [hi] using h
set_option maxRecDepth 65536 in
theorem w_c0 : (Jvm.Cond.code x code maxLocals ret).before args0 about1 = true := code_word (m := ⟨1, 1⟩) (meth := k1m1) (c := k1c1) (by decide +kernel) rfl rfl rfl (by decide +kernel)
set_option maxRecDepth 65536 in
theorem w_c1 : (Jvm.Cond.code ({ cls := "com/example/tidewire/tidewire/internal/Backoff", name := "<init>", desc := "()V" } : Jvm.MethodName) prog_2_method_1_code (1 : Nat) (Option.none : Option Jvm.ClassFile.FieldType)).before args0 about1 = true := code_word (m := ⟨2, 0⟩) (meth := k2m0) (c := k2c0) (by decide +kernel) rfl rfl rfl (by decide +kernel)
set_option maxRecDepth 65536 in
theorem w_c2 : (Jvm.Cond.code ({ cls := "java/lang/Object", name := "<init>", desc := "()V" } : Jvm.MethodName) object_method_1_code (1 : Nat) (Option.none : Option Jvm.ClassFile.FieldType)).before args0 about1 = true := code_word (m := ⟨0, 0⟩) (meth := k0m0) (c := k0c0) (by decide +kernel) rfl rfl rfl (by decide +kernel)
set_option maxRecDepth 65536 in
theorem w_c3 : (Jvm.Cond.code ({ cls := "com/example/tidewire/tidewire/internal/Backoff", name := "delayMs", desc := "()J" } : Jvm.MethodName) prog_2_method_2_code (4 : Nat) (Option.some Jvm.ClassFile.FieldType.long)).before args0 about1 = true := code_word (m := ⟨2, 1⟩) (meth := k2m1) (c := k2c1) (by decide +kernel) rfl rfl rfl (by decide +kernel)
set_option maxRecDepth 65536 in
theorem w_c4 : (Jvm.Cond.code ({ cls := "com/example/tidewire/tidewire/internal/BackoffDelayMsPinLaw", name := "expected", desc := "(I)J" } : Jvm.MethodName) method_3_code (1 : Nat) (Option.some Jvm.ClassFile.FieldType.long)).before args0 about1 = true := code_word (m := ⟨1, 2⟩) (meth := k1m2) (c := k1c2) (by decide +kernel) rfl rfl rfl (by decide +kernel)
set_option maxRecDepth 65536 in
theorem w_c5 : (Jvm.Cond.code ({ cls := "com/example/tidewire/tidewire/internal/Backoff", name := "attempted", desc := "()V" } : Jvm.MethodName) prog_2_method_3_code (1 : Nat) (Option.none : Option Jvm.ClassFile.FieldType)).before args0 about1 = true := code_word (m := ⟨2, 2⟩) (meth := k2m2) (c := k2c2) (by decide +kernel) rfl rfl rfl (by decide +kernel)
set_option maxRecDepth 65536 in
theorem w_c6 : (Jvm.Cond.code ({ cls := "java/lang/Math", name := "min", desc := "(JJ)J" } : Jvm.MethodName) jdk_29_method_70_code (4 : Nat) (Option.some Jvm.ClassFile.FieldType.long)).before args0 about1 = true := code_word (m := ⟨3, 1⟩) (meth := k3m1) (c := k3c1) (by decide +kernel) rfl rfl rfl (by decide +kernel)
def codes1 : List Jvm.Cond := [Jvm.Cond.code x code maxLocals ret, Jvm.Cond.code ({ cls := "com/example/tidewire/tidewire/internal/Backoff", name := "<init>", desc := "()V" } : Jvm.MethodName) prog_2_method_1_code (1 : Nat) (Option.none : Option Jvm.ClassFile.FieldType), Jvm.Cond.code ({ cls := "java/lang/Object", name := "<init>", desc := "()V" } : Jvm.MethodName) object_method_1_code (1 : Nat) (Option.none : Option Jvm.ClassFile.FieldType), Jvm.Cond.code ({ cls := "com/example/tidewire/tidewire/internal/Backoff", name := "delayMs", desc := "()J" } : Jvm.MethodName) prog_2_method_2_code (4 : Nat) (Option.some Jvm.ClassFile.FieldType.long), Jvm.Cond.code ({ cls := "com/example/tidewire/tidewire/internal/BackoffDelayMsPinLaw", name := "expected", desc := "(I)J" } : Jvm.MethodName) method_3_code (1 : Nat) (Option.some Jvm.ClassFile.FieldType.long), Jvm.Cond.code ({ cls := "com/example/tidewire/tidewire/internal/Backoff", name := "attempted", desc := "()V" } : Jvm.MethodName) prog_2_method_3_code (1 : Nat) (Option.none : Option Jvm.ClassFile.FieldType), Jvm.Cond.code ({ cls := "java/lang/Math", name := "min", desc := "(JJ)J" } : Jvm.MethodName) jdk_29_method_70_code (4 : Nat) (Option.some Jvm.ClassFile.FieldType.long)]
set_option maxRecDepth 65536 in
theorem codes_eq : words1.filter isCode = codes1 := rfl
theorem w_codes : ∀ c ∈ words1.filter isCode, c.before args0 about1 = true := by
  rw [codes_eq]
  intro c hc
  simp only [codes1, List.mem_cons, List.not_mem_nil, or_false] at hc
  rcases hc with rfl | rfl | rfl | rfl | rfl | rfl | rfl
  · exact w_c0
  · exact w_c1
  · exact w_c2
  · exact w_c3
  · exact w_c4
  · exact w_c5
  · exact w_c6
set_option maxRecDepth 65536 in
theorem w_t1 : (words1.take 24).all (fun c => isCode c || c.before args0 about1) = true := by decide +kernel
set_option maxRecDepth 65536 in
theorem w_t2 : (words1.drop 24).all (fun c => isCode c || c.before args0 about1) = true := by decide +kernel
theorem w_tables : (allAtoms (Jvm.Cond.code x code maxLocals ret :: tables_1)).before args0 about1 = true := by
  rw [allAtoms_all]
  show words1.all (fun c => c.before args0 about1) = true
  refine all_split ?_ w_codes
  rw [← List.take_append_drop 24 words1, List.all_append, w_t1, w_t2]
  rfl
set_option maxRecDepth 65536 in
theorem w_case : (Jvm.Cond.and given_1 narrow_1).before args0 about1 = true := by decide +kernel
theorem w_applies : (headSpec (Jvm.Cond.code x code maxLocals ret :: tables_1) room_1).applies x e0.platform about1 = true :=
  (Spec.applies_iff w_frames).mpr ⟨w_running, w_runnable, w_alone, w_named, w_hears, w_ripe, w_room, w_tables⟩
theorem atStart : AtStart classFile x code maxLocals ret World_1 tables_1 room_1 Calls_1 rest_1 Pre_1 launch0 p0 e0 about1 theMethod args0 below0 :=
  ⟨lists_1, trivial, launch0.admits_env _ _ _, launch0.least_env, fairChoices_fair.cas, fairChoices_fair.clock, w_frames, w_args, w_heap, w_applies, trivial, trivial, w_case⟩
end start1
theorem witness_1 : WitnessClaimed_1 := ⟨start1.p0, start1.e0, start1.about1, start1.theMethod, start1.args0, start1.below0, start1.atStart⟩
end Jvm.Pilot.@@N@@
