import JvmDerived
import JvmDerived.Pilot.@@N@@Statement
import JvmDerived.Pilot.@@N@@Code
set_option linter.unusedVariables false
set_option linter.unusedSimpArgs false
namespace Jvm.Pilot.@@N@@
open Jvm Jvm.ClassFile Sem Op Lib Jvm.Free Jvm.Stand Jvm.LawKit Jvm.RoadKit Bundle Jvm.Pilot.@@N@@.Jvm.D
/-! what a body's walk owes, in the manner of a continuation -/
section Own
variable {p : Program} {l : Launch} {e : Env} {R : Room} {s : State} {m : MethodId} {args : Array Value} {below : List Frame} {meth : Method} {c : Code} {T T' : State} {locs : List Loc} {cells slots : Nat} {Q Q' : Option Value → Heap → List Loc → Prop}
abbrev OMet (l : Launch) (Z : State) (y : MethodName) (bytes : ByteArray) (maxL : Nat) (ret : Option FieldType) (ws : List Jvm.Cond) (rm : Room) (as : Array Value) (h0 : Heap) (Q : Option Value → Heap → List Loc → Prop) : Prop :=
  MetFree l y (head1 (Jvm.Cond.code y bytes maxL ret :: ws) rm) (fun a U => a = as ∧ Z.Warmed39 U.vm ∧ U.heap = h0) (fun _ _ _ _ _ => True) (fun _ U o U' => ∃ v L, o = .returned v ∧ Q v U'.heap L ∧ FrameEnd U o U' L rm.cells rm.slots)
def OG (p : Program) (e : Env) (R : Room) (s : State) (below : List Frame) (Q : Option Value → Heap → List Loc → Prop) (T : State) (g : JFrame) : Prop :=
  ∃ s₂ o, Steps p.tables e below (T.setTop g) s₂ ∧ s₂.status = .running ∧ Ended s₂ below o ∧ ∃ v L, o = .returned v ∧ Q v s₂.heap L ∧ FrameEnd s o s₂ L R.cells R.slots
theorem own_st {g g' : JFrame} (h : ∀ t, Steps p.tables e below (T'.setTop g') t → Steps p.tables e below (T.setTop g) t) (k : OG p e R s below Q T' g') : OG p e R s below Q T g := by
  obtain ⟨s₂, o, h1, h2⟩ := k
  exact ⟨s₂, o, h _ h1, h2⟩
theorem own_sp {g g' : JFrame} {t : State} (h : ∀ t, Steps p.tables e below (T'.setTop g') t → Steps p.tables e below (T.setTop g) t) (k : Steps p.tables e below (T'.setTop g') t) : Steps p.tables e below (T.setTop g) t := h _ k
theorem own_cast {g g' : JFrame} (q : g = g') (k : OG p e R s below Q T g') : OG p e R s below Q T g := q ▸ k
theorem own_irr {x : Int64} : ¬ x < x := Int64.lt_irrefl
theorem own_if0 {cd : ClassFile.Cond} {x : Int32} {b : Bool} (h : if_icmp.holds cd x 0 = b) : ifCond.holds cd x = b := by rw [if0]; exact h
theorem own_retZ (X : Stand p l e R s m args below meth c T locs cells slots) (hx : p.tables.exec = Jvm.exec) {t : FieldType} (hret : meth.sig.returnType = some t) (ht : t = .boolean ∨ t = .byte ∨ t = .char ∨ t = .short) (hlk : meth.locks = false) {pc : Nat} {Ls : Array Slot} {z : Int32} {rest : List Value}
    (hd : decode c.code pc = .ok (.ireturn, 1)) (hc : cells ≤ R.cells) (hs : slots ≤ R.slots) {w : Int32} (hn : nar t z = w) (hq : Q (some (.int w)) T.heap locs) : OG p e R s below Q T (mkF m pc Ls (.int z :: rest)) := by
  subst hn
  obtain ⟨fs, hr, hrun, hended, hW, hsame⟩ := X.leave (v := some (.int (nar t z))) (fun h => by rw [hret] at h; cases h) hlk
  exact ⟨_, _, retN X hx hret ht hd hr, hrun, hended, _, _, rfl, hq, ⟨_, rfl⟩, hW, hsame.mono hc hs⟩
theorem own_retV (X : Stand p l e R s m args below meth c T locs cells slots) (hx : p.tables.exec = Jvm.exec) {t : FieldType} {i : Instr} {w : Value} (hret : meth.sig.returnType = some t) (hn : narrow t w = w)
    (hi : (i = .ireturn ∧ (t = .int ∨ t = .boolean ∨ t = .byte ∨ t = .char ∨ t = .short) ∧ ∃ z, w = .int z) ∨ (i = .lreturn ∧ t = .long ∧ ∃ z, w = .long z) ∨ (i = .dreturn ∧ t = .double ∧ ∃ z, w = .double z) ∨ (i = .freturn ∧ t = .float ∧ ∃ z, w = .float z) ∨ (i = .areturn ∧ t.isReference = true ∧ w.isRef = true))
    (hlk : meth.locks = false) {pc : Nat} {Ls : Array Slot} {rest : List Value}
    (hd : decode c.code pc = .ok (i, 1)) (hc : cells ≤ R.cells) (hs : slots ≤ R.slots) (hq : Q (some w) T.heap locs) : OG p e R s below Q T (mkF m pc Ls (w :: rest)) := by
  obtain ⟨fs, hr, hrun, hended, hW, hsame⟩ := X.leave (v := some w) (fun h => by rw [hret] at h; cases h) hlk
  exact ⟨_, _, retOut X hx hret hn hi hd hr, hrun, hended, _, _, rfl, hq, ⟨_, rfl⟩, hW, hsame.mono hc hs⟩
theorem own_retI (X : Stand p l e R s m args below meth c T locs cells slots) (hx : p.tables.exec = Jvm.exec) (hret : meth.sig.returnType = some .int) (hlk : meth.locks = false) {pc : Nat} {Ls : Array Slot} {z : Int32} {rest : List Value}
    (hd : decode c.code pc = .ok (.ireturn, 1)) (hc : cells ≤ R.cells) (hs : slots ≤ R.slots) (hq : Q (some (.int z)) T.heap locs) : OG p e R s below Q T (mkF m pc Ls (.int z :: rest)) :=
  own_retV X hx hret rfl (Or.inl ⟨rfl, Or.inl rfl, _, rfl⟩) hlk hd hc hs hq
theorem own_retL (X : Stand p l e R s m args below meth c T locs cells slots) (hx : p.tables.exec = Jvm.exec) (hret : meth.sig.returnType = some .long) (hlk : meth.locks = false) {pc : Nat} {Ls : Array Slot} {z : Int64} {rest : List Value}
    (hd : decode c.code pc = .ok (.lreturn, 1)) (hc : cells ≤ R.cells) (hs : slots ≤ R.slots) (hq : Q (some (.long z)) T.heap locs) : OG p e R s below Q T (mkF m pc Ls (.long z :: rest)) :=
  own_retV X hx hret rfl (Or.inr (Or.inl ⟨rfl, rfl, _, rfl⟩)) hlk hd hc hs hq
theorem own_ret0 (X : Stand p l e R s m args below meth c T locs cells slots) (hx : p.tables.exec = Jvm.exec) (hret : meth.sig.returnType = none) (hlk : meth.locks = false) {pc : Nat} {Ls : Array Slot}
    (hd : decode c.code pc = .ok (.return_, 1)) (hc : cells ≤ R.cells) (hs : slots ≤ R.slots) (hq : Q none T.heap locs) : OG p e R s below Q T (mkF m pc Ls []) := by
  obtain ⟨fs, hr, hrun, hended, hW, hsame⟩ := X.leave (v := none) (fun _ => rfl) hlk
  exact ⟨_, _, X.returnOut hx hret hd hr, hrun, hended, _, _, rfl, hq, ⟨_, rfl⟩, hW, hsame.mono hc hs⟩
theorem own_enter {Z : State} {y : MethodName} {bytes : ByteArray} {maxL : Nat} {ret : Option FieldType} {ws : List Jvm.Cond} {rm : Room} {as : Array Value} {h0 : Heap} (hp : plainFor y = true)
    (body : ∀ (p : Program) (e : Env) (s : State) (m : MethodId) (below : List Frame) (meth : Method) (c : Code) (s₁ : State), p.tables.exec = Jvm.exec → c.code = bytes → c.maxLocals = maxL → s.vm.findClass y.cls = some m.cls → meth.sig.returnType = ret → meth.locks = false → meth.name = y.name → Z.Warmed39 s.vm →
      Stand p l e rm s m as below meth c s₁ [] 0 0 → s₁.heap = h0 → OG p e rm s below Q s₁ (entryFrame m as maxL)) : OMet l Z y bytes maxL ret ws rm as h0 Q := by
  refine MetFree.of_bodySF hp hisR ?_
  intro p e s m args below meth c s₁ Bd hml0 hP hK
  obtain ⟨rfl, hZ, hh⟩ := hP
  exact body p e s m below meth c s₁ Bd.exec Bd.bytes hml0 (findClass_of_methodNamed Bd.named) Bd.returns Bd.notSynchronized (name_of_methodNamed Bd.named Bd.method).1 hZ (Stand.of_body Bd) (by rw [← hh, Bd.state]; rfl)
end Own
section OwnH
variable {Z : State} {h h' h0 : Heap} {a b : Addr} {ty : FieldType} {vs : List Value} {n sl : Nat} {v : Value} {ws : List Addr}
/-- an array, by the whole list of what it holds -/
def OA (Z : State) (h : Heap) (a : Addr) (ty : FieldType) (vs : List Value) : Prop := ∃ c : Cell, Arr Z h a c ty ∧ c.slots.toList = vs
/-- an array, by its length alone -/
def OL (Z : State) (h : Heap) (a : Addr) (ty : FieldType) (n : Nat) : Prop := ∃ c : Cell, Arr Z h a c ty ∧ c.slots.size = n
theorem OA.lt (F : OA Z h a ty vs) : a < h.size := by obtain ⟨c, A, -⟩ := F; exact A.lt
theorem OL.lt (F : OL Z h a ty n) : a < h.size := by obtain ⟨c, A, -⟩ := F; exact A.lt
theorem OA.ext (F : OA Z h a ty vs) (E : Ext h h') : OA Z h' a ty vs := by obtain ⟨c, A, r⟩ := F; exact ⟨c, A.ext E, r⟩
theorem OL.ext (F : OL Z h a ty n) (E : Ext h h') : OL Z h' a ty n := by obtain ⟨c, A, r⟩ := F; exact ⟨c, A.ext E, r⟩
theorem OA.other (F : OA Z h b ty vs) (W : Wr h h' a sl v) (q : b ≠ a) : OA Z h' b ty vs := by obtain ⟨c, A, r⟩ := F; exact ⟨c, A.other W q, r⟩
theorem OL.other (F : OL Z h b ty n) (W : Wr h h' a sl v) (q : b ≠ a) : OL Z h' b ty n := by obtain ⟨c, A, r⟩ := F; exact ⟨c, A.other W q, r⟩
theorem OA.keep (F : OA Z h a ty vs) (K : Keep h h' ws) (q : a ∉ ws) : OA Z h' a ty vs := by obtain ⟨c, A, r⟩ := F; exact ⟨c, ⟨K.2.1 a c A.1 q, A.2⟩, r⟩
theorem OL.keep (F : OL Z h a ty n) (K : Keep h h' ws) (q : a ∉ ws) : OL Z h' a ty n := by obtain ⟨c, A, r⟩ := F; exact ⟨c, ⟨K.2.1 a c A.1 q, A.2⟩, r⟩
theorem OA.new {k : ClassId} {z : Int32} (A : Arr Z h a (newA k ty z) ty) : OA Z h a ty (List.replicate z.toNatClampNeg (defaultValue ty)) := ⟨_, A, by show (Array.replicate _ _).toList = _; exact Array.toList_replicate⟩
theorem OL.new {k : ClassId} {z : Int32} (A : Arr Z h a (newA k ty z) ty) : OL Z h a ty z.toNatClampNeg := ⟨_, A, sz_new _ _ _⟩
theorem OA.len (F : OA Z h a ty vs) : ∃ c : Cell, Arr Z h a c ty ∧ c.slots.size = vs.length := by obtain ⟨c, A, r⟩ := F; exact ⟨c, A, by rw [← r]; simp⟩
theorem OA.set {j : Int32} {i : Nat} (F : OA Z h a ty vs) (W : Wr h h' a j.toNatClampNeg v) (hj : j.toNatClampNeg = i) : OA Z h' a ty (vs.set i v) := by
  obtain ⟨c, A, r⟩ := F
  refine ⟨_, A.same W, ?_⟩
  subst hj r
  show (c.slots.setIfInBounds _ _).toList = _
  exact Array.toList_setIfInBounds
theorem OL.set {j : Int32} (F : OL Z h a ty n) (W : Wr h h' a j.toNatClampNeg v) : OL Z h' a ty n := by
  obtain ⟨c, A, r⟩ := F
  exact ⟨_, A.same W, by rw [sz_set]; exact r⟩
theorem own_rd (F : OA Z h a ty vs) {j : Int32} {i : Nat} (hj : j.toNatClampNeg = i) (hn : ¬ j < 0) (hv : vs[i]? = some v) : ∃ c : Cell, Arr Z h a c ty ∧ ¬ (j < 0 ∨ c.slots.size ≤ j.toNatClampNeg) ∧ c.slots[j.toNatClampNeg]? = some v := by
  obtain ⟨c, A, r⟩ := F
  subst hj r
  rw [Array.getElem?_toList] at hv
  refine ⟨c, A, fun q => ?_, hv⟩
  rcases q with q | q
  · exact hn q
  · have := (Array.getElem?_eq_some_iff.mp hv).1; omega
theorem own_wr (F : OA Z h a ty vs) {j : Int32} {i : Nat} (hj : j.toNatClampNeg = i) (hn : ¬ j < 0) (hi : i < vs.length) : ∃ c : Cell, Arr Z h a c ty ∧ ¬ (j < 0 ∨ c.slots.size ≤ j.toNatClampNeg) := by
  obtain ⟨c, A, r⟩ := F
  subst hj r
  rw [Array.length_toList] at hi
  refine ⟨c, A, fun q => ?_⟩
  rcases q with q | q
  · exact hn q
  · omega
theorem own_wrL (F : OL Z h a ty n) {j : Int32} (hj : ¬ j < 0 ∧ j.toNatClampNeg < n) : ∃ c : Cell, Arr Z h a c ty ∧ ¬ (j < 0 ∨ c.slots.size ≤ j.toNatClampNeg) := by
  obtain ⟨c, A, r⟩ := F
  subst r
  exact ⟨c, A, fun q => by rcases q with q | q; exact hj.1 q; omega⟩
theorem own_selp {s : State} {y : MethodName} {a0 args : Array Value} {k : Nat} (hZ : Z.Warmed39 s.vm) (wi : (Jvm.Cond.instantiable y.cls k).before a0 Z = true) (wp : (Jvm.Cond.privateMethod y).before a0 Z = true) (wm : (Jvm.Cond.instanceMethod y).before a0 Z = true) (hy : y.cls ≠ "java/lang/invoke/MethodHandle" ∧ y.cls ≠ "java/lang/invoke/VarHandle") : (Jvm.Cond.selects y.cls y y).before args s = true := by
  have wi' : (Jvm.Cond.instantiable y.cls k).before args s = true := mv hZ wi
  obtain ⟨c, kc, i1, i2, -, i4, -⟩ := Cond.instantiable_spec wi'
  exact selects_self_of_private i1 i2 (Bool.or_eq_false_iff.mp i4).1 (Cond.privateMethod_at (mvP hZ wp (args := args))) (mvT hZ wm) hy
theorem own_all0 {P : Addr → Prop} : ∀ x ∈ ([] : List Addr), P x := fun x hx => by cases hx
theorem own_all1 {P : Addr → Prop} {a : Addr} (h : P a) : ∀ x ∈ [a], P x := fun x hx => by simp only [List.mem_cons, List.not_mem_nil, or_false] at hx; subst hx; exact h
theorem own_all2 {P : Addr → Prop} {a b : Addr} (h : P a) (h2 : P b) : ∀ x ∈ [a, b], P x := fun x hx => by
  simp only [List.mem_cons, List.not_mem_nil, or_false] at hx; rcases hx with rfl | rfl; exact h; exact h2
theorem own_all3 {P : Addr → Prop} {a b c : Addr} (h : P a) (h2 : P b) (h3 : P c) : ∀ x ∈ [a, b, c], P x := fun x hx => by
  simp only [List.mem_cons, List.not_mem_nil, or_false] at hx; rcases hx with rfl | rfl | rfl; exact h; exact h2; exact h3
theorem own_all4 {P : Addr → Prop} {a b c d : Addr} (h : P a) (h2 : P b) (h3 : P c) (h4 : P d) : ∀ x ∈ [a, b, c, d], P x := fun x hx => by
  simp only [List.mem_cons, List.not_mem_nil, or_false] at hx; rcases hx with rfl | rfl | rfl | rfl; exact h; exact h2; exact h3; exact h4
theorem own_nin0 {x : Addr} : x ∉ ([] : List Addr) := List.not_mem_nil
theorem own_nin1 {x a : Addr} (h : x ≠ a) : x ∉ [a] := by simp [h]
theorem own_nin2 {x a b : Addr} (h : x ≠ a) (h2 : x ≠ b) : x ∉ [a, b] := by simp [h, h2]
theorem own_nin3 {x a b c : Addr} (h : x ≠ a) (h2 : x ≠ b) (h3 : x ≠ c) : x ∉ [a, b, c] := by simp [h, h2, h3]
theorem own_nin4 {x a b c d : Addr} (h : x ≠ a) (h2 : x ≠ b) (h3 : x ≠ c) (h4 : x ≠ d) : x ∉ [a, b, c, d] := by simp [h, h2, h3, h4]
end OwnH
theorem d5_0 : decode jdk_29_method_70_code 0 = .ok (.lload_n 0, 1) := by decide +kernel
theorem d5_1 : decode jdk_29_method_70_code 1 = .ok (.lload_n 2, 1) := by decide +kernel
theorem d5_2 : decode jdk_29_method_70_code 2 = .ok (.lcmp, 1) := by decide +kernel
theorem d5_3 : decode jdk_29_method_70_code 3 = .ok (.ifCond .gt 7, 3) := by decide +kernel
theorem d5_6 : decode jdk_29_method_70_code 6 = .ok (.lload_n 0, 1) := by decide +kernel
theorem d5_7 : decode jdk_29_method_70_code 7 = .ok (.goto 4, 3) := by decide +kernel
theorem d5_10 : decode jdk_29_method_70_code 10 = .ok (.lload_n 2, 1) := by decide +kernel
theorem d5_11 : decode jdk_29_method_70_code 11 = .ok (.lreturn, 1) := by decide +kernel
theorem pn_5 : plainFor (⟨"java/lang/Math", "min", "(JJ)J"⟩ : MethodName) = true := by first | exact plainFor_of_name (by first | (simp [plainName, overriddenIn]; done) | decide +kernel) | decide +kernel
def f5 (q1 : Int64) (q2 : Int64) : Int64 := (if q2 < q1 then q2 else q1)
theorem ef_5 (m : MethodId) (q1 : Int64) (q2 : Int64) : entryFrame m #[(.long q1), (.long q2)] 4 = (mkF m 0 #[.val (.long q1), .second, .val (.long q2), .second] []) := by first | (simp [entryFrame, mkF, argsToLocals, Value.category]; done) | rfl
abbrev Q5 (Z : State) (q1 : Int64) (q2 : Int64) (h0 : Heap)  : Option Value → Heap → List Loc → Prop := (fun v h L => v = some (.long (f5 q1 q2)) ∧ L = [] ∧ h = h0)
set_option maxRecDepth 65536 in
set_option maxHeartbeats 40000000 in
theorem rm5 (l : Launch) (Z : State) (a0 : Array Value) (hw : ∀ d ∈ tables_1, d.before a0 Z = true) (ws : List Jvm.Cond) (q1 : Int64) (q2 : Int64) (h0 : Heap)  :
    OMet l Z (⟨"java/lang/Math", "min", "(JJ)J"⟩ : MethodName) jdk_29_method_70_code 4 (some .long) ws ({ frames := 0, cells := 0, slots := 0, locals := 0 } : Room) #[(.long q1), (.long q2)] h0 (Q5 Z q1 q2 h0) := by
  refine own_enter pn_5 ?_
  intro p e s m below meth c s₁ hx hby hml0 hown hret hlk hnm hZ X0 e0
  have hml : c.maxLocals = 4 := hml0
  refine own_cast (ef_5 m q1 q2) ?_
  show OG p e ({ frames := 0, cells := 0, slots := 0, locals := 0 } : Room) s below (fun v h L => v = some (.long (f5 q1 q2)) ∧ L = [] ∧ h = h0) s₁ (mkF m 0 #[.val (.long q1), .second, .val (.long q2), .second] [])
  refine own_st (fun t k => XS.lloadN X0.here hx rfl (hb hby d5_0) rfl k) ?_
  show OG p e _ s below _ s₁ (mkF m 1 #[.val (.long q1), .second, .val (.long q2), .second] [(.long q1)])
  refine own_st (fun t k => XS.lloadN X0.here hx rfl (hb hby d5_1) rfl k) ?_
  show OG p e _ s below _ s₁ (mkF m 2 #[.val (.long q1), .second, .val (.long q2), .second] [(.long q2), (.long q1)])
  refine own_st (fun t k => XS.lcmp X0.here hx rfl (hb hby d5_2) rfl k) ?_
  show OG p e _ s below _ s₁ (mkF m 3 #[.val (.long q1), .second, .val (.long q2), .second] [(.int (lcmpW q1 q2))])
  by_cases c1 : q2 < q1
  · refine own_st (fun t k => XS.ifYes X0.here hx rfl (pc0 := 3) (pc' := 10) rfl (hb hby d5_3) rfl (own_if0 (tlt ((lw_gt _ _).mpr c1)).2.2.1) (by decide) (by decide) k) ?_
    show OG p e _ s below _ s₁ (mkF m 10 #[.val (.long q1), .second, .val (.long q2), .second] [])
    refine own_st (fun t k => XS.lloadN X0.here hx rfl (hb hby d5_10) rfl k) ?_
    show OG p e _ s below _ s₁ (mkF m 11 #[.val (.long q1), .second, .val (.long q2), .second] [(.long q2)])
    exact own_retL X0 hx hret hlk (hb hby d5_11) (by decide) (by decide) ⟨congrArg (fun z => some (Value.long z)) (show f5 q1 q2 = q2 from (by rw [f5, if_pos c1])).symm, rfl, e0⟩
  · refine own_st (fun t k => XS.ifNo X0.here hx rfl (hb hby d5_3) rfl (own_if0 (flt (fun q => c1 ((lw_gt _ _).mp q))).2.2.1) k) ?_
    show OG p e _ s below _ s₁ (mkF m 6 #[.val (.long q1), .second, .val (.long q2), .second] [])
    refine own_st (fun t k => XS.lloadN X0.here hx rfl (hb hby d5_6) rfl k) ?_
    show OG p e _ s below _ s₁ (mkF m 7 #[.val (.long q1), .second, .val (.long q2), .second] [(.long q1)])
    refine own_st (fun t k => XS.goto X0.here hx rfl (pc0 := 7) (pc' := 11) rfl (hb hby d5_7) (by decide) (by decide) k) ?_
    show OG p e _ s below _ s₁ (mkF m 11 #[.val (.long q1), .second, .val (.long q2), .second] [(.long q1)])
    exact own_retL X0 hx hret hlk (hb hby d5_11) (by decide) (by decide) ⟨congrArg (fun z => some (Value.long z)) (show f5 q1 q2 = q1 from (by rw [f5, if_neg c1])).symm, rfl, e0⟩
theorem d1_0 : decode prog_2_method_1_code 0 = .ok (.aload_n 0, 1) := by decide +kernel
theorem d1_1 : decode prog_2_method_1_code 1 = .ok (.invokespecial 1, 3) := by decide +kernel
theorem d1_4 : decode prog_2_method_1_code 4 = .ok (.return_, 1) := by decide +kernel
theorem pn_1 : plainFor (⟨"com/example/tidewire/tidewire/internal/Backoff", "<init>", "()V"⟩ : MethodName) = true := by first | exact plainFor_of_name (by first | (simp [plainName, overriddenIn]; done) | decide +kernel) | decide +kernel
theorem ef_1 (m : MethodId) (a1 : Addr) : entryFrame m #[(.ref a1)] 1 = (mkF m 0 #[.val (.ref a1)] []) := by first | (simp [entryFrame, mkF, argsToLocals, Value.category]; done) | rfl
abbrev Q1 (Z : State) (a1 : Addr) (h0 : Heap) (n0 : Nat) : Option Value → Heap → List Loc → Prop := (fun v h L => v = none ∧ Fr n0 L ∧ Keep h0 h [])
set_option maxRecDepth 65536 in
set_option maxHeartbeats 40000000 in
theorem rm1 (l : Launch) (Z : State) (a0 : Array Value) (hw : ∀ d ∈ tables_1, d.before a0 Z = true) (ws : List Jvm.Cond) (a1 : Addr) (h0 : Heap) (n0 : Nat) :
    OMet l Z (⟨"com/example/tidewire/tidewire/internal/Backoff", "<init>", "()V"⟩ : MethodName) prog_2_method_1_code 1 none ws ({ frames := 1, cells := 0, slots := 0, locals := 12 } : Room) #[(.ref a1)] h0 (Q1 Z a1 h0 n0) := by
  refine own_enter pn_1 ?_
  intro p e s m below meth c s₁ hx hby hml0 hown hret hlk hnm hZ X0 e0
  have hml : c.maxLocals = 1 := hml0
  have N0 := Fr.nil n0
  refine own_cast (ef_1 m a1) ?_
  show OG p e ({ frames := 1, cells := 0, slots := 0, locals := 12 } : Room) s below (fun v h L => v = none ∧ Fr n0 L ∧ Keep h0 h []) s₁ (mkF m 0 #[.val (.ref a1)] [])
  refine own_st (fun t k => XS.aloadN X0.here hx rfl (hb hby d1_0) rfl rfl k) ?_
  show OG p e _ s below _ s₁ (mkF m 1 #[.val (.ref a1)] [(.ref a1)])
  obtain ⟨T1, X1, e1, st1⟩ := initO X0 hx hZ hown (hw _ (List.mem_of_getElem? (i := 6) rfl)) (hw _ (List.mem_of_getElem? (i := 7) rfl)) (hw _ (List.mem_of_getElem? (i := 8) rfl)) e0 (g := (mkF m 1 #[.val (.ref a1)] [(.ref a1)])) rfl (by rw [hml]; rfl) rfl (hb hby d1_1) (by decide) (W := 0) (by show 2 * 0 + _ ≤ _; exact Nat.le_of_eq rfl) (by decide)
  refine own_st st1 ?_
  show OG p e _ s below _ T1 (mkF m 4 #[.val (.ref a1)] [])
  refine own_ret0 X1 hx hret hlk (hb hby d1_4) (by decide) (by decide) ?_
  rw [e1]
  exact ⟨rfl, N0, (Keep.refl h0 [])⟩
theorem d4_0 : decode prog_2_method_3_code 0 = .ok (.aload_n 0, 1) := by decide +kernel
theorem d4_1 : decode prog_2_method_3_code 1 = .ok (.getfield 7, 3) := by decide +kernel
theorem d4_4 : decode prog_2_method_3_code 4 = .ok (.ldc 27, 2) := by decide +kernel
theorem d4_6 : decode prog_2_method_3_code 6 = .ok (.if_icmp .ge 13, 3) := by decide +kernel
theorem d4_9 : decode prog_2_method_3_code 9 = .ok (.aload_n 0, 1) := by decide +kernel
theorem d4_10 : decode prog_2_method_3_code 10 = .ok (.dup, 1) := by decide +kernel
theorem d4_11 : decode prog_2_method_3_code 11 = .ok (.getfield 7, 3) := by decide +kernel
theorem d4_14 : decode prog_2_method_3_code 14 = .ok (.iconst 1, 1) := by decide +kernel
theorem d4_15 : decode prog_2_method_3_code 15 = .ok (.iadd, 1) := by decide +kernel
theorem d4_16 : decode prog_2_method_3_code 16 = .ok (.putfield 7, 3) := by decide +kernel
theorem d4_19 : decode prog_2_method_3_code 19 = .ok (.return_, 1) := by decide +kernel
theorem pn_4 : plainFor (⟨"com/example/tidewire/tidewire/internal/Backoff", "attempted", "()V"⟩ : MethodName) = true := by first | exact plainFor_of_name (by first | (simp [plainName, overriddenIn]; done) | decide +kernel) | decide +kernel
theorem ef_4 (m : MethodId) (a1 : Addr) : entryFrame m #[(.ref a1)] 1 = (mkF m 0 #[.val (.ref a1)] []) := by first | (simp [entryFrame, mkF, argsToLocals, Value.category]; done) | rfl
abbrev Q4 (Z : State) (a1 : Addr) (n : Int32) (h0 : Heap) (n0 : Nat) : Option Value → Heap → List Loc → Prop := (fun v h L => v = none ∧ Fr n0 L ∧ Keep h0 h [a1] ∧ Exa Z h a1 "com/example/tidewire/tidewire/internal/Backoff" ∧ Fld Z h a1 "com/example/tidewire/tidewire/internal/Backoff" "attempts" "I" (.int (n + (1 : Int32))))
set_option maxRecDepth 65536 in
set_option maxHeartbeats 40000000 in
theorem rm4 (l : Launch) (Z : State) (a0 : Array Value) (hw : ∀ d ∈ tables_1, d.before a0 Z = true) (ws : List Jvm.Cond) (a1 : Addr) (n : Int32) (h0 : Heap) (n0 : Nat) (R0 : Exa Z h0 a1 "com/example/tidewire/tidewire/internal/Backoff") (R1 : Fld Z h0 a1 "com/example/tidewire/tidewire/internal/Backoff" "attempts" "I" (.int n)) (g_a1 : n0 ≤ a1) (hn : n < (2147483647 : Int32)) :
    OMet l Z (⟨"com/example/tidewire/tidewire/internal/Backoff", "attempted", "()V"⟩ : MethodName) prog_2_method_3_code 1 none ws ({ frames := 0, cells := 0, slots := 0, locals := 0 } : Room) #[(.ref a1)] h0 (Q4 Z a1 n h0 n0) := by
  refine own_enter pn_4 ?_
  intro p e s m below meth c s₁ hx hby hml0 hown hret hlk hnm hZ X0 e0
  have hml : c.maxLocals = 1 := hml0
  have N0 := Fr.nil n0
  refine own_cast (ef_4 m a1) ?_
  show OG p e ({ frames := 0, cells := 0, slots := 0, locals := 0 } : Room) s below (fun v h L => v = none ∧ Fr n0 L ∧ Keep h0 h [a1] ∧ Exa Z h a1 "com/example/tidewire/tidewire/internal/Backoff" ∧ Fld Z h a1 "com/example/tidewire/tidewire/internal/Backoff" "attempts" "I" (.int (n + (1 : Int32)))) s₁ (mkF m 0 #[.val (.ref a1)] [])
  refine own_st (fun t k => XS.aloadN X0.here hx rfl (hb hby d4_0) rfl rfl k) ?_
  show OG p e _ s below _ s₁ (mkF m 1 #[.val (.ref a1)] [(.ref a1)])
  obtain ⟨T1, X1, e1, st1⟩ := getF X0 hx hZ hown (host := "") (Or.inl (hw _ (List.mem_of_getElem? (i := 14) rfl))) Via.refl e0 R1 (g := (mkF m 1 #[.val (.ref a1)] [(.ref a1)])) rfl rfl (hb hby d4_1)
  refine own_st st1 ?_
  show OG p e _ s below _ T1 (mkF m 4 #[.val (.ref a1)] [(.int n)])
  refine own_st (fun t k => X1.ldcInt hx hown (mvT hZ (hw _ (List.mem_of_getElem? (i := 21) rfl))) (g := (mkF m 4 #[.val (.ref a1)] [(.int n)])) rfl (hb hby d4_4) _ k) ?_
  show OG p e _ s below _ T1 (mkF m 6 #[.val (.ref a1)] [(.int (2147483647 : Int32)), (.int n)])
  refine own_st (fun t k => XS.icmpNo X1.here hx rfl (hb hby d4_6) rfl (tlt hn).2.1 k) ?_
  show OG p e _ s below _ T1 (mkF m 9 #[.val (.ref a1)] [])
  refine own_st (fun t k => XS.aloadN X1.here hx rfl (hb hby d4_9) rfl rfl k) ?_
  show OG p e _ s below _ T1 (mkF m 10 #[.val (.ref a1)] [(.ref a1)])
  refine own_st (fun t k => XS.dup X1.here hx rfl (hb hby d4_10) rfl rfl k) ?_
  show OG p e _ s below _ T1 (mkF m 11 #[.val (.ref a1)] [(.ref a1), (.ref a1)])
  obtain ⟨T2, X2, e2, st2⟩ := getF X1 hx hZ hown (host := "") (Or.inl (hw _ (List.mem_of_getElem? (i := 14) rfl))) Via.refl e1 R1 (g := (mkF m 11 #[.val (.ref a1)] [(.ref a1), (.ref a1)])) rfl rfl (hb hby d4_11)
  refine own_st st2 ?_
  show OG p e _ s below _ T2 (mkF m 14 #[.val (.ref a1)] [(.int n), (.ref a1)])
  refine own_st (fun t k => XS.iconst X2.here hx rfl (hb hby d4_14) k) ?_
  show OG p e _ s below _ T2 (mkF m 15 #[.val (.ref a1)] [(.int (1 : Int32)), (.int n), (.ref a1)])
  refine own_st (fun t k => XS.iadd X2.here hx rfl (hb hby d4_15) rfl k) ?_
  show OG p e _ s below _ T2 (mkF m 16 #[.val (.ref a1)] [(.int (n + (1 : Int32))), (.ref a1)])
  obtain ⟨T3, h3, X3, e3, W3, st3⟩ := putF X2 hx hZ hown (host := "") (Or.inl (hw _ (List.mem_of_getElem? (i := 14) rfl))) Via.refl e2 R1 R0 (Or.inl (hw _ (List.mem_of_getElem? (i := 15) rfl))) (hw _ (List.mem_of_getElem? (i := 1) rfl)) (ty := .int) (by decide) rfl rfl (g := (mkF m 16 #[.val (.ref a1)] [(.int (n + (1 : Int32))), (.ref a1)])) rfl rfl (hb hby d4_16)
  refine own_st st3 ?_
  have N3 := Fr.snoc X3 N0 g_a1
  have K4 : Keep h0 h3 [a1] := (Keep.refl h0 [a1]).wr W3 (Or.inl (List.mem_of_getElem? (i := 0) rfl))
  have F5 : Exa Z h3 a1 "com/example/tidewire/tidewire/internal/Backoff" := (R0.wr W3)
  have F6 : Fld Z h3 a1 "com/example/tidewire/tidewire/internal/Backoff" "attempts" "I" (.int (n + (1 : Int32))) := (R1.same W3)
  show OG p e _ s below _ T3 (mkF m 19 #[.val (.ref a1)] [])
  refine own_ret0 X3 hx hret hlk (hb hby d4_19) (by decide) (by decide) ?_
  rw [e3]
  exact ⟨rfl, N3, K4, F5, F6⟩
theorem d3_0 : decode prog_2_method_2_code 0 = .ok (.aload_n 0, 1) := by decide +kernel
theorem d3_1 : decode prog_2_method_2_code 1 = .ok (.getfield 7, 3) := by decide +kernel
theorem d3_4 : decode prog_2_method_2_code 4 = .ok (.ifCond .ne 5, 3) := by decide +kernel
theorem d3_7 : decode prog_2_method_2_code 7 = .ok (.lconst 0, 1) := by decide +kernel
theorem d3_8 : decode prog_2_method_2_code 8 = .ok (.lreturn, 1) := by decide +kernel
theorem pn_3 : plainFor (⟨"com/example/tidewire/tidewire/internal/Backoff", "delayMs", "()J"⟩ : MethodName) = true := by first | exact plainFor_of_name (by first | (simp [plainName, overriddenIn]; done) | decide +kernel) | decide +kernel
def f3_0  : Int64 := (0 : Int64)
theorem ef_3 (m : MethodId) (a1 : Addr) : entryFrame m #[(.ref a1)] 4 = (mkF m 0 #[.val (.ref a1), .unset, .unset, .unset] []) := by first | (simp [entryFrame, mkF, argsToLocals, Value.category]; done) | rfl
abbrev Q3_0 (Z : State) (a1 : Addr) (h0 : Heap)  : Option Value → Heap → List Loc → Prop := (fun v h L => v = some (.long f3_0) ∧ L = [] ∧ h = h0)
set_option maxRecDepth 65536 in
set_option maxHeartbeats 40000000 in
theorem rm3_0 (l : Launch) (Z : State) (a0 : Array Value) (hw : ∀ d ∈ tables_1, d.before a0 Z = true) (ws : List Jvm.Cond) (a1 : Addr) (h0 : Heap) (R0 : Fld Z h0 a1 "com/example/tidewire/tidewire/internal/Backoff" "attempts" "I" (.int (0 : Int32))) :
    OMet l Z (⟨"com/example/tidewire/tidewire/internal/Backoff", "delayMs", "()J"⟩ : MethodName) prog_2_method_2_code 4 (some .long) ws ({ frames := 0, cells := 0, slots := 0, locals := 0 } : Room) #[(.ref a1)] h0 (Q3_0 Z a1 h0) := by
  refine own_enter pn_3 ?_
  intro p e s m below meth c s₁ hx hby hml0 hown hret hlk hnm hZ X0 e0
  have hml : c.maxLocals = 4 := hml0
  refine own_cast (ef_3 m a1) ?_
  show OG p e ({ frames := 0, cells := 0, slots := 0, locals := 0 } : Room) s below (fun v h L => v = some (.long f3_0) ∧ L = [] ∧ h = h0) s₁ (mkF m 0 #[.val (.ref a1), .unset, .unset, .unset] [])
  refine own_st (fun t k => XS.aloadN X0.here hx rfl (hb hby d3_0) rfl rfl k) ?_
  show OG p e _ s below _ s₁ (mkF m 1 #[.val (.ref a1), .unset, .unset, .unset] [(.ref a1)])
  obtain ⟨T1, X1, e1, st1⟩ := getF X0 hx hZ hown (host := "") (Or.inl (hw _ (List.mem_of_getElem? (i := 14) rfl))) Via.refl e0 R0 (g := (mkF m 1 #[.val (.ref a1), .unset, .unset, .unset] [(.ref a1)])) rfl rfl (hb hby d3_1)
  refine own_st st1 ?_
  show OG p e _ s below _ T1 (mkF m 4 #[.val (.ref a1), .unset, .unset, .unset] [(.int (0 : Int32))])
  refine own_st (fun t k => XS.ifNo X1.here hx rfl (hb hby d3_4) rfl (by decide) k) ?_
  show OG p e _ s below _ T1 (mkF m 7 #[.val (.ref a1), .unset, .unset, .unset] [])
  refine own_st (fun t k => XS.lconst X1.here hx rfl (hb hby d3_7) k) ?_
  show OG p e _ s below _ T1 (mkF m 8 #[.val (.ref a1), .unset, .unset, .unset] [(.long (0 : Int64))])
  exact own_retL X1 hx hret hlk (hb hby d3_8) (by decide) (by decide) ⟨congrArg (fun z => some (Value.long z)) (show f3_0  = (0 : Int64) from (by rw [f3_0])).symm, rfl, e1⟩
theorem d3_9 : decode prog_2_method_2_code 9 = .ok (.ldc2_w 13, 3) := by decide +kernel
theorem d3_12 : decode prog_2_method_2_code 12 = .ok (.lstore_n 1, 1) := by decide +kernel
theorem d3_13 : decode prog_2_method_2_code 13 = .ok (.iconst 1, 1) := by decide +kernel
theorem d3_14 : decode prog_2_method_2_code 14 = .ok (.istore_n 3, 1) := by decide +kernel
theorem d3_15 : decode prog_2_method_2_code 15 = .ok (.iload_n 3, 1) := by decide +kernel
theorem d3_16 : decode prog_2_method_2_code 16 = .ok (.aload_n 0, 1) := by decide +kernel
theorem d3_17 : decode prog_2_method_2_code 17 = .ok (.getfield 7, 3) := by decide +kernel
theorem d3_20 : decode prog_2_method_2_code 20 = .ok (.if_icmp .ge 23, 3) := by decide +kernel
theorem d3_43 : decode prog_2_method_2_code 43 = .ok (.lload_n 1, 1) := by decide +kernel
theorem d3_44 : decode prog_2_method_2_code 44 = .ok (.ldc2_w 15, 3) := by decide +kernel
theorem d3_47 : decode prog_2_method_2_code 47 = .ok (.invokestatic 19, 3) := by decide +kernel
theorem d3_50 : decode prog_2_method_2_code 50 = .ok (.lreturn, 1) := by decide +kernel
theorem pd__JJ_J : parseMethodDescriptor "(JJ)J" = some ⟨[.long, .long], some .long⟩ := by decide +kernel
def f3_1  : Int64 := (f5 (250 : Int64) (10000 : Int64))
abbrev Q3_1 (Z : State) (a1 : Addr) (h0 : Heap)  : Option Value → Heap → List Loc → Prop := (fun v h L => v = some (.long f3_1) ∧ L = [] ∧ h = h0)
set_option maxRecDepth 65536 in
set_option maxHeartbeats 40000000 in
theorem rm3_1 (l : Launch) (Z : State) (a0 : Array Value) (hw : ∀ d ∈ tables_1, d.before a0 Z = true) (ws : List Jvm.Cond) (a1 : Addr) (h0 : Heap) (R0 : Fld Z h0 a1 "com/example/tidewire/tidewire/internal/Backoff" "attempts" "I" (.int (1 : Int32))) :
    OMet l Z (⟨"com/example/tidewire/tidewire/internal/Backoff", "delayMs", "()J"⟩ : MethodName) prog_2_method_2_code 4 (some .long) ws ({ frames := 1, cells := 0, slots := 0, locals := 15 } : Room) #[(.ref a1)] h0 (Q3_1 Z a1 h0) := by
  refine own_enter pn_3 ?_
  intro p e s m below meth c s₁ hx hby hml0 hown hret hlk hnm hZ X0 e0
  have hml : c.maxLocals = 4 := hml0
  refine own_cast (ef_3 m a1) ?_
  show OG p e ({ frames := 1, cells := 0, slots := 0, locals := 15 } : Room) s below (fun v h L => v = some (.long f3_1) ∧ L = [] ∧ h = h0) s₁ (mkF m 0 #[.val (.ref a1), .unset, .unset, .unset] [])
  refine own_st (fun t k => XS.aloadN X0.here hx rfl (hb hby d3_0) rfl rfl k) ?_
  show OG p e _ s below _ s₁ (mkF m 1 #[.val (.ref a1), .unset, .unset, .unset] [(.ref a1)])
  obtain ⟨T1, X1, e1, st1⟩ := getF X0 hx hZ hown (host := "") (Or.inl (hw _ (List.mem_of_getElem? (i := 14) rfl))) Via.refl e0 R0 (g := (mkF m 1 #[.val (.ref a1), .unset, .unset, .unset] [(.ref a1)])) rfl rfl (hb hby d3_1)
  refine own_st st1 ?_
  show OG p e _ s below _ T1 (mkF m 4 #[.val (.ref a1), .unset, .unset, .unset] [(.int (1 : Int32))])
  refine own_st (fun t k => XS.ifYes X1.here hx rfl (pc0 := 4) (pc' := 9) rfl (hb hby d3_4) rfl (by decide) (by decide) (by decide) k) ?_
  show OG p e _ s below _ T1 (mkF m 9 #[.val (.ref a1), .unset, .unset, .unset] [])
  refine own_st (fun t k => X1.ldc2Long hx hown (mvT hZ (hw _ (List.mem_of_getElem? (i := 22) rfl))) (g := (mkF m 9 #[.val (.ref a1), .unset, .unset, .unset] [])) rfl (hb hby d3_9) _ k) ?_
  show OG p e _ s below _ T1 (mkF m 12 #[.val (.ref a1), .unset, .unset, .unset] [(.long (250 : Int64))])
  refine own_st (fun t k => XS.lstoreN X1.here hx rfl (hb hby d3_12) rfl (l' := #[.val (.ref a1), .val (.long (250 : Int64)), .second, .unset]) rfl k) ?_
  show OG p e _ s below _ T1 (mkF m 13 #[.val (.ref a1), .val (.long (250 : Int64)), .second, .unset] [])
  refine own_st (fun t k => XS.iconst X1.here hx rfl (hb hby d3_13) k) ?_
  show OG p e _ s below _ T1 (mkF m 14 #[.val (.ref a1), .val (.long (250 : Int64)), .second, .unset] [(.int (1 : Int32))])
  refine own_st (fun t k => XS.istoreN X1.here hx rfl (hb hby d3_14) rfl (l' := #[.val (.ref a1), .val (.long (250 : Int64)), .second, .val (.int (1 : Int32))]) rfl k) ?_
  show OG p e _ s below _ T1 (mkF m 15 #[.val (.ref a1), .val (.long (250 : Int64)), .second, .val (.int (1 : Int32))] [])
  refine own_st (fun t k => XS.iloadN X1.here hx rfl (hb hby d3_15) rfl k) ?_
  show OG p e _ s below _ T1 (mkF m 16 #[.val (.ref a1), .val (.long (250 : Int64)), .second, .val (.int (1 : Int32))] [(.int (1 : Int32))])
  refine own_st (fun t k => XS.aloadN X1.here hx rfl (hb hby d3_16) rfl rfl k) ?_
  show OG p e _ s below _ T1 (mkF m 17 #[.val (.ref a1), .val (.long (250 : Int64)), .second, .val (.int (1 : Int32))] [(.ref a1), (.int (1 : Int32))])
  obtain ⟨T2, X2, e2, st2⟩ := getF X1 hx hZ hown (host := "") (Or.inl (hw _ (List.mem_of_getElem? (i := 14) rfl))) Via.refl e1 R0 (g := (mkF m 17 #[.val (.ref a1), .val (.long (250 : Int64)), .second, .val (.int (1 : Int32))] [(.ref a1), (.int (1 : Int32))])) rfl rfl (hb hby d3_17)
  refine own_st st2 ?_
  show OG p e _ s below _ T2 (mkF m 20 #[.val (.ref a1), .val (.long (250 : Int64)), .second, .val (.int (1 : Int32))] [(.int (1 : Int32)), (.int (1 : Int32))])
  refine own_st (fun t k => XS.icmpYes X2.here hx rfl (pc0 := 20) (pc' := 43) rfl (hb hby d3_20) rfl (by decide) (by decide) (by decide) k) ?_
  show OG p e _ s below _ T2 (mkF m 43 #[.val (.ref a1), .val (.long (250 : Int64)), .second, .val (.int (1 : Int32))] [])
  refine own_st (fun t k => XS.lloadN X2.here hx rfl (hb hby d3_43) rfl k) ?_
  show OG p e _ s below _ T2 (mkF m 44 #[.val (.ref a1), .val (.long (250 : Int64)), .second, .val (.int (1 : Int32))] [(.long (250 : Int64))])
  refine own_st (fun t k => X2.ldc2Long hx hown (mvT hZ (hw _ (List.mem_of_getElem? (i := 23) rfl))) (g := (mkF m 44 #[.val (.ref a1), .val (.long (250 : Int64)), .second, .val (.int (1 : Int32))] [(.long (250 : Int64))])) rfl (hb hby d3_44) _ k) ?_
  show OG p e _ s below _ T2 (mkF m 47 #[.val (.ref a1), .val (.long (250 : Int64)), .second, .val (.int (1 : Int32))] [(.long (10000 : Int64)), (.long (250 : Int64))])
  obtain ⟨_, _, ⟨T3, L3, k3, n3⟩, -, X3, ⟨Lc3, hQ3, l3, y3, z3⟩, st3⟩ := Jvm.LawKit.callS X2 hx (y := (⟨"java/lang/Math", "min", "(JJ)J"⟩ : MethodName)) hown (mvT hZ (hw _ (List.mem_of_getElem? (i := 24) rfl))) (mvT hZ (hw _ (List.mem_of_getElem? (i := 25) rfl))) (mvT hZ (hw _ (List.mem_of_getElem? (i := 26) rfl))) (mvT hZ (hw _ (List.mem_of_getElem? (i := 27) rfl))) (by decide) (backOf (W := 0) (rm := ({ frames := 0, cells := 0, slots := 0, locals := 0 } : Room)) (rm5 l Z a0 hw [] (250 : Int64) (10000 : Int64) h0) hZ (hw _ (List.mem_of_getElem? (i := 27) rfl)) (hw _ (List.mem_of_getElem? (i := 26) rfl)) (by decide) (by decide)) (g := (mkF m 47 #[.val (.ref a1), .val (.long (250 : Int64)), .second, .val (.int (1 : Int32))] [(.long (10000 : Int64)), (.long (250 : Int64))])) rfl (by rw [hml]; rfl) (argsL := [(.long (250 : Int64)), (.long (10000 : Int64))]) (rest := []) (lenOf pd__JJ_J rfl) rfl (by show 2 * 0 + _ ≤ _; exact Nat.le_of_eq rfl) (hb hby d3_47) (fun _ _ => ⟨rfl, e2, (by decide : 0 + 0 ≤ _), (by decide : 0 + 0 ≤ _)⟩)
  dsimp only [Pt.U, Pt.locs, Pt.cells, Pt.slots] at X3 l3 y3 z3 st3 hQ3
  subst l3 y3 z3
  obtain ⟨rfl, rfl, e3⟩ := hQ3
  refine own_st st3 ?_
  show OG p e _ s below _ T3 (mkF m 50 #[.val (.ref a1), .val (.long (250 : Int64)), .second, .val (.int (1 : Int32))] [(.long (f5 (250 : Int64) (10000 : Int64)))])
  exact own_retL X3 hx hret hlk (hb hby d3_50) (by decide) (by decide) ⟨congrArg (fun z => some (Value.long z)) (show f3_1  = (f5 (250 : Int64) (10000 : Int64)) from (by rw [f3_1])).symm, rfl, e3⟩
theorem d3_23 : decode prog_2_method_2_code 23 = .ok (.lload_n 1, 1) := by decide +kernel
theorem d3_24 : decode prog_2_method_2_code 24 = .ok (.ldc2_w 15, 3) := by decide +kernel
theorem d3_27 : decode prog_2_method_2_code 27 = .ok (.lcmp, 1) := by decide +kernel
theorem d3_28 : decode prog_2_method_2_code 28 = .ok (.ifCond .ge 15, 3) := by decide +kernel
theorem d3_31 : decode prog_2_method_2_code 31 = .ok (.lload_n 1, 1) := by decide +kernel
theorem d3_32 : decode prog_2_method_2_code 32 = .ok (.ldc2_w 17, 3) := by decide +kernel
theorem d3_35 : decode prog_2_method_2_code 35 = .ok (.lmul, 1) := by decide +kernel
theorem d3_36 : decode prog_2_method_2_code 36 = .ok (.lstore_n 1, 1) := by decide +kernel
theorem d3_37 : decode prog_2_method_2_code 37 = .ok (.iinc 3 1, 3) := by decide +kernel
theorem d3_40 : decode prog_2_method_2_code 40 = .ok (.goto (-25), 3) := by decide +kernel
def f3_2  : Int64 := (f5 (500 : Int64) (10000 : Int64))
abbrev Q3_2 (Z : State) (a1 : Addr) (h0 : Heap)  : Option Value → Heap → List Loc → Prop := (fun v h L => v = some (.long f3_2) ∧ L = [] ∧ h = h0)
set_option maxRecDepth 65536 in
set_option maxHeartbeats 40000000 in
theorem rm3_2 (l : Launch) (Z : State) (a0 : Array Value) (hw : ∀ d ∈ tables_1, d.before a0 Z = true) (ws : List Jvm.Cond) (a1 : Addr) (h0 : Heap) (R0 : Fld Z h0 a1 "com/example/tidewire/tidewire/internal/Backoff" "attempts" "I" (.int (2 : Int32))) :
    OMet l Z (⟨"com/example/tidewire/tidewire/internal/Backoff", "delayMs", "()J"⟩ : MethodName) prog_2_method_2_code 4 (some .long) ws ({ frames := 1, cells := 0, slots := 0, locals := 15 } : Room) #[(.ref a1)] h0 (Q3_2 Z a1 h0) := by
  refine own_enter pn_3 ?_
  intro p e s m below meth c s₁ hx hby hml0 hown hret hlk hnm hZ X0 e0
  have hml : c.maxLocals = 4 := hml0
  refine own_cast (ef_3 m a1) ?_
  show OG p e ({ frames := 1, cells := 0, slots := 0, locals := 15 } : Room) s below (fun v h L => v = some (.long f3_2) ∧ L = [] ∧ h = h0) s₁ (mkF m 0 #[.val (.ref a1), .unset, .unset, .unset] [])
  refine own_st (fun t k => XS.aloadN X0.here hx rfl (hb hby d3_0) rfl rfl k) ?_
  show OG p e _ s below _ s₁ (mkF m 1 #[.val (.ref a1), .unset, .unset, .unset] [(.ref a1)])
  obtain ⟨T1, X1, e1, st1⟩ := getF X0 hx hZ hown (host := "") (Or.inl (hw _ (List.mem_of_getElem? (i := 14) rfl))) Via.refl e0 R0 (g := (mkF m 1 #[.val (.ref a1), .unset, .unset, .unset] [(.ref a1)])) rfl rfl (hb hby d3_1)
  refine own_st st1 ?_
  show OG p e _ s below _ T1 (mkF m 4 #[.val (.ref a1), .unset, .unset, .unset] [(.int (2 : Int32))])
  refine own_st (fun t k => XS.ifYes X1.here hx rfl (pc0 := 4) (pc' := 9) rfl (hb hby d3_4) rfl (by decide) (by decide) (by decide) k) ?_
  show OG p e _ s below _ T1 (mkF m 9 #[.val (.ref a1), .unset, .unset, .unset] [])
  refine own_st (fun t k => X1.ldc2Long hx hown (mvT hZ (hw _ (List.mem_of_getElem? (i := 22) rfl))) (g := (mkF m 9 #[.val (.ref a1), .unset, .unset, .unset] [])) rfl (hb hby d3_9) _ k) ?_
  show OG p e _ s below _ T1 (mkF m 12 #[.val (.ref a1), .unset, .unset, .unset] [(.long (250 : Int64))])
  refine own_st (fun t k => XS.lstoreN X1.here hx rfl (hb hby d3_12) rfl (l' := #[.val (.ref a1), .val (.long (250 : Int64)), .second, .unset]) rfl k) ?_
  show OG p e _ s below _ T1 (mkF m 13 #[.val (.ref a1), .val (.long (250 : Int64)), .second, .unset] [])
  refine own_st (fun t k => XS.iconst X1.here hx rfl (hb hby d3_13) k) ?_
  show OG p e _ s below _ T1 (mkF m 14 #[.val (.ref a1), .val (.long (250 : Int64)), .second, .unset] [(.int (1 : Int32))])
  refine own_st (fun t k => XS.istoreN X1.here hx rfl (hb hby d3_14) rfl (l' := #[.val (.ref a1), .val (.long (250 : Int64)), .second, .val (.int (1 : Int32))]) rfl k) ?_
  show OG p e _ s below _ T1 (mkF m 15 #[.val (.ref a1), .val (.long (250 : Int64)), .second, .val (.int (1 : Int32))] [])
  refine own_st (fun t k => XS.iloadN X1.here hx rfl (hb hby d3_15) rfl k) ?_
  show OG p e _ s below _ T1 (mkF m 16 #[.val (.ref a1), .val (.long (250 : Int64)), .second, .val (.int (1 : Int32))] [(.int (1 : Int32))])
  refine own_st (fun t k => XS.aloadN X1.here hx rfl (hb hby d3_16) rfl rfl k) ?_
  show OG p e _ s below _ T1 (mkF m 17 #[.val (.ref a1), .val (.long (250 : Int64)), .second, .val (.int (1 : Int32))] [(.ref a1), (.int (1 : Int32))])
  obtain ⟨T2, X2, e2, st2⟩ := getF X1 hx hZ hown (host := "") (Or.inl (hw _ (List.mem_of_getElem? (i := 14) rfl))) Via.refl e1 R0 (g := (mkF m 17 #[.val (.ref a1), .val (.long (250 : Int64)), .second, .val (.int (1 : Int32))] [(.ref a1), (.int (1 : Int32))])) rfl rfl (hb hby d3_17)
  refine own_st st2 ?_
  show OG p e _ s below _ T2 (mkF m 20 #[.val (.ref a1), .val (.long (250 : Int64)), .second, .val (.int (1 : Int32))] [(.int (2 : Int32)), (.int (1 : Int32))])
  refine own_st (fun t k => XS.icmpNo X2.here hx rfl (hb hby d3_20) rfl (by decide) k) ?_
  show OG p e _ s below _ T2 (mkF m 23 #[.val (.ref a1), .val (.long (250 : Int64)), .second, .val (.int (1 : Int32))] [])
  refine own_st (fun t k => XS.lloadN X2.here hx rfl (hb hby d3_23) rfl k) ?_
  show OG p e _ s below _ T2 (mkF m 24 #[.val (.ref a1), .val (.long (250 : Int64)), .second, .val (.int (1 : Int32))] [(.long (250 : Int64))])
  refine own_st (fun t k => X2.ldc2Long hx hown (mvT hZ (hw _ (List.mem_of_getElem? (i := 23) rfl))) (g := (mkF m 24 #[.val (.ref a1), .val (.long (250 : Int64)), .second, .val (.int (1 : Int32))] [(.long (250 : Int64))])) rfl (hb hby d3_24) _ k) ?_
  show OG p e _ s below _ T2 (mkF m 27 #[.val (.ref a1), .val (.long (250 : Int64)), .second, .val (.int (1 : Int32))] [(.long (10000 : Int64)), (.long (250 : Int64))])
  refine own_st (fun t k => XS.lcmp X2.here hx rfl (hb hby d3_27) rfl k) ?_
  show OG p e _ s below _ T2 (mkF m 28 #[.val (.ref a1), .val (.long (250 : Int64)), .second, .val (.int (1 : Int32))] [(.int (lcmpW (250 : Int64) (10000 : Int64)))])
  refine own_st (fun t k => XS.ifNo X2.here hx rfl (hb hby d3_28) rfl (by decide) k) ?_
  show OG p e _ s below _ T2 (mkF m 31 #[.val (.ref a1), .val (.long (250 : Int64)), .second, .val (.int (1 : Int32))] [])
  refine own_st (fun t k => XS.lloadN X2.here hx rfl (hb hby d3_31) rfl k) ?_
  show OG p e _ s below _ T2 (mkF m 32 #[.val (.ref a1), .val (.long (250 : Int64)), .second, .val (.int (1 : Int32))] [(.long (250 : Int64))])
  refine own_st (fun t k => X2.ldc2Long hx hown (mvT hZ (hw _ (List.mem_of_getElem? (i := 35) rfl))) (g := (mkF m 32 #[.val (.ref a1), .val (.long (250 : Int64)), .second, .val (.int (1 : Int32))] [(.long (250 : Int64))])) rfl (hb hby d3_32) _ k) ?_
  show OG p e _ s below _ T2 (mkF m 35 #[.val (.ref a1), .val (.long (250 : Int64)), .second, .val (.int (1 : Int32))] [(.long (2 : Int64)), (.long (250 : Int64))])
  refine own_st (fun t k => XS.lmul X2.here hx rfl (hb hby d3_35) rfl k) ?_
  show OG p e _ s below _ T2 (mkF m 36 #[.val (.ref a1), .val (.long (250 : Int64)), .second, .val (.int (1 : Int32))] [(.long (500 : Int64))])
  refine own_st (fun t k => XS.lstoreN X2.here hx rfl (hb hby d3_36) rfl (l' := #[.val (.ref a1), .val (.long (500 : Int64)), .second, .val (.int (1 : Int32))]) rfl k) ?_
  show OG p e _ s below _ T2 (mkF m 37 #[.val (.ref a1), .val (.long (500 : Int64)), .second, .val (.int (1 : Int32))] [])
  refine own_st (fun t k => XS.iinc X2.here hx rfl (hb hby d3_37) rfl (l' := #[.val (.ref a1), .val (.long (500 : Int64)), .second, .val (.int ((1 : Int32) + (1 : Int32)))]) rfl k) ?_
  show OG p e _ s below _ T2 (mkF m 40 #[.val (.ref a1), .val (.long (500 : Int64)), .second, .val (.int (2 : Int32))] [])
  refine own_st (fun t k => XS.goto X2.here hx rfl (pc0 := 40) (pc' := 15) rfl (hb hby d3_40) (by decide) (by decide) k) ?_
  show OG p e _ s below _ T2 (mkF m 15 #[.val (.ref a1), .val (.long (500 : Int64)), .second, .val (.int (2 : Int32))] [])
  refine own_st (fun t k => XS.iloadN X2.here hx rfl (hb hby d3_15) rfl k) ?_
  show OG p e _ s below _ T2 (mkF m 16 #[.val (.ref a1), .val (.long (500 : Int64)), .second, .val (.int (2 : Int32))] [(.int (2 : Int32))])
  refine own_st (fun t k => XS.aloadN X2.here hx rfl (hb hby d3_16) rfl rfl k) ?_
  show OG p e _ s below _ T2 (mkF m 17 #[.val (.ref a1), .val (.long (500 : Int64)), .second, .val (.int (2 : Int32))] [(.ref a1), (.int (2 : Int32))])
  obtain ⟨T3, X3, e3, st3⟩ := getF X2 hx hZ hown (host := "") (Or.inl (hw _ (List.mem_of_getElem? (i := 14) rfl))) Via.refl e2 R0 (g := (mkF m 17 #[.val (.ref a1), .val (.long (500 : Int64)), .second, .val (.int (2 : Int32))] [(.ref a1), (.int (2 : Int32))])) rfl rfl (hb hby d3_17)
  refine own_st st3 ?_
  show OG p e _ s below _ T3 (mkF m 20 #[.val (.ref a1), .val (.long (500 : Int64)), .second, .val (.int (2 : Int32))] [(.int (2 : Int32)), (.int (2 : Int32))])
  refine own_st (fun t k => XS.icmpYes X3.here hx rfl (pc0 := 20) (pc' := 43) rfl (hb hby d3_20) rfl (by decide) (by decide) (by decide) k) ?_
  show OG p e _ s below _ T3 (mkF m 43 #[.val (.ref a1), .val (.long (500 : Int64)), .second, .val (.int (2 : Int32))] [])
  refine own_st (fun t k => XS.lloadN X3.here hx rfl (hb hby d3_43) rfl k) ?_
  show OG p e _ s below _ T3 (mkF m 44 #[.val (.ref a1), .val (.long (500 : Int64)), .second, .val (.int (2 : Int32))] [(.long (500 : Int64))])
  refine own_st (fun t k => X3.ldc2Long hx hown (mvT hZ (hw _ (List.mem_of_getElem? (i := 23) rfl))) (g := (mkF m 44 #[.val (.ref a1), .val (.long (500 : Int64)), .second, .val (.int (2 : Int32))] [(.long (500 : Int64))])) rfl (hb hby d3_44) _ k) ?_
  show OG p e _ s below _ T3 (mkF m 47 #[.val (.ref a1), .val (.long (500 : Int64)), .second, .val (.int (2 : Int32))] [(.long (10000 : Int64)), (.long (500 : Int64))])
  obtain ⟨_, _, ⟨T4, L4, k4, n4⟩, -, X4, ⟨Lc4, hQ4, l4, y4, z4⟩, st4⟩ := Jvm.LawKit.callS X3 hx (y := (⟨"java/lang/Math", "min", "(JJ)J"⟩ : MethodName)) hown (mvT hZ (hw _ (List.mem_of_getElem? (i := 24) rfl))) (mvT hZ (hw _ (List.mem_of_getElem? (i := 25) rfl))) (mvT hZ (hw _ (List.mem_of_getElem? (i := 26) rfl))) (mvT hZ (hw _ (List.mem_of_getElem? (i := 27) rfl))) (by decide) (backOf (W := 0) (rm := ({ frames := 0, cells := 0, slots := 0, locals := 0 } : Room)) (rm5 l Z a0 hw [] (500 : Int64) (10000 : Int64) h0) hZ (hw _ (List.mem_of_getElem? (i := 27) rfl)) (hw _ (List.mem_of_getElem? (i := 26) rfl)) (by decide) (by decide)) (g := (mkF m 47 #[.val (.ref a1), .val (.long (500 : Int64)), .second, .val (.int (2 : Int32))] [(.long (10000 : Int64)), (.long (500 : Int64))])) rfl (by rw [hml]; rfl) (argsL := [(.long (500 : Int64)), (.long (10000 : Int64))]) (rest := []) (lenOf pd__JJ_J rfl) rfl (by show 2 * 0 + _ ≤ _; exact Nat.le_of_eq rfl) (hb hby d3_47) (fun _ _ => ⟨rfl, e3, (by decide : 0 + 0 ≤ _), (by decide : 0 + 0 ≤ _)⟩)
  dsimp only [Pt.U, Pt.locs, Pt.cells, Pt.slots] at X4 l4 y4 z4 st4 hQ4
  subst l4 y4 z4
  obtain ⟨rfl, rfl, e4⟩ := hQ4
  refine own_st st4 ?_
  show OG p e _ s below _ T4 (mkF m 50 #[.val (.ref a1), .val (.long (500 : Int64)), .second, .val (.int (2 : Int32))] [(.long (f5 (500 : Int64) (10000 : Int64)))])
  exact own_retL X4 hx hret hlk (hb hby d3_50) (by decide) (by decide) ⟨congrArg (fun z => some (Value.long z)) (show f3_2  = (f5 (500 : Int64) (10000 : Int64)) from (by rw [f3_2])).symm, rfl, e4⟩
def f3_3  : Int64 := (f5 (1000 : Int64) (10000 : Int64))
abbrev Q3_3 (Z : State) (a1 : Addr) (h0 : Heap)  : Option Value → Heap → List Loc → Prop := (fun v h L => v = some (.long f3_3) ∧ L = [] ∧ h = h0)
set_option maxRecDepth 65536 in
set_option maxHeartbeats 40000000 in
theorem rm3_3 (l : Launch) (Z : State) (a0 : Array Value) (hw : ∀ d ∈ tables_1, d.before a0 Z = true) (ws : List Jvm.Cond) (a1 : Addr) (h0 : Heap) (R0 : Fld Z h0 a1 "com/example/tidewire/tidewire/internal/Backoff" "attempts" "I" (.int (3 : Int32))) :
    OMet l Z (⟨"com/example/tidewire/tidewire/internal/Backoff", "delayMs", "()J"⟩ : MethodName) prog_2_method_2_code 4 (some .long) ws ({ frames := 1, cells := 0, slots := 0, locals := 15 } : Room) #[(.ref a1)] h0 (Q3_3 Z a1 h0) := by
  refine own_enter pn_3 ?_
  intro p e s m below meth c s₁ hx hby hml0 hown hret hlk hnm hZ X0 e0
  have hml : c.maxLocals = 4 := hml0
  refine own_cast (ef_3 m a1) ?_
  show OG p e ({ frames := 1, cells := 0, slots := 0, locals := 15 } : Room) s below (fun v h L => v = some (.long f3_3) ∧ L = [] ∧ h = h0) s₁ (mkF m 0 #[.val (.ref a1), .unset, .unset, .unset] [])
  refine own_st (fun t k => XS.aloadN X0.here hx rfl (hb hby d3_0) rfl rfl k) ?_
  show OG p e _ s below _ s₁ (mkF m 1 #[.val (.ref a1), .unset, .unset, .unset] [(.ref a1)])
  obtain ⟨T1, X1, e1, st1⟩ := getF X0 hx hZ hown (host := "") (Or.inl (hw _ (List.mem_of_getElem? (i := 14) rfl))) Via.refl e0 R0 (g := (mkF m 1 #[.val (.ref a1), .unset, .unset, .unset] [(.ref a1)])) rfl rfl (hb hby d3_1)
  refine own_st st1 ?_
  show OG p e _ s below _ T1 (mkF m 4 #[.val (.ref a1), .unset, .unset, .unset] [(.int (3 : Int32))])
  refine own_st (fun t k => XS.ifYes X1.here hx rfl (pc0 := 4) (pc' := 9) rfl (hb hby d3_4) rfl (by decide) (by decide) (by decide) k) ?_
  show OG p e _ s below _ T1 (mkF m 9 #[.val (.ref a1), .unset, .unset, .unset] [])
  refine own_st (fun t k => X1.ldc2Long hx hown (mvT hZ (hw _ (List.mem_of_getElem? (i := 22) rfl))) (g := (mkF m 9 #[.val (.ref a1), .unset, .unset, .unset] [])) rfl (hb hby d3_9) _ k) ?_
  show OG p e _ s below _ T1 (mkF m 12 #[.val (.ref a1), .unset, .unset, .unset] [(.long (250 : Int64))])
  refine own_st (fun t k => XS.lstoreN X1.here hx rfl (hb hby d3_12) rfl (l' := #[.val (.ref a1), .val (.long (250 : Int64)), .second, .unset]) rfl k) ?_
  show OG p e _ s below _ T1 (mkF m 13 #[.val (.ref a1), .val (.long (250 : Int64)), .second, .unset] [])
  refine own_st (fun t k => XS.iconst X1.here hx rfl (hb hby d3_13) k) ?_
  show OG p e _ s below _ T1 (mkF m 14 #[.val (.ref a1), .val (.long (250 : Int64)), .second, .unset] [(.int (1 : Int32))])
  refine own_st (fun t k => XS.istoreN X1.here hx rfl (hb hby d3_14) rfl (l' := #[.val (.ref a1), .val (.long (250 : Int64)), .second, .val (.int (1 : Int32))]) rfl k) ?_
  show OG p e _ s below _ T1 (mkF m 15 #[.val (.ref a1), .val (.long (250 : Int64)), .second, .val (.int (1 : Int32))] [])
  refine own_st (fun t k => XS.iloadN X1.here hx rfl (hb hby d3_15) rfl k) ?_
  show OG p e _ s below _ T1 (mkF m 16 #[.val (.ref a1), .val (.long (250 : Int64)), .second, .val (.int (1 : Int32))] [(.int (1 : Int32))])
  refine own_st (fun t k => XS.aloadN X1.here hx rfl (hb hby d3_16) rfl rfl k) ?_
  show OG p e _ s below _ T1 (mkF m 17 #[.val (.ref a1), .val (.long (250 : Int64)), .second, .val (.int (1 : Int32))] [(.ref a1), (.int (1 : Int32))])
  obtain ⟨T2, X2, e2, st2⟩ := getF X1 hx hZ hown (host := "") (Or.inl (hw _ (List.mem_of_getElem? (i := 14) rfl))) Via.refl e1 R0 (g := (mkF m 17 #[.val (.ref a1), .val (.long (250 : Int64)), .second, .val (.int (1 : Int32))] [(.ref a1), (.int (1 : Int32))])) rfl rfl (hb hby d3_17)
  refine own_st st2 ?_
  show OG p e _ s below _ T2 (mkF m 20 #[.val (.ref a1), .val (.long (250 : Int64)), .second, .val (.int (1 : Int32))] [(.int (3 : Int32)), (.int (1 : Int32))])
  refine own_st (fun t k => XS.icmpNo X2.here hx rfl (hb hby d3_20) rfl (by decide) k) ?_
  show OG p e _ s below _ T2 (mkF m 23 #[.val (.ref a1), .val (.long (250 : Int64)), .second, .val (.int (1 : Int32))] [])
  refine own_st (fun t k => XS.lloadN X2.here hx rfl (hb hby d3_23) rfl k) ?_
  show OG p e _ s below _ T2 (mkF m 24 #[.val (.ref a1), .val (.long (250 : Int64)), .second, .val (.int (1 : Int32))] [(.long (250 : Int64))])
  refine own_st (fun t k => X2.ldc2Long hx hown (mvT hZ (hw _ (List.mem_of_getElem? (i := 23) rfl))) (g := (mkF m 24 #[.val (.ref a1), .val (.long (250 : Int64)), .second, .val (.int (1 : Int32))] [(.long (250 : Int64))])) rfl (hb hby d3_24) _ k) ?_
  show OG p e _ s below _ T2 (mkF m 27 #[.val (.ref a1), .val (.long (250 : Int64)), .second, .val (.int (1 : Int32))] [(.long (10000 : Int64)), (.long (250 : Int64))])
  refine own_st (fun t k => XS.lcmp X2.here hx rfl (hb hby d3_27) rfl k) ?_
  show OG p e _ s below _ T2 (mkF m 28 #[.val (.ref a1), .val (.long (250 : Int64)), .second, .val (.int (1 : Int32))] [(.int (lcmpW (250 : Int64) (10000 : Int64)))])
  refine own_st (fun t k => XS.ifNo X2.here hx rfl (hb hby d3_28) rfl (by decide) k) ?_
  show OG p e _ s below _ T2 (mkF m 31 #[.val (.ref a1), .val (.long (250 : Int64)), .second, .val (.int (1 : Int32))] [])
  refine own_st (fun t k => XS.lloadN X2.here hx rfl (hb hby d3_31) rfl k) ?_
  show OG p e _ s below _ T2 (mkF m 32 #[.val (.ref a1), .val (.long (250 : Int64)), .second, .val (.int (1 : Int32))] [(.long (250 : Int64))])
  refine own_st (fun t k => X2.ldc2Long hx hown (mvT hZ (hw _ (List.mem_of_getElem? (i := 35) rfl))) (g := (mkF m 32 #[.val (.ref a1), .val (.long (250 : Int64)), .second, .val (.int (1 : Int32))] [(.long (250 : Int64))])) rfl (hb hby d3_32) _ k) ?_
  show OG p e _ s below _ T2 (mkF m 35 #[.val (.ref a1), .val (.long (250 : Int64)), .second, .val (.int (1 : Int32))] [(.long (2 : Int64)), (.long (250 : Int64))])
  refine own_st (fun t k => XS.lmul X2.here hx rfl (hb hby d3_35) rfl k) ?_
  show OG p e _ s below _ T2 (mkF m 36 #[.val (.ref a1), .val (.long (250 : Int64)), .second, .val (.int (1 : Int32))] [(.long (500 : Int64))])
  refine own_st (fun t k => XS.lstoreN X2.here hx rfl (hb hby d3_36) rfl (l' := #[.val (.ref a1), .val (.long (500 : Int64)), .second, .val (.int (1 : Int32))]) rfl k) ?_
  show OG p e _ s below _ T2 (mkF m 37 #[.val (.ref a1), .val (.long (500 : Int64)), .second, .val (.int (1 : Int32))] [])
  refine own_st (fun t k => XS.iinc X2.here hx rfl (hb hby d3_37) rfl (l' := #[.val (.ref a1), .val (.long (500 : Int64)), .second, .val (.int ((1 : Int32) + (1 : Int32)))]) rfl k) ?_
  show OG p e _ s below _ T2 (mkF m 40 #[.val (.ref a1), .val (.long (500 : Int64)), .second, .val (.int (2 : Int32))] [])
  refine own_st (fun t k => XS.goto X2.here hx rfl (pc0 := 40) (pc' := 15) rfl (hb hby d3_40) (by decide) (by decide) k) ?_
  show OG p e _ s below _ T2 (mkF m 15 #[.val (.ref a1), .val (.long (500 : Int64)), .second, .val (.int (2 : Int32))] [])
  refine own_st (fun t k => XS.iloadN X2.here hx rfl (hb hby d3_15) rfl k) ?_
  show OG p e _ s below _ T2 (mkF m 16 #[.val (.ref a1), .val (.long (500 : Int64)), .second, .val (.int (2 : Int32))] [(.int (2 : Int32))])
  refine own_st (fun t k => XS.aloadN X2.here hx rfl (hb hby d3_16) rfl rfl k) ?_
  show OG p e _ s below _ T2 (mkF m 17 #[.val (.ref a1), .val (.long (500 : Int64)), .second, .val (.int (2 : Int32))] [(.ref a1), (.int (2 : Int32))])
  obtain ⟨T3, X3, e3, st3⟩ := getF X2 hx hZ hown (host := "") (Or.inl (hw _ (List.mem_of_getElem? (i := 14) rfl))) Via.refl e2 R0 (g := (mkF m 17 #[.val (.ref a1), .val (.long (500 : Int64)), .second, .val (.int (2 : Int32))] [(.ref a1), (.int (2 : Int32))])) rfl rfl (hb hby d3_17)
  refine own_st st3 ?_
  show OG p e _ s below _ T3 (mkF m 20 #[.val (.ref a1), .val (.long (500 : Int64)), .second, .val (.int (2 : Int32))] [(.int (3 : Int32)), (.int (2 : Int32))])
  refine own_st (fun t k => XS.icmpNo X3.here hx rfl (hb hby d3_20) rfl (by decide) k) ?_
  show OG p e _ s below _ T3 (mkF m 23 #[.val (.ref a1), .val (.long (500 : Int64)), .second, .val (.int (2 : Int32))] [])
  refine own_st (fun t k => XS.lloadN X3.here hx rfl (hb hby d3_23) rfl k) ?_
  show OG p e _ s below _ T3 (mkF m 24 #[.val (.ref a1), .val (.long (500 : Int64)), .second, .val (.int (2 : Int32))] [(.long (500 : Int64))])
  refine own_st (fun t k => X3.ldc2Long hx hown (mvT hZ (hw _ (List.mem_of_getElem? (i := 23) rfl))) (g := (mkF m 24 #[.val (.ref a1), .val (.long (500 : Int64)), .second, .val (.int (2 : Int32))] [(.long (500 : Int64))])) rfl (hb hby d3_24) _ k) ?_
  show OG p e _ s below _ T3 (mkF m 27 #[.val (.ref a1), .val (.long (500 : Int64)), .second, .val (.int (2 : Int32))] [(.long (10000 : Int64)), (.long (500 : Int64))])
  refine own_st (fun t k => XS.lcmp X3.here hx rfl (hb hby d3_27) rfl k) ?_
  show OG p e _ s below _ T3 (mkF m 28 #[.val (.ref a1), .val (.long (500 : Int64)), .second, .val (.int (2 : Int32))] [(.int (lcmpW (500 : Int64) (10000 : Int64)))])
  refine own_st (fun t k => XS.ifNo X3.here hx rfl (hb hby d3_28) rfl (by decide) k) ?_
  show OG p e _ s below _ T3 (mkF m 31 #[.val (.ref a1), .val (.long (500 : Int64)), .second, .val (.int (2 : Int32))] [])
  refine own_st (fun t k => XS.lloadN X3.here hx rfl (hb hby d3_31) rfl k) ?_
  show OG p e _ s below _ T3 (mkF m 32 #[.val (.ref a1), .val (.long (500 : Int64)), .second, .val (.int (2 : Int32))] [(.long (500 : Int64))])
  refine own_st (fun t k => X3.ldc2Long hx hown (mvT hZ (hw _ (List.mem_of_getElem? (i := 35) rfl))) (g := (mkF m 32 #[.val (.ref a1), .val (.long (500 : Int64)), .second, .val (.int (2 : Int32))] [(.long (500 : Int64))])) rfl (hb hby d3_32) _ k) ?_
  show OG p e _ s below _ T3 (mkF m 35 #[.val (.ref a1), .val (.long (500 : Int64)), .second, .val (.int (2 : Int32))] [(.long (2 : Int64)), (.long (500 : Int64))])
  refine own_st (fun t k => XS.lmul X3.here hx rfl (hb hby d3_35) rfl k) ?_
  show OG p e _ s below _ T3 (mkF m 36 #[.val (.ref a1), .val (.long (500 : Int64)), .second, .val (.int (2 : Int32))] [(.long (1000 : Int64))])
  refine own_st (fun t k => XS.lstoreN X3.here hx rfl (hb hby d3_36) rfl (l' := #[.val (.ref a1), .val (.long (1000 : Int64)), .second, .val (.int (2 : Int32))]) rfl k) ?_
  show OG p e _ s below _ T3 (mkF m 37 #[.val (.ref a1), .val (.long (1000 : Int64)), .second, .val (.int (2 : Int32))] [])
  refine own_st (fun t k => XS.iinc X3.here hx rfl (hb hby d3_37) rfl (l' := #[.val (.ref a1), .val (.long (1000 : Int64)), .second, .val (.int ((2 : Int32) + (1 : Int32)))]) rfl k) ?_
  show OG p e _ s below _ T3 (mkF m 40 #[.val (.ref a1), .val (.long (1000 : Int64)), .second, .val (.int (3 : Int32))] [])
  refine own_st (fun t k => XS.goto X3.here hx rfl (pc0 := 40) (pc' := 15) rfl (hb hby d3_40) (by decide) (by decide) k) ?_
  show OG p e _ s below _ T3 (mkF m 15 #[.val (.ref a1), .val (.long (1000 : Int64)), .second, .val (.int (3 : Int32))] [])
  refine own_st (fun t k => XS.iloadN X3.here hx rfl (hb hby d3_15) rfl k) ?_
  show OG p e _ s below _ T3 (mkF m 16 #[.val (.ref a1), .val (.long (1000 : Int64)), .second, .val (.int (3 : Int32))] [(.int (3 : Int32))])
  refine own_st (fun t k => XS.aloadN X3.here hx rfl (hb hby d3_16) rfl rfl k) ?_
  show OG p e _ s below _ T3 (mkF m 17 #[.val (.ref a1), .val (.long (1000 : Int64)), .second, .val (.int (3 : Int32))] [(.ref a1), (.int (3 : Int32))])
  obtain ⟨T4, X4, e4, st4⟩ := getF X3 hx hZ hown (host := "") (Or.inl (hw _ (List.mem_of_getElem? (i := 14) rfl))) Via.refl e3 R0 (g := (mkF m 17 #[.val (.ref a1), .val (.long (1000 : Int64)), .second, .val (.int (3 : Int32))] [(.ref a1), (.int (3 : Int32))])) rfl rfl (hb hby d3_17)
  refine own_st st4 ?_
  show OG p e _ s below _ T4 (mkF m 20 #[.val (.ref a1), .val (.long (1000 : Int64)), .second, .val (.int (3 : Int32))] [(.int (3 : Int32)), (.int (3 : Int32))])
  refine own_st (fun t k => XS.icmpYes X4.here hx rfl (pc0 := 20) (pc' := 43) rfl (hb hby d3_20) rfl (by decide) (by decide) (by decide) k) ?_
  show OG p e _ s below _ T4 (mkF m 43 #[.val (.ref a1), .val (.long (1000 : Int64)), .second, .val (.int (3 : Int32))] [])
  refine own_st (fun t k => XS.lloadN X4.here hx rfl (hb hby d3_43) rfl k) ?_
  show OG p e _ s below _ T4 (mkF m 44 #[.val (.ref a1), .val (.long (1000 : Int64)), .second, .val (.int (3 : Int32))] [(.long (1000 : Int64))])
  refine own_st (fun t k => X4.ldc2Long hx hown (mvT hZ (hw _ (List.mem_of_getElem? (i := 23) rfl))) (g := (mkF m 44 #[.val (.ref a1), .val (.long (1000 : Int64)), .second, .val (.int (3 : Int32))] [(.long (1000 : Int64))])) rfl (hb hby d3_44) _ k) ?_
  show OG p e _ s below _ T4 (mkF m 47 #[.val (.ref a1), .val (.long (1000 : Int64)), .second, .val (.int (3 : Int32))] [(.long (10000 : Int64)), (.long (1000 : Int64))])
  obtain ⟨_, _, ⟨T5, L5, k5, n5⟩, -, X5, ⟨Lc5, hQ5, l5, y5, z5⟩, st5⟩ := Jvm.LawKit.callS X4 hx (y := (⟨"java/lang/Math", "min", "(JJ)J"⟩ : MethodName)) hown (mvT hZ (hw _ (List.mem_of_getElem? (i := 24) rfl))) (mvT hZ (hw _ (List.mem_of_getElem? (i := 25) rfl))) (mvT hZ (hw _ (List.mem_of_getElem? (i := 26) rfl))) (mvT hZ (hw _ (List.mem_of_getElem? (i := 27) rfl))) (by decide) (backOf (W := 0) (rm := ({ frames := 0, cells := 0, slots := 0, locals := 0 } : Room)) (rm5 l Z a0 hw [] (1000 : Int64) (10000 : Int64) h0) hZ (hw _ (List.mem_of_getElem? (i := 27) rfl)) (hw _ (List.mem_of_getElem? (i := 26) rfl)) (by decide) (by decide)) (g := (mkF m 47 #[.val (.ref a1), .val (.long (1000 : Int64)), .second, .val (.int (3 : Int32))] [(.long (10000 : Int64)), (.long (1000 : Int64))])) rfl (by rw [hml]; rfl) (argsL := [(.long (1000 : Int64)), (.long (10000 : Int64))]) (rest := []) (lenOf pd__JJ_J rfl) rfl (by show 2 * 0 + _ ≤ _; exact Nat.le_of_eq rfl) (hb hby d3_47) (fun _ _ => ⟨rfl, e4, (by decide : 0 + 0 ≤ _), (by decide : 0 + 0 ≤ _)⟩)
  dsimp only [Pt.U, Pt.locs, Pt.cells, Pt.slots] at X5 l5 y5 z5 st5 hQ5
  subst l5 y5 z5
  obtain ⟨rfl, rfl, e5⟩ := hQ5
  refine own_st st5 ?_
  show OG p e _ s below _ T5 (mkF m 50 #[.val (.ref a1), .val (.long (1000 : Int64)), .second, .val (.int (3 : Int32))] [(.long (f5 (1000 : Int64) (10000 : Int64)))])
  exact own_retL X5 hx hret hlk (hb hby d3_50) (by decide) (by decide) ⟨congrArg (fun z => some (Value.long z)) (show f3_3  = (f5 (1000 : Int64) (10000 : Int64)) from (by rw [f3_3])).symm, rfl, e5⟩
def f3_4  : Int64 := (f5 (2000 : Int64) (10000 : Int64))
abbrev Q3_4 (Z : State) (a1 : Addr) (h0 : Heap)  : Option Value → Heap → List Loc → Prop := (fun v h L => v = some (.long f3_4) ∧ L = [] ∧ h = h0)
set_option maxRecDepth 65536 in
set_option maxHeartbeats 40000000 in
theorem rm3_4 (l : Launch) (Z : State) (a0 : Array Value) (hw : ∀ d ∈ tables_1, d.before a0 Z = true) (ws : List Jvm.Cond) (a1 : Addr) (h0 : Heap) (R0 : Fld Z h0 a1 "com/example/tidewire/tidewire/internal/Backoff" "attempts" "I" (.int (4 : Int32))) :
    OMet l Z (⟨"com/example/tidewire/tidewire/internal/Backoff", "delayMs", "()J"⟩ : MethodName) prog_2_method_2_code 4 (some .long) ws ({ frames := 1, cells := 0, slots := 0, locals := 15 } : Room) #[(.ref a1)] h0 (Q3_4 Z a1 h0) := by
  refine own_enter pn_3 ?_
  intro p e s m below meth c s₁ hx hby hml0 hown hret hlk hnm hZ X0 e0
  have hml : c.maxLocals = 4 := hml0
  refine own_cast (ef_3 m a1) ?_
  show OG p e ({ frames := 1, cells := 0, slots := 0, locals := 15 } : Room) s below (fun v h L => v = some (.long f3_4) ∧ L = [] ∧ h = h0) s₁ (mkF m 0 #[.val (.ref a1), .unset, .unset, .unset] [])
  refine own_st (fun t k => XS.aloadN X0.here hx rfl (hb hby d3_0) rfl rfl k) ?_
  show OG p e _ s below _ s₁ (mkF m 1 #[.val (.ref a1), .unset, .unset, .unset] [(.ref a1)])
  obtain ⟨T1, X1, e1, st1⟩ := getF X0 hx hZ hown (host := "") (Or.inl (hw _ (List.mem_of_getElem? (i := 14) rfl))) Via.refl e0 R0 (g := (mkF m 1 #[.val (.ref a1), .unset, .unset, .unset] [(.ref a1)])) rfl rfl (hb hby d3_1)
  refine own_st st1 ?_
  show OG p e _ s below _ T1 (mkF m 4 #[.val (.ref a1), .unset, .unset, .unset] [(.int (4 : Int32))])
  refine own_st (fun t k => XS.ifYes X1.here hx rfl (pc0 := 4) (pc' := 9) rfl (hb hby d3_4) rfl (by decide) (by decide) (by decide) k) ?_
  show OG p e _ s below _ T1 (mkF m 9 #[.val (.ref a1), .unset, .unset, .unset] [])
  refine own_st (fun t k => X1.ldc2Long hx hown (mvT hZ (hw _ (List.mem_of_getElem? (i := 22) rfl))) (g := (mkF m 9 #[.val (.ref a1), .unset, .unset, .unset] [])) rfl (hb hby d3_9) _ k) ?_
  show OG p e _ s below _ T1 (mkF m 12 #[.val (.ref a1), .unset, .unset, .unset] [(.long (250 : Int64))])
  refine own_st (fun t k => XS.lstoreN X1.here hx rfl (hb hby d3_12) rfl (l' := #[.val (.ref a1), .val (.long (250 : Int64)), .second, .unset]) rfl k) ?_
  show OG p e _ s below _ T1 (mkF m 13 #[.val (.ref a1), .val (.long (250 : Int64)), .second, .unset] [])
  refine own_st (fun t k => XS.iconst X1.here hx rfl (hb hby d3_13) k) ?_
  show OG p e _ s below _ T1 (mkF m 14 #[.val (.ref a1), .val (.long (250 : Int64)), .second, .unset] [(.int (1 : Int32))])
  refine own_st (fun t k => XS.istoreN X1.here hx rfl (hb hby d3_14) rfl (l' := #[.val (.ref a1), .val (.long (250 : Int64)), .second, .val (.int (1 : Int32))]) rfl k) ?_
  show OG p e _ s below _ T1 (mkF m 15 #[.val (.ref a1), .val (.long (250 : Int64)), .second, .val (.int (1 : Int32))] [])
  refine own_st (fun t k => XS.iloadN X1.here hx rfl (hb hby d3_15) rfl k) ?_
  show OG p e _ s below _ T1 (mkF m 16 #[.val (.ref a1), .val (.long (250 : Int64)), .second, .val (.int (1 : Int32))] [(.int (1 : Int32))])
  refine own_st (fun t k => XS.aloadN X1.here hx rfl (hb hby d3_16) rfl rfl k) ?_
  show OG p e _ s below _ T1 (mkF m 17 #[.val (.ref a1), .val (.long (250 : Int64)), .second, .val (.int (1 : Int32))] [(.ref a1), (.int (1 : Int32))])
  obtain ⟨T2, X2, e2, st2⟩ := getF X1 hx hZ hown (host := "") (Or.inl (hw _ (List.mem_of_getElem? (i := 14) rfl))) Via.refl e1 R0 (g := (mkF m 17 #[.val (.ref a1), .val (.long (250 : Int64)), .second, .val (.int (1 : Int32))] [(.ref a1), (.int (1 : Int32))])) rfl rfl (hb hby d3_17)
  refine own_st st2 ?_
  show OG p e _ s below _ T2 (mkF m 20 #[.val (.ref a1), .val (.long (250 : Int64)), .second, .val (.int (1 : Int32))] [(.int (4 : Int32)), (.int (1 : Int32))])
  refine own_st (fun t k => XS.icmpNo X2.here hx rfl (hb hby d3_20) rfl (by decide) k) ?_
  show OG p e _ s below _ T2 (mkF m 23 #[.val (.ref a1), .val (.long (250 : Int64)), .second, .val (.int (1 : Int32))] [])
  refine own_st (fun t k => XS.lloadN X2.here hx rfl (hb hby d3_23) rfl k) ?_
  show OG p e _ s below _ T2 (mkF m 24 #[.val (.ref a1), .val (.long (250 : Int64)), .second, .val (.int (1 : Int32))] [(.long (250 : Int64))])
  refine own_st (fun t k => X2.ldc2Long hx hown (mvT hZ (hw _ (List.mem_of_getElem? (i := 23) rfl))) (g := (mkF m 24 #[.val (.ref a1), .val (.long (250 : Int64)), .second, .val (.int (1 : Int32))] [(.long (250 : Int64))])) rfl (hb hby d3_24) _ k) ?_
  show OG p e _ s below _ T2 (mkF m 27 #[.val (.ref a1), .val (.long (250 : Int64)), .second, .val (.int (1 : Int32))] [(.long (10000 : Int64)), (.long (250 : Int64))])
  refine own_st (fun t k => XS.lcmp X2.here hx rfl (hb hby d3_27) rfl k) ?_
  show OG p e _ s below _ T2 (mkF m 28 #[.val (.ref a1), .val (.long (250 : Int64)), .second, .val (.int (1 : Int32))] [(.int (lcmpW (250 : Int64) (10000 : Int64)))])
  refine own_st (fun t k => XS.ifNo X2.here hx rfl (hb hby d3_28) rfl (by decide) k) ?_
  show OG p e _ s below _ T2 (mkF m 31 #[.val (.ref a1), .val (.long (250 : Int64)), .second, .val (.int (1 : Int32))] [])
  refine own_st (fun t k => XS.lloadN X2.here hx rfl (hb hby d3_31) rfl k) ?_
  show OG p e _ s below _ T2 (mkF m 32 #[.val (.ref a1), .val (.long (250 : Int64)), .second, .val (.int (1 : Int32))] [(.long (250 : Int64))])
  refine own_st (fun t k => X2.ldc2Long hx hown (mvT hZ (hw _ (List.mem_of_getElem? (i := 35) rfl))) (g := (mkF m 32 #[.val (.ref a1), .val (.long (250 : Int64)), .second, .val (.int (1 : Int32))] [(.long (250 : Int64))])) rfl (hb hby d3_32) _ k) ?_
  show OG p e _ s below _ T2 (mkF m 35 #[.val (.ref a1), .val (.long (250 : Int64)), .second, .val (.int (1 : Int32))] [(.long (2 : Int64)), (.long (250 : Int64))])
  refine own_st (fun t k => XS.lmul X2.here hx rfl (hb hby d3_35) rfl k) ?_
  show OG p e _ s below _ T2 (mkF m 36 #[.val (.ref a1), .val (.long (250 : Int64)), .second, .val (.int (1 : Int32))] [(.long (500 : Int64))])
  refine own_st (fun t k => XS.lstoreN X2.here hx rfl (hb hby d3_36) rfl (l' := #[.val (.ref a1), .val (.long (500 : Int64)), .second, .val (.int (1 : Int32))]) rfl k) ?_
  show OG p e _ s below _ T2 (mkF m 37 #[.val (.ref a1), .val (.long (500 : Int64)), .second, .val (.int (1 : Int32))] [])
  refine own_st (fun t k => XS.iinc X2.here hx rfl (hb hby d3_37) rfl (l' := #[.val (.ref a1), .val (.long (500 : Int64)), .second, .val (.int ((1 : Int32) + (1 : Int32)))]) rfl k) ?_
  show OG p e _ s below _ T2 (mkF m 40 #[.val (.ref a1), .val (.long (500 : Int64)), .second, .val (.int (2 : Int32))] [])
  refine own_st (fun t k => XS.goto X2.here hx rfl (pc0 := 40) (pc' := 15) rfl (hb hby d3_40) (by decide) (by decide) k) ?_
  show OG p e _ s below _ T2 (mkF m 15 #[.val (.ref a1), .val (.long (500 : Int64)), .second, .val (.int (2 : Int32))] [])
  refine own_st (fun t k => XS.iloadN X2.here hx rfl (hb hby d3_15) rfl k) ?_
  show OG p e _ s below _ T2 (mkF m 16 #[.val (.ref a1), .val (.long (500 : Int64)), .second, .val (.int (2 : Int32))] [(.int (2 : Int32))])
  refine own_st (fun t k => XS.aloadN X2.here hx rfl (hb hby d3_16) rfl rfl k) ?_
  show OG p e _ s below _ T2 (mkF m 17 #[.val (.ref a1), .val (.long (500 : Int64)), .second, .val (.int (2 : Int32))] [(.ref a1), (.int (2 : Int32))])
  obtain ⟨T3, X3, e3, st3⟩ := getF X2 hx hZ hown (host := "") (Or.inl (hw _ (List.mem_of_getElem? (i := 14) rfl))) Via.refl e2 R0 (g := (mkF m 17 #[.val (.ref a1), .val (.long (500 : Int64)), .second, .val (.int (2 : Int32))] [(.ref a1), (.int (2 : Int32))])) rfl rfl (hb hby d3_17)
  refine own_st st3 ?_
  show OG p e _ s below _ T3 (mkF m 20 #[.val (.ref a1), .val (.long (500 : Int64)), .second, .val (.int (2 : Int32))] [(.int (4 : Int32)), (.int (2 : Int32))])
  refine own_st (fun t k => XS.icmpNo X3.here hx rfl (hb hby d3_20) rfl (by decide) k) ?_
  show OG p e _ s below _ T3 (mkF m 23 #[.val (.ref a1), .val (.long (500 : Int64)), .second, .val (.int (2 : Int32))] [])
  refine own_st (fun t k => XS.lloadN X3.here hx rfl (hb hby d3_23) rfl k) ?_
  show OG p e _ s below _ T3 (mkF m 24 #[.val (.ref a1), .val (.long (500 : Int64)), .second, .val (.int (2 : Int32))] [(.long (500 : Int64))])
  refine own_st (fun t k => X3.ldc2Long hx hown (mvT hZ (hw _ (List.mem_of_getElem? (i := 23) rfl))) (g := (mkF m 24 #[.val (.ref a1), .val (.long (500 : Int64)), .second, .val (.int (2 : Int32))] [(.long (500 : Int64))])) rfl (hb hby d3_24) _ k) ?_
  show OG p e _ s below _ T3 (mkF m 27 #[.val (.ref a1), .val (.long (500 : Int64)), .second, .val (.int (2 : Int32))] [(.long (10000 : Int64)), (.long (500 : Int64))])
  refine own_st (fun t k => XS.lcmp X3.here hx rfl (hb hby d3_27) rfl k) ?_
  show OG p e _ s below _ T3 (mkF m 28 #[.val (.ref a1), .val (.long (500 : Int64)), .second, .val (.int (2 : Int32))] [(.int (lcmpW (500 : Int64) (10000 : Int64)))])
  refine own_st (fun t k => XS.ifNo X3.here hx rfl (hb hby d3_28) rfl (by decide) k) ?_
  show OG p e _ s below _ T3 (mkF m 31 #[.val (.ref a1), .val (.long (500 : Int64)), .second, .val (.int (2 : Int32))] [])
  refine own_st (fun t k => XS.lloadN X3.here hx rfl (hb hby d3_31) rfl k) ?_
  show OG p e _ s below _ T3 (mkF m 32 #[.val (.ref a1), .val (.long (500 : Int64)), .second, .val (.int (2 : Int32))] [(.long (500 : Int64))])
  refine own_st (fun t k => X3.ldc2Long hx hown (mvT hZ (hw _ (List.mem_of_getElem? (i := 35) rfl))) (g := (mkF m 32 #[.val (.ref a1), .val (.long (500 : Int64)), .second, .val (.int (2 : Int32))] [(.long (500 : Int64))])) rfl (hb hby d3_32) _ k) ?_
  show OG p e _ s below _ T3 (mkF m 35 #[.val (.ref a1), .val (.long (500 : Int64)), .second, .val (.int (2 : Int32))] [(.long (2 : Int64)), (.long (500 : Int64))])
  refine own_st (fun t k => XS.lmul X3.here hx rfl (hb hby d3_35) rfl k) ?_
  show OG p e _ s below _ T3 (mkF m 36 #[.val (.ref a1), .val (.long (500 : Int64)), .second, .val (.int (2 : Int32))] [(.long (1000 : Int64))])
  refine own_st (fun t k => XS.lstoreN X3.here hx rfl (hb hby d3_36) rfl (l' := #[.val (.ref a1), .val (.long (1000 : Int64)), .second, .val (.int (2 : Int32))]) rfl k) ?_
  show OG p e _ s below _ T3 (mkF m 37 #[.val (.ref a1), .val (.long (1000 : Int64)), .second, .val (.int (2 : Int32))] [])
  refine own_st (fun t k => XS.iinc X3.here hx rfl (hb hby d3_37) rfl (l' := #[.val (.ref a1), .val (.long (1000 : Int64)), .second, .val (.int ((2 : Int32) + (1 : Int32)))]) rfl k) ?_
  show OG p e _ s below _ T3 (mkF m 40 #[.val (.ref a1), .val (.long (1000 : Int64)), .second, .val (.int (3 : Int32))] [])
  refine own_st (fun t k => XS.goto X3.here hx rfl (pc0 := 40) (pc' := 15) rfl (hb hby d3_40) (by decide) (by decide) k) ?_
  show OG p e _ s below _ T3 (mkF m 15 #[.val (.ref a1), .val (.long (1000 : Int64)), .second, .val (.int (3 : Int32))] [])
  refine own_st (fun t k => XS.iloadN X3.here hx rfl (hb hby d3_15) rfl k) ?_
  show OG p e _ s below _ T3 (mkF m 16 #[.val (.ref a1), .val (.long (1000 : Int64)), .second, .val (.int (3 : Int32))] [(.int (3 : Int32))])
  refine own_st (fun t k => XS.aloadN X3.here hx rfl (hb hby d3_16) rfl rfl k) ?_
  show OG p e _ s below _ T3 (mkF m 17 #[.val (.ref a1), .val (.long (1000 : Int64)), .second, .val (.int (3 : Int32))] [(.ref a1), (.int (3 : Int32))])
  obtain ⟨T4, X4, e4, st4⟩ := getF X3 hx hZ hown (host := "") (Or.inl (hw _ (List.mem_of_getElem? (i := 14) rfl))) Via.refl e3 R0 (g := (mkF m 17 #[.val (.ref a1), .val (.long (1000 : Int64)), .second, .val (.int (3 : Int32))] [(.ref a1), (.int (3 : Int32))])) rfl rfl (hb hby d3_17)
  refine own_st st4 ?_
  show OG p e _ s below _ T4 (mkF m 20 #[.val (.ref a1), .val (.long (1000 : Int64)), .second, .val (.int (3 : Int32))] [(.int (4 : Int32)), (.int (3 : Int32))])
  refine own_st (fun t k => XS.icmpNo X4.here hx rfl (hb hby d3_20) rfl (by decide) k) ?_
  show OG p e _ s below _ T4 (mkF m 23 #[.val (.ref a1), .val (.long (1000 : Int64)), .second, .val (.int (3 : Int32))] [])
  refine own_st (fun t k => XS.lloadN X4.here hx rfl (hb hby d3_23) rfl k) ?_
  show OG p e _ s below _ T4 (mkF m 24 #[.val (.ref a1), .val (.long (1000 : Int64)), .second, .val (.int (3 : Int32))] [(.long (1000 : Int64))])
  refine own_st (fun t k => X4.ldc2Long hx hown (mvT hZ (hw _ (List.mem_of_getElem? (i := 23) rfl))) (g := (mkF m 24 #[.val (.ref a1), .val (.long (1000 : Int64)), .second, .val (.int (3 : Int32))] [(.long (1000 : Int64))])) rfl (hb hby d3_24) _ k) ?_
  show OG p e _ s below _ T4 (mkF m 27 #[.val (.ref a1), .val (.long (1000 : Int64)), .second, .val (.int (3 : Int32))] [(.long (10000 : Int64)), (.long (1000 : Int64))])
  refine own_st (fun t k => XS.lcmp X4.here hx rfl (hb hby d3_27) rfl k) ?_
  show OG p e _ s below _ T4 (mkF m 28 #[.val (.ref a1), .val (.long (1000 : Int64)), .second, .val (.int (3 : Int32))] [(.int (lcmpW (1000 : Int64) (10000 : Int64)))])
  refine own_st (fun t k => XS.ifNo X4.here hx rfl (hb hby d3_28) rfl (by decide) k) ?_
  show OG p e _ s below _ T4 (mkF m 31 #[.val (.ref a1), .val (.long (1000 : Int64)), .second, .val (.int (3 : Int32))] [])
  refine own_st (fun t k => XS.lloadN X4.here hx rfl (hb hby d3_31) rfl k) ?_
  show OG p e _ s below _ T4 (mkF m 32 #[.val (.ref a1), .val (.long (1000 : Int64)), .second, .val (.int (3 : Int32))] [(.long (1000 : Int64))])
  refine own_st (fun t k => X4.ldc2Long hx hown (mvT hZ (hw _ (List.mem_of_getElem? (i := 35) rfl))) (g := (mkF m 32 #[.val (.ref a1), .val (.long (1000 : Int64)), .second, .val (.int (3 : Int32))] [(.long (1000 : Int64))])) rfl (hb hby d3_32) _ k) ?_
  show OG p e _ s below _ T4 (mkF m 35 #[.val (.ref a1), .val (.long (1000 : Int64)), .second, .val (.int (3 : Int32))] [(.long (2 : Int64)), (.long (1000 : Int64))])
  refine own_st (fun t k => XS.lmul X4.here hx rfl (hb hby d3_35) rfl k) ?_
  show OG p e _ s below _ T4 (mkF m 36 #[.val (.ref a1), .val (.long (1000 : Int64)), .second, .val (.int (3 : Int32))] [(.long (2000 : Int64))])
  refine own_st (fun t k => XS.lstoreN X4.here hx rfl (hb hby d3_36) rfl (l' := #[.val (.ref a1), .val (.long (2000 : Int64)), .second, .val (.int (3 : Int32))]) rfl k) ?_
  show OG p e _ s below _ T4 (mkF m 37 #[.val (.ref a1), .val (.long (2000 : Int64)), .second, .val (.int (3 : Int32))] [])
  refine own_st (fun t k => XS.iinc X4.here hx rfl (hb hby d3_37) rfl (l' := #[.val (.ref a1), .val (.long (2000 : Int64)), .second, .val (.int ((3 : Int32) + (1 : Int32)))]) rfl k) ?_
  show OG p e _ s below _ T4 (mkF m 40 #[.val (.ref a1), .val (.long (2000 : Int64)), .second, .val (.int (4 : Int32))] [])
  refine own_st (fun t k => XS.goto X4.here hx rfl (pc0 := 40) (pc' := 15) rfl (hb hby d3_40) (by decide) (by decide) k) ?_
  show OG p e _ s below _ T4 (mkF m 15 #[.val (.ref a1), .val (.long (2000 : Int64)), .second, .val (.int (4 : Int32))] [])
  refine own_st (fun t k => XS.iloadN X4.here hx rfl (hb hby d3_15) rfl k) ?_
  show OG p e _ s below _ T4 (mkF m 16 #[.val (.ref a1), .val (.long (2000 : Int64)), .second, .val (.int (4 : Int32))] [(.int (4 : Int32))])
  refine own_st (fun t k => XS.aloadN X4.here hx rfl (hb hby d3_16) rfl rfl k) ?_
  show OG p e _ s below _ T4 (mkF m 17 #[.val (.ref a1), .val (.long (2000 : Int64)), .second, .val (.int (4 : Int32))] [(.ref a1), (.int (4 : Int32))])
  obtain ⟨T5, X5, e5, st5⟩ := getF X4 hx hZ hown (host := "") (Or.inl (hw _ (List.mem_of_getElem? (i := 14) rfl))) Via.refl e4 R0 (g := (mkF m 17 #[.val (.ref a1), .val (.long (2000 : Int64)), .second, .val (.int (4 : Int32))] [(.ref a1), (.int (4 : Int32))])) rfl rfl (hb hby d3_17)
  refine own_st st5 ?_
  show OG p e _ s below _ T5 (mkF m 20 #[.val (.ref a1), .val (.long (2000 : Int64)), .second, .val (.int (4 : Int32))] [(.int (4 : Int32)), (.int (4 : Int32))])
  refine own_st (fun t k => XS.icmpYes X5.here hx rfl (pc0 := 20) (pc' := 43) rfl (hb hby d3_20) rfl (by decide) (by decide) (by decide) k) ?_
  show OG p e _ s below _ T5 (mkF m 43 #[.val (.ref a1), .val (.long (2000 : Int64)), .second, .val (.int (4 : Int32))] [])
  refine own_st (fun t k => XS.lloadN X5.here hx rfl (hb hby d3_43) rfl k) ?_
  show OG p e _ s below _ T5 (mkF m 44 #[.val (.ref a1), .val (.long (2000 : Int64)), .second, .val (.int (4 : Int32))] [(.long (2000 : Int64))])
  refine own_st (fun t k => X5.ldc2Long hx hown (mvT hZ (hw _ (List.mem_of_getElem? (i := 23) rfl))) (g := (mkF m 44 #[.val (.ref a1), .val (.long (2000 : Int64)), .second, .val (.int (4 : Int32))] [(.long (2000 : Int64))])) rfl (hb hby d3_44) _ k) ?_
  show OG p e _ s below _ T5 (mkF m 47 #[.val (.ref a1), .val (.long (2000 : Int64)), .second, .val (.int (4 : Int32))] [(.long (10000 : Int64)), (.long (2000 : Int64))])
  obtain ⟨_, _, ⟨T6, L6, k6, n6⟩, -, X6, ⟨Lc6, hQ6, l6, y6, z6⟩, st6⟩ := Jvm.LawKit.callS X5 hx (y := (⟨"java/lang/Math", "min", "(JJ)J"⟩ : MethodName)) hown (mvT hZ (hw _ (List.mem_of_getElem? (i := 24) rfl))) (mvT hZ (hw _ (List.mem_of_getElem? (i := 25) rfl))) (mvT hZ (hw _ (List.mem_of_getElem? (i := 26) rfl))) (mvT hZ (hw _ (List.mem_of_getElem? (i := 27) rfl))) (by decide) (backOf (W := 0) (rm := ({ frames := 0, cells := 0, slots := 0, locals := 0 } : Room)) (rm5 l Z a0 hw [] (2000 : Int64) (10000 : Int64) h0) hZ (hw _ (List.mem_of_getElem? (i := 27) rfl)) (hw _ (List.mem_of_getElem? (i := 26) rfl)) (by decide) (by decide)) (g := (mkF m 47 #[.val (.ref a1), .val (.long (2000 : Int64)), .second, .val (.int (4 : Int32))] [(.long (10000 : Int64)), (.long (2000 : Int64))])) rfl (by rw [hml]; rfl) (argsL := [(.long (2000 : Int64)), (.long (10000 : Int64))]) (rest := []) (lenOf pd__JJ_J rfl) rfl (by show 2 * 0 + _ ≤ _; exact Nat.le_of_eq rfl) (hb hby d3_47) (fun _ _ => ⟨rfl, e5, (by decide : 0 + 0 ≤ _), (by decide : 0 + 0 ≤ _)⟩)
  dsimp only [Pt.U, Pt.locs, Pt.cells, Pt.slots] at X6 l6 y6 z6 st6 hQ6
  subst l6 y6 z6
  obtain ⟨rfl, rfl, e6⟩ := hQ6
  refine own_st st6 ?_
  show OG p e _ s below _ T6 (mkF m 50 #[.val (.ref a1), .val (.long (2000 : Int64)), .second, .val (.int (4 : Int32))] [(.long (f5 (2000 : Int64) (10000 : Int64)))])
  exact own_retL X6 hx hret hlk (hb hby d3_50) (by decide) (by decide) ⟨congrArg (fun z => some (Value.long z)) (show f3_4  = (f5 (2000 : Int64) (10000 : Int64)) from (by rw [f3_4])).symm, rfl, e6⟩
def f3_5  : Int64 := (f5 (4000 : Int64) (10000 : Int64))
abbrev Q3_5 (Z : State) (a1 : Addr) (h0 : Heap)  : Option Value → Heap → List Loc → Prop := (fun v h L => v = some (.long f3_5) ∧ L = [] ∧ h = h0)
set_option maxRecDepth 65536 in
set_option maxHeartbeats 40000000 in
theorem rm3_5 (l : Launch) (Z : State) (a0 : Array Value) (hw : ∀ d ∈ tables_1, d.before a0 Z = true) (ws : List Jvm.Cond) (a1 : Addr) (h0 : Heap) (R0 : Fld Z h0 a1 "com/example/tidewire/tidewire/internal/Backoff" "attempts" "I" (.int (5 : Int32))) :
    OMet l Z (⟨"com/example/tidewire/tidewire/internal/Backoff", "delayMs", "()J"⟩ : MethodName) prog_2_method_2_code 4 (some .long) ws ({ frames := 1, cells := 0, slots := 0, locals := 15 } : Room) #[(.ref a1)] h0 (Q3_5 Z a1 h0) := by
  refine own_enter pn_3 ?_
  intro p e s m below meth c s₁ hx hby hml0 hown hret hlk hnm hZ X0 e0
  have hml : c.maxLocals = 4 := hml0
  refine own_cast (ef_3 m a1) ?_
  show OG p e ({ frames := 1, cells := 0, slots := 0, locals := 15 } : Room) s below (fun v h L => v = some (.long f3_5) ∧ L = [] ∧ h = h0) s₁ (mkF m 0 #[.val (.ref a1), .unset, .unset, .unset] [])
  refine own_st (fun t k => XS.aloadN X0.here hx rfl (hb hby d3_0) rfl rfl k) ?_
  show OG p e _ s below _ s₁ (mkF m 1 #[.val (.ref a1), .unset, .unset, .unset] [(.ref a1)])
  obtain ⟨T1, X1, e1, st1⟩ := getF X0 hx hZ hown (host := "") (Or.inl (hw _ (List.mem_of_getElem? (i := 14) rfl))) Via.refl e0 R0 (g := (mkF m 1 #[.val (.ref a1), .unset, .unset, .unset] [(.ref a1)])) rfl rfl (hb hby d3_1)
  refine own_st st1 ?_
  show OG p e _ s below _ T1 (mkF m 4 #[.val (.ref a1), .unset, .unset, .unset] [(.int (5 : Int32))])
  refine own_st (fun t k => XS.ifYes X1.here hx rfl (pc0 := 4) (pc' := 9) rfl (hb hby d3_4) rfl (by decide) (by decide) (by decide) k) ?_
  show OG p e _ s below _ T1 (mkF m 9 #[.val (.ref a1), .unset, .unset, .unset] [])
  refine own_st (fun t k => X1.ldc2Long hx hown (mvT hZ (hw _ (List.mem_of_getElem? (i := 22) rfl))) (g := (mkF m 9 #[.val (.ref a1), .unset, .unset, .unset] [])) rfl (hb hby d3_9) _ k) ?_
  show OG p e _ s below _ T1 (mkF m 12 #[.val (.ref a1), .unset, .unset, .unset] [(.long (250 : Int64))])
  refine own_st (fun t k => XS.lstoreN X1.here hx rfl (hb hby d3_12) rfl (l' := #[.val (.ref a1), .val (.long (250 : Int64)), .second, .unset]) rfl k) ?_
  show OG p e _ s below _ T1 (mkF m 13 #[.val (.ref a1), .val (.long (250 : Int64)), .second, .unset] [])
  refine own_st (fun t k => XS.iconst X1.here hx rfl (hb hby d3_13) k) ?_
  show OG p e _ s below _ T1 (mkF m 14 #[.val (.ref a1), .val (.long (250 : Int64)), .second, .unset] [(.int (1 : Int32))])
  refine own_st (fun t k => XS.istoreN X1.here hx rfl (hb hby d3_14) rfl (l' := #[.val (.ref a1), .val (.long (250 : Int64)), .second, .val (.int (1 : Int32))]) rfl k) ?_
  show OG p e _ s below _ T1 (mkF m 15 #[.val (.ref a1), .val (.long (250 : Int64)), .second, .val (.int (1 : Int32))] [])
  refine own_st (fun t k => XS.iloadN X1.here hx rfl (hb hby d3_15) rfl k) ?_
  show OG p e _ s below _ T1 (mkF m 16 #[.val (.ref a1), .val (.long (250 : Int64)), .second, .val (.int (1 : Int32))] [(.int (1 : Int32))])
  refine own_st (fun t k => XS.aloadN X1.here hx rfl (hb hby d3_16) rfl rfl k) ?_
  show OG p e _ s below _ T1 (mkF m 17 #[.val (.ref a1), .val (.long (250 : Int64)), .second, .val (.int (1 : Int32))] [(.ref a1), (.int (1 : Int32))])
  obtain ⟨T2, X2, e2, st2⟩ := getF X1 hx hZ hown (host := "") (Or.inl (hw _ (List.mem_of_getElem? (i := 14) rfl))) Via.refl e1 R0 (g := (mkF m 17 #[.val (.ref a1), .val (.long (250 : Int64)), .second, .val (.int (1 : Int32))] [(.ref a1), (.int (1 : Int32))])) rfl rfl (hb hby d3_17)
  refine own_st st2 ?_
  show OG p e _ s below _ T2 (mkF m 20 #[.val (.ref a1), .val (.long (250 : Int64)), .second, .val (.int (1 : Int32))] [(.int (5 : Int32)), (.int (1 : Int32))])
  refine own_st (fun t k => XS.icmpNo X2.here hx rfl (hb hby d3_20) rfl (by decide) k) ?_
  show OG p e _ s below _ T2 (mkF m 23 #[.val (.ref a1), .val (.long (250 : Int64)), .second, .val (.int (1 : Int32))] [])
  refine own_st (fun t k => XS.lloadN X2.here hx rfl (hb hby d3_23) rfl k) ?_
  show OG p e _ s below _ T2 (mkF m 24 #[.val (.ref a1), .val (.long (250 : Int64)), .second, .val (.int (1 : Int32))] [(.long (250 : Int64))])
  refine own_st (fun t k => X2.ldc2Long hx hown (mvT hZ (hw _ (List.mem_of_getElem? (i := 23) rfl))) (g := (mkF m 24 #[.val (.ref a1), .val (.long (250 : Int64)), .second, .val (.int (1 : Int32))] [(.long (250 : Int64))])) rfl (hb hby d3_24) _ k) ?_
  show OG p e _ s below _ T2 (mkF m 27 #[.val (.ref a1), .val (.long (250 : Int64)), .second, .val (.int (1 : Int32))] [(.long (10000 : Int64)), (.long (250 : Int64))])
  refine own_st (fun t k => XS.lcmp X2.here hx rfl (hb hby d3_27) rfl k) ?_
  show OG p e _ s below _ T2 (mkF m 28 #[.val (.ref a1), .val (.long (250 : Int64)), .second, .val (.int (1 : Int32))] [(.int (lcmpW (250 : Int64) (10000 : Int64)))])
  refine own_st (fun t k => XS.ifNo X2.here hx rfl (hb hby d3_28) rfl (by decide) k) ?_
  show OG p e _ s below _ T2 (mkF m 31 #[.val (.ref a1), .val (.long (250 : Int64)), .second, .val (.int (1 : Int32))] [])
  refine own_st (fun t k => XS.lloadN X2.here hx rfl (hb hby d3_31) rfl k) ?_
  show OG p e _ s below _ T2 (mkF m 32 #[.val (.ref a1), .val (.long (250 : Int64)), .second, .val (.int (1 : Int32))] [(.long (250 : Int64))])
  refine own_st (fun t k => X2.ldc2Long hx hown (mvT hZ (hw _ (List.mem_of_getElem? (i := 35) rfl))) (g := (mkF m 32 #[.val (.ref a1), .val (.long (250 : Int64)), .second, .val (.int (1 : Int32))] [(.long (250 : Int64))])) rfl (hb hby d3_32) _ k) ?_
  show OG p e _ s below _ T2 (mkF m 35 #[.val (.ref a1), .val (.long (250 : Int64)), .second, .val (.int (1 : Int32))] [(.long (2 : Int64)), (.long (250 : Int64))])
  refine own_st (fun t k => XS.lmul X2.here hx rfl (hb hby d3_35) rfl k) ?_
  show OG p e _ s below _ T2 (mkF m 36 #[.val (.ref a1), .val (.long (250 : Int64)), .second, .val (.int (1 : Int32))] [(.long (500 : Int64))])
  refine own_st (fun t k => XS.lstoreN X2.here hx rfl (hb hby d3_36) rfl (l' := #[.val (.ref a1), .val (.long (500 : Int64)), .second, .val (.int (1 : Int32))]) rfl k) ?_
  show OG p e _ s below _ T2 (mkF m 37 #[.val (.ref a1), .val (.long (500 : Int64)), .second, .val (.int (1 : Int32))] [])
  refine own_st (fun t k => XS.iinc X2.here hx rfl (hb hby d3_37) rfl (l' := #[.val (.ref a1), .val (.long (500 : Int64)), .second, .val (.int ((1 : Int32) + (1 : Int32)))]) rfl k) ?_
  show OG p e _ s below _ T2 (mkF m 40 #[.val (.ref a1), .val (.long (500 : Int64)), .second, .val (.int (2 : Int32))] [])
  refine own_st (fun t k => XS.goto X2.here hx rfl (pc0 := 40) (pc' := 15) rfl (hb hby d3_40) (by decide) (by decide) k) ?_
  show OG p e _ s below _ T2 (mkF m 15 #[.val (.ref a1), .val (.long (500 : Int64)), .second, .val (.int (2 : Int32))] [])
  refine own_st (fun t k => XS.iloadN X2.here hx rfl (hb hby d3_15) rfl k) ?_
  show OG p e _ s below _ T2 (mkF m 16 #[.val (.ref a1), .val (.long (500 : Int64)), .second, .val (.int (2 : Int32))] [(.int (2 : Int32))])
  refine own_st (fun t k => XS.aloadN X2.here hx rfl (hb hby d3_16) rfl rfl k) ?_
  show OG p e _ s below _ T2 (mkF m 17 #[.val (.ref a1), .val (.long (500 : Int64)), .second, .val (.int (2 : Int32))] [(.ref a1), (.int (2 : Int32))])
  obtain ⟨T3, X3, e3, st3⟩ := getF X2 hx hZ hown (host := "") (Or.inl (hw _ (List.mem_of_getElem? (i := 14) rfl))) Via.refl e2 R0 (g := (mkF m 17 #[.val (.ref a1), .val (.long (500 : Int64)), .second, .val (.int (2 : Int32))] [(.ref a1), (.int (2 : Int32))])) rfl rfl (hb hby d3_17)
  refine own_st st3 ?_
  show OG p e _ s below _ T3 (mkF m 20 #[.val (.ref a1), .val (.long (500 : Int64)), .second, .val (.int (2 : Int32))] [(.int (5 : Int32)), (.int (2 : Int32))])
  refine own_st (fun t k => XS.icmpNo X3.here hx rfl (hb hby d3_20) rfl (by decide) k) ?_
  show OG p e _ s below _ T3 (mkF m 23 #[.val (.ref a1), .val (.long (500 : Int64)), .second, .val (.int (2 : Int32))] [])
  refine own_st (fun t k => XS.lloadN X3.here hx rfl (hb hby d3_23) rfl k) ?_
  show OG p e _ s below _ T3 (mkF m 24 #[.val (.ref a1), .val (.long (500 : Int64)), .second, .val (.int (2 : Int32))] [(.long (500 : Int64))])
  refine own_st (fun t k => X3.ldc2Long hx hown (mvT hZ (hw _ (List.mem_of_getElem? (i := 23) rfl))) (g := (mkF m 24 #[.val (.ref a1), .val (.long (500 : Int64)), .second, .val (.int (2 : Int32))] [(.long (500 : Int64))])) rfl (hb hby d3_24) _ k) ?_
  show OG p e _ s below _ T3 (mkF m 27 #[.val (.ref a1), .val (.long (500 : Int64)), .second, .val (.int (2 : Int32))] [(.long (10000 : Int64)), (.long (500 : Int64))])
  refine own_st (fun t k => XS.lcmp X3.here hx rfl (hb hby d3_27) rfl k) ?_
  show OG p e _ s below _ T3 (mkF m 28 #[.val (.ref a1), .val (.long (500 : Int64)), .second, .val (.int (2 : Int32))] [(.int (lcmpW (500 : Int64) (10000 : Int64)))])
  refine own_st (fun t k => XS.ifNo X3.here hx rfl (hb hby d3_28) rfl (by decide) k) ?_
  show OG p e _ s below _ T3 (mkF m 31 #[.val (.ref a1), .val (.long (500 : Int64)), .second, .val (.int (2 : Int32))] [])
  refine own_st (fun t k => XS.lloadN X3.here hx rfl (hb hby d3_31) rfl k) ?_
  show OG p e _ s below _ T3 (mkF m 32 #[.val (.ref a1), .val (.long (500 : Int64)), .second, .val (.int (2 : Int32))] [(.long (500 : Int64))])
  refine own_st (fun t k => X3.ldc2Long hx hown (mvT hZ (hw _ (List.mem_of_getElem? (i := 35) rfl))) (g := (mkF m 32 #[.val (.ref a1), .val (.long (500 : Int64)), .second, .val (.int (2 : Int32))] [(.long (500 : Int64))])) rfl (hb hby d3_32) _ k) ?_
  show OG p e _ s below _ T3 (mkF m 35 #[.val (.ref a1), .val (.long (500 : Int64)), .second, .val (.int (2 : Int32))] [(.long (2 : Int64)), (.long (500 : Int64))])
  refine own_st (fun t k => XS.lmul X3.here hx rfl (hb hby d3_35) rfl k) ?_
  show OG p e _ s below _ T3 (mkF m 36 #[.val (.ref a1), .val (.long (500 : Int64)), .second, .val (.int (2 : Int32))] [(.long (1000 : Int64))])
  refine own_st (fun t k => XS.lstoreN X3.here hx rfl (hb hby d3_36) rfl (l' := #[.val (.ref a1), .val (.long (1000 : Int64)), .second, .val (.int (2 : Int32))]) rfl k) ?_
  show OG p e _ s below _ T3 (mkF m 37 #[.val (.ref a1), .val (.long (1000 : Int64)), .second, .val (.int (2 : Int32))] [])
  refine own_st (fun t k => XS.iinc X3.here hx rfl (hb hby d3_37) rfl (l' := #[.val (.ref a1), .val (.long (1000 : Int64)), .second, .val (.int ((2 : Int32) + (1 : Int32)))]) rfl k) ?_
  show OG p e _ s below _ T3 (mkF m 40 #[.val (.ref a1), .val (.long (1000 : Int64)), .second, .val (.int (3 : Int32))] [])
  refine own_st (fun t k => XS.goto X3.here hx rfl (pc0 := 40) (pc' := 15) rfl (hb hby d3_40) (by decide) (by decide) k) ?_
  show OG p e _ s below _ T3 (mkF m 15 #[.val (.ref a1), .val (.long (1000 : Int64)), .second, .val (.int (3 : Int32))] [])
  refine own_st (fun t k => XS.iloadN X3.here hx rfl (hb hby d3_15) rfl k) ?_
  show OG p e _ s below _ T3 (mkF m 16 #[.val (.ref a1), .val (.long (1000 : Int64)), .second, .val (.int (3 : Int32))] [(.int (3 : Int32))])
  refine own_st (fun t k => XS.aloadN X3.here hx rfl (hb hby d3_16) rfl rfl k) ?_
  show OG p e _ s below _ T3 (mkF m 17 #[.val (.ref a1), .val (.long (1000 : Int64)), .second, .val (.int (3 : Int32))] [(.ref a1), (.int (3 : Int32))])
  obtain ⟨T4, X4, e4, st4⟩ := getF X3 hx hZ hown (host := "") (Or.inl (hw _ (List.mem_of_getElem? (i := 14) rfl))) Via.refl e3 R0 (g := (mkF m 17 #[.val (.ref a1), .val (.long (1000 : Int64)), .second, .val (.int (3 : Int32))] [(.ref a1), (.int (3 : Int32))])) rfl rfl (hb hby d3_17)
  refine own_st st4 ?_
  show OG p e _ s below _ T4 (mkF m 20 #[.val (.ref a1), .val (.long (1000 : Int64)), .second, .val (.int (3 : Int32))] [(.int (5 : Int32)), (.int (3 : Int32))])
  refine own_st (fun t k => XS.icmpNo X4.here hx rfl (hb hby d3_20) rfl (by decide) k) ?_
  show OG p e _ s below _ T4 (mkF m 23 #[.val (.ref a1), .val (.long (1000 : Int64)), .second, .val (.int (3 : Int32))] [])
  refine own_st (fun t k => XS.lloadN X4.here hx rfl (hb hby d3_23) rfl k) ?_
  show OG p e _ s below _ T4 (mkF m 24 #[.val (.ref a1), .val (.long (1000 : Int64)), .second, .val (.int (3 : Int32))] [(.long (1000 : Int64))])
  refine own_st (fun t k => X4.ldc2Long hx hown (mvT hZ (hw _ (List.mem_of_getElem? (i := 23) rfl))) (g := (mkF m 24 #[.val (.ref a1), .val (.long (1000 : Int64)), .second, .val (.int (3 : Int32))] [(.long (1000 : Int64))])) rfl (hb hby d3_24) _ k) ?_
  show OG p e _ s below _ T4 (mkF m 27 #[.val (.ref a1), .val (.long (1000 : Int64)), .second, .val (.int (3 : Int32))] [(.long (10000 : Int64)), (.long (1000 : Int64))])
  refine own_st (fun t k => XS.lcmp X4.here hx rfl (hb hby d3_27) rfl k) ?_
  show OG p e _ s below _ T4 (mkF m 28 #[.val (.ref a1), .val (.long (1000 : Int64)), .second, .val (.int (3 : Int32))] [(.int (lcmpW (1000 : Int64) (10000 : Int64)))])
  refine own_st (fun t k => XS.ifNo X4.here hx rfl (hb hby d3_28) rfl (by decide) k) ?_
  show OG p e _ s below _ T4 (mkF m 31 #[.val (.ref a1), .val (.long (1000 : Int64)), .second, .val (.int (3 : Int32))] [])
  refine own_st (fun t k => XS.lloadN X4.here hx rfl (hb hby d3_31) rfl k) ?_
  show OG p e _ s below _ T4 (mkF m 32 #[.val (.ref a1), .val (.long (1000 : Int64)), .second, .val (.int (3 : Int32))] [(.long (1000 : Int64))])
  refine own_st (fun t k => X4.ldc2Long hx hown (mvT hZ (hw _ (List.mem_of_getElem? (i := 35) rfl))) (g := (mkF m 32 #[.val (.ref a1), .val (.long (1000 : Int64)), .second, .val (.int (3 : Int32))] [(.long (1000 : Int64))])) rfl (hb hby d3_32) _ k) ?_
  show OG p e _ s below _ T4 (mkF m 35 #[.val (.ref a1), .val (.long (1000 : Int64)), .second, .val (.int (3 : Int32))] [(.long (2 : Int64)), (.long (1000 : Int64))])
  refine own_st (fun t k => XS.lmul X4.here hx rfl (hb hby d3_35) rfl k) ?_
  show OG p e _ s below _ T4 (mkF m 36 #[.val (.ref a1), .val (.long (1000 : Int64)), .second, .val (.int (3 : Int32))] [(.long (2000 : Int64))])
  refine own_st (fun t k => XS.lstoreN X4.here hx rfl (hb hby d3_36) rfl (l' := #[.val (.ref a1), .val (.long (2000 : Int64)), .second, .val (.int (3 : Int32))]) rfl k) ?_
  show OG p e _ s below _ T4 (mkF m 37 #[.val (.ref a1), .val (.long (2000 : Int64)), .second, .val (.int (3 : Int32))] [])
  refine own_st (fun t k => XS.iinc X4.here hx rfl (hb hby d3_37) rfl (l' := #[.val (.ref a1), .val (.long (2000 : Int64)), .second, .val (.int ((3 : Int32) + (1 : Int32)))]) rfl k) ?_
  show OG p e _ s below _ T4 (mkF m 40 #[.val (.ref a1), .val (.long (2000 : Int64)), .second, .val (.int (4 : Int32))] [])
  refine own_st (fun t k => XS.goto X4.here hx rfl (pc0 := 40) (pc' := 15) rfl (hb hby d3_40) (by decide) (by decide) k) ?_
  show OG p e _ s below _ T4 (mkF m 15 #[.val (.ref a1), .val (.long (2000 : Int64)), .second, .val (.int (4 : Int32))] [])
  refine own_st (fun t k => XS.iloadN X4.here hx rfl (hb hby d3_15) rfl k) ?_
  show OG p e _ s below _ T4 (mkF m 16 #[.val (.ref a1), .val (.long (2000 : Int64)), .second, .val (.int (4 : Int32))] [(.int (4 : Int32))])
  refine own_st (fun t k => XS.aloadN X4.here hx rfl (hb hby d3_16) rfl rfl k) ?_
  show OG p e _ s below _ T4 (mkF m 17 #[.val (.ref a1), .val (.long (2000 : Int64)), .second, .val (.int (4 : Int32))] [(.ref a1), (.int (4 : Int32))])
  obtain ⟨T5, X5, e5, st5⟩ := getF X4 hx hZ hown (host := "") (Or.inl (hw _ (List.mem_of_getElem? (i := 14) rfl))) Via.refl e4 R0 (g := (mkF m 17 #[.val (.ref a1), .val (.long (2000 : Int64)), .second, .val (.int (4 : Int32))] [(.ref a1), (.int (4 : Int32))])) rfl rfl (hb hby d3_17)
  refine own_st st5 ?_
  show OG p e _ s below _ T5 (mkF m 20 #[.val (.ref a1), .val (.long (2000 : Int64)), .second, .val (.int (4 : Int32))] [(.int (5 : Int32)), (.int (4 : Int32))])
  refine own_st (fun t k => XS.icmpNo X5.here hx rfl (hb hby d3_20) rfl (by decide) k) ?_
  show OG p e _ s below _ T5 (mkF m 23 #[.val (.ref a1), .val (.long (2000 : Int64)), .second, .val (.int (4 : Int32))] [])
  refine own_st (fun t k => XS.lloadN X5.here hx rfl (hb hby d3_23) rfl k) ?_
  show OG p e _ s below _ T5 (mkF m 24 #[.val (.ref a1), .val (.long (2000 : Int64)), .second, .val (.int (4 : Int32))] [(.long (2000 : Int64))])
  refine own_st (fun t k => X5.ldc2Long hx hown (mvT hZ (hw _ (List.mem_of_getElem? (i := 23) rfl))) (g := (mkF m 24 #[.val (.ref a1), .val (.long (2000 : Int64)), .second, .val (.int (4 : Int32))] [(.long (2000 : Int64))])) rfl (hb hby d3_24) _ k) ?_
  show OG p e _ s below _ T5 (mkF m 27 #[.val (.ref a1), .val (.long (2000 : Int64)), .second, .val (.int (4 : Int32))] [(.long (10000 : Int64)), (.long (2000 : Int64))])
  refine own_st (fun t k => XS.lcmp X5.here hx rfl (hb hby d3_27) rfl k) ?_
  show OG p e _ s below _ T5 (mkF m 28 #[.val (.ref a1), .val (.long (2000 : Int64)), .second, .val (.int (4 : Int32))] [(.int (lcmpW (2000 : Int64) (10000 : Int64)))])
  refine own_st (fun t k => XS.ifNo X5.here hx rfl (hb hby d3_28) rfl (by decide) k) ?_
  show OG p e _ s below _ T5 (mkF m 31 #[.val (.ref a1), .val (.long (2000 : Int64)), .second, .val (.int (4 : Int32))] [])
  refine own_st (fun t k => XS.lloadN X5.here hx rfl (hb hby d3_31) rfl k) ?_
  show OG p e _ s below _ T5 (mkF m 32 #[.val (.ref a1), .val (.long (2000 : Int64)), .second, .val (.int (4 : Int32))] [(.long (2000 : Int64))])
  refine own_st (fun t k => X5.ldc2Long hx hown (mvT hZ (hw _ (List.mem_of_getElem? (i := 35) rfl))) (g := (mkF m 32 #[.val (.ref a1), .val (.long (2000 : Int64)), .second, .val (.int (4 : Int32))] [(.long (2000 : Int64))])) rfl (hb hby d3_32) _ k) ?_
  show OG p e _ s below _ T5 (mkF m 35 #[.val (.ref a1), .val (.long (2000 : Int64)), .second, .val (.int (4 : Int32))] [(.long (2 : Int64)), (.long (2000 : Int64))])
  refine own_st (fun t k => XS.lmul X5.here hx rfl (hb hby d3_35) rfl k) ?_
  show OG p e _ s below _ T5 (mkF m 36 #[.val (.ref a1), .val (.long (2000 : Int64)), .second, .val (.int (4 : Int32))] [(.long (4000 : Int64))])
  refine own_st (fun t k => XS.lstoreN X5.here hx rfl (hb hby d3_36) rfl (l' := #[.val (.ref a1), .val (.long (4000 : Int64)), .second, .val (.int (4 : Int32))]) rfl k) ?_
  show OG p e _ s below _ T5 (mkF m 37 #[.val (.ref a1), .val (.long (4000 : Int64)), .second, .val (.int (4 : Int32))] [])
  refine own_st (fun t k => XS.iinc X5.here hx rfl (hb hby d3_37) rfl (l' := #[.val (.ref a1), .val (.long (4000 : Int64)), .second, .val (.int ((4 : Int32) + (1 : Int32)))]) rfl k) ?_
  show OG p e _ s below _ T5 (mkF m 40 #[.val (.ref a1), .val (.long (4000 : Int64)), .second, .val (.int (5 : Int32))] [])
  refine own_st (fun t k => XS.goto X5.here hx rfl (pc0 := 40) (pc' := 15) rfl (hb hby d3_40) (by decide) (by decide) k) ?_
  show OG p e _ s below _ T5 (mkF m 15 #[.val (.ref a1), .val (.long (4000 : Int64)), .second, .val (.int (5 : Int32))] [])
  refine own_st (fun t k => XS.iloadN X5.here hx rfl (hb hby d3_15) rfl k) ?_
  show OG p e _ s below _ T5 (mkF m 16 #[.val (.ref a1), .val (.long (4000 : Int64)), .second, .val (.int (5 : Int32))] [(.int (5 : Int32))])
  refine own_st (fun t k => XS.aloadN X5.here hx rfl (hb hby d3_16) rfl rfl k) ?_
  show OG p e _ s below _ T5 (mkF m 17 #[.val (.ref a1), .val (.long (4000 : Int64)), .second, .val (.int (5 : Int32))] [(.ref a1), (.int (5 : Int32))])
  obtain ⟨T6, X6, e6, st6⟩ := getF X5 hx hZ hown (host := "") (Or.inl (hw _ (List.mem_of_getElem? (i := 14) rfl))) Via.refl e5 R0 (g := (mkF m 17 #[.val (.ref a1), .val (.long (4000 : Int64)), .second, .val (.int (5 : Int32))] [(.ref a1), (.int (5 : Int32))])) rfl rfl (hb hby d3_17)
  refine own_st st6 ?_
  show OG p e _ s below _ T6 (mkF m 20 #[.val (.ref a1), .val (.long (4000 : Int64)), .second, .val (.int (5 : Int32))] [(.int (5 : Int32)), (.int (5 : Int32))])
  refine own_st (fun t k => XS.icmpYes X6.here hx rfl (pc0 := 20) (pc' := 43) rfl (hb hby d3_20) rfl (by decide) (by decide) (by decide) k) ?_
  show OG p e _ s below _ T6 (mkF m 43 #[.val (.ref a1), .val (.long (4000 : Int64)), .second, .val (.int (5 : Int32))] [])
  refine own_st (fun t k => XS.lloadN X6.here hx rfl (hb hby d3_43) rfl k) ?_
  show OG p e _ s below _ T6 (mkF m 44 #[.val (.ref a1), .val (.long (4000 : Int64)), .second, .val (.int (5 : Int32))] [(.long (4000 : Int64))])
  refine own_st (fun t k => X6.ldc2Long hx hown (mvT hZ (hw _ (List.mem_of_getElem? (i := 23) rfl))) (g := (mkF m 44 #[.val (.ref a1), .val (.long (4000 : Int64)), .second, .val (.int (5 : Int32))] [(.long (4000 : Int64))])) rfl (hb hby d3_44) _ k) ?_
  show OG p e _ s below _ T6 (mkF m 47 #[.val (.ref a1), .val (.long (4000 : Int64)), .second, .val (.int (5 : Int32))] [(.long (10000 : Int64)), (.long (4000 : Int64))])
  obtain ⟨_, _, ⟨T7, L7, k7, n7⟩, -, X7, ⟨Lc7, hQ7, l7, y7, z7⟩, st7⟩ := Jvm.LawKit.callS X6 hx (y := (⟨"java/lang/Math", "min", "(JJ)J"⟩ : MethodName)) hown (mvT hZ (hw _ (List.mem_of_getElem? (i := 24) rfl))) (mvT hZ (hw _ (List.mem_of_getElem? (i := 25) rfl))) (mvT hZ (hw _ (List.mem_of_getElem? (i := 26) rfl))) (mvT hZ (hw _ (List.mem_of_getElem? (i := 27) rfl))) (by decide) (backOf (W := 0) (rm := ({ frames := 0, cells := 0, slots := 0, locals := 0 } : Room)) (rm5 l Z a0 hw [] (4000 : Int64) (10000 : Int64) h0) hZ (hw _ (List.mem_of_getElem? (i := 27) rfl)) (hw _ (List.mem_of_getElem? (i := 26) rfl)) (by decide) (by decide)) (g := (mkF m 47 #[.val (.ref a1), .val (.long (4000 : Int64)), .second, .val (.int (5 : Int32))] [(.long (10000 : Int64)), (.long (4000 : Int64))])) rfl (by rw [hml]; rfl) (argsL := [(.long (4000 : Int64)), (.long (10000 : Int64))]) (rest := []) (lenOf pd__JJ_J rfl) rfl (by show 2 * 0 + _ ≤ _; exact Nat.le_of_eq rfl) (hb hby d3_47) (fun _ _ => ⟨rfl, e6, (by decide : 0 + 0 ≤ _), (by decide : 0 + 0 ≤ _)⟩)
  dsimp only [Pt.U, Pt.locs, Pt.cells, Pt.slots] at X7 l7 y7 z7 st7 hQ7
  subst l7 y7 z7
  obtain ⟨rfl, rfl, e7⟩ := hQ7
  refine own_st st7 ?_
  show OG p e _ s below _ T7 (mkF m 50 #[.val (.ref a1), .val (.long (4000 : Int64)), .second, .val (.int (5 : Int32))] [(.long (f5 (4000 : Int64) (10000 : Int64)))])
  exact own_retL X7 hx hret hlk (hb hby d3_50) (by decide) (by decide) ⟨congrArg (fun z => some (Value.long z)) (show f3_5  = (f5 (4000 : Int64) (10000 : Int64)) from (by rw [f3_5])).symm, rfl, e7⟩
def f3_6  : Int64 := (f5 (8000 : Int64) (10000 : Int64))
abbrev Q3_6 (Z : State) (a1 : Addr) (h0 : Heap)  : Option Value → Heap → List Loc → Prop := (fun v h L => v = some (.long f3_6) ∧ L = [] ∧ h = h0)
set_option maxRecDepth 65536 in
set_option maxHeartbeats 40000000 in
theorem rm3_6 (l : Launch) (Z : State) (a0 : Array Value) (hw : ∀ d ∈ tables_1, d.before a0 Z = true) (ws : List Jvm.Cond) (a1 : Addr) (h0 : Heap) (R0 : Fld Z h0 a1 "com/example/tidewire/tidewire/internal/Backoff" "attempts" "I" (.int (6 : Int32))) :
    OMet l Z (⟨"com/example/tidewire/tidewire/internal/Backoff", "delayMs", "()J"⟩ : MethodName) prog_2_method_2_code 4 (some .long) ws ({ frames := 1, cells := 0, slots := 0, locals := 15 } : Room) #[(.ref a1)] h0 (Q3_6 Z a1 h0) := by
  refine own_enter pn_3 ?_
  intro p e s m below meth c s₁ hx hby hml0 hown hret hlk hnm hZ X0 e0
  have hml : c.maxLocals = 4 := hml0
  refine own_cast (ef_3 m a1) ?_
  show OG p e ({ frames := 1, cells := 0, slots := 0, locals := 15 } : Room) s below (fun v h L => v = some (.long f3_6) ∧ L = [] ∧ h = h0) s₁ (mkF m 0 #[.val (.ref a1), .unset, .unset, .unset] [])
  refine own_st (fun t k => XS.aloadN X0.here hx rfl (hb hby d3_0) rfl rfl k) ?_
  show OG p e _ s below _ s₁ (mkF m 1 #[.val (.ref a1), .unset, .unset, .unset] [(.ref a1)])
  obtain ⟨T1, X1, e1, st1⟩ := getF X0 hx hZ hown (host := "") (Or.inl (hw _ (List.mem_of_getElem? (i := 14) rfl))) Via.refl e0 R0 (g := (mkF m 1 #[.val (.ref a1), .unset, .unset, .unset] [(.ref a1)])) rfl rfl (hb hby d3_1)
  refine own_st st1 ?_
  show OG p e _ s below _ T1 (mkF m 4 #[.val (.ref a1), .unset, .unset, .unset] [(.int (6 : Int32))])
  refine own_st (fun t k => XS.ifYes X1.here hx rfl (pc0 := 4) (pc' := 9) rfl (hb hby d3_4) rfl (by decide) (by decide) (by decide) k) ?_
  show OG p e _ s below _ T1 (mkF m 9 #[.val (.ref a1), .unset, .unset, .unset] [])
  refine own_st (fun t k => X1.ldc2Long hx hown (mvT hZ (hw _ (List.mem_of_getElem? (i := 22) rfl))) (g := (mkF m 9 #[.val (.ref a1), .unset, .unset, .unset] [])) rfl (hb hby d3_9) _ k) ?_
  show OG p e _ s below _ T1 (mkF m 12 #[.val (.ref a1), .unset, .unset, .unset] [(.long (250 : Int64))])
  refine own_st (fun t k => XS.lstoreN X1.here hx rfl (hb hby d3_12) rfl (l' := #[.val (.ref a1), .val (.long (250 : Int64)), .second, .unset]) rfl k) ?_
  show OG p e _ s below _ T1 (mkF m 13 #[.val (.ref a1), .val (.long (250 : Int64)), .second, .unset] [])
  refine own_st (fun t k => XS.iconst X1.here hx rfl (hb hby d3_13) k) ?_
  show OG p e _ s below _ T1 (mkF m 14 #[.val (.ref a1), .val (.long (250 : Int64)), .second, .unset] [(.int (1 : Int32))])
  refine own_st (fun t k => XS.istoreN X1.here hx rfl (hb hby d3_14) rfl (l' := #[.val (.ref a1), .val (.long (250 : Int64)), .second, .val (.int (1 : Int32))]) rfl k) ?_
  show OG p e _ s below _ T1 (mkF m 15 #[.val (.ref a1), .val (.long (250 : Int64)), .second, .val (.int (1 : Int32))] [])
  refine own_st (fun t k => XS.iloadN X1.here hx rfl (hb hby d3_15) rfl k) ?_
  show OG p e _ s below _ T1 (mkF m 16 #[.val (.ref a1), .val (.long (250 : Int64)), .second, .val (.int (1 : Int32))] [(.int (1 : Int32))])
  refine own_st (fun t k => XS.aloadN X1.here hx rfl (hb hby d3_16) rfl rfl k) ?_
  show OG p e _ s below _ T1 (mkF m 17 #[.val (.ref a1), .val (.long (250 : Int64)), .second, .val (.int (1 : Int32))] [(.ref a1), (.int (1 : Int32))])
  obtain ⟨T2, X2, e2, st2⟩ := getF X1 hx hZ hown (host := "") (Or.inl (hw _ (List.mem_of_getElem? (i := 14) rfl))) Via.refl e1 R0 (g := (mkF m 17 #[.val (.ref a1), .val (.long (250 : Int64)), .second, .val (.int (1 : Int32))] [(.ref a1), (.int (1 : Int32))])) rfl rfl (hb hby d3_17)
  refine own_st st2 ?_
  show OG p e _ s below _ T2 (mkF m 20 #[.val (.ref a1), .val (.long (250 : Int64)), .second, .val (.int (1 : Int32))] [(.int (6 : Int32)), (.int (1 : Int32))])
  refine own_st (fun t k => XS.icmpNo X2.here hx rfl (hb hby d3_20) rfl (by decide) k) ?_
  show OG p e _ s below _ T2 (mkF m 23 #[.val (.ref a1), .val (.long (250 : Int64)), .second, .val (.int (1 : Int32))] [])
  refine own_st (fun t k => XS.lloadN X2.here hx rfl (hb hby d3_23) rfl k) ?_
  show OG p e _ s below _ T2 (mkF m 24 #[.val (.ref a1), .val (.long (250 : Int64)), .second, .val (.int (1 : Int32))] [(.long (250 : Int64))])
  refine own_st (fun t k => X2.ldc2Long hx hown (mvT hZ (hw _ (List.mem_of_getElem? (i := 23) rfl))) (g := (mkF m 24 #[.val (.ref a1), .val (.long (250 : Int64)), .second, .val (.int (1 : Int32))] [(.long (250 : Int64))])) rfl (hb hby d3_24) _ k) ?_
  show OG p e _ s below _ T2 (mkF m 27 #[.val (.ref a1), .val (.long (250 : Int64)), .second, .val (.int (1 : Int32))] [(.long (10000 : Int64)), (.long (250 : Int64))])
  refine own_st (fun t k => XS.lcmp X2.here hx rfl (hb hby d3_27) rfl k) ?_
  show OG p e _ s below _ T2 (mkF m 28 #[.val (.ref a1), .val (.long (250 : Int64)), .second, .val (.int (1 : Int32))] [(.int (lcmpW (250 : Int64) (10000 : Int64)))])
  refine own_st (fun t k => XS.ifNo X2.here hx rfl (hb hby d3_28) rfl (by decide) k) ?_
  show OG p e _ s below _ T2 (mkF m 31 #[.val (.ref a1), .val (.long (250 : Int64)), .second, .val (.int (1 : Int32))] [])
  refine own_st (fun t k => XS.lloadN X2.here hx rfl (hb hby d3_31) rfl k) ?_
  show OG p e _ s below _ T2 (mkF m 32 #[.val (.ref a1), .val (.long (250 : Int64)), .second, .val (.int (1 : Int32))] [(.long (250 : Int64))])
  refine own_st (fun t k => X2.ldc2Long hx hown (mvT hZ (hw _ (List.mem_of_getElem? (i := 35) rfl))) (g := (mkF m 32 #[.val (.ref a1), .val (.long (250 : Int64)), .second, .val (.int (1 : Int32))] [(.long (250 : Int64))])) rfl (hb hby d3_32) _ k) ?_
  show OG p e _ s below _ T2 (mkF m 35 #[.val (.ref a1), .val (.long (250 : Int64)), .second, .val (.int (1 : Int32))] [(.long (2 : Int64)), (.long (250 : Int64))])
  refine own_st (fun t k => XS.lmul X2.here hx rfl (hb hby d3_35) rfl k) ?_
  show OG p e _ s below _ T2 (mkF m 36 #[.val (.ref a1), .val (.long (250 : Int64)), .second, .val (.int (1 : Int32))] [(.long (500 : Int64))])
  refine own_st (fun t k => XS.lstoreN X2.here hx rfl (hb hby d3_36) rfl (l' := #[.val (.ref a1), .val (.long (500 : Int64)), .second, .val (.int (1 : Int32))]) rfl k) ?_
  show OG p e _ s below _ T2 (mkF m 37 #[.val (.ref a1), .val (.long (500 : Int64)), .second, .val (.int (1 : Int32))] [])
  refine own_st (fun t k => XS.iinc X2.here hx rfl (hb hby d3_37) rfl (l' := #[.val (.ref a1), .val (.long (500 : Int64)), .second, .val (.int ((1 : Int32) + (1 : Int32)))]) rfl k) ?_
  show OG p e _ s below _ T2 (mkF m 40 #[.val (.ref a1), .val (.long (500 : Int64)), .second, .val (.int (2 : Int32))] [])
  refine own_st (fun t k => XS.goto X2.here hx rfl (pc0 := 40) (pc' := 15) rfl (hb hby d3_40) (by decide) (by decide) k) ?_
  show OG p e _ s below _ T2 (mkF m 15 #[.val (.ref a1), .val (.long (500 : Int64)), .second, .val (.int (2 : Int32))] [])
  refine own_st (fun t k => XS.iloadN X2.here hx rfl (hb hby d3_15) rfl k) ?_
  show OG p e _ s below _ T2 (mkF m 16 #[.val (.ref a1), .val (.long (500 : Int64)), .second, .val (.int (2 : Int32))] [(.int (2 : Int32))])
  refine own_st (fun t k => XS.aloadN X2.here hx rfl (hb hby d3_16) rfl rfl k) ?_
  show OG p e _ s below _ T2 (mkF m 17 #[.val (.ref a1), .val (.long (500 : Int64)), .second, .val (.int (2 : Int32))] [(.ref a1), (.int (2 : Int32))])
  obtain ⟨T3, X3, e3, st3⟩ := getF X2 hx hZ hown (host := "") (Or.inl (hw _ (List.mem_of_getElem? (i := 14) rfl))) Via.refl e2 R0 (g := (mkF m 17 #[.val (.ref a1), .val (.long (500 : Int64)), .second, .val (.int (2 : Int32))] [(.ref a1), (.int (2 : Int32))])) rfl rfl (hb hby d3_17)
  refine own_st st3 ?_
  show OG p e _ s below _ T3 (mkF m 20 #[.val (.ref a1), .val (.long (500 : Int64)), .second, .val (.int (2 : Int32))] [(.int (6 : Int32)), (.int (2 : Int32))])
  refine own_st (fun t k => XS.icmpNo X3.here hx rfl (hb hby d3_20) rfl (by decide) k) ?_
  show OG p e _ s below _ T3 (mkF m 23 #[.val (.ref a1), .val (.long (500 : Int64)), .second, .val (.int (2 : Int32))] [])
  refine own_st (fun t k => XS.lloadN X3.here hx rfl (hb hby d3_23) rfl k) ?_
  show OG p e _ s below _ T3 (mkF m 24 #[.val (.ref a1), .val (.long (500 : Int64)), .second, .val (.int (2 : Int32))] [(.long (500 : Int64))])
  refine own_st (fun t k => X3.ldc2Long hx hown (mvT hZ (hw _ (List.mem_of_getElem? (i := 23) rfl))) (g := (mkF m 24 #[.val (.ref a1), .val (.long (500 : Int64)), .second, .val (.int (2 : Int32))] [(.long (500 : Int64))])) rfl (hb hby d3_24) _ k) ?_
  show OG p e _ s below _ T3 (mkF m 27 #[.val (.ref a1), .val (.long (500 : Int64)), .second, .val (.int (2 : Int32))] [(.long (10000 : Int64)), (.long (500 : Int64))])
  refine own_st (fun t k => XS.lcmp X3.here hx rfl (hb hby d3_27) rfl k) ?_
  show OG p e _ s below _ T3 (mkF m 28 #[.val (.ref a1), .val (.long (500 : Int64)), .second, .val (.int (2 : Int32))] [(.int (lcmpW (500 : Int64) (10000 : Int64)))])
  refine own_st (fun t k => XS.ifNo X3.here hx rfl (hb hby d3_28) rfl (by decide) k) ?_
  show OG p e _ s below _ T3 (mkF m 31 #[.val (.ref a1), .val (.long (500 : Int64)), .second, .val (.int (2 : Int32))] [])
  refine own_st (fun t k => XS.lloadN X3.here hx rfl (hb hby d3_31) rfl k) ?_
  show OG p e _ s below _ T3 (mkF m 32 #[.val (.ref a1), .val (.long (500 : Int64)), .second, .val (.int (2 : Int32))] [(.long (500 : Int64))])
  refine own_st (fun t k => X3.ldc2Long hx hown (mvT hZ (hw _ (List.mem_of_getElem? (i := 35) rfl))) (g := (mkF m 32 #[.val (.ref a1), .val (.long (500 : Int64)), .second, .val (.int (2 : Int32))] [(.long (500 : Int64))])) rfl (hb hby d3_32) _ k) ?_
  show OG p e _ s below _ T3 (mkF m 35 #[.val (.ref a1), .val (.long (500 : Int64)), .second, .val (.int (2 : Int32))] [(.long (2 : Int64)), (.long (500 : Int64))])
  refine own_st (fun t k => XS.lmul X3.here hx rfl (hb hby d3_35) rfl k) ?_
  show OG p e _ s below _ T3 (mkF m 36 #[.val (.ref a1), .val (.long (500 : Int64)), .second, .val (.int (2 : Int32))] [(.long (1000 : Int64))])
  refine own_st (fun t k => XS.lstoreN X3.here hx rfl (hb hby d3_36) rfl (l' := #[.val (.ref a1), .val (.long (1000 : Int64)), .second, .val (.int (2 : Int32))]) rfl k) ?_
  show OG p e _ s below _ T3 (mkF m 37 #[.val (.ref a1), .val (.long (1000 : Int64)), .second, .val (.int (2 : Int32))] [])
  refine own_st (fun t k => XS.iinc X3.here hx rfl (hb hby d3_37) rfl (l' := #[.val (.ref a1), .val (.long (1000 : Int64)), .second, .val (.int ((2 : Int32) + (1 : Int32)))]) rfl k) ?_
  show OG p e _ s below _ T3 (mkF m 40 #[.val (.ref a1), .val (.long (1000 : Int64)), .second, .val (.int (3 : Int32))] [])
  refine own_st (fun t k => XS.goto X3.here hx rfl (pc0 := 40) (pc' := 15) rfl (hb hby d3_40) (by decide) (by decide) k) ?_
  show OG p e _ s below _ T3 (mkF m 15 #[.val (.ref a1), .val (.long (1000 : Int64)), .second, .val (.int (3 : Int32))] [])
  refine own_st (fun t k => XS.iloadN X3.here hx rfl (hb hby d3_15) rfl k) ?_
  show OG p e _ s below _ T3 (mkF m 16 #[.val (.ref a1), .val (.long (1000 : Int64)), .second, .val (.int (3 : Int32))] [(.int (3 : Int32))])
  refine own_st (fun t k => XS.aloadN X3.here hx rfl (hb hby d3_16) rfl rfl k) ?_
  show OG p e _ s below _ T3 (mkF m 17 #[.val (.ref a1), .val (.long (1000 : Int64)), .second, .val (.int (3 : Int32))] [(.ref a1), (.int (3 : Int32))])
  obtain ⟨T4, X4, e4, st4⟩ := getF X3 hx hZ hown (host := "") (Or.inl (hw _ (List.mem_of_getElem? (i := 14) rfl))) Via.refl e3 R0 (g := (mkF m 17 #[.val (.ref a1), .val (.long (1000 : Int64)), .second, .val (.int (3 : Int32))] [(.ref a1), (.int (3 : Int32))])) rfl rfl (hb hby d3_17)
  refine own_st st4 ?_
  show OG p e _ s below _ T4 (mkF m 20 #[.val (.ref a1), .val (.long (1000 : Int64)), .second, .val (.int (3 : Int32))] [(.int (6 : Int32)), (.int (3 : Int32))])
  refine own_st (fun t k => XS.icmpNo X4.here hx rfl (hb hby d3_20) rfl (by decide) k) ?_
  show OG p e _ s below _ T4 (mkF m 23 #[.val (.ref a1), .val (.long (1000 : Int64)), .second, .val (.int (3 : Int32))] [])
  refine own_st (fun t k => XS.lloadN X4.here hx rfl (hb hby d3_23) rfl k) ?_
  show OG p e _ s below _ T4 (mkF m 24 #[.val (.ref a1), .val (.long (1000 : Int64)), .second, .val (.int (3 : Int32))] [(.long (1000 : Int64))])
  refine own_st (fun t k => X4.ldc2Long hx hown (mvT hZ (hw _ (List.mem_of_getElem? (i := 23) rfl))) (g := (mkF m 24 #[.val (.ref a1), .val (.long (1000 : Int64)), .second, .val (.int (3 : Int32))] [(.long (1000 : Int64))])) rfl (hb hby d3_24) _ k) ?_
  show OG p e _ s below _ T4 (mkF m 27 #[.val (.ref a1), .val (.long (1000 : Int64)), .second, .val (.int (3 : Int32))] [(.long (10000 : Int64)), (.long (1000 : Int64))])
  refine own_st (fun t k => XS.lcmp X4.here hx rfl (hb hby d3_27) rfl k) ?_
  show OG p e _ s below _ T4 (mkF m 28 #[.val (.ref a1), .val (.long (1000 : Int64)), .second, .val (.int (3 : Int32))] [(.int (lcmpW (1000 : Int64) (10000 : Int64)))])
  refine own_st (fun t k => XS.ifNo X4.here hx rfl (hb hby d3_28) rfl (by decide) k) ?_
  show OG p e _ s below _ T4 (mkF m 31 #[.val (.ref a1), .val (.long (1000 : Int64)), .second, .val (.int (3 : Int32))] [])
  refine own_st (fun t k => XS.lloadN X4.here hx rfl (hb hby d3_31) rfl k) ?_
  show OG p e _ s below _ T4 (mkF m 32 #[.val (.ref a1), .val (.long (1000 : Int64)), .second, .val (.int (3 : Int32))] [(.long (1000 : Int64))])
  refine own_st (fun t k => X4.ldc2Long hx hown (mvT hZ (hw _ (List.mem_of_getElem? (i := 35) rfl))) (g := (mkF m 32 #[.val (.ref a1), .val (.long (1000 : Int64)), .second, .val (.int (3 : Int32))] [(.long (1000 : Int64))])) rfl (hb hby d3_32) _ k) ?_
  show OG p e _ s below _ T4 (mkF m 35 #[.val (.ref a1), .val (.long (1000 : Int64)), .second, .val (.int (3 : Int32))] [(.long (2 : Int64)), (.long (1000 : Int64))])
  refine own_st (fun t k => XS.lmul X4.here hx rfl (hb hby d3_35) rfl k) ?_
  show OG p e _ s below _ T4 (mkF m 36 #[.val (.ref a1), .val (.long (1000 : Int64)), .second, .val (.int (3 : Int32))] [(.long (2000 : Int64))])
  refine own_st (fun t k => XS.lstoreN X4.here hx rfl (hb hby d3_36) rfl (l' := #[.val (.ref a1), .val (.long (2000 : Int64)), .second, .val (.int (3 : Int32))]) rfl k) ?_
  show OG p e _ s below _ T4 (mkF m 37 #[.val (.ref a1), .val (.long (2000 : Int64)), .second, .val (.int (3 : Int32))] [])
  refine own_st (fun t k => XS.iinc X4.here hx rfl (hb hby d3_37) rfl (l' := #[.val (.ref a1), .val (.long (2000 : Int64)), .second, .val (.int ((3 : Int32) + (1 : Int32)))]) rfl k) ?_
  show OG p e _ s below _ T4 (mkF m 40 #[.val (.ref a1), .val (.long (2000 : Int64)), .second, .val (.int (4 : Int32))] [])
  refine own_st (fun t k => XS.goto X4.here hx rfl (pc0 := 40) (pc' := 15) rfl (hb hby d3_40) (by decide) (by decide) k) ?_
  show OG p e _ s below _ T4 (mkF m 15 #[.val (.ref a1), .val (.long (2000 : Int64)), .second, .val (.int (4 : Int32))] [])
  refine own_st (fun t k => XS.iloadN X4.here hx rfl (hb hby d3_15) rfl k) ?_
  show OG p e _ s below _ T4 (mkF m 16 #[.val (.ref a1), .val (.long (2000 : Int64)), .second, .val (.int (4 : Int32))] [(.int (4 : Int32))])
  refine own_st (fun t k => XS.aloadN X4.here hx rfl (hb hby d3_16) rfl rfl k) ?_
  show OG p e _ s below _ T4 (mkF m 17 #[.val (.ref a1), .val (.long (2000 : Int64)), .second, .val (.int (4 : Int32))] [(.ref a1), (.int (4 : Int32))])
  obtain ⟨T5, X5, e5, st5⟩ := getF X4 hx hZ hown (host := "") (Or.inl (hw _ (List.mem_of_getElem? (i := 14) rfl))) Via.refl e4 R0 (g := (mkF m 17 #[.val (.ref a1), .val (.long (2000 : Int64)), .second, .val (.int (4 : Int32))] [(.ref a1), (.int (4 : Int32))])) rfl rfl (hb hby d3_17)
  refine own_st st5 ?_
  show OG p e _ s below _ T5 (mkF m 20 #[.val (.ref a1), .val (.long (2000 : Int64)), .second, .val (.int (4 : Int32))] [(.int (6 : Int32)), (.int (4 : Int32))])
  refine own_st (fun t k => XS.icmpNo X5.here hx rfl (hb hby d3_20) rfl (by decide) k) ?_
  show OG p e _ s below _ T5 (mkF m 23 #[.val (.ref a1), .val (.long (2000 : Int64)), .second, .val (.int (4 : Int32))] [])
  refine own_st (fun t k => XS.lloadN X5.here hx rfl (hb hby d3_23) rfl k) ?_
  show OG p e _ s below _ T5 (mkF m 24 #[.val (.ref a1), .val (.long (2000 : Int64)), .second, .val (.int (4 : Int32))] [(.long (2000 : Int64))])
  refine own_st (fun t k => X5.ldc2Long hx hown (mvT hZ (hw _ (List.mem_of_getElem? (i := 23) rfl))) (g := (mkF m 24 #[.val (.ref a1), .val (.long (2000 : Int64)), .second, .val (.int (4 : Int32))] [(.long (2000 : Int64))])) rfl (hb hby d3_24) _ k) ?_
  show OG p e _ s below _ T5 (mkF m 27 #[.val (.ref a1), .val (.long (2000 : Int64)), .second, .val (.int (4 : Int32))] [(.long (10000 : Int64)), (.long (2000 : Int64))])
  refine own_st (fun t k => XS.lcmp X5.here hx rfl (hb hby d3_27) rfl k) ?_
  show OG p e _ s below _ T5 (mkF m 28 #[.val (.ref a1), .val (.long (2000 : Int64)), .second, .val (.int (4 : Int32))] [(.int (lcmpW (2000 : Int64) (10000 : Int64)))])
  refine own_st (fun t k => XS.ifNo X5.here hx rfl (hb hby d3_28) rfl (by decide) k) ?_
  show OG p e _ s below _ T5 (mkF m 31 #[.val (.ref a1), .val (.long (2000 : Int64)), .second, .val (.int (4 : Int32))] [])
  refine own_st (fun t k => XS.lloadN X5.here hx rfl (hb hby d3_31) rfl k) ?_
  show OG p e _ s below _ T5 (mkF m 32 #[.val (.ref a1), .val (.long (2000 : Int64)), .second, .val (.int (4 : Int32))] [(.long (2000 : Int64))])
  refine own_st (fun t k => X5.ldc2Long hx hown (mvT hZ (hw _ (List.mem_of_getElem? (i := 35) rfl))) (g := (mkF m 32 #[.val (.ref a1), .val (.long (2000 : Int64)), .second, .val (.int (4 : Int32))] [(.long (2000 : Int64))])) rfl (hb hby d3_32) _ k) ?_
  show OG p e _ s below _ T5 (mkF m 35 #[.val (.ref a1), .val (.long (2000 : Int64)), .second, .val (.int (4 : Int32))] [(.long (2 : Int64)), (.long (2000 : Int64))])
  refine own_st (fun t k => XS.lmul X5.here hx rfl (hb hby d3_35) rfl k) ?_
  show OG p e _ s below _ T5 (mkF m 36 #[.val (.ref a1), .val (.long (2000 : Int64)), .second, .val (.int (4 : Int32))] [(.long (4000 : Int64))])
  refine own_st (fun t k => XS.lstoreN X5.here hx rfl (hb hby d3_36) rfl (l' := #[.val (.ref a1), .val (.long (4000 : Int64)), .second, .val (.int (4 : Int32))]) rfl k) ?_
  show OG p e _ s below _ T5 (mkF m 37 #[.val (.ref a1), .val (.long (4000 : Int64)), .second, .val (.int (4 : Int32))] [])
  refine own_st (fun t k => XS.iinc X5.here hx rfl (hb hby d3_37) rfl (l' := #[.val (.ref a1), .val (.long (4000 : Int64)), .second, .val (.int ((4 : Int32) + (1 : Int32)))]) rfl k) ?_
  show OG p e _ s below _ T5 (mkF m 40 #[.val (.ref a1), .val (.long (4000 : Int64)), .second, .val (.int (5 : Int32))] [])
  refine own_st (fun t k => XS.goto X5.here hx rfl (pc0 := 40) (pc' := 15) rfl (hb hby d3_40) (by decide) (by decide) k) ?_
  show OG p e _ s below _ T5 (mkF m 15 #[.val (.ref a1), .val (.long (4000 : Int64)), .second, .val (.int (5 : Int32))] [])
  refine own_st (fun t k => XS.iloadN X5.here hx rfl (hb hby d3_15) rfl k) ?_
  show OG p e _ s below _ T5 (mkF m 16 #[.val (.ref a1), .val (.long (4000 : Int64)), .second, .val (.int (5 : Int32))] [(.int (5 : Int32))])
  refine own_st (fun t k => XS.aloadN X5.here hx rfl (hb hby d3_16) rfl rfl k) ?_
  show OG p e _ s below _ T5 (mkF m 17 #[.val (.ref a1), .val (.long (4000 : Int64)), .second, .val (.int (5 : Int32))] [(.ref a1), (.int (5 : Int32))])
  obtain ⟨T6, X6, e6, st6⟩ := getF X5 hx hZ hown (host := "") (Or.inl (hw _ (List.mem_of_getElem? (i := 14) rfl))) Via.refl e5 R0 (g := (mkF m 17 #[.val (.ref a1), .val (.long (4000 : Int64)), .second, .val (.int (5 : Int32))] [(.ref a1), (.int (5 : Int32))])) rfl rfl (hb hby d3_17)
  refine own_st st6 ?_
  show OG p e _ s below _ T6 (mkF m 20 #[.val (.ref a1), .val (.long (4000 : Int64)), .second, .val (.int (5 : Int32))] [(.int (6 : Int32)), (.int (5 : Int32))])
  refine own_st (fun t k => XS.icmpNo X6.here hx rfl (hb hby d3_20) rfl (by decide) k) ?_
  show OG p e _ s below _ T6 (mkF m 23 #[.val (.ref a1), .val (.long (4000 : Int64)), .second, .val (.int (5 : Int32))] [])
  refine own_st (fun t k => XS.lloadN X6.here hx rfl (hb hby d3_23) rfl k) ?_
  show OG p e _ s below _ T6 (mkF m 24 #[.val (.ref a1), .val (.long (4000 : Int64)), .second, .val (.int (5 : Int32))] [(.long (4000 : Int64))])
  refine own_st (fun t k => X6.ldc2Long hx hown (mvT hZ (hw _ (List.mem_of_getElem? (i := 23) rfl))) (g := (mkF m 24 #[.val (.ref a1), .val (.long (4000 : Int64)), .second, .val (.int (5 : Int32))] [(.long (4000 : Int64))])) rfl (hb hby d3_24) _ k) ?_
  show OG p e _ s below _ T6 (mkF m 27 #[.val (.ref a1), .val (.long (4000 : Int64)), .second, .val (.int (5 : Int32))] [(.long (10000 : Int64)), (.long (4000 : Int64))])
  refine own_st (fun t k => XS.lcmp X6.here hx rfl (hb hby d3_27) rfl k) ?_
  show OG p e _ s below _ T6 (mkF m 28 #[.val (.ref a1), .val (.long (4000 : Int64)), .second, .val (.int (5 : Int32))] [(.int (lcmpW (4000 : Int64) (10000 : Int64)))])
  refine own_st (fun t k => XS.ifNo X6.here hx rfl (hb hby d3_28) rfl (by decide) k) ?_
  show OG p e _ s below _ T6 (mkF m 31 #[.val (.ref a1), .val (.long (4000 : Int64)), .second, .val (.int (5 : Int32))] [])
  refine own_st (fun t k => XS.lloadN X6.here hx rfl (hb hby d3_31) rfl k) ?_
  show OG p e _ s below _ T6 (mkF m 32 #[.val (.ref a1), .val (.long (4000 : Int64)), .second, .val (.int (5 : Int32))] [(.long (4000 : Int64))])
  refine own_st (fun t k => X6.ldc2Long hx hown (mvT hZ (hw _ (List.mem_of_getElem? (i := 35) rfl))) (g := (mkF m 32 #[.val (.ref a1), .val (.long (4000 : Int64)), .second, .val (.int (5 : Int32))] [(.long (4000 : Int64))])) rfl (hb hby d3_32) _ k) ?_
  show OG p e _ s below _ T6 (mkF m 35 #[.val (.ref a1), .val (.long (4000 : Int64)), .second, .val (.int (5 : Int32))] [(.long (2 : Int64)), (.long (4000 : Int64))])
  refine own_st (fun t k => XS.lmul X6.here hx rfl (hb hby d3_35) rfl k) ?_
  show OG p e _ s below _ T6 (mkF m 36 #[.val (.ref a1), .val (.long (4000 : Int64)), .second, .val (.int (5 : Int32))] [(.long (8000 : Int64))])
  refine own_st (fun t k => XS.lstoreN X6.here hx rfl (hb hby d3_36) rfl (l' := #[.val (.ref a1), .val (.long (8000 : Int64)), .second, .val (.int (5 : Int32))]) rfl k) ?_
  show OG p e _ s below _ T6 (mkF m 37 #[.val (.ref a1), .val (.long (8000 : Int64)), .second, .val (.int (5 : Int32))] [])
  refine own_st (fun t k => XS.iinc X6.here hx rfl (hb hby d3_37) rfl (l' := #[.val (.ref a1), .val (.long (8000 : Int64)), .second, .val (.int ((5 : Int32) + (1 : Int32)))]) rfl k) ?_
  show OG p e _ s below _ T6 (mkF m 40 #[.val (.ref a1), .val (.long (8000 : Int64)), .second, .val (.int (6 : Int32))] [])
  refine own_st (fun t k => XS.goto X6.here hx rfl (pc0 := 40) (pc' := 15) rfl (hb hby d3_40) (by decide) (by decide) k) ?_
  show OG p e _ s below _ T6 (mkF m 15 #[.val (.ref a1), .val (.long (8000 : Int64)), .second, .val (.int (6 : Int32))] [])
  refine own_st (fun t k => XS.iloadN X6.here hx rfl (hb hby d3_15) rfl k) ?_
  show OG p e _ s below _ T6 (mkF m 16 #[.val (.ref a1), .val (.long (8000 : Int64)), .second, .val (.int (6 : Int32))] [(.int (6 : Int32))])
  refine own_st (fun t k => XS.aloadN X6.here hx rfl (hb hby d3_16) rfl rfl k) ?_
  show OG p e _ s below _ T6 (mkF m 17 #[.val (.ref a1), .val (.long (8000 : Int64)), .second, .val (.int (6 : Int32))] [(.ref a1), (.int (6 : Int32))])
  obtain ⟨T7, X7, e7, st7⟩ := getF X6 hx hZ hown (host := "") (Or.inl (hw _ (List.mem_of_getElem? (i := 14) rfl))) Via.refl e6 R0 (g := (mkF m 17 #[.val (.ref a1), .val (.long (8000 : Int64)), .second, .val (.int (6 : Int32))] [(.ref a1), (.int (6 : Int32))])) rfl rfl (hb hby d3_17)
  refine own_st st7 ?_
  show OG p e _ s below _ T7 (mkF m 20 #[.val (.ref a1), .val (.long (8000 : Int64)), .second, .val (.int (6 : Int32))] [(.int (6 : Int32)), (.int (6 : Int32))])
  refine own_st (fun t k => XS.icmpYes X7.here hx rfl (pc0 := 20) (pc' := 43) rfl (hb hby d3_20) rfl (by decide) (by decide) (by decide) k) ?_
  show OG p e _ s below _ T7 (mkF m 43 #[.val (.ref a1), .val (.long (8000 : Int64)), .second, .val (.int (6 : Int32))] [])
  refine own_st (fun t k => XS.lloadN X7.here hx rfl (hb hby d3_43) rfl k) ?_
  show OG p e _ s below _ T7 (mkF m 44 #[.val (.ref a1), .val (.long (8000 : Int64)), .second, .val (.int (6 : Int32))] [(.long (8000 : Int64))])
  refine own_st (fun t k => X7.ldc2Long hx hown (mvT hZ (hw _ (List.mem_of_getElem? (i := 23) rfl))) (g := (mkF m 44 #[.val (.ref a1), .val (.long (8000 : Int64)), .second, .val (.int (6 : Int32))] [(.long (8000 : Int64))])) rfl (hb hby d3_44) _ k) ?_
  show OG p e _ s below _ T7 (mkF m 47 #[.val (.ref a1), .val (.long (8000 : Int64)), .second, .val (.int (6 : Int32))] [(.long (10000 : Int64)), (.long (8000 : Int64))])
  obtain ⟨_, _, ⟨T8, L8, k8, n8⟩, -, X8, ⟨Lc8, hQ8, l8, y8, z8⟩, st8⟩ := Jvm.LawKit.callS X7 hx (y := (⟨"java/lang/Math", "min", "(JJ)J"⟩ : MethodName)) hown (mvT hZ (hw _ (List.mem_of_getElem? (i := 24) rfl))) (mvT hZ (hw _ (List.mem_of_getElem? (i := 25) rfl))) (mvT hZ (hw _ (List.mem_of_getElem? (i := 26) rfl))) (mvT hZ (hw _ (List.mem_of_getElem? (i := 27) rfl))) (by decide) (backOf (W := 0) (rm := ({ frames := 0, cells := 0, slots := 0, locals := 0 } : Room)) (rm5 l Z a0 hw [] (8000 : Int64) (10000 : Int64) h0) hZ (hw _ (List.mem_of_getElem? (i := 27) rfl)) (hw _ (List.mem_of_getElem? (i := 26) rfl)) (by decide) (by decide)) (g := (mkF m 47 #[.val (.ref a1), .val (.long (8000 : Int64)), .second, .val (.int (6 : Int32))] [(.long (10000 : Int64)), (.long (8000 : Int64))])) rfl (by rw [hml]; rfl) (argsL := [(.long (8000 : Int64)), (.long (10000 : Int64))]) (rest := []) (lenOf pd__JJ_J rfl) rfl (by show 2 * 0 + _ ≤ _; exact Nat.le_of_eq rfl) (hb hby d3_47) (fun _ _ => ⟨rfl, e7, (by decide : 0 + 0 ≤ _), (by decide : 0 + 0 ≤ _)⟩)
  dsimp only [Pt.U, Pt.locs, Pt.cells, Pt.slots] at X8 l8 y8 z8 st8 hQ8
  subst l8 y8 z8
  obtain ⟨rfl, rfl, e8⟩ := hQ8
  refine own_st st8 ?_
  show OG p e _ s below _ T8 (mkF m 50 #[.val (.ref a1), .val (.long (8000 : Int64)), .second, .val (.int (6 : Int32))] [(.long (f5 (8000 : Int64) (10000 : Int64)))])
  exact own_retL X8 hx hret hlk (hb hby d3_50) (by decide) (by decide) ⟨congrArg (fun z => some (Value.long z)) (show f3_6  = (f5 (8000 : Int64) (10000 : Int64)) from (by rw [f3_6])).symm, rfl, e8⟩
def f3_7  : Int64 := (f5 (16000 : Int64) (10000 : Int64))
abbrev Q3_7 (Z : State) (a1 : Addr) (h0 : Heap)  : Option Value → Heap → List Loc → Prop := (fun v h L => v = some (.long f3_7) ∧ L = [] ∧ h = h0)
set_option maxRecDepth 65536 in
set_option maxHeartbeats 40000000 in
theorem rm3_7 (l : Launch) (Z : State) (a0 : Array Value) (hw : ∀ d ∈ tables_1, d.before a0 Z = true) (ws : List Jvm.Cond) (a1 : Addr) (h0 : Heap) (R0 : Fld Z h0 a1 "com/example/tidewire/tidewire/internal/Backoff" "attempts" "I" (.int (7 : Int32))) :
    OMet l Z (⟨"com/example/tidewire/tidewire/internal/Backoff", "delayMs", "()J"⟩ : MethodName) prog_2_method_2_code 4 (some .long) ws ({ frames := 1, cells := 0, slots := 0, locals := 15 } : Room) #[(.ref a1)] h0 (Q3_7 Z a1 h0) := by
  refine own_enter pn_3 ?_
  intro p e s m below meth c s₁ hx hby hml0 hown hret hlk hnm hZ X0 e0
  have hml : c.maxLocals = 4 := hml0
  refine own_cast (ef_3 m a1) ?_
  show OG p e ({ frames := 1, cells := 0, slots := 0, locals := 15 } : Room) s below (fun v h L => v = some (.long f3_7) ∧ L = [] ∧ h = h0) s₁ (mkF m 0 #[.val (.ref a1), .unset, .unset, .unset] [])
  refine own_st (fun t k => XS.aloadN X0.here hx rfl (hb hby d3_0) rfl rfl k) ?_
  show OG p e _ s below _ s₁ (mkF m 1 #[.val (.ref a1), .unset, .unset, .unset] [(.ref a1)])
  obtain ⟨T1, X1, e1, st1⟩ := getF X0 hx hZ hown (host := "") (Or.inl (hw _ (List.mem_of_getElem? (i := 14) rfl))) Via.refl e0 R0 (g := (mkF m 1 #[.val (.ref a1), .unset, .unset, .unset] [(.ref a1)])) rfl rfl (hb hby d3_1)
  refine own_st st1 ?_
  show OG p e _ s below _ T1 (mkF m 4 #[.val (.ref a1), .unset, .unset, .unset] [(.int (7 : Int32))])
  refine own_st (fun t k => XS.ifYes X1.here hx rfl (pc0 := 4) (pc' := 9) rfl (hb hby d3_4) rfl (by decide) (by decide) (by decide) k) ?_
  show OG p e _ s below _ T1 (mkF m 9 #[.val (.ref a1), .unset, .unset, .unset] [])
  refine own_st (fun t k => X1.ldc2Long hx hown (mvT hZ (hw _ (List.mem_of_getElem? (i := 22) rfl))) (g := (mkF m 9 #[.val (.ref a1), .unset, .unset, .unset] [])) rfl (hb hby d3_9) _ k) ?_
  show OG p e _ s below _ T1 (mkF m 12 #[.val (.ref a1), .unset, .unset, .unset] [(.long (250 : Int64))])
  refine own_st (fun t k => XS.lstoreN X1.here hx rfl (hb hby d3_12) rfl (l' := #[.val (.ref a1), .val (.long (250 : Int64)), .second, .unset]) rfl k) ?_
  show OG p e _ s below _ T1 (mkF m 13 #[.val (.ref a1), .val (.long (250 : Int64)), .second, .unset] [])
  refine own_st (fun t k => XS.iconst X1.here hx rfl (hb hby d3_13) k) ?_
  show OG p e _ s below _ T1 (mkF m 14 #[.val (.ref a1), .val (.long (250 : Int64)), .second, .unset] [(.int (1 : Int32))])
  refine own_st (fun t k => XS.istoreN X1.here hx rfl (hb hby d3_14) rfl (l' := #[.val (.ref a1), .val (.long (250 : Int64)), .second, .val (.int (1 : Int32))]) rfl k) ?_
  show OG p e _ s below _ T1 (mkF m 15 #[.val (.ref a1), .val (.long (250 : Int64)), .second, .val (.int (1 : Int32))] [])
  refine own_st (fun t k => XS.iloadN X1.here hx rfl (hb hby d3_15) rfl k) ?_
  show OG p e _ s below _ T1 (mkF m 16 #[.val (.ref a1), .val (.long (250 : Int64)), .second, .val (.int (1 : Int32))] [(.int (1 : Int32))])
  refine own_st (fun t k => XS.aloadN X1.here hx rfl (hb hby d3_16) rfl rfl k) ?_
  show OG p e _ s below _ T1 (mkF m 17 #[.val (.ref a1), .val (.long (250 : Int64)), .second, .val (.int (1 : Int32))] [(.ref a1), (.int (1 : Int32))])
  obtain ⟨T2, X2, e2, st2⟩ := getF X1 hx hZ hown (host := "") (Or.inl (hw _ (List.mem_of_getElem? (i := 14) rfl))) Via.refl e1 R0 (g := (mkF m 17 #[.val (.ref a1), .val (.long (250 : Int64)), .second, .val (.int (1 : Int32))] [(.ref a1), (.int (1 : Int32))])) rfl rfl (hb hby d3_17)
  refine own_st st2 ?_
  show OG p e _ s below _ T2 (mkF m 20 #[.val (.ref a1), .val (.long (250 : Int64)), .second, .val (.int (1 : Int32))] [(.int (7 : Int32)), (.int (1 : Int32))])
  refine own_st (fun t k => XS.icmpNo X2.here hx rfl (hb hby d3_20) rfl (by decide) k) ?_
  show OG p e _ s below _ T2 (mkF m 23 #[.val (.ref a1), .val (.long (250 : Int64)), .second, .val (.int (1 : Int32))] [])
  refine own_st (fun t k => XS.lloadN X2.here hx rfl (hb hby d3_23) rfl k) ?_
  show OG p e _ s below _ T2 (mkF m 24 #[.val (.ref a1), .val (.long (250 : Int64)), .second, .val (.int (1 : Int32))] [(.long (250 : Int64))])
  refine own_st (fun t k => X2.ldc2Long hx hown (mvT hZ (hw _ (List.mem_of_getElem? (i := 23) rfl))) (g := (mkF m 24 #[.val (.ref a1), .val (.long (250 : Int64)), .second, .val (.int (1 : Int32))] [(.long (250 : Int64))])) rfl (hb hby d3_24) _ k) ?_
  show OG p e _ s below _ T2 (mkF m 27 #[.val (.ref a1), .val (.long (250 : Int64)), .second, .val (.int (1 : Int32))] [(.long (10000 : Int64)), (.long (250 : Int64))])
  refine own_st (fun t k => XS.lcmp X2.here hx rfl (hb hby d3_27) rfl k) ?_
  show OG p e _ s below _ T2 (mkF m 28 #[.val (.ref a1), .val (.long (250 : Int64)), .second, .val (.int (1 : Int32))] [(.int (lcmpW (250 : Int64) (10000 : Int64)))])
  refine own_st (fun t k => XS.ifNo X2.here hx rfl (hb hby d3_28) rfl (by decide) k) ?_
  show OG p e _ s below _ T2 (mkF m 31 #[.val (.ref a1), .val (.long (250 : Int64)), .second, .val (.int (1 : Int32))] [])
  refine own_st (fun t k => XS.lloadN X2.here hx rfl (hb hby d3_31) rfl k) ?_
  show OG p e _ s below _ T2 (mkF m 32 #[.val (.ref a1), .val (.long (250 : Int64)), .second, .val (.int (1 : Int32))] [(.long (250 : Int64))])
  refine own_st (fun t k => X2.ldc2Long hx hown (mvT hZ (hw _ (List.mem_of_getElem? (i := 35) rfl))) (g := (mkF m 32 #[.val (.ref a1), .val (.long (250 : Int64)), .second, .val (.int (1 : Int32))] [(.long (250 : Int64))])) rfl (hb hby d3_32) _ k) ?_
  show OG p e _ s below _ T2 (mkF m 35 #[.val (.ref a1), .val (.long (250 : Int64)), .second, .val (.int (1 : Int32))] [(.long (2 : Int64)), (.long (250 : Int64))])
  refine own_st (fun t k => XS.lmul X2.here hx rfl (hb hby d3_35) rfl k) ?_
  show OG p e _ s below _ T2 (mkF m 36 #[.val (.ref a1), .val (.long (250 : Int64)), .second, .val (.int (1 : Int32))] [(.long (500 : Int64))])
  refine own_st (fun t k => XS.lstoreN X2.here hx rfl (hb hby d3_36) rfl (l' := #[.val (.ref a1), .val (.long (500 : Int64)), .second, .val (.int (1 : Int32))]) rfl k) ?_
  show OG p e _ s below _ T2 (mkF m 37 #[.val (.ref a1), .val (.long (500 : Int64)), .second, .val (.int (1 : Int32))] [])
  refine own_st (fun t k => XS.iinc X2.here hx rfl (hb hby d3_37) rfl (l' := #[.val (.ref a1), .val (.long (500 : Int64)), .second, .val (.int ((1 : Int32) + (1 : Int32)))]) rfl k) ?_
  show OG p e _ s below _ T2 (mkF m 40 #[.val (.ref a1), .val (.long (500 : Int64)), .second, .val (.int (2 : Int32))] [])
  refine own_st (fun t k => XS.goto X2.here hx rfl (pc0 := 40) (pc' := 15) rfl (hb hby d3_40) (by decide) (by decide) k) ?_
  show OG p e _ s below _ T2 (mkF m 15 #[.val (.ref a1), .val (.long (500 : Int64)), .second, .val (.int (2 : Int32))] [])
  refine own_st (fun t k => XS.iloadN X2.here hx rfl (hb hby d3_15) rfl k) ?_
  show OG p e _ s below _ T2 (mkF m 16 #[.val (.ref a1), .val (.long (500 : Int64)), .second, .val (.int (2 : Int32))] [(.int (2 : Int32))])
  refine own_st (fun t k => XS.aloadN X2.here hx rfl (hb hby d3_16) rfl rfl k) ?_
  show OG p e _ s below _ T2 (mkF m 17 #[.val (.ref a1), .val (.long (500 : Int64)), .second, .val (.int (2 : Int32))] [(.ref a1), (.int (2 : Int32))])
  obtain ⟨T3, X3, e3, st3⟩ := getF X2 hx hZ hown (host := "") (Or.inl (hw _ (List.mem_of_getElem? (i := 14) rfl))) Via.refl e2 R0 (g := (mkF m 17 #[.val (.ref a1), .val (.long (500 : Int64)), .second, .val (.int (2 : Int32))] [(.ref a1), (.int (2 : Int32))])) rfl rfl (hb hby d3_17)
  refine own_st st3 ?_
  show OG p e _ s below _ T3 (mkF m 20 #[.val (.ref a1), .val (.long (500 : Int64)), .second, .val (.int (2 : Int32))] [(.int (7 : Int32)), (.int (2 : Int32))])
  refine own_st (fun t k => XS.icmpNo X3.here hx rfl (hb hby d3_20) rfl (by decide) k) ?_
  show OG p e _ s below _ T3 (mkF m 23 #[.val (.ref a1), .val (.long (500 : Int64)), .second, .val (.int (2 : Int32))] [])
  refine own_st (fun t k => XS.lloadN X3.here hx rfl (hb hby d3_23) rfl k) ?_
  show OG p e _ s below _ T3 (mkF m 24 #[.val (.ref a1), .val (.long (500 : Int64)), .second, .val (.int (2 : Int32))] [(.long (500 : Int64))])
  refine own_st (fun t k => X3.ldc2Long hx hown (mvT hZ (hw _ (List.mem_of_getElem? (i := 23) rfl))) (g := (mkF m 24 #[.val (.ref a1), .val (.long (500 : Int64)), .second, .val (.int (2 : Int32))] [(.long (500 : Int64))])) rfl (hb hby d3_24) _ k) ?_
  show OG p e _ s below _ T3 (mkF m 27 #[.val (.ref a1), .val (.long (500 : Int64)), .second, .val (.int (2 : Int32))] [(.long (10000 : Int64)), (.long (500 : Int64))])
  refine own_st (fun t k => XS.lcmp X3.here hx rfl (hb hby d3_27) rfl k) ?_
  show OG p e _ s below _ T3 (mkF m 28 #[.val (.ref a1), .val (.long (500 : Int64)), .second, .val (.int (2 : Int32))] [(.int (lcmpW (500 : Int64) (10000 : Int64)))])
  refine own_st (fun t k => XS.ifNo X3.here hx rfl (hb hby d3_28) rfl (by decide) k) ?_
  show OG p e _ s below _ T3 (mkF m 31 #[.val (.ref a1), .val (.long (500 : Int64)), .second, .val (.int (2 : Int32))] [])
  refine own_st (fun t k => XS.lloadN X3.here hx rfl (hb hby d3_31) rfl k) ?_
  show OG p e _ s below _ T3 (mkF m 32 #[.val (.ref a1), .val (.long (500 : Int64)), .second, .val (.int (2 : Int32))] [(.long (500 : Int64))])
  refine own_st (fun t k => X3.ldc2Long hx hown (mvT hZ (hw _ (List.mem_of_getElem? (i := 35) rfl))) (g := (mkF m 32 #[.val (.ref a1), .val (.long (500 : Int64)), .second, .val (.int (2 : Int32))] [(.long (500 : Int64))])) rfl (hb hby d3_32) _ k) ?_
  show OG p e _ s below _ T3 (mkF m 35 #[.val (.ref a1), .val (.long (500 : Int64)), .second, .val (.int (2 : Int32))] [(.long (2 : Int64)), (.long (500 : Int64))])
  refine own_st (fun t k => XS.lmul X3.here hx rfl (hb hby d3_35) rfl k) ?_
  show OG p e _ s below _ T3 (mkF m 36 #[.val (.ref a1), .val (.long (500 : Int64)), .second, .val (.int (2 : Int32))] [(.long (1000 : Int64))])
  refine own_st (fun t k => XS.lstoreN X3.here hx rfl (hb hby d3_36) rfl (l' := #[.val (.ref a1), .val (.long (1000 : Int64)), .second, .val (.int (2 : Int32))]) rfl k) ?_
  show OG p e _ s below _ T3 (mkF m 37 #[.val (.ref a1), .val (.long (1000 : Int64)), .second, .val (.int (2 : Int32))] [])
  refine own_st (fun t k => XS.iinc X3.here hx rfl (hb hby d3_37) rfl (l' := #[.val (.ref a1), .val (.long (1000 : Int64)), .second, .val (.int ((2 : Int32) + (1 : Int32)))]) rfl k) ?_
  show OG p e _ s below _ T3 (mkF m 40 #[.val (.ref a1), .val (.long (1000 : Int64)), .second, .val (.int (3 : Int32))] [])
  refine own_st (fun t k => XS.goto X3.here hx rfl (pc0 := 40) (pc' := 15) rfl (hb hby d3_40) (by decide) (by decide) k) ?_
  show OG p e _ s below _ T3 (mkF m 15 #[.val (.ref a1), .val (.long (1000 : Int64)), .second, .val (.int (3 : Int32))] [])
  refine own_st (fun t k => XS.iloadN X3.here hx rfl (hb hby d3_15) rfl k) ?_
  show OG p e _ s below _ T3 (mkF m 16 #[.val (.ref a1), .val (.long (1000 : Int64)), .second, .val (.int (3 : Int32))] [(.int (3 : Int32))])
  refine own_st (fun t k => XS.aloadN X3.here hx rfl (hb hby d3_16) rfl rfl k) ?_
  show OG p e _ s below _ T3 (mkF m 17 #[.val (.ref a1), .val (.long (1000 : Int64)), .second, .val (.int (3 : Int32))] [(.ref a1), (.int (3 : Int32))])
  obtain ⟨T4, X4, e4, st4⟩ := getF X3 hx hZ hown (host := "") (Or.inl (hw _ (List.mem_of_getElem? (i := 14) rfl))) Via.refl e3 R0 (g := (mkF m 17 #[.val (.ref a1), .val (.long (1000 : Int64)), .second, .val (.int (3 : Int32))] [(.ref a1), (.int (3 : Int32))])) rfl rfl (hb hby d3_17)
  refine own_st st4 ?_
  show OG p e _ s below _ T4 (mkF m 20 #[.val (.ref a1), .val (.long (1000 : Int64)), .second, .val (.int (3 : Int32))] [(.int (7 : Int32)), (.int (3 : Int32))])
  refine own_st (fun t k => XS.icmpNo X4.here hx rfl (hb hby d3_20) rfl (by decide) k) ?_
  show OG p e _ s below _ T4 (mkF m 23 #[.val (.ref a1), .val (.long (1000 : Int64)), .second, .val (.int (3 : Int32))] [])
  refine own_st (fun t k => XS.lloadN X4.here hx rfl (hb hby d3_23) rfl k) ?_
  show OG p e _ s below _ T4 (mkF m 24 #[.val (.ref a1), .val (.long (1000 : Int64)), .second, .val (.int (3 : Int32))] [(.long (1000 : Int64))])
  refine own_st (fun t k => X4.ldc2Long hx hown (mvT hZ (hw _ (List.mem_of_getElem? (i := 23) rfl))) (g := (mkF m 24 #[.val (.ref a1), .val (.long (1000 : Int64)), .second, .val (.int (3 : Int32))] [(.long (1000 : Int64))])) rfl (hb hby d3_24) _ k) ?_
  show OG p e _ s below _ T4 (mkF m 27 #[.val (.ref a1), .val (.long (1000 : Int64)), .second, .val (.int (3 : Int32))] [(.long (10000 : Int64)), (.long (1000 : Int64))])
  refine own_st (fun t k => XS.lcmp X4.here hx rfl (hb hby d3_27) rfl k) ?_
  show OG p e _ s below _ T4 (mkF m 28 #[.val (.ref a1), .val (.long (1000 : Int64)), .second, .val (.int (3 : Int32))] [(.int (lcmpW (1000 : Int64) (10000 : Int64)))])
  refine own_st (fun t k => XS.ifNo X4.here hx rfl (hb hby d3_28) rfl (by decide) k) ?_
  show OG p e _ s below _ T4 (mkF m 31 #[.val (.ref a1), .val (.long (1000 : Int64)), .second, .val (.int (3 : Int32))] [])
  refine own_st (fun t k => XS.lloadN X4.here hx rfl (hb hby d3_31) rfl k) ?_
  show OG p e _ s below _ T4 (mkF m 32 #[.val (.ref a1), .val (.long (1000 : Int64)), .second, .val (.int (3 : Int32))] [(.long (1000 : Int64))])
  refine own_st (fun t k => X4.ldc2Long hx hown (mvT hZ (hw _ (List.mem_of_getElem? (i := 35) rfl))) (g := (mkF m 32 #[.val (.ref a1), .val (.long (1000 : Int64)), .second, .val (.int (3 : Int32))] [(.long (1000 : Int64))])) rfl (hb hby d3_32) _ k) ?_
  show OG p e _ s below _ T4 (mkF m 35 #[.val (.ref a1), .val (.long (1000 : Int64)), .second, .val (.int (3 : Int32))] [(.long (2 : Int64)), (.long (1000 : Int64))])
  refine own_st (fun t k => XS.lmul X4.here hx rfl (hb hby d3_35) rfl k) ?_
  show OG p e _ s below _ T4 (mkF m 36 #[.val (.ref a1), .val (.long (1000 : Int64)), .second, .val (.int (3 : Int32))] [(.long (2000 : Int64))])
  refine own_st (fun t k => XS.lstoreN X4.here hx rfl (hb hby d3_36) rfl (l' := #[.val (.ref a1), .val (.long (2000 : Int64)), .second, .val (.int (3 : Int32))]) rfl k) ?_
  show OG p e _ s below _ T4 (mkF m 37 #[.val (.ref a1), .val (.long (2000 : Int64)), .second, .val (.int (3 : Int32))] [])
  refine own_st (fun t k => XS.iinc X4.here hx rfl (hb hby d3_37) rfl (l' := #[.val (.ref a1), .val (.long (2000 : Int64)), .second, .val (.int ((3 : Int32) + (1 : Int32)))]) rfl k) ?_
  show OG p e _ s below _ T4 (mkF m 40 #[.val (.ref a1), .val (.long (2000 : Int64)), .second, .val (.int (4 : Int32))] [])
  refine own_st (fun t k => XS.goto X4.here hx rfl (pc0 := 40) (pc' := 15) rfl (hb hby d3_40) (by decide) (by decide) k) ?_
  show OG p e _ s below _ T4 (mkF m 15 #[.val (.ref a1), .val (.long (2000 : Int64)), .second, .val (.int (4 : Int32))] [])
  refine own_st (fun t k => XS.iloadN X4.here hx rfl (hb hby d3_15) rfl k) ?_
  show OG p e _ s below _ T4 (mkF m 16 #[.val (.ref a1), .val (.long (2000 : Int64)), .second, .val (.int (4 : Int32))] [(.int (4 : Int32))])
  refine own_st (fun t k => XS.aloadN X4.here hx rfl (hb hby d3_16) rfl rfl k) ?_
  show OG p e _ s below _ T4 (mkF m 17 #[.val (.ref a1), .val (.long (2000 : Int64)), .second, .val (.int (4 : Int32))] [(.ref a1), (.int (4 : Int32))])
  obtain ⟨T5, X5, e5, st5⟩ := getF X4 hx hZ hown (host := "") (Or.inl (hw _ (List.mem_of_getElem? (i := 14) rfl))) Via.refl e4 R0 (g := (mkF m 17 #[.val (.ref a1), .val (.long (2000 : Int64)), .second, .val (.int (4 : Int32))] [(.ref a1), (.int (4 : Int32))])) rfl rfl (hb hby d3_17)
  refine own_st st5 ?_
  show OG p e _ s below _ T5 (mkF m 20 #[.val (.ref a1), .val (.long (2000 : Int64)), .second, .val (.int (4 : Int32))] [(.int (7 : Int32)), (.int (4 : Int32))])
  refine own_st (fun t k => XS.icmpNo X5.here hx rfl (hb hby d3_20) rfl (by decide) k) ?_
  show OG p e _ s below _ T5 (mkF m 23 #[.val (.ref a1), .val (.long (2000 : Int64)), .second, .val (.int (4 : Int32))] [])
  refine own_st (fun t k => XS.lloadN X5.here hx rfl (hb hby d3_23) rfl k) ?_
  show OG p e _ s below _ T5 (mkF m 24 #[.val (.ref a1), .val (.long (2000 : Int64)), .second, .val (.int (4 : Int32))] [(.long (2000 : Int64))])
  refine own_st (fun t k => X5.ldc2Long hx hown (mvT hZ (hw _ (List.mem_of_getElem? (i := 23) rfl))) (g := (mkF m 24 #[.val (.ref a1), .val (.long (2000 : Int64)), .second, .val (.int (4 : Int32))] [(.long (2000 : Int64))])) rfl (hb hby d3_24) _ k) ?_
  show OG p e _ s below _ T5 (mkF m 27 #[.val (.ref a1), .val (.long (2000 : Int64)), .second, .val (.int (4 : Int32))] [(.long (10000 : Int64)), (.long (2000 : Int64))])
  refine own_st (fun t k => XS.lcmp X5.here hx rfl (hb hby d3_27) rfl k) ?_
  show OG p e _ s below _ T5 (mkF m 28 #[.val (.ref a1), .val (.long (2000 : Int64)), .second, .val (.int (4 : Int32))] [(.int (lcmpW (2000 : Int64) (10000 : Int64)))])
  refine own_st (fun t k => XS.ifNo X5.here hx rfl (hb hby d3_28) rfl (by decide) k) ?_
  show OG p e _ s below _ T5 (mkF m 31 #[.val (.ref a1), .val (.long (2000 : Int64)), .second, .val (.int (4 : Int32))] [])
  refine own_st (fun t k => XS.lloadN X5.here hx rfl (hb hby d3_31) rfl k) ?_
  show OG p e _ s below _ T5 (mkF m 32 #[.val (.ref a1), .val (.long (2000 : Int64)), .second, .val (.int (4 : Int32))] [(.long (2000 : Int64))])
  refine own_st (fun t k => X5.ldc2Long hx hown (mvT hZ (hw _ (List.mem_of_getElem? (i := 35) rfl))) (g := (mkF m 32 #[.val (.ref a1), .val (.long (2000 : Int64)), .second, .val (.int (4 : Int32))] [(.long (2000 : Int64))])) rfl (hb hby d3_32) _ k) ?_
  show OG p e _ s below _ T5 (mkF m 35 #[.val (.ref a1), .val (.long (2000 : Int64)), .second, .val (.int (4 : Int32))] [(.long (2 : Int64)), (.long (2000 : Int64))])
  refine own_st (fun t k => XS.lmul X5.here hx rfl (hb hby d3_35) rfl k) ?_
  show OG p e _ s below _ T5 (mkF m 36 #[.val (.ref a1), .val (.long (2000 : Int64)), .second, .val (.int (4 : Int32))] [(.long (4000 : Int64))])
  refine own_st (fun t k => XS.lstoreN X5.here hx rfl (hb hby d3_36) rfl (l' := #[.val (.ref a1), .val (.long (4000 : Int64)), .second, .val (.int (4 : Int32))]) rfl k) ?_
  show OG p e _ s below _ T5 (mkF m 37 #[.val (.ref a1), .val (.long (4000 : Int64)), .second, .val (.int (4 : Int32))] [])
  refine own_st (fun t k => XS.iinc X5.here hx rfl (hb hby d3_37) rfl (l' := #[.val (.ref a1), .val (.long (4000 : Int64)), .second, .val (.int ((4 : Int32) + (1 : Int32)))]) rfl k) ?_
  show OG p e _ s below _ T5 (mkF m 40 #[.val (.ref a1), .val (.long (4000 : Int64)), .second, .val (.int (5 : Int32))] [])
  refine own_st (fun t k => XS.goto X5.here hx rfl (pc0 := 40) (pc' := 15) rfl (hb hby d3_40) (by decide) (by decide) k) ?_
  show OG p e _ s below _ T5 (mkF m 15 #[.val (.ref a1), .val (.long (4000 : Int64)), .second, .val (.int (5 : Int32))] [])
  refine own_st (fun t k => XS.iloadN X5.here hx rfl (hb hby d3_15) rfl k) ?_
  show OG p e _ s below _ T5 (mkF m 16 #[.val (.ref a1), .val (.long (4000 : Int64)), .second, .val (.int (5 : Int32))] [(.int (5 : Int32))])
  refine own_st (fun t k => XS.aloadN X5.here hx rfl (hb hby d3_16) rfl rfl k) ?_
  show OG p e _ s below _ T5 (mkF m 17 #[.val (.ref a1), .val (.long (4000 : Int64)), .second, .val (.int (5 : Int32))] [(.ref a1), (.int (5 : Int32))])
  obtain ⟨T6, X6, e6, st6⟩ := getF X5 hx hZ hown (host := "") (Or.inl (hw _ (List.mem_of_getElem? (i := 14) rfl))) Via.refl e5 R0 (g := (mkF m 17 #[.val (.ref a1), .val (.long (4000 : Int64)), .second, .val (.int (5 : Int32))] [(.ref a1), (.int (5 : Int32))])) rfl rfl (hb hby d3_17)
  refine own_st st6 ?_
  show OG p e _ s below _ T6 (mkF m 20 #[.val (.ref a1), .val (.long (4000 : Int64)), .second, .val (.int (5 : Int32))] [(.int (7 : Int32)), (.int (5 : Int32))])
  refine own_st (fun t k => XS.icmpNo X6.here hx rfl (hb hby d3_20) rfl (by decide) k) ?_
  show OG p e _ s below _ T6 (mkF m 23 #[.val (.ref a1), .val (.long (4000 : Int64)), .second, .val (.int (5 : Int32))] [])
  refine own_st (fun t k => XS.lloadN X6.here hx rfl (hb hby d3_23) rfl k) ?_
  show OG p e _ s below _ T6 (mkF m 24 #[.val (.ref a1), .val (.long (4000 : Int64)), .second, .val (.int (5 : Int32))] [(.long (4000 : Int64))])
  refine own_st (fun t k => X6.ldc2Long hx hown (mvT hZ (hw _ (List.mem_of_getElem? (i := 23) rfl))) (g := (mkF m 24 #[.val (.ref a1), .val (.long (4000 : Int64)), .second, .val (.int (5 : Int32))] [(.long (4000 : Int64))])) rfl (hb hby d3_24) _ k) ?_
  show OG p e _ s below _ T6 (mkF m 27 #[.val (.ref a1), .val (.long (4000 : Int64)), .second, .val (.int (5 : Int32))] [(.long (10000 : Int64)), (.long (4000 : Int64))])
  refine own_st (fun t k => XS.lcmp X6.here hx rfl (hb hby d3_27) rfl k) ?_
  show OG p e _ s below _ T6 (mkF m 28 #[.val (.ref a1), .val (.long (4000 : Int64)), .second, .val (.int (5 : Int32))] [(.int (lcmpW (4000 : Int64) (10000 : Int64)))])
  refine own_st (fun t k => XS.ifNo X6.here hx rfl (hb hby d3_28) rfl (by decide) k) ?_
  show OG p e _ s below _ T6 (mkF m 31 #[.val (.ref a1), .val (.long (4000 : Int64)), .second, .val (.int (5 : Int32))] [])
  refine own_st (fun t k => XS.lloadN X6.here hx rfl (hb hby d3_31) rfl k) ?_
  show OG p e _ s below _ T6 (mkF m 32 #[.val (.ref a1), .val (.long (4000 : Int64)), .second, .val (.int (5 : Int32))] [(.long (4000 : Int64))])
  refine own_st (fun t k => X6.ldc2Long hx hown (mvT hZ (hw _ (List.mem_of_getElem? (i := 35) rfl))) (g := (mkF m 32 #[.val (.ref a1), .val (.long (4000 : Int64)), .second, .val (.int (5 : Int32))] [(.long (4000 : Int64))])) rfl (hb hby d3_32) _ k) ?_
  show OG p e _ s below _ T6 (mkF m 35 #[.val (.ref a1), .val (.long (4000 : Int64)), .second, .val (.int (5 : Int32))] [(.long (2 : Int64)), (.long (4000 : Int64))])
  refine own_st (fun t k => XS.lmul X6.here hx rfl (hb hby d3_35) rfl k) ?_
  show OG p e _ s below _ T6 (mkF m 36 #[.val (.ref a1), .val (.long (4000 : Int64)), .second, .val (.int (5 : Int32))] [(.long (8000 : Int64))])
  refine own_st (fun t k => XS.lstoreN X6.here hx rfl (hb hby d3_36) rfl (l' := #[.val (.ref a1), .val (.long (8000 : Int64)), .second, .val (.int (5 : Int32))]) rfl k) ?_
  show OG p e _ s below _ T6 (mkF m 37 #[.val (.ref a1), .val (.long (8000 : Int64)), .second, .val (.int (5 : Int32))] [])
  refine own_st (fun t k => XS.iinc X6.here hx rfl (hb hby d3_37) rfl (l' := #[.val (.ref a1), .val (.long (8000 : Int64)), .second, .val (.int ((5 : Int32) + (1 : Int32)))]) rfl k) ?_
  show OG p e _ s below _ T6 (mkF m 40 #[.val (.ref a1), .val (.long (8000 : Int64)), .second, .val (.int (6 : Int32))] [])
  refine own_st (fun t k => XS.goto X6.here hx rfl (pc0 := 40) (pc' := 15) rfl (hb hby d3_40) (by decide) (by decide) k) ?_
  show OG p e _ s below _ T6 (mkF m 15 #[.val (.ref a1), .val (.long (8000 : Int64)), .second, .val (.int (6 : Int32))] [])
  refine own_st (fun t k => XS.iloadN X6.here hx rfl (hb hby d3_15) rfl k) ?_
  show OG p e _ s below _ T6 (mkF m 16 #[.val (.ref a1), .val (.long (8000 : Int64)), .second, .val (.int (6 : Int32))] [(.int (6 : Int32))])
  refine own_st (fun t k => XS.aloadN X6.here hx rfl (hb hby d3_16) rfl rfl k) ?_
  show OG p e _ s below _ T6 (mkF m 17 #[.val (.ref a1), .val (.long (8000 : Int64)), .second, .val (.int (6 : Int32))] [(.ref a1), (.int (6 : Int32))])
  obtain ⟨T7, X7, e7, st7⟩ := getF X6 hx hZ hown (host := "") (Or.inl (hw _ (List.mem_of_getElem? (i := 14) rfl))) Via.refl e6 R0 (g := (mkF m 17 #[.val (.ref a1), .val (.long (8000 : Int64)), .second, .val (.int (6 : Int32))] [(.ref a1), (.int (6 : Int32))])) rfl rfl (hb hby d3_17)
  refine own_st st7 ?_
  show OG p e _ s below _ T7 (mkF m 20 #[.val (.ref a1), .val (.long (8000 : Int64)), .second, .val (.int (6 : Int32))] [(.int (7 : Int32)), (.int (6 : Int32))])
  refine own_st (fun t k => XS.icmpNo X7.here hx rfl (hb hby d3_20) rfl (by decide) k) ?_
  show OG p e _ s below _ T7 (mkF m 23 #[.val (.ref a1), .val (.long (8000 : Int64)), .second, .val (.int (6 : Int32))] [])
  refine own_st (fun t k => XS.lloadN X7.here hx rfl (hb hby d3_23) rfl k) ?_
  show OG p e _ s below _ T7 (mkF m 24 #[.val (.ref a1), .val (.long (8000 : Int64)), .second, .val (.int (6 : Int32))] [(.long (8000 : Int64))])
  refine own_st (fun t k => X7.ldc2Long hx hown (mvT hZ (hw _ (List.mem_of_getElem? (i := 23) rfl))) (g := (mkF m 24 #[.val (.ref a1), .val (.long (8000 : Int64)), .second, .val (.int (6 : Int32))] [(.long (8000 : Int64))])) rfl (hb hby d3_24) _ k) ?_
  show OG p e _ s below _ T7 (mkF m 27 #[.val (.ref a1), .val (.long (8000 : Int64)), .second, .val (.int (6 : Int32))] [(.long (10000 : Int64)), (.long (8000 : Int64))])
  refine own_st (fun t k => XS.lcmp X7.here hx rfl (hb hby d3_27) rfl k) ?_
  show OG p e _ s below _ T7 (mkF m 28 #[.val (.ref a1), .val (.long (8000 : Int64)), .second, .val (.int (6 : Int32))] [(.int (lcmpW (8000 : Int64) (10000 : Int64)))])
  refine own_st (fun t k => XS.ifNo X7.here hx rfl (hb hby d3_28) rfl (by decide) k) ?_
  show OG p e _ s below _ T7 (mkF m 31 #[.val (.ref a1), .val (.long (8000 : Int64)), .second, .val (.int (6 : Int32))] [])
  refine own_st (fun t k => XS.lloadN X7.here hx rfl (hb hby d3_31) rfl k) ?_
  show OG p e _ s below _ T7 (mkF m 32 #[.val (.ref a1), .val (.long (8000 : Int64)), .second, .val (.int (6 : Int32))] [(.long (8000 : Int64))])
  refine own_st (fun t k => X7.ldc2Long hx hown (mvT hZ (hw _ (List.mem_of_getElem? (i := 35) rfl))) (g := (mkF m 32 #[.val (.ref a1), .val (.long (8000 : Int64)), .second, .val (.int (6 : Int32))] [(.long (8000 : Int64))])) rfl (hb hby d3_32) _ k) ?_
  show OG p e _ s below _ T7 (mkF m 35 #[.val (.ref a1), .val (.long (8000 : Int64)), .second, .val (.int (6 : Int32))] [(.long (2 : Int64)), (.long (8000 : Int64))])
  refine own_st (fun t k => XS.lmul X7.here hx rfl (hb hby d3_35) rfl k) ?_
  show OG p e _ s below _ T7 (mkF m 36 #[.val (.ref a1), .val (.long (8000 : Int64)), .second, .val (.int (6 : Int32))] [(.long (16000 : Int64))])
  refine own_st (fun t k => XS.lstoreN X7.here hx rfl (hb hby d3_36) rfl (l' := #[.val (.ref a1), .val (.long (16000 : Int64)), .second, .val (.int (6 : Int32))]) rfl k) ?_
  show OG p e _ s below _ T7 (mkF m 37 #[.val (.ref a1), .val (.long (16000 : Int64)), .second, .val (.int (6 : Int32))] [])
  refine own_st (fun t k => XS.iinc X7.here hx rfl (hb hby d3_37) rfl (l' := #[.val (.ref a1), .val (.long (16000 : Int64)), .second, .val (.int ((6 : Int32) + (1 : Int32)))]) rfl k) ?_
  show OG p e _ s below _ T7 (mkF m 40 #[.val (.ref a1), .val (.long (16000 : Int64)), .second, .val (.int (7 : Int32))] [])
  refine own_st (fun t k => XS.goto X7.here hx rfl (pc0 := 40) (pc' := 15) rfl (hb hby d3_40) (by decide) (by decide) k) ?_
  show OG p e _ s below _ T7 (mkF m 15 #[.val (.ref a1), .val (.long (16000 : Int64)), .second, .val (.int (7 : Int32))] [])
  refine own_st (fun t k => XS.iloadN X7.here hx rfl (hb hby d3_15) rfl k) ?_
  show OG p e _ s below _ T7 (mkF m 16 #[.val (.ref a1), .val (.long (16000 : Int64)), .second, .val (.int (7 : Int32))] [(.int (7 : Int32))])
  refine own_st (fun t k => XS.aloadN X7.here hx rfl (hb hby d3_16) rfl rfl k) ?_
  show OG p e _ s below _ T7 (mkF m 17 #[.val (.ref a1), .val (.long (16000 : Int64)), .second, .val (.int (7 : Int32))] [(.ref a1), (.int (7 : Int32))])
  obtain ⟨T8, X8, e8, st8⟩ := getF X7 hx hZ hown (host := "") (Or.inl (hw _ (List.mem_of_getElem? (i := 14) rfl))) Via.refl e7 R0 (g := (mkF m 17 #[.val (.ref a1), .val (.long (16000 : Int64)), .second, .val (.int (7 : Int32))] [(.ref a1), (.int (7 : Int32))])) rfl rfl (hb hby d3_17)
  refine own_st st8 ?_
  show OG p e _ s below _ T8 (mkF m 20 #[.val (.ref a1), .val (.long (16000 : Int64)), .second, .val (.int (7 : Int32))] [(.int (7 : Int32)), (.int (7 : Int32))])
  refine own_st (fun t k => XS.icmpYes X8.here hx rfl (pc0 := 20) (pc' := 43) rfl (hb hby d3_20) rfl (by decide) (by decide) (by decide) k) ?_
  show OG p e _ s below _ T8 (mkF m 43 #[.val (.ref a1), .val (.long (16000 : Int64)), .second, .val (.int (7 : Int32))] [])
  refine own_st (fun t k => XS.lloadN X8.here hx rfl (hb hby d3_43) rfl k) ?_
  show OG p e _ s below _ T8 (mkF m 44 #[.val (.ref a1), .val (.long (16000 : Int64)), .second, .val (.int (7 : Int32))] [(.long (16000 : Int64))])
  refine own_st (fun t k => X8.ldc2Long hx hown (mvT hZ (hw _ (List.mem_of_getElem? (i := 23) rfl))) (g := (mkF m 44 #[.val (.ref a1), .val (.long (16000 : Int64)), .second, .val (.int (7 : Int32))] [(.long (16000 : Int64))])) rfl (hb hby d3_44) _ k) ?_
  show OG p e _ s below _ T8 (mkF m 47 #[.val (.ref a1), .val (.long (16000 : Int64)), .second, .val (.int (7 : Int32))] [(.long (10000 : Int64)), (.long (16000 : Int64))])
  obtain ⟨_, _, ⟨T9, L9, k9, n9⟩, -, X9, ⟨Lc9, hQ9, l9, y9, z9⟩, st9⟩ := Jvm.LawKit.callS X8 hx (y := (⟨"java/lang/Math", "min", "(JJ)J"⟩ : MethodName)) hown (mvT hZ (hw _ (List.mem_of_getElem? (i := 24) rfl))) (mvT hZ (hw _ (List.mem_of_getElem? (i := 25) rfl))) (mvT hZ (hw _ (List.mem_of_getElem? (i := 26) rfl))) (mvT hZ (hw _ (List.mem_of_getElem? (i := 27) rfl))) (by decide) (backOf (W := 0) (rm := ({ frames := 0, cells := 0, slots := 0, locals := 0 } : Room)) (rm5 l Z a0 hw [] (16000 : Int64) (10000 : Int64) h0) hZ (hw _ (List.mem_of_getElem? (i := 27) rfl)) (hw _ (List.mem_of_getElem? (i := 26) rfl)) (by decide) (by decide)) (g := (mkF m 47 #[.val (.ref a1), .val (.long (16000 : Int64)), .second, .val (.int (7 : Int32))] [(.long (10000 : Int64)), (.long (16000 : Int64))])) rfl (by rw [hml]; rfl) (argsL := [(.long (16000 : Int64)), (.long (10000 : Int64))]) (rest := []) (lenOf pd__JJ_J rfl) rfl (by show 2 * 0 + _ ≤ _; exact Nat.le_of_eq rfl) (hb hby d3_47) (fun _ _ => ⟨rfl, e8, (by decide : 0 + 0 ≤ _), (by decide : 0 + 0 ≤ _)⟩)
  dsimp only [Pt.U, Pt.locs, Pt.cells, Pt.slots] at X9 l9 y9 z9 st9 hQ9
  subst l9 y9 z9
  obtain ⟨rfl, rfl, e9⟩ := hQ9
  refine own_st st9 ?_
  show OG p e _ s below _ T9 (mkF m 50 #[.val (.ref a1), .val (.long (16000 : Int64)), .second, .val (.int (7 : Int32))] [(.long (f5 (16000 : Int64) (10000 : Int64)))])
  exact own_retL X9 hx hret hlk (hb hby d3_50) (by decide) (by decide) ⟨congrArg (fun z => some (Value.long z)) (show f3_7  = (f5 (16000 : Int64) (10000 : Int64)) from (by rw [f3_7])).symm, rfl, e9⟩
def f3_8  : Int64 := (f5 (16000 : Int64) (10000 : Int64))
abbrev Q3_8 (Z : State) (a1 : Addr) (h0 : Heap)  : Option Value → Heap → List Loc → Prop := (fun v h L => v = some (.long f3_8) ∧ L = [] ∧ h = h0)
set_option maxRecDepth 65536 in
set_option maxHeartbeats 40000000 in
theorem rm3_8 (l : Launch) (Z : State) (a0 : Array Value) (hw : ∀ d ∈ tables_1, d.before a0 Z = true) (ws : List Jvm.Cond) (a1 : Addr) (h0 : Heap) (R0 : Fld Z h0 a1 "com/example/tidewire/tidewire/internal/Backoff" "attempts" "I" (.int (8 : Int32))) :
    OMet l Z (⟨"com/example/tidewire/tidewire/internal/Backoff", "delayMs", "()J"⟩ : MethodName) prog_2_method_2_code 4 (some .long) ws ({ frames := 1, cells := 0, slots := 0, locals := 15 } : Room) #[(.ref a1)] h0 (Q3_8 Z a1 h0) := by
  refine own_enter pn_3 ?_
  intro p e s m below meth c s₁ hx hby hml0 hown hret hlk hnm hZ X0 e0
  have hml : c.maxLocals = 4 := hml0
  refine own_cast (ef_3 m a1) ?_
  show OG p e ({ frames := 1, cells := 0, slots := 0, locals := 15 } : Room) s below (fun v h L => v = some (.long f3_8) ∧ L = [] ∧ h = h0) s₁ (mkF m 0 #[.val (.ref a1), .unset, .unset, .unset] [])
  refine own_st (fun t k => XS.aloadN X0.here hx rfl (hb hby d3_0) rfl rfl k) ?_
  show OG p e _ s below _ s₁ (mkF m 1 #[.val (.ref a1), .unset, .unset, .unset] [(.ref a1)])
  obtain ⟨T1, X1, e1, st1⟩ := getF X0 hx hZ hown (host := "") (Or.inl (hw _ (List.mem_of_getElem? (i := 14) rfl))) Via.refl e0 R0 (g := (mkF m 1 #[.val (.ref a1), .unset, .unset, .unset] [(.ref a1)])) rfl rfl (hb hby d3_1)
  refine own_st st1 ?_
  show OG p e _ s below _ T1 (mkF m 4 #[.val (.ref a1), .unset, .unset, .unset] [(.int (8 : Int32))])
  refine own_st (fun t k => XS.ifYes X1.here hx rfl (pc0 := 4) (pc' := 9) rfl (hb hby d3_4) rfl (by decide) (by decide) (by decide) k) ?_
  show OG p e _ s below _ T1 (mkF m 9 #[.val (.ref a1), .unset, .unset, .unset] [])
  refine own_st (fun t k => X1.ldc2Long hx hown (mvT hZ (hw _ (List.mem_of_getElem? (i := 22) rfl))) (g := (mkF m 9 #[.val (.ref a1), .unset, .unset, .unset] [])) rfl (hb hby d3_9) _ k) ?_
  show OG p e _ s below _ T1 (mkF m 12 #[.val (.ref a1), .unset, .unset, .unset] [(.long (250 : Int64))])
  refine own_st (fun t k => XS.lstoreN X1.here hx rfl (hb hby d3_12) rfl (l' := #[.val (.ref a1), .val (.long (250 : Int64)), .second, .unset]) rfl k) ?_
  show OG p e _ s below _ T1 (mkF m 13 #[.val (.ref a1), .val (.long (250 : Int64)), .second, .unset] [])
  refine own_st (fun t k => XS.iconst X1.here hx rfl (hb hby d3_13) k) ?_
  show OG p e _ s below _ T1 (mkF m 14 #[.val (.ref a1), .val (.long (250 : Int64)), .second, .unset] [(.int (1 : Int32))])
  refine own_st (fun t k => XS.istoreN X1.here hx rfl (hb hby d3_14) rfl (l' := #[.val (.ref a1), .val (.long (250 : Int64)), .second, .val (.int (1 : Int32))]) rfl k) ?_
  show OG p e _ s below _ T1 (mkF m 15 #[.val (.ref a1), .val (.long (250 : Int64)), .second, .val (.int (1 : Int32))] [])
  refine own_st (fun t k => XS.iloadN X1.here hx rfl (hb hby d3_15) rfl k) ?_
  show OG p e _ s below _ T1 (mkF m 16 #[.val (.ref a1), .val (.long (250 : Int64)), .second, .val (.int (1 : Int32))] [(.int (1 : Int32))])
  refine own_st (fun t k => XS.aloadN X1.here hx rfl (hb hby d3_16) rfl rfl k) ?_
  show OG p e _ s below _ T1 (mkF m 17 #[.val (.ref a1), .val (.long (250 : Int64)), .second, .val (.int (1 : Int32))] [(.ref a1), (.int (1 : Int32))])
  obtain ⟨T2, X2, e2, st2⟩ := getF X1 hx hZ hown (host := "") (Or.inl (hw _ (List.mem_of_getElem? (i := 14) rfl))) Via.refl e1 R0 (g := (mkF m 17 #[.val (.ref a1), .val (.long (250 : Int64)), .second, .val (.int (1 : Int32))] [(.ref a1), (.int (1 : Int32))])) rfl rfl (hb hby d3_17)
  refine own_st st2 ?_
  show OG p e _ s below _ T2 (mkF m 20 #[.val (.ref a1), .val (.long (250 : Int64)), .second, .val (.int (1 : Int32))] [(.int (8 : Int32)), (.int (1 : Int32))])
  refine own_st (fun t k => XS.icmpNo X2.here hx rfl (hb hby d3_20) rfl (by decide) k) ?_
  show OG p e _ s below _ T2 (mkF m 23 #[.val (.ref a1), .val (.long (250 : Int64)), .second, .val (.int (1 : Int32))] [])
  refine own_st (fun t k => XS.lloadN X2.here hx rfl (hb hby d3_23) rfl k) ?_
  show OG p e _ s below _ T2 (mkF m 24 #[.val (.ref a1), .val (.long (250 : Int64)), .second, .val (.int (1 : Int32))] [(.long (250 : Int64))])
  refine own_st (fun t k => X2.ldc2Long hx hown (mvT hZ (hw _ (List.mem_of_getElem? (i := 23) rfl))) (g := (mkF m 24 #[.val (.ref a1), .val (.long (250 : Int64)), .second, .val (.int (1 : Int32))] [(.long (250 : Int64))])) rfl (hb hby d3_24) _ k) ?_
  show OG p e _ s below _ T2 (mkF m 27 #[.val (.ref a1), .val (.long (250 : Int64)), .second, .val (.int (1 : Int32))] [(.long (10000 : Int64)), (.long (250 : Int64))])
  refine own_st (fun t k => XS.lcmp X2.here hx rfl (hb hby d3_27) rfl k) ?_
  show OG p e _ s below _ T2 (mkF m 28 #[.val (.ref a1), .val (.long (250 : Int64)), .second, .val (.int (1 : Int32))] [(.int (lcmpW (250 : Int64) (10000 : Int64)))])
  refine own_st (fun t k => XS.ifNo X2.here hx rfl (hb hby d3_28) rfl (by decide) k) ?_
  show OG p e _ s below _ T2 (mkF m 31 #[.val (.ref a1), .val (.long (250 : Int64)), .second, .val (.int (1 : Int32))] [])
  refine own_st (fun t k => XS.lloadN X2.here hx rfl (hb hby d3_31) rfl k) ?_
  show OG p e _ s below _ T2 (mkF m 32 #[.val (.ref a1), .val (.long (250 : Int64)), .second, .val (.int (1 : Int32))] [(.long (250 : Int64))])
  refine own_st (fun t k => X2.ldc2Long hx hown (mvT hZ (hw _ (List.mem_of_getElem? (i := 35) rfl))) (g := (mkF m 32 #[.val (.ref a1), .val (.long (250 : Int64)), .second, .val (.int (1 : Int32))] [(.long (250 : Int64))])) rfl (hb hby d3_32) _ k) ?_
  show OG p e _ s below _ T2 (mkF m 35 #[.val (.ref a1), .val (.long (250 : Int64)), .second, .val (.int (1 : Int32))] [(.long (2 : Int64)), (.long (250 : Int64))])
  refine own_st (fun t k => XS.lmul X2.here hx rfl (hb hby d3_35) rfl k) ?_
  show OG p e _ s below _ T2 (mkF m 36 #[.val (.ref a1), .val (.long (250 : Int64)), .second, .val (.int (1 : Int32))] [(.long (500 : Int64))])
  refine own_st (fun t k => XS.lstoreN X2.here hx rfl (hb hby d3_36) rfl (l' := #[.val (.ref a1), .val (.long (500 : Int64)), .second, .val (.int (1 : Int32))]) rfl k) ?_
  show OG p e _ s below _ T2 (mkF m 37 #[.val (.ref a1), .val (.long (500 : Int64)), .second, .val (.int (1 : Int32))] [])
  refine own_st (fun t k => XS.iinc X2.here hx rfl (hb hby d3_37) rfl (l' := #[.val (.ref a1), .val (.long (500 : Int64)), .second, .val (.int ((1 : Int32) + (1 : Int32)))]) rfl k) ?_
  show OG p e _ s below _ T2 (mkF m 40 #[.val (.ref a1), .val (.long (500 : Int64)), .second, .val (.int (2 : Int32))] [])
  refine own_st (fun t k => XS.goto X2.here hx rfl (pc0 := 40) (pc' := 15) rfl (hb hby d3_40) (by decide) (by decide) k) ?_
  show OG p e _ s below _ T2 (mkF m 15 #[.val (.ref a1), .val (.long (500 : Int64)), .second, .val (.int (2 : Int32))] [])
  refine own_st (fun t k => XS.iloadN X2.here hx rfl (hb hby d3_15) rfl k) ?_
  show OG p e _ s below _ T2 (mkF m 16 #[.val (.ref a1), .val (.long (500 : Int64)), .second, .val (.int (2 : Int32))] [(.int (2 : Int32))])
  refine own_st (fun t k => XS.aloadN X2.here hx rfl (hb hby d3_16) rfl rfl k) ?_
  show OG p e _ s below _ T2 (mkF m 17 #[.val (.ref a1), .val (.long (500 : Int64)), .second, .val (.int (2 : Int32))] [(.ref a1), (.int (2 : Int32))])
  obtain ⟨T3, X3, e3, st3⟩ := getF X2 hx hZ hown (host := "") (Or.inl (hw _ (List.mem_of_getElem? (i := 14) rfl))) Via.refl e2 R0 (g := (mkF m 17 #[.val (.ref a1), .val (.long (500 : Int64)), .second, .val (.int (2 : Int32))] [(.ref a1), (.int (2 : Int32))])) rfl rfl (hb hby d3_17)
  refine own_st st3 ?_
  show OG p e _ s below _ T3 (mkF m 20 #[.val (.ref a1), .val (.long (500 : Int64)), .second, .val (.int (2 : Int32))] [(.int (8 : Int32)), (.int (2 : Int32))])
  refine own_st (fun t k => XS.icmpNo X3.here hx rfl (hb hby d3_20) rfl (by decide) k) ?_
  show OG p e _ s below _ T3 (mkF m 23 #[.val (.ref a1), .val (.long (500 : Int64)), .second, .val (.int (2 : Int32))] [])
  refine own_st (fun t k => XS.lloadN X3.here hx rfl (hb hby d3_23) rfl k) ?_
  show OG p e _ s below _ T3 (mkF m 24 #[.val (.ref a1), .val (.long (500 : Int64)), .second, .val (.int (2 : Int32))] [(.long (500 : Int64))])
  refine own_st (fun t k => X3.ldc2Long hx hown (mvT hZ (hw _ (List.mem_of_getElem? (i := 23) rfl))) (g := (mkF m 24 #[.val (.ref a1), .val (.long (500 : Int64)), .second, .val (.int (2 : Int32))] [(.long (500 : Int64))])) rfl (hb hby d3_24) _ k) ?_
  show OG p e _ s below _ T3 (mkF m 27 #[.val (.ref a1), .val (.long (500 : Int64)), .second, .val (.int (2 : Int32))] [(.long (10000 : Int64)), (.long (500 : Int64))])
  refine own_st (fun t k => XS.lcmp X3.here hx rfl (hb hby d3_27) rfl k) ?_
  show OG p e _ s below _ T3 (mkF m 28 #[.val (.ref a1), .val (.long (500 : Int64)), .second, .val (.int (2 : Int32))] [(.int (lcmpW (500 : Int64) (10000 : Int64)))])
  refine own_st (fun t k => XS.ifNo X3.here hx rfl (hb hby d3_28) rfl (by decide) k) ?_
  show OG p e _ s below _ T3 (mkF m 31 #[.val (.ref a1), .val (.long (500 : Int64)), .second, .val (.int (2 : Int32))] [])
  refine own_st (fun t k => XS.lloadN X3.here hx rfl (hb hby d3_31) rfl k) ?_
  show OG p e _ s below _ T3 (mkF m 32 #[.val (.ref a1), .val (.long (500 : Int64)), .second, .val (.int (2 : Int32))] [(.long (500 : Int64))])
  refine own_st (fun t k => X3.ldc2Long hx hown (mvT hZ (hw _ (List.mem_of_getElem? (i := 35) rfl))) (g := (mkF m 32 #[.val (.ref a1), .val (.long (500 : Int64)), .second, .val (.int (2 : Int32))] [(.long (500 : Int64))])) rfl (hb hby d3_32) _ k) ?_
  show OG p e _ s below _ T3 (mkF m 35 #[.val (.ref a1), .val (.long (500 : Int64)), .second, .val (.int (2 : Int32))] [(.long (2 : Int64)), (.long (500 : Int64))])
  refine own_st (fun t k => XS.lmul X3.here hx rfl (hb hby d3_35) rfl k) ?_
  show OG p e _ s below _ T3 (mkF m 36 #[.val (.ref a1), .val (.long (500 : Int64)), .second, .val (.int (2 : Int32))] [(.long (1000 : Int64))])
  refine own_st (fun t k => XS.lstoreN X3.here hx rfl (hb hby d3_36) rfl (l' := #[.val (.ref a1), .val (.long (1000 : Int64)), .second, .val (.int (2 : Int32))]) rfl k) ?_
  show OG p e _ s below _ T3 (mkF m 37 #[.val (.ref a1), .val (.long (1000 : Int64)), .second, .val (.int (2 : Int32))] [])
  refine own_st (fun t k => XS.iinc X3.here hx rfl (hb hby d3_37) rfl (l' := #[.val (.ref a1), .val (.long (1000 : Int64)), .second, .val (.int ((2 : Int32) + (1 : Int32)))]) rfl k) ?_
  show OG p e _ s below _ T3 (mkF m 40 #[.val (.ref a1), .val (.long (1000 : Int64)), .second, .val (.int (3 : Int32))] [])
  refine own_st (fun t k => XS.goto X3.here hx rfl (pc0 := 40) (pc' := 15) rfl (hb hby d3_40) (by decide) (by decide) k) ?_
  show OG p e _ s below _ T3 (mkF m 15 #[.val (.ref a1), .val (.long (1000 : Int64)), .second, .val (.int (3 : Int32))] [])
  refine own_st (fun t k => XS.iloadN X3.here hx rfl (hb hby d3_15) rfl k) ?_
  show OG p e _ s below _ T3 (mkF m 16 #[.val (.ref a1), .val (.long (1000 : Int64)), .second, .val (.int (3 : Int32))] [(.int (3 : Int32))])
  refine own_st (fun t k => XS.aloadN X3.here hx rfl (hb hby d3_16) rfl rfl k) ?_
  show OG p e _ s below _ T3 (mkF m 17 #[.val (.ref a1), .val (.long (1000 : Int64)), .second, .val (.int (3 : Int32))] [(.ref a1), (.int (3 : Int32))])
  obtain ⟨T4, X4, e4, st4⟩ := getF X3 hx hZ hown (host := "") (Or.inl (hw _ (List.mem_of_getElem? (i := 14) rfl))) Via.refl e3 R0 (g := (mkF m 17 #[.val (.ref a1), .val (.long (1000 : Int64)), .second, .val (.int (3 : Int32))] [(.ref a1), (.int (3 : Int32))])) rfl rfl (hb hby d3_17)
  refine own_st st4 ?_
  show OG p e _ s below _ T4 (mkF m 20 #[.val (.ref a1), .val (.long (1000 : Int64)), .second, .val (.int (3 : Int32))] [(.int (8 : Int32)), (.int (3 : Int32))])
  refine own_st (fun t k => XS.icmpNo X4.here hx rfl (hb hby d3_20) rfl (by decide) k) ?_
  show OG p e _ s below _ T4 (mkF m 23 #[.val (.ref a1), .val (.long (1000 : Int64)), .second, .val (.int (3 : Int32))] [])
  refine own_st (fun t k => XS.lloadN X4.here hx rfl (hb hby d3_23) rfl k) ?_
  show OG p e _ s below _ T4 (mkF m 24 #[.val (.ref a1), .val (.long (1000 : Int64)), .second, .val (.int (3 : Int32))] [(.long (1000 : Int64))])
  refine own_st (fun t k => X4.ldc2Long hx hown (mvT hZ (hw _ (List.mem_of_getElem? (i := 23) rfl))) (g := (mkF m 24 #[.val (.ref a1), .val (.long (1000 : Int64)), .second, .val (.int (3 : Int32))] [(.long (1000 : Int64))])) rfl (hb hby d3_24) _ k) ?_
  show OG p e _ s below _ T4 (mkF m 27 #[.val (.ref a1), .val (.long (1000 : Int64)), .second, .val (.int (3 : Int32))] [(.long (10000 : Int64)), (.long (1000 : Int64))])
  refine own_st (fun t k => XS.lcmp X4.here hx rfl (hb hby d3_27) rfl k) ?_
  show OG p e _ s below _ T4 (mkF m 28 #[.val (.ref a1), .val (.long (1000 : Int64)), .second, .val (.int (3 : Int32))] [(.int (lcmpW (1000 : Int64) (10000 : Int64)))])
  refine own_st (fun t k => XS.ifNo X4.here hx rfl (hb hby d3_28) rfl (by decide) k) ?_
  show OG p e _ s below _ T4 (mkF m 31 #[.val (.ref a1), .val (.long (1000 : Int64)), .second, .val (.int (3 : Int32))] [])
  refine own_st (fun t k => XS.lloadN X4.here hx rfl (hb hby d3_31) rfl k) ?_
  show OG p e _ s below _ T4 (mkF m 32 #[.val (.ref a1), .val (.long (1000 : Int64)), .second, .val (.int (3 : Int32))] [(.long (1000 : Int64))])
  refine own_st (fun t k => X4.ldc2Long hx hown (mvT hZ (hw _ (List.mem_of_getElem? (i := 35) rfl))) (g := (mkF m 32 #[.val (.ref a1), .val (.long (1000 : Int64)), .second, .val (.int (3 : Int32))] [(.long (1000 : Int64))])) rfl (hb hby d3_32) _ k) ?_
  show OG p e _ s below _ T4 (mkF m 35 #[.val (.ref a1), .val (.long (1000 : Int64)), .second, .val (.int (3 : Int32))] [(.long (2 : Int64)), (.long (1000 : Int64))])
  refine own_st (fun t k => XS.lmul X4.here hx rfl (hb hby d3_35) rfl k) ?_
  show OG p e _ s below _ T4 (mkF m 36 #[.val (.ref a1), .val (.long (1000 : Int64)), .second, .val (.int (3 : Int32))] [(.long (2000 : Int64))])
  refine own_st (fun t k => XS.lstoreN X4.here hx rfl (hb hby d3_36) rfl (l' := #[.val (.ref a1), .val (.long (2000 : Int64)), .second, .val (.int (3 : Int32))]) rfl k) ?_
  show OG p e _ s below _ T4 (mkF m 37 #[.val (.ref a1), .val (.long (2000 : Int64)), .second, .val (.int (3 : Int32))] [])
  refine own_st (fun t k => XS.iinc X4.here hx rfl (hb hby d3_37) rfl (l' := #[.val (.ref a1), .val (.long (2000 : Int64)), .second, .val (.int ((3 : Int32) + (1 : Int32)))]) rfl k) ?_
  show OG p e _ s below _ T4 (mkF m 40 #[.val (.ref a1), .val (.long (2000 : Int64)), .second, .val (.int (4 : Int32))] [])
  refine own_st (fun t k => XS.goto X4.here hx rfl (pc0 := 40) (pc' := 15) rfl (hb hby d3_40) (by decide) (by decide) k) ?_
  show OG p e _ s below _ T4 (mkF m 15 #[.val (.ref a1), .val (.long (2000 : Int64)), .second, .val (.int (4 : Int32))] [])
  refine own_st (fun t k => XS.iloadN X4.here hx rfl (hb hby d3_15) rfl k) ?_
  show OG p e _ s below _ T4 (mkF m 16 #[.val (.ref a1), .val (.long (2000 : Int64)), .second, .val (.int (4 : Int32))] [(.int (4 : Int32))])
  refine own_st (fun t k => XS.aloadN X4.here hx rfl (hb hby d3_16) rfl rfl k) ?_
  show OG p e _ s below _ T4 (mkF m 17 #[.val (.ref a1), .val (.long (2000 : Int64)), .second, .val (.int (4 : Int32))] [(.ref a1), (.int (4 : Int32))])
  obtain ⟨T5, X5, e5, st5⟩ := getF X4 hx hZ hown (host := "") (Or.inl (hw _ (List.mem_of_getElem? (i := 14) rfl))) Via.refl e4 R0 (g := (mkF m 17 #[.val (.ref a1), .val (.long (2000 : Int64)), .second, .val (.int (4 : Int32))] [(.ref a1), (.int (4 : Int32))])) rfl rfl (hb hby d3_17)
  refine own_st st5 ?_
  show OG p e _ s below _ T5 (mkF m 20 #[.val (.ref a1), .val (.long (2000 : Int64)), .second, .val (.int (4 : Int32))] [(.int (8 : Int32)), (.int (4 : Int32))])
  refine own_st (fun t k => XS.icmpNo X5.here hx rfl (hb hby d3_20) rfl (by decide) k) ?_
  show OG p e _ s below _ T5 (mkF m 23 #[.val (.ref a1), .val (.long (2000 : Int64)), .second, .val (.int (4 : Int32))] [])
  refine own_st (fun t k => XS.lloadN X5.here hx rfl (hb hby d3_23) rfl k) ?_
  show OG p e _ s below _ T5 (mkF m 24 #[.val (.ref a1), .val (.long (2000 : Int64)), .second, .val (.int (4 : Int32))] [(.long (2000 : Int64))])
  refine own_st (fun t k => X5.ldc2Long hx hown (mvT hZ (hw _ (List.mem_of_getElem? (i := 23) rfl))) (g := (mkF m 24 #[.val (.ref a1), .val (.long (2000 : Int64)), .second, .val (.int (4 : Int32))] [(.long (2000 : Int64))])) rfl (hb hby d3_24) _ k) ?_
  show OG p e _ s below _ T5 (mkF m 27 #[.val (.ref a1), .val (.long (2000 : Int64)), .second, .val (.int (4 : Int32))] [(.long (10000 : Int64)), (.long (2000 : Int64))])
  refine own_st (fun t k => XS.lcmp X5.here hx rfl (hb hby d3_27) rfl k) ?_
  show OG p e _ s below _ T5 (mkF m 28 #[.val (.ref a1), .val (.long (2000 : Int64)), .second, .val (.int (4 : Int32))] [(.int (lcmpW (2000 : Int64) (10000 : Int64)))])
  refine own_st (fun t k => XS.ifNo X5.here hx rfl (hb hby d3_28) rfl (by decide) k) ?_
  show OG p e _ s below _ T5 (mkF m 31 #[.val (.ref a1), .val (.long (2000 : Int64)), .second, .val (.int (4 : Int32))] [])
  refine own_st (fun t k => XS.lloadN X5.here hx rfl (hb hby d3_31) rfl k) ?_
  show OG p e _ s below _ T5 (mkF m 32 #[.val (.ref a1), .val (.long (2000 : Int64)), .second, .val (.int (4 : Int32))] [(.long (2000 : Int64))])
  refine own_st (fun t k => X5.ldc2Long hx hown (mvT hZ (hw _ (List.mem_of_getElem? (i := 35) rfl))) (g := (mkF m 32 #[.val (.ref a1), .val (.long (2000 : Int64)), .second, .val (.int (4 : Int32))] [(.long (2000 : Int64))])) rfl (hb hby d3_32) _ k) ?_
  show OG p e _ s below _ T5 (mkF m 35 #[.val (.ref a1), .val (.long (2000 : Int64)), .second, .val (.int (4 : Int32))] [(.long (2 : Int64)), (.long (2000 : Int64))])
  refine own_st (fun t k => XS.lmul X5.here hx rfl (hb hby d3_35) rfl k) ?_
  show OG p e _ s below _ T5 (mkF m 36 #[.val (.ref a1), .val (.long (2000 : Int64)), .second, .val (.int (4 : Int32))] [(.long (4000 : Int64))])
  refine own_st (fun t k => XS.lstoreN X5.here hx rfl (hb hby d3_36) rfl (l' := #[.val (.ref a1), .val (.long (4000 : Int64)), .second, .val (.int (4 : Int32))]) rfl k) ?_
  show OG p e _ s below _ T5 (mkF m 37 #[.val (.ref a1), .val (.long (4000 : Int64)), .second, .val (.int (4 : Int32))] [])
  refine own_st (fun t k => XS.iinc X5.here hx rfl (hb hby d3_37) rfl (l' := #[.val (.ref a1), .val (.long (4000 : Int64)), .second, .val (.int ((4 : Int32) + (1 : Int32)))]) rfl k) ?_
  show OG p e _ s below _ T5 (mkF m 40 #[.val (.ref a1), .val (.long (4000 : Int64)), .second, .val (.int (5 : Int32))] [])
  refine own_st (fun t k => XS.goto X5.here hx rfl (pc0 := 40) (pc' := 15) rfl (hb hby d3_40) (by decide) (by decide) k) ?_
  show OG p e _ s below _ T5 (mkF m 15 #[.val (.ref a1), .val (.long (4000 : Int64)), .second, .val (.int (5 : Int32))] [])
  refine own_st (fun t k => XS.iloadN X5.here hx rfl (hb hby d3_15) rfl k) ?_
  show OG p e _ s below _ T5 (mkF m 16 #[.val (.ref a1), .val (.long (4000 : Int64)), .second, .val (.int (5 : Int32))] [(.int (5 : Int32))])
  refine own_st (fun t k => XS.aloadN X5.here hx rfl (hb hby d3_16) rfl rfl k) ?_
  show OG p e _ s below _ T5 (mkF m 17 #[.val (.ref a1), .val (.long (4000 : Int64)), .second, .val (.int (5 : Int32))] [(.ref a1), (.int (5 : Int32))])
  obtain ⟨T6, X6, e6, st6⟩ := getF X5 hx hZ hown (host := "") (Or.inl (hw _ (List.mem_of_getElem? (i := 14) rfl))) Via.refl e5 R0 (g := (mkF m 17 #[.val (.ref a1), .val (.long (4000 : Int64)), .second, .val (.int (5 : Int32))] [(.ref a1), (.int (5 : Int32))])) rfl rfl (hb hby d3_17)
  refine own_st st6 ?_
  show OG p e _ s below _ T6 (mkF m 20 #[.val (.ref a1), .val (.long (4000 : Int64)), .second, .val (.int (5 : Int32))] [(.int (8 : Int32)), (.int (5 : Int32))])
  refine own_st (fun t k => XS.icmpNo X6.here hx rfl (hb hby d3_20) rfl (by decide) k) ?_
  show OG p e _ s below _ T6 (mkF m 23 #[.val (.ref a1), .val (.long (4000 : Int64)), .second, .val (.int (5 : Int32))] [])
  refine own_st (fun t k => XS.lloadN X6.here hx rfl (hb hby d3_23) rfl k) ?_
  show OG p e _ s below _ T6 (mkF m 24 #[.val (.ref a1), .val (.long (4000 : Int64)), .second, .val (.int (5 : Int32))] [(.long (4000 : Int64))])
  refine own_st (fun t k => X6.ldc2Long hx hown (mvT hZ (hw _ (List.mem_of_getElem? (i := 23) rfl))) (g := (mkF m 24 #[.val (.ref a1), .val (.long (4000 : Int64)), .second, .val (.int (5 : Int32))] [(.long (4000 : Int64))])) rfl (hb hby d3_24) _ k) ?_
  show OG p e _ s below _ T6 (mkF m 27 #[.val (.ref a1), .val (.long (4000 : Int64)), .second, .val (.int (5 : Int32))] [(.long (10000 : Int64)), (.long (4000 : Int64))])
  refine own_st (fun t k => XS.lcmp X6.here hx rfl (hb hby d3_27) rfl k) ?_
  show OG p e _ s below _ T6 (mkF m 28 #[.val (.ref a1), .val (.long (4000 : Int64)), .second, .val (.int (5 : Int32))] [(.int (lcmpW (4000 : Int64) (10000 : Int64)))])
  refine own_st (fun t k => XS.ifNo X6.here hx rfl (hb hby d3_28) rfl (by decide) k) ?_
  show OG p e _ s below _ T6 (mkF m 31 #[.val (.ref a1), .val (.long (4000 : Int64)), .second, .val (.int (5 : Int32))] [])
  refine own_st (fun t k => XS.lloadN X6.here hx rfl (hb hby d3_31) rfl k) ?_
  show OG p e _ s below _ T6 (mkF m 32 #[.val (.ref a1), .val (.long (4000 : Int64)), .second, .val (.int (5 : Int32))] [(.long (4000 : Int64))])
  refine own_st (fun t k => X6.ldc2Long hx hown (mvT hZ (hw _ (List.mem_of_getElem? (i := 35) rfl))) (g := (mkF m 32 #[.val (.ref a1), .val (.long (4000 : Int64)), .second, .val (.int (5 : Int32))] [(.long (4000 : Int64))])) rfl (hb hby d3_32) _ k) ?_
  show OG p e _ s below _ T6 (mkF m 35 #[.val (.ref a1), .val (.long (4000 : Int64)), .second, .val (.int (5 : Int32))] [(.long (2 : Int64)), (.long (4000 : Int64))])
  refine own_st (fun t k => XS.lmul X6.here hx rfl (hb hby d3_35) rfl k) ?_
  show OG p e _ s below _ T6 (mkF m 36 #[.val (.ref a1), .val (.long (4000 : Int64)), .second, .val (.int (5 : Int32))] [(.long (8000 : Int64))])
  refine own_st (fun t k => XS.lstoreN X6.here hx rfl (hb hby d3_36) rfl (l' := #[.val (.ref a1), .val (.long (8000 : Int64)), .second, .val (.int (5 : Int32))]) rfl k) ?_
  show OG p e _ s below _ T6 (mkF m 37 #[.val (.ref a1), .val (.long (8000 : Int64)), .second, .val (.int (5 : Int32))] [])
  refine own_st (fun t k => XS.iinc X6.here hx rfl (hb hby d3_37) rfl (l' := #[.val (.ref a1), .val (.long (8000 : Int64)), .second, .val (.int ((5 : Int32) + (1 : Int32)))]) rfl k) ?_
  show OG p e _ s below _ T6 (mkF m 40 #[.val (.ref a1), .val (.long (8000 : Int64)), .second, .val (.int (6 : Int32))] [])
  refine own_st (fun t k => XS.goto X6.here hx rfl (pc0 := 40) (pc' := 15) rfl (hb hby d3_40) (by decide) (by decide) k) ?_
  show OG p e _ s below _ T6 (mkF m 15 #[.val (.ref a1), .val (.long (8000 : Int64)), .second, .val (.int (6 : Int32))] [])
  refine own_st (fun t k => XS.iloadN X6.here hx rfl (hb hby d3_15) rfl k) ?_
  show OG p e _ s below _ T6 (mkF m 16 #[.val (.ref a1), .val (.long (8000 : Int64)), .second, .val (.int (6 : Int32))] [(.int (6 : Int32))])
  refine own_st (fun t k => XS.aloadN X6.here hx rfl (hb hby d3_16) rfl rfl k) ?_
  show OG p e _ s below _ T6 (mkF m 17 #[.val (.ref a1), .val (.long (8000 : Int64)), .second, .val (.int (6 : Int32))] [(.ref a1), (.int (6 : Int32))])
  obtain ⟨T7, X7, e7, st7⟩ := getF X6 hx hZ hown (host := "") (Or.inl (hw _ (List.mem_of_getElem? (i := 14) rfl))) Via.refl e6 R0 (g := (mkF m 17 #[.val (.ref a1), .val (.long (8000 : Int64)), .second, .val (.int (6 : Int32))] [(.ref a1), (.int (6 : Int32))])) rfl rfl (hb hby d3_17)
  refine own_st st7 ?_
  show OG p e _ s below _ T7 (mkF m 20 #[.val (.ref a1), .val (.long (8000 : Int64)), .second, .val (.int (6 : Int32))] [(.int (8 : Int32)), (.int (6 : Int32))])
  refine own_st (fun t k => XS.icmpNo X7.here hx rfl (hb hby d3_20) rfl (by decide) k) ?_
  show OG p e _ s below _ T7 (mkF m 23 #[.val (.ref a1), .val (.long (8000 : Int64)), .second, .val (.int (6 : Int32))] [])
  refine own_st (fun t k => XS.lloadN X7.here hx rfl (hb hby d3_23) rfl k) ?_
  show OG p e _ s below _ T7 (mkF m 24 #[.val (.ref a1), .val (.long (8000 : Int64)), .second, .val (.int (6 : Int32))] [(.long (8000 : Int64))])
  refine own_st (fun t k => X7.ldc2Long hx hown (mvT hZ (hw _ (List.mem_of_getElem? (i := 23) rfl))) (g := (mkF m 24 #[.val (.ref a1), .val (.long (8000 : Int64)), .second, .val (.int (6 : Int32))] [(.long (8000 : Int64))])) rfl (hb hby d3_24) _ k) ?_
  show OG p e _ s below _ T7 (mkF m 27 #[.val (.ref a1), .val (.long (8000 : Int64)), .second, .val (.int (6 : Int32))] [(.long (10000 : Int64)), (.long (8000 : Int64))])
  refine own_st (fun t k => XS.lcmp X7.here hx rfl (hb hby d3_27) rfl k) ?_
  show OG p e _ s below _ T7 (mkF m 28 #[.val (.ref a1), .val (.long (8000 : Int64)), .second, .val (.int (6 : Int32))] [(.int (lcmpW (8000 : Int64) (10000 : Int64)))])
  refine own_st (fun t k => XS.ifNo X7.here hx rfl (hb hby d3_28) rfl (by decide) k) ?_
  show OG p e _ s below _ T7 (mkF m 31 #[.val (.ref a1), .val (.long (8000 : Int64)), .second, .val (.int (6 : Int32))] [])
  refine own_st (fun t k => XS.lloadN X7.here hx rfl (hb hby d3_31) rfl k) ?_
  show OG p e _ s below _ T7 (mkF m 32 #[.val (.ref a1), .val (.long (8000 : Int64)), .second, .val (.int (6 : Int32))] [(.long (8000 : Int64))])
  refine own_st (fun t k => X7.ldc2Long hx hown (mvT hZ (hw _ (List.mem_of_getElem? (i := 35) rfl))) (g := (mkF m 32 #[.val (.ref a1), .val (.long (8000 : Int64)), .second, .val (.int (6 : Int32))] [(.long (8000 : Int64))])) rfl (hb hby d3_32) _ k) ?_
  show OG p e _ s below _ T7 (mkF m 35 #[.val (.ref a1), .val (.long (8000 : Int64)), .second, .val (.int (6 : Int32))] [(.long (2 : Int64)), (.long (8000 : Int64))])
  refine own_st (fun t k => XS.lmul X7.here hx rfl (hb hby d3_35) rfl k) ?_
  show OG p e _ s below _ T7 (mkF m 36 #[.val (.ref a1), .val (.long (8000 : Int64)), .second, .val (.int (6 : Int32))] [(.long (16000 : Int64))])
  refine own_st (fun t k => XS.lstoreN X7.here hx rfl (hb hby d3_36) rfl (l' := #[.val (.ref a1), .val (.long (16000 : Int64)), .second, .val (.int (6 : Int32))]) rfl k) ?_
  show OG p e _ s below _ T7 (mkF m 37 #[.val (.ref a1), .val (.long (16000 : Int64)), .second, .val (.int (6 : Int32))] [])
  refine own_st (fun t k => XS.iinc X7.here hx rfl (hb hby d3_37) rfl (l' := #[.val (.ref a1), .val (.long (16000 : Int64)), .second, .val (.int ((6 : Int32) + (1 : Int32)))]) rfl k) ?_
  show OG p e _ s below _ T7 (mkF m 40 #[.val (.ref a1), .val (.long (16000 : Int64)), .second, .val (.int (7 : Int32))] [])
  refine own_st (fun t k => XS.goto X7.here hx rfl (pc0 := 40) (pc' := 15) rfl (hb hby d3_40) (by decide) (by decide) k) ?_
  show OG p e _ s below _ T7 (mkF m 15 #[.val (.ref a1), .val (.long (16000 : Int64)), .second, .val (.int (7 : Int32))] [])
  refine own_st (fun t k => XS.iloadN X7.here hx rfl (hb hby d3_15) rfl k) ?_
  show OG p e _ s below _ T7 (mkF m 16 #[.val (.ref a1), .val (.long (16000 : Int64)), .second, .val (.int (7 : Int32))] [(.int (7 : Int32))])
  refine own_st (fun t k => XS.aloadN X7.here hx rfl (hb hby d3_16) rfl rfl k) ?_
  show OG p e _ s below _ T7 (mkF m 17 #[.val (.ref a1), .val (.long (16000 : Int64)), .second, .val (.int (7 : Int32))] [(.ref a1), (.int (7 : Int32))])
  obtain ⟨T8, X8, e8, st8⟩ := getF X7 hx hZ hown (host := "") (Or.inl (hw _ (List.mem_of_getElem? (i := 14) rfl))) Via.refl e7 R0 (g := (mkF m 17 #[.val (.ref a1), .val (.long (16000 : Int64)), .second, .val (.int (7 : Int32))] [(.ref a1), (.int (7 : Int32))])) rfl rfl (hb hby d3_17)
  refine own_st st8 ?_
  show OG p e _ s below _ T8 (mkF m 20 #[.val (.ref a1), .val (.long (16000 : Int64)), .second, .val (.int (7 : Int32))] [(.int (8 : Int32)), (.int (7 : Int32))])
  refine own_st (fun t k => XS.icmpNo X8.here hx rfl (hb hby d3_20) rfl (by decide) k) ?_
  show OG p e _ s below _ T8 (mkF m 23 #[.val (.ref a1), .val (.long (16000 : Int64)), .second, .val (.int (7 : Int32))] [])
  refine own_st (fun t k => XS.lloadN X8.here hx rfl (hb hby d3_23) rfl k) ?_
  show OG p e _ s below _ T8 (mkF m 24 #[.val (.ref a1), .val (.long (16000 : Int64)), .second, .val (.int (7 : Int32))] [(.long (16000 : Int64))])
  refine own_st (fun t k => X8.ldc2Long hx hown (mvT hZ (hw _ (List.mem_of_getElem? (i := 23) rfl))) (g := (mkF m 24 #[.val (.ref a1), .val (.long (16000 : Int64)), .second, .val (.int (7 : Int32))] [(.long (16000 : Int64))])) rfl (hb hby d3_24) _ k) ?_
  show OG p e _ s below _ T8 (mkF m 27 #[.val (.ref a1), .val (.long (16000 : Int64)), .second, .val (.int (7 : Int32))] [(.long (10000 : Int64)), (.long (16000 : Int64))])
  refine own_st (fun t k => XS.lcmp X8.here hx rfl (hb hby d3_27) rfl k) ?_
  show OG p e _ s below _ T8 (mkF m 28 #[.val (.ref a1), .val (.long (16000 : Int64)), .second, .val (.int (7 : Int32))] [(.int (lcmpW (16000 : Int64) (10000 : Int64)))])
  refine own_st (fun t k => XS.ifYes X8.here hx rfl (pc0 := 28) (pc' := 43) rfl (hb hby d3_28) rfl (by decide) (by decide) (by decide) k) ?_
  show OG p e _ s below _ T8 (mkF m 43 #[.val (.ref a1), .val (.long (16000 : Int64)), .second, .val (.int (7 : Int32))] [])
  refine own_st (fun t k => XS.lloadN X8.here hx rfl (hb hby d3_43) rfl k) ?_
  show OG p e _ s below _ T8 (mkF m 44 #[.val (.ref a1), .val (.long (16000 : Int64)), .second, .val (.int (7 : Int32))] [(.long (16000 : Int64))])
  refine own_st (fun t k => X8.ldc2Long hx hown (mvT hZ (hw _ (List.mem_of_getElem? (i := 23) rfl))) (g := (mkF m 44 #[.val (.ref a1), .val (.long (16000 : Int64)), .second, .val (.int (7 : Int32))] [(.long (16000 : Int64))])) rfl (hb hby d3_44) _ k) ?_
  show OG p e _ s below _ T8 (mkF m 47 #[.val (.ref a1), .val (.long (16000 : Int64)), .second, .val (.int (7 : Int32))] [(.long (10000 : Int64)), (.long (16000 : Int64))])
  obtain ⟨_, _, ⟨T9, L9, k9, n9⟩, -, X9, ⟨Lc9, hQ9, l9, y9, z9⟩, st9⟩ := Jvm.LawKit.callS X8 hx (y := (⟨"java/lang/Math", "min", "(JJ)J"⟩ : MethodName)) hown (mvT hZ (hw _ (List.mem_of_getElem? (i := 24) rfl))) (mvT hZ (hw _ (List.mem_of_getElem? (i := 25) rfl))) (mvT hZ (hw _ (List.mem_of_getElem? (i := 26) rfl))) (mvT hZ (hw _ (List.mem_of_getElem? (i := 27) rfl))) (by decide) (backOf (W := 0) (rm := ({ frames := 0, cells := 0, slots := 0, locals := 0 } : Room)) (rm5 l Z a0 hw [] (16000 : Int64) (10000 : Int64) h0) hZ (hw _ (List.mem_of_getElem? (i := 27) rfl)) (hw _ (List.mem_of_getElem? (i := 26) rfl)) (by decide) (by decide)) (g := (mkF m 47 #[.val (.ref a1), .val (.long (16000 : Int64)), .second, .val (.int (7 : Int32))] [(.long (10000 : Int64)), (.long (16000 : Int64))])) rfl (by rw [hml]; rfl) (argsL := [(.long (16000 : Int64)), (.long (10000 : Int64))]) (rest := []) (lenOf pd__JJ_J rfl) rfl (by show 2 * 0 + _ ≤ _; exact Nat.le_of_eq rfl) (hb hby d3_47) (fun _ _ => ⟨rfl, e8, (by decide : 0 + 0 ≤ _), (by decide : 0 + 0 ≤ _)⟩)
  dsimp only [Pt.U, Pt.locs, Pt.cells, Pt.slots] at X9 l9 y9 z9 st9 hQ9
  subst l9 y9 z9
  obtain ⟨rfl, rfl, e9⟩ := hQ9
  refine own_st st9 ?_
  show OG p e _ s below _ T9 (mkF m 50 #[.val (.ref a1), .val (.long (16000 : Int64)), .second, .val (.int (7 : Int32))] [(.long (f5 (16000 : Int64) (10000 : Int64)))])
  exact own_retL X9 hx hret hlk (hb hby d3_50) (by decide) (by decide) ⟨congrArg (fun z => some (Value.long z)) (show f3_8  = (f5 (16000 : Int64) (10000 : Int64)) from (by rw [f3_8])).symm, rfl, e9⟩
theorem d6_0 : decode method_2_code 0 = .ok (.iload_n 0, 1) := by decide +kernel
theorem d6_1 : decode method_2_code 1 = .ok (.ifCond .ne 5, 3) := by decide +kernel
theorem d6_4 : decode method_2_code 4 = .ok (.lconst 0, 1) := by decide +kernel
theorem d6_5 : decode method_2_code 5 = .ok (.lreturn, 1) := by decide +kernel
theorem d6_6 : decode method_2_code 6 = .ok (.ldc2_w 7, 3) := by decide +kernel
theorem d6_9 : decode method_2_code 9 = .ok (.iload_n 0, 1) := by decide +kernel
theorem d6_10 : decode method_2_code 10 = .ok (.iconst 1, 1) := by decide +kernel
theorem d6_11 : decode method_2_code 11 = .ok (.isub, 1) := by decide +kernel
theorem d6_12 : decode method_2_code 12 = .ok (.lshl, 1) := by decide +kernel
theorem d6_13 : decode method_2_code 13 = .ok (.lstore_n 1, 1) := by decide +kernel
theorem d6_14 : decode method_2_code 14 = .ok (.lload_n 1, 1) := by decide +kernel
theorem d6_15 : decode method_2_code 15 = .ok (.ldc2_w 9, 3) := by decide +kernel
theorem d6_18 : decode method_2_code 18 = .ok (.invokestatic 11, 3) := by decide +kernel
theorem d6_21 : decode method_2_code 21 = .ok (.lreturn, 1) := by decide +kernel
theorem pn_6 : plainFor (⟨"com/example/tidewire/tidewire/internal/BackoffAttemptedPinLaw", "ref", "(I)J"⟩ : MethodName) = true := by first | exact plainFor_of_name (by first | (simp [plainName, overriddenIn]; done) | decide +kernel) | decide +kernel
def g6_1 (p1 : Int32) : Int64 := ((250 : Int64) <<< ((p1 - (1 : Int32)) &&& 0x3f).toInt64)
def f6 (p1 : Int32) : Int64 := (if p1 = (0 : Int32) then (0 : Int64) else (f5 (g6_1 p1) (10000 : Int64)))
theorem ef_6 (m : MethodId) (p1 : Int32) : entryFrame m #[(.int p1)] 3 = (mkF m 0 #[.val (.int p1), .unset, .unset] []) := by first | (simp [entryFrame, mkF, argsToLocals, Value.category]; done) | rfl
abbrev Q6 (Z : State) (p1 : Int32) (h0 : Heap)  : Option Value → Heap → List Loc → Prop := (fun v h L => v = some (.long (f6 p1)) ∧ L = [] ∧ h = h0)
set_option maxRecDepth 65536 in
set_option maxHeartbeats 40000000 in
theorem rm6 (l : Launch) (Z : State) (a0 : Array Value) (hw : ∀ d ∈ tables_1, d.before a0 Z = true) (ws : List Jvm.Cond) (p1 : Int32) (h0 : Heap)  :
    OMet l Z (⟨"com/example/tidewire/tidewire/internal/BackoffAttemptedPinLaw", "ref", "(I)J"⟩ : MethodName) method_2_code 3 (some .long) ws ({ frames := 1, cells := 0, slots := 0, locals := 15 } : Room) #[(.int p1)] h0 (Q6 Z p1 h0) := by
  refine own_enter pn_6 ?_
  intro p e s m below meth c s₁ hx hby hml0 hown hret hlk hnm hZ X0 e0
  have hml : c.maxLocals = 3 := hml0
  refine own_cast (ef_6 m p1) ?_
  show OG p e ({ frames := 1, cells := 0, slots := 0, locals := 15 } : Room) s below (fun v h L => v = some (.long (f6 p1)) ∧ L = [] ∧ h = h0) s₁ (mkF m 0 #[.val (.int p1), .unset, .unset] [])
  refine own_st (fun t k => XS.iloadN X0.here hx rfl (hb hby d6_0) rfl k) ?_
  show OG p e _ s below _ s₁ (mkF m 1 #[.val (.int p1), .unset, .unset] [(.int p1)])
  by_cases c1 : p1 = (0 : Int32)
  · refine own_st (fun t k => XS.ifNo X0.here hx rfl (hb hby d6_1) rfl (own_if0 (teq c1).2) k) ?_
    show OG p e _ s below _ s₁ (mkF m 4 #[.val (.int p1), .unset, .unset] [])
    refine own_st (fun t k => XS.lconst X0.here hx rfl (hb hby d6_4) k) ?_
    show OG p e _ s below _ s₁ (mkF m 5 #[.val (.int p1), .unset, .unset] [(.long (0 : Int64))])
    exact own_retL X0 hx hret hlk (hb hby d6_5) (by decide) (by decide) ⟨congrArg (fun z => some (Value.long z)) (show f6 p1 = (0 : Int64) from (by rw [f6, if_pos c1])).symm, rfl, e0⟩
  · refine own_st (fun t k => XS.ifYes X0.here hx rfl (pc0 := 1) (pc' := 6) rfl (hb hby d6_1) rfl (own_if0 (feq c1).2) (by decide) (by decide) k) ?_
    show OG p e _ s below _ s₁ (mkF m 6 #[.val (.int p1), .unset, .unset] [])
    refine own_st (fun t k => X0.ldc2Long hx hown (mvT hZ (hw _ (List.mem_of_getElem? (i := 32) rfl))) (g := (mkF m 6 #[.val (.int p1), .unset, .unset] [])) rfl (hb hby d6_6) _ k) ?_
    show OG p e _ s below _ s₁ (mkF m 9 #[.val (.int p1), .unset, .unset] [(.long (250 : Int64))])
    refine own_st (fun t k => XS.iloadN X0.here hx rfl (hb hby d6_9) rfl k) ?_
    show OG p e _ s below _ s₁ (mkF m 10 #[.val (.int p1), .unset, .unset] [(.int p1), (.long (250 : Int64))])
    refine own_st (fun t k => XS.iconst X0.here hx rfl (hb hby d6_10) k) ?_
    show OG p e _ s below _ s₁ (mkF m 11 #[.val (.int p1), .unset, .unset] [(.int (1 : Int32)), (.int p1), (.long (250 : Int64))])
    refine own_st (fun t k => XS.isub X0.here hx rfl (hb hby d6_11) rfl k) ?_
    show OG p e _ s below _ s₁ (mkF m 12 #[.val (.int p1), .unset, .unset] [(.int (p1 - (1 : Int32))), (.long (250 : Int64))])
    refine own_st (fun t k => XS.lshl X0.here hx rfl (hb hby d6_12) rfl k) ?_
    show OG p e _ s below _ s₁ (mkF m 13 #[.val (.int p1), .unset, .unset] [(.long ((250 : Int64) <<< ((p1 - (1 : Int32)) &&& 0x3f).toInt64))])
    refine own_st (fun t k => XS.lstoreN X0.here hx rfl (hb hby d6_13) rfl (l' := #[.val (.int p1), .val (.long (g6_1 p1)), .second]) rfl k) ?_
    show OG p e _ s below _ s₁ (mkF m 14 #[.val (.int p1), .val (.long (g6_1 p1)), .second] [])
    refine own_st (fun t k => XS.lloadN X0.here hx rfl (hb hby d6_14) rfl k) ?_
    show OG p e _ s below _ s₁ (mkF m 15 #[.val (.int p1), .val (.long (g6_1 p1)), .second] [(.long (g6_1 p1))])
    refine own_st (fun t k => X0.ldc2Long hx hown (mvT hZ (hw _ (List.mem_of_getElem? (i := 33) rfl))) (g := (mkF m 15 #[.val (.int p1), .val (.long (g6_1 p1)), .second] [(.long (g6_1 p1))])) rfl (hb hby d6_15) _ k) ?_
    show OG p e _ s below _ s₁ (mkF m 18 #[.val (.int p1), .val (.long (g6_1 p1)), .second] [(.long (10000 : Int64)), (.long (g6_1 p1))])
    obtain ⟨_, _, ⟨T2, L2, k2, n2⟩, -, X2, ⟨Lc2, hQ2, l2, y2, z2⟩, st2⟩ := Jvm.LawKit.callS X0 hx (y := (⟨"java/lang/Math", "min", "(JJ)J"⟩ : MethodName)) hown (mvT hZ (hw _ (List.mem_of_getElem? (i := 34) rfl))) (mvT hZ (hw _ (List.mem_of_getElem? (i := 25) rfl))) (mvT hZ (hw _ (List.mem_of_getElem? (i := 26) rfl))) (mvT hZ (hw _ (List.mem_of_getElem? (i := 27) rfl))) (by decide) (backOf (W := 0) (rm := ({ frames := 0, cells := 0, slots := 0, locals := 0 } : Room)) (rm5 l Z a0 hw [] (g6_1 p1) (10000 : Int64) h0) hZ (hw _ (List.mem_of_getElem? (i := 27) rfl)) (hw _ (List.mem_of_getElem? (i := 26) rfl)) (by decide) (by decide)) (g := (mkF m 18 #[.val (.int p1), .val (.long (g6_1 p1)), .second] [(.long (10000 : Int64)), (.long (g6_1 p1))])) rfl (by rw [hml]; rfl) (argsL := [(.long (g6_1 p1)), (.long (10000 : Int64))]) (rest := []) (lenOf pd__JJ_J rfl) rfl (by show 2 * 0 + _ ≤ _; exact Nat.le_of_eq rfl) (hb hby d6_18) (fun _ _ => ⟨rfl, e0, (by decide : 0 + 0 ≤ _), (by decide : 0 + 0 ≤ _)⟩)
    dsimp only [Pt.U, Pt.locs, Pt.cells, Pt.slots] at X2 l2 y2 z2 st2 hQ2
    subst l2 y2 z2
    obtain ⟨rfl, rfl, e2⟩ := hQ2
    refine own_st st2 ?_
    show OG p e _ s below _ T2 (mkF m 21 #[.val (.int p1), .val (.long (g6_1 p1)), .second] [(.long (f5 (g6_1 p1) (10000 : Int64)))])
    exact own_retL X2 hx hret hlk (hb hby d6_21) (by decide) (by decide) ⟨congrArg (fun z => some (Value.long z)) (show f6 p1 = (f5 (g6_1 p1) (10000 : Int64)) from (by rw [f6, if_neg c1])).symm, rfl, e2⟩
theorem pd___J : parseMethodDescriptor "()J" = some ⟨[], some .long⟩ := by decide +kernel
theorem pd___V : parseMethodDescriptor "()V" = some ⟨[], none⟩ := by decide +kernel
theorem pd__I_J : parseMethodDescriptor "(I)J" = some ⟨[.int], some .long⟩ := by decide +kernel
theorem pn_0 : plainFor (⟨"com/example/tidewire/tidewire/internal/BackoffAttemptedPinLaw", "law", "(I)Z"⟩ : MethodName) = true := by first | exact plainFor_of_name (by first | (simp [plainName, overriddenIn]; done) | decide +kernel) | decide +kernel
def g0_1 (p1 : Int32) : Int32 := (p1 &&& (7 : Int32))
def f0 (p1 : Int32) : Int32 := (if (g0_1 p1) = (0 : Int32) then (if f3_0 = (f6 (0 : Int32)) then (if f3_1 = (f6 (1 : Int32)) then (1 : Int32) else (0 : Int32)) else (0 : Int32)) else (if (g0_1 p1) = (1 : Int32) then (if f3_1 = (f6 (1 : Int32)) then (if f3_2 = (f6 (2 : Int32)) then (1 : Int32) else (0 : Int32)) else (0 : Int32)) else (if (g0_1 p1) = (2 : Int32) then (if f3_2 = (f6 (2 : Int32)) then (if f3_3 = (f6 (3 : Int32)) then (1 : Int32) else (0 : Int32)) else (0 : Int32)) else (if (g0_1 p1) = (3 : Int32) then (if f3_3 = (f6 (3 : Int32)) then (if f3_4 = (f6 (4 : Int32)) then (1 : Int32) else (0 : Int32)) else (0 : Int32)) else (if (g0_1 p1) = (4 : Int32) then (if f3_4 = (f6 (4 : Int32)) then (if f3_5 = (f6 (5 : Int32)) then (1 : Int32) else (0 : Int32)) else (0 : Int32)) else (if (g0_1 p1) = (5 : Int32) then (if f3_5 = (f6 (5 : Int32)) then (if f3_6 = (f6 (6 : Int32)) then (1 : Int32) else (0 : Int32)) else (0 : Int32)) else (if (g0_1 p1) = (6 : Int32) then (if f3_6 = (f6 (6 : Int32)) then (if f3_7 = (f6 (7 : Int32)) then (1 : Int32) else (0 : Int32)) else (0 : Int32)) else (if (g0_1 p1) = (7 : Int32) then (if f3_7 = (f6 (7 : Int32)) then (if f3_8 = (f6 (8 : Int32)) then (1 : Int32) else (0 : Int32)) else (0 : Int32)) else 0))))))))
theorem own_range (p1 : Int32) (c0 : ¬ g0_1 p1 = (0 : Int32)) (c1 : ¬ g0_1 p1 = (1 : Int32)) (c2 : ¬ g0_1 p1 = (2 : Int32)) (c3 : ¬ g0_1 p1 = (3 : Int32)) (c4 : ¬ g0_1 p1 = (4 : Int32)) (c5 : ¬ g0_1 p1 = (5 : Int32)) (c6 : ¬ g0_1 p1 = (6 : Int32)) (c7 : ¬ g0_1 p1 = (7 : Int32)) : False := by
  have h1 := c_mask p1 7 3 (by decide) (by decide)
  have hr := rng32 p1
  simp only [← Int32.toInt_inj, g0_1] at *
  have k0 : (0 : Int32).toInt = 0 := by decide
  have k1 : (1 : Int32).toInt = 1 := by decide
  have k2 : (2 : Int32).toInt = 2 := by decide
  have k3 : (3 : Int32).toInt = 3 := by decide
  have k4 : (4 : Int32).toInt = 4 := by decide
  have k5 : (5 : Int32).toInt = 5 := by decide
  have k6 : (6 : Int32).toInt = 6 := by decide
  have k7 : (7 : Int32).toInt = 7 := by decide
  omega
theorem ef_0 (m : MethodId) (p1 : Int32) : entryFrame m #[(.int p1)] 7 = (mkF m 0 #[.val (.int p1), .unset, .unset, .unset, .unset, .unset, .unset] []) := by first | (simp [entryFrame, mkF, argsToLocals, Value.category]; done) | rfl
abbrev Q0 (Z : State) (p1 : Int32) (h0 : Heap) (n0 : Nat) : Option Value → Heap → List Loc → Prop := (fun v h L => v = some (.int (f0 p1)) ∧ Fr n0 L)
set_option maxRecDepth 65536 in
set_option maxHeartbeats 40000000 in
theorem rm0 (l : Launch) (Z : State) (a0 : Array Value) (hw : ∀ d ∈ tables_1, d.before a0 Z = true) (ws : List Jvm.Cond) (p1 : Int32) (h0 : Heap) (n0 : Nat) (Z0 : n0 ≤ h0.size) :
    OMet l Z x code maxLocals ret ws room_1 #[(.int p1)] h0 (Q0 Z p1 h0 n0) := by
  refine own_enter pn_0 ?_
  intro p e s m below meth c s₁ hx hby hml0 hown hret hlk hnm hZ X0 e0
  have hml : c.maxLocals = 7 := hml0
  have N0 := Fr.nil n0
  refine own_cast (ef_0 m p1) ?_
  show OG p e room_1 s below (fun v h L => v = some (.int (f0 p1)) ∧ Fr n0 L) s₁ (mkF m 0 #[.val (.int p1), .unset, .unset, .unset, .unset, .unset, .unset] [])
  refine own_st (fun t k => XS.iloadN X0.here hx rfl (hb hby at_0) rfl k) ?_
  show OG p e _ s below _ s₁ (mkF m 1 #[.val (.int p1), .unset, .unset, .unset, .unset, .unset, .unset] [(.int p1)])
  refine own_st (fun t k => XS.bipush X0.here hx rfl (hb hby at_1) k) ?_
  show OG p e _ s below _ s₁ (mkF m 3 #[.val (.int p1), .unset, .unset, .unset, .unset, .unset, .unset] [(.int (7 : Int32)), (.int p1)])
  refine own_st (fun t k => XS.iand X0.here hx rfl (hb hby at_3) rfl k) ?_
  show OG p e _ s below _ s₁ (mkF m 4 #[.val (.int p1), .unset, .unset, .unset, .unset, .unset, .unset] [(.int (p1 &&& (7 : Int32)))])
  refine own_st (fun t k => XS.istoreN X0.here hx rfl (hb hby at_4) rfl (l' := #[.val (.int p1), .val (.int (g0_1 p1)), .unset, .unset, .unset, .unset, .unset]) rfl k) ?_
  show OG p e _ s below _ s₁ (mkF m 5 #[.val (.int p1), .val (.int (g0_1 p1)), .unset, .unset, .unset, .unset, .unset] [])
  by_cases c1 : (g0_1 p1) = (0 : Int32)
  · rw [c1]
    show OG p e _ s below _ s₁ (mkF m 5 #[.val (.int p1), .val (.int (0 : Int32)), .unset, .unset, .unset, .unset, .unset] [])
    obtain ⟨T2, h2, X2, e2, E2, A2, D2, -, st2⟩ := newO X0 hx hZ hown (hw _ (List.mem_of_getElem? (i := 0) rfl)) (hw _ (List.mem_of_getElem? (i := 1) rfl)) (hw _ (List.mem_of_getElem? (i := 2) rfl)) e0 (g := (mkF m 5 #[.val (.int p1), .val (.int (0 : Int32)), .unset, .unset, .unset, .unset, .unset] [])) rfl (hb hby at_5) (by decide) (by decide)
    obtain ⟨o2, gb2⟩ : ∃ z, z = h0.size := ⟨_, rfl⟩
    rw [← gb2] at A2 D2 st2
    refine own_st st2 ?_
    have ge_o2 : n0 ≤ o2 := by rw [gb2]; exact Nat.le_trans Z0 (Keep.refl h0 []).1
    have sz_o2 : h0.size ≤ o2 := by rw [gb2]; exact (Keep.refl h0 []).1
    have K3 : Keep h0 h2 [] := (Keep.refl h0 []).ext E2
    have F4 : Fld Z h2 o2 "com/example/tidewire/tidewire/internal/Backoff" "attempts" "I" (.int (0 : Int32)) := D2 (Or.inl (hw _ (List.mem_of_getElem? (i := 15) rfl))) (ty := .int) (by decide)
    show OG p e _ s below _ T2 (mkF m 8 #[.val (.int p1), .val (.int (0 : Int32)), .unset, .unset, .unset, .unset, .unset] [(.ref o2)])
    refine own_st (fun t k => XS.dup X2.here hx rfl (hb hby at_8) rfl rfl k) ?_
    show OG p e _ s below _ T2 (mkF m 9 #[.val (.int p1), .val (.int (0 : Int32)), .unset, .unset, .unset, .unset, .unset] [(.ref o2), (.ref o2)])
    obtain ⟨_, _, ⟨T5, L5, k5, n5⟩, -, X5, ⟨Lc5, hQ5, l5, y5, z5⟩, st5⟩ := X2.specialBack hx (y := (⟨"com/example/tidewire/tidewire/internal/Backoff", "<init>", "()V"⟩ : MethodName)) rfl hown (mvT hZ (hw _ (List.mem_of_getElem? (i := 3) rfl))) (mvT hZ (hw _ (List.mem_of_getElem? (i := 4) rfl))) (mvT hZ (hw _ (List.mem_of_getElem? (i := 5) rfl))) (by decide) (backOf (W := 1) (rm := ({ frames := 1, cells := 0, slots := 0, locals := 12 } : Room)) (rm1 l Z a0 hw [] o2 h2 n0) hZ (hw _ (List.mem_of_getElem? (i := 5) rfl)) (hw _ (List.mem_of_getElem? (i := 2) rfl)) (by decide) (by decide)) (g := (mkF m 9 #[.val (.int p1), .val (.int (0 : Int32)), .unset, .unset, .unset, .unset, .unset] [(.ref o2), (.ref o2)])) rfl (by rw [hml]; rfl) (Steps.refl _) (a := o2) (argsL := []) (rest := [(.ref o2)]) (lenOf pd___V rfl) rfl (by show 2 * 0 + _ ≤ _; exact Nat.le_of_eq rfl) (hb hby at_9) (fun _ _ => ⟨rfl, e2, (by decide : 1 + 0 ≤ _), (by decide : 1 + 0 ≤ _)⟩)
    dsimp only [Pt.U, Pt.locs, Pt.cells, Pt.slots] at X5 l5 y5 z5 st5 hQ5
    subst l5 y5 z5
    obtain ⟨rfl, N5q, K5q⟩ := hQ5
    refine own_st (fun t k => st5.trans k) ?_
    have N5 := Fr.app N0 N5q
    have K5 : Keep h0 T5.heap [] := K3.trans K5q (own_all0 )
    have F6 : Exa Z T5.heap o2 "com/example/tidewire/tidewire/internal/Backoff" := (A2.keep K5q)
    have F7 : Fld Z T5.heap o2 "com/example/tidewire/tidewire/internal/Backoff" "attempts" "I" (.int (0 : Int32)) := (F4.keep K5q (own_nin0 ))
    show OG p e _ s below _ T5 (mkF m 12 #[.val (.int p1), .val (.int (0 : Int32)), .unset, .unset, .unset, .unset, .unset] [(.ref o2)])
    refine own_st (fun t k => XS.astoreN X5.here hx rfl (hb hby at_12) rfl rfl (l' := #[.val (.int p1), .val (.int (0 : Int32)), .val (.ref o2), .unset, .unset, .unset, .unset]) rfl k) ?_
    show OG p e _ s below _ T5 (mkF m 13 #[.val (.int p1), .val (.int (0 : Int32)), .val (.ref o2), .unset, .unset, .unset, .unset] [])
    refine own_st (fun t k => XS.iloadN X5.here hx rfl (hb hby at_13) rfl k) ?_
    show OG p e _ s below _ T5 (mkF m 14 #[.val (.int p1), .val (.int (0 : Int32)), .val (.ref o2), .unset, .unset, .unset, .unset] [(.int (0 : Int32))])
    refine own_st (fun t k => XS.iconst X5.here hx rfl (hb hby at_14) k) ?_
    show OG p e _ s below _ T5 (mkF m 15 #[.val (.int p1), .val (.int (0 : Int32)), .val (.ref o2), .unset, .unset, .unset, .unset] [(.int (1 : Int32)), (.int (0 : Int32))])
    refine own_st (fun t k => XS.icmpYes X5.here hx rfl (pc0 := 15) (pc' := 22) rfl (hb hby at_15) rfl (by decide) (by decide) (by decide) k) ?_
    show OG p e _ s below _ T5 (mkF m 22 #[.val (.int p1), .val (.int (0 : Int32)), .val (.ref o2), .unset, .unset, .unset, .unset] [])
    refine own_st (fun t k => XS.iloadN X5.here hx rfl (hb hby at_22) rfl k) ?_
    show OG p e _ s below _ T5 (mkF m 23 #[.val (.int p1), .val (.int (0 : Int32)), .val (.ref o2), .unset, .unset, .unset, .unset] [(.int (0 : Int32))])
    refine own_st (fun t k => XS.iconst X5.here hx rfl (hb hby at_23) k) ?_
    show OG p e _ s below _ T5 (mkF m 24 #[.val (.int p1), .val (.int (0 : Int32)), .val (.ref o2), .unset, .unset, .unset, .unset] [(.int (2 : Int32)), (.int (0 : Int32))])
    refine own_st (fun t k => XS.icmpYes X5.here hx rfl (pc0 := 24) (pc' := 31) rfl (hb hby at_24) rfl (by decide) (by decide) (by decide) k) ?_
    show OG p e _ s below _ T5 (mkF m 31 #[.val (.int p1), .val (.int (0 : Int32)), .val (.ref o2), .unset, .unset, .unset, .unset] [])
    refine own_st (fun t k => XS.iloadN X5.here hx rfl (hb hby at_31) rfl k) ?_
    show OG p e _ s below _ T5 (mkF m 32 #[.val (.int p1), .val (.int (0 : Int32)), .val (.ref o2), .unset, .unset, .unset, .unset] [(.int (0 : Int32))])
    refine own_st (fun t k => XS.iconst X5.here hx rfl (hb hby at_32) k) ?_
    show OG p e _ s below _ T5 (mkF m 33 #[.val (.int p1), .val (.int (0 : Int32)), .val (.ref o2), .unset, .unset, .unset, .unset] [(.int (3 : Int32)), (.int (0 : Int32))])
    refine own_st (fun t k => XS.icmpYes X5.here hx rfl (pc0 := 33) (pc' := 40) rfl (hb hby at_33) rfl (by decide) (by decide) (by decide) k) ?_
    show OG p e _ s below _ T5 (mkF m 40 #[.val (.int p1), .val (.int (0 : Int32)), .val (.ref o2), .unset, .unset, .unset, .unset] [])
    refine own_st (fun t k => XS.iloadN X5.here hx rfl (hb hby at_40) rfl k) ?_
    show OG p e _ s below _ T5 (mkF m 41 #[.val (.int p1), .val (.int (0 : Int32)), .val (.ref o2), .unset, .unset, .unset, .unset] [(.int (0 : Int32))])
    refine own_st (fun t k => XS.iconst X5.here hx rfl (hb hby at_41) k) ?_
    show OG p e _ s below _ T5 (mkF m 42 #[.val (.int p1), .val (.int (0 : Int32)), .val (.ref o2), .unset, .unset, .unset, .unset] [(.int (4 : Int32)), (.int (0 : Int32))])
    refine own_st (fun t k => XS.icmpYes X5.here hx rfl (pc0 := 42) (pc' := 49) rfl (hb hby at_42) rfl (by decide) (by decide) (by decide) k) ?_
    show OG p e _ s below _ T5 (mkF m 49 #[.val (.int p1), .val (.int (0 : Int32)), .val (.ref o2), .unset, .unset, .unset, .unset] [])
    refine own_st (fun t k => XS.iloadN X5.here hx rfl (hb hby at_49) rfl k) ?_
    show OG p e _ s below _ T5 (mkF m 50 #[.val (.int p1), .val (.int (0 : Int32)), .val (.ref o2), .unset, .unset, .unset, .unset] [(.int (0 : Int32))])
    refine own_st (fun t k => XS.iconst X5.here hx rfl (hb hby at_50) k) ?_
    show OG p e _ s below _ T5 (mkF m 51 #[.val (.int p1), .val (.int (0 : Int32)), .val (.ref o2), .unset, .unset, .unset, .unset] [(.int (5 : Int32)), (.int (0 : Int32))])
    refine own_st (fun t k => XS.icmpYes X5.here hx rfl (pc0 := 51) (pc' := 58) rfl (hb hby at_51) rfl (by decide) (by decide) (by decide) k) ?_
    show OG p e _ s below _ T5 (mkF m 58 #[.val (.int p1), .val (.int (0 : Int32)), .val (.ref o2), .unset, .unset, .unset, .unset] [])
    refine own_st (fun t k => XS.iloadN X5.here hx rfl (hb hby at_58) rfl k) ?_
    show OG p e _ s below _ T5 (mkF m 59 #[.val (.int p1), .val (.int (0 : Int32)), .val (.ref o2), .unset, .unset, .unset, .unset] [(.int (0 : Int32))])
    refine own_st (fun t k => XS.bipush X5.here hx rfl (hb hby at_59) k) ?_
    show OG p e _ s below _ T5 (mkF m 61 #[.val (.int p1), .val (.int (0 : Int32)), .val (.ref o2), .unset, .unset, .unset, .unset] [(.int (6 : Int32)), (.int (0 : Int32))])
    refine own_st (fun t k => XS.icmpYes X5.here hx rfl (pc0 := 61) (pc' := 68) rfl (hb hby at_61) rfl (by decide) (by decide) (by decide) k) ?_
    show OG p e _ s below _ T5 (mkF m 68 #[.val (.int p1), .val (.int (0 : Int32)), .val (.ref o2), .unset, .unset, .unset, .unset] [])
    refine own_st (fun t k => XS.iloadN X5.here hx rfl (hb hby at_68) rfl k) ?_
    show OG p e _ s below _ T5 (mkF m 69 #[.val (.int p1), .val (.int (0 : Int32)), .val (.ref o2), .unset, .unset, .unset, .unset] [(.int (0 : Int32))])
    refine own_st (fun t k => XS.bipush X5.here hx rfl (hb hby at_69) k) ?_
    show OG p e _ s below _ T5 (mkF m 71 #[.val (.int p1), .val (.int (0 : Int32)), .val (.ref o2), .unset, .unset, .unset, .unset] [(.int (7 : Int32)), (.int (0 : Int32))])
    refine own_st (fun t k => XS.icmpYes X5.here hx rfl (pc0 := 71) (pc' := 78) rfl (hb hby at_71) rfl (by decide) (by decide) (by decide) k) ?_
    show OG p e _ s below _ T5 (mkF m 78 #[.val (.int p1), .val (.int (0 : Int32)), .val (.ref o2), .unset, .unset, .unset, .unset] [])
    refine own_st (fun t k => XS.aloadN X5.here hx rfl (hb hby at_78) rfl rfl k) ?_
    show OG p e _ s below _ T5 (mkF m 79 #[.val (.int p1), .val (.int (0 : Int32)), .val (.ref o2), .unset, .unset, .unset, .unset] [(.ref o2)])
    obtain ⟨cq8, kq8, q8a, q8b, q8c⟩ := isOf hZ rfl F6
    obtain ⟨_, _, ⟨T8, L8, k8, n8⟩, -, X8, ⟨Lc8, hQ8, l8, y8, z8⟩, st8⟩ := X5.virtualBack hx (y := (⟨"com/example/tidewire/tidewire/internal/Backoff", "delayMs", "()J"⟩ : MethodName)) (z := (⟨"com/example/tidewire/tidewire/internal/Backoff", "delayMs", "()J"⟩ : MethodName)) hown (mvT hZ (hw _ (List.mem_of_getElem? (i := 9) rfl))) (mvT hZ (hw _ (List.mem_of_getElem? (i := 10) rfl))) (notFace_of_selects (args := #[]) (mvT hZ (hw _ (List.mem_of_getElem? (i := 12) rfl)))) (mvT hZ (hw _ (List.mem_of_getElem? (i := 12) rfl))) (mvT hZ (hw _ (List.mem_of_getElem? (i := 11) rfl))) (by decide) (backOf (W := 0) (rm := ({ frames := 0, cells := 0, slots := 0, locals := 0 } : Room)) (rm3_0 l Z a0 hw [] o2 T5.heap F7) hZ (hw _ (List.mem_of_getElem? (i := 13) rfl)) (hw _ (List.mem_of_getElem? (i := 2) rfl)) (by decide) (by decide)) q8a q8c (g := (mkF m 79 #[.val (.int p1), .val (.int (0 : Int32)), .val (.ref o2), .unset, .unset, .unset, .unset] [(.ref o2)])) rfl (by rw [hml]; rfl) (Steps.refl _) (argsL := []) (rest := []) (lenOf pd___J rfl) rfl (by show 2 * 0 + _ ≤ _; exact Nat.le_of_eq rfl) (hb hby at_79) (fun _ _ => ⟨rfl, rfl, (by decide : 1 + 0 ≤ _), (by decide : 1 + 0 ≤ _)⟩)
    dsimp only [Pt.U, Pt.locs, Pt.cells, Pt.slots] at X8 l8 y8 z8 st8 hQ8
    subst l8 y8 z8
    obtain ⟨rfl, rfl, e8⟩ := hQ8
    refine own_st (fun t k => st8.trans k) ?_
    have N8 := Fr.app N5 (Fr.nil n0)
    show OG p e _ s below _ T8 (mkF m 82 #[.val (.int p1), .val (.int (0 : Int32)), .val (.ref o2), .unset, .unset, .unset, .unset] [(.long f3_0)])
    refine own_st (fun t k => XS.lstoreN X8.here hx rfl (hb hby at_82) rfl (l' := #[.val (.int p1), .val (.int (0 : Int32)), .val (.ref o2), .val (.long f3_0), .second, .unset, .unset]) rfl k) ?_
    show OG p e _ s below _ T8 (mkF m 83 #[.val (.int p1), .val (.int (0 : Int32)), .val (.ref o2), .val (.long f3_0), .second, .unset, .unset] [])
    refine own_st (fun t k => XS.aloadN X8.here hx rfl (hb hby at_83) rfl rfl k) ?_
    show OG p e _ s below _ T8 (mkF m 84 #[.val (.int p1), .val (.int (0 : Int32)), .val (.ref o2), .val (.long f3_0), .second, .unset, .unset] [(.ref o2)])
    obtain ⟨cq9, kq9, q9a, q9b, q9c⟩ := isOf hZ e8 F6
    obtain ⟨_, _, ⟨T9, L9, k9, n9⟩, -, X9, ⟨Lc9, hQ9, l9, y9, z9⟩, st9⟩ := X8.virtualBack hx (y := (⟨"com/example/tidewire/tidewire/internal/Backoff", "attempted", "()V"⟩ : MethodName)) (z := (⟨"com/example/tidewire/tidewire/internal/Backoff", "attempted", "()V"⟩ : MethodName)) hown (mvT hZ (hw _ (List.mem_of_getElem? (i := 16) rfl))) (mvT hZ (hw _ (List.mem_of_getElem? (i := 17) rfl))) (notFace_of_selects (args := #[]) (mvT hZ (hw _ (List.mem_of_getElem? (i := 19) rfl)))) (mvT hZ (hw _ (List.mem_of_getElem? (i := 19) rfl))) (mvT hZ (hw _ (List.mem_of_getElem? (i := 18) rfl))) (by decide) (backOf (W := 0) (rm := ({ frames := 0, cells := 0, slots := 0, locals := 0 } : Room)) (rm4 l Z a0 hw [] o2 (0 : Int32) T5.heap n0 F6 F7 ge_o2 (by decide)) hZ (hw _ (List.mem_of_getElem? (i := 20) rfl)) (hw _ (List.mem_of_getElem? (i := 2) rfl)) (by decide) (by decide)) q9a q9c (g := (mkF m 84 #[.val (.int p1), .val (.int (0 : Int32)), .val (.ref o2), .val (.long f3_0), .second, .unset, .unset] [(.ref o2)])) rfl (by rw [hml]; rfl) (Steps.refl _) (argsL := []) (rest := []) (lenOf pd___V rfl) rfl (by show 2 * 0 + _ ≤ _; exact Nat.le_of_eq rfl) (hb hby at_84) (fun _ _ => ⟨rfl, e8, (by decide : 1 + 0 ≤ _), (by decide : 1 + 0 ≤ _)⟩)
    dsimp only [Pt.U, Pt.locs, Pt.cells, Pt.slots] at X9 l9 y9 z9 st9 hQ9
    subst l9 y9 z9
    obtain ⟨rfl, N9q, K9q, P9_0, P9_1⟩ := hQ9
    refine own_st (fun t k => st9.trans k) ?_
    have N9 := Fr.app N8 N9q
    have K9 : Keep h0 T9.heap [] := K5.trans K9q (own_all1 (Or.inr sz_o2))
    have F10 : Fld Z T9.heap o2 "com/example/tidewire/tidewire/internal/Backoff" "attempts" "I" (.int (1 : Int32)) := P9_1
    show OG p e _ s below _ T9 (mkF m 87 #[.val (.int p1), .val (.int (0 : Int32)), .val (.ref o2), .val (.long f3_0), .second, .unset, .unset] [])
    refine own_st (fun t k => XS.aloadN X9.here hx rfl (hb hby at_87) rfl rfl k) ?_
    show OG p e _ s below _ T9 (mkF m 88 #[.val (.int p1), .val (.int (0 : Int32)), .val (.ref o2), .val (.long f3_0), .second, .unset, .unset] [(.ref o2)])
    obtain ⟨cq11, kq11, q11a, q11b, q11c⟩ := isOf hZ rfl P9_0
    obtain ⟨_, _, ⟨T11, L11, k11, n11⟩, -, X11, ⟨Lc11, hQ11, l11, y11, z11⟩, st11⟩ := X9.virtualBack hx (y := (⟨"com/example/tidewire/tidewire/internal/Backoff", "delayMs", "()J"⟩ : MethodName)) (z := (⟨"com/example/tidewire/tidewire/internal/Backoff", "delayMs", "()J"⟩ : MethodName)) hown (mvT hZ (hw _ (List.mem_of_getElem? (i := 9) rfl))) (mvT hZ (hw _ (List.mem_of_getElem? (i := 10) rfl))) (notFace_of_selects (args := #[]) (mvT hZ (hw _ (List.mem_of_getElem? (i := 12) rfl)))) (mvT hZ (hw _ (List.mem_of_getElem? (i := 12) rfl))) (mvT hZ (hw _ (List.mem_of_getElem? (i := 11) rfl))) (by decide) (backOf (W := 0) (rm := ({ frames := 1, cells := 0, slots := 0, locals := 15 } : Room)) (rm3_1 l Z a0 hw [] o2 T9.heap F10) hZ (hw _ (List.mem_of_getElem? (i := 13) rfl)) (hw _ (List.mem_of_getElem? (i := 2) rfl)) (by decide) (by decide)) q11a q11c (g := (mkF m 88 #[.val (.int p1), .val (.int (0 : Int32)), .val (.ref o2), .val (.long f3_0), .second, .unset, .unset] [(.ref o2)])) rfl (by rw [hml]; rfl) (Steps.refl _) (argsL := []) (rest := []) (lenOf pd___J rfl) rfl (by show 2 * 0 + _ ≤ _; exact Nat.le_of_eq rfl) (hb hby at_88) (fun _ _ => ⟨rfl, rfl, (by decide : 1 + 0 ≤ _), (by decide : 1 + 0 ≤ _)⟩)
    dsimp only [Pt.U, Pt.locs, Pt.cells, Pt.slots] at X11 l11 y11 z11 st11 hQ11
    subst l11 y11 z11
    obtain ⟨rfl, rfl, e11⟩ := hQ11
    refine own_st (fun t k => st11.trans k) ?_
    have N11 := Fr.app N9 (Fr.nil n0)
    show OG p e _ s below _ T11 (mkF m 91 #[.val (.int p1), .val (.int (0 : Int32)), .val (.ref o2), .val (.long f3_0), .second, .unset, .unset] [(.long f3_1)])
    refine own_st (fun t k => XS.lstore X11.here hx rfl (hb hby at_91) rfl (l' := #[.val (.int p1), .val (.int (0 : Int32)), .val (.ref o2), .val (.long f3_0), .second, .val (.long f3_1), .second]) rfl k) ?_
    show OG p e _ s below _ T11 (mkF m 93 #[.val (.int p1), .val (.int (0 : Int32)), .val (.ref o2), .val (.long f3_0), .second, .val (.long f3_1), .second] [])
    refine own_st (fun t k => XS.lloadN X11.here hx rfl (hb hby at_93) rfl k) ?_
    show OG p e _ s below _ T11 (mkF m 94 #[.val (.int p1), .val (.int (0 : Int32)), .val (.ref o2), .val (.long f3_0), .second, .val (.long f3_1), .second] [(.long f3_0)])
    refine own_st (fun t k => XS.iloadN X11.here hx rfl (hb hby at_94) rfl k) ?_
    show OG p e _ s below _ T11 (mkF m 95 #[.val (.int p1), .val (.int (0 : Int32)), .val (.ref o2), .val (.long f3_0), .second, .val (.long f3_1), .second] [(.int (0 : Int32)), (.long f3_0)])
    obtain ⟨_, _, ⟨T12, L12, k12, n12⟩, -, X12, ⟨Lc12, hQ12, l12, y12, z12⟩, st12⟩ := Jvm.LawKit.callS X11 hx (y := (⟨"com/example/tidewire/tidewire/internal/BackoffAttemptedPinLaw", "ref", "(I)J"⟩ : MethodName)) hown (mvT hZ (hw _ (List.mem_of_getElem? (i := 28) rfl))) (mvT hZ (hw _ (List.mem_of_getElem? (i := 29) rfl))) (mvT hZ (hw _ (List.mem_of_getElem? (i := 30) rfl))) (mvT hZ (hw _ (List.mem_of_getElem? (i := 31) rfl))) (by decide) (backOf (W := 2) (rm := ({ frames := 1, cells := 0, slots := 0, locals := 15 } : Room)) (rm6 l Z a0 hw [] (0 : Int32) T9.heap) hZ (hw _ (List.mem_of_getElem? (i := 31) rfl)) (hw _ (List.mem_of_getElem? (i := 30) rfl)) (by decide) (by decide)) (g := (mkF m 95 #[.val (.int p1), .val (.int (0 : Int32)), .val (.ref o2), .val (.long f3_0), .second, .val (.long f3_1), .second] [(.int (0 : Int32)), (.long f3_0)])) rfl (by rw [hml]; rfl) (argsL := [(.int (0 : Int32))]) (rest := [(.long f3_0)]) (lenOf pd__I_J rfl) rfl (by show 2 * 0 + _ ≤ _; exact Nat.le_of_eq rfl) (hb hby at_95) (fun _ _ => ⟨rfl, e11, (by decide : 1 + 0 ≤ _), (by decide : 1 + 0 ≤ _)⟩)
    dsimp only [Pt.U, Pt.locs, Pt.cells, Pt.slots] at X12 l12 y12 z12 st12 hQ12
    subst l12 y12 z12
    obtain ⟨rfl, rfl, e12⟩ := hQ12
    refine own_st st12 ?_
    have N12 := Fr.app N11 (Fr.nil n0)
    show OG p e _ s below _ T12 (mkF m 98 #[.val (.int p1), .val (.int (0 : Int32)), .val (.ref o2), .val (.long f3_0), .second, .val (.long f3_1), .second] [(.long (f6 (0 : Int32))), (.long f3_0)])
    refine own_st (fun t k => XS.lcmp X12.here hx rfl (hb hby at_98) rfl k) ?_
    show OG p e _ s below _ T12 (mkF m 99 #[.val (.int p1), .val (.int (0 : Int32)), .val (.ref o2), .val (.long f3_0), .second, .val (.long f3_1), .second] [(.int (lcmpW f3_0 (f6 (0 : Int32))))])
    by_cases c13 : f3_0 = (f6 (0 : Int32))
    · refine own_st (fun t k => XS.ifNo X12.here hx rfl (hb hby at_99) rfl (own_if0 (teq ((lw_eq _ _).mpr c13)).2) k) ?_
      show OG p e _ s below _ T12 (mkF m 102 #[.val (.int p1), .val (.int (0 : Int32)), .val (.ref o2), .val (.long f3_0), .second, .val (.long f3_1), .second] [])
      refine own_st (fun t k => XS.lload X12.here hx rfl (hb hby at_102) rfl k) ?_
      show OG p e _ s below _ T12 (mkF m 104 #[.val (.int p1), .val (.int (0 : Int32)), .val (.ref o2), .val (.long f3_0), .second, .val (.long f3_1), .second] [(.long f3_1)])
      refine own_st (fun t k => XS.iloadN X12.here hx rfl (hb hby at_104) rfl k) ?_
      show OG p e _ s below _ T12 (mkF m 105 #[.val (.int p1), .val (.int (0 : Int32)), .val (.ref o2), .val (.long f3_0), .second, .val (.long f3_1), .second] [(.int (0 : Int32)), (.long f3_1)])
      refine own_st (fun t k => XS.iconst X12.here hx rfl (hb hby at_105) k) ?_
      show OG p e _ s below _ T12 (mkF m 106 #[.val (.int p1), .val (.int (0 : Int32)), .val (.ref o2), .val (.long f3_0), .second, .val (.long f3_1), .second] [(.int (1 : Int32)), (.int (0 : Int32)), (.long f3_1)])
      refine own_st (fun t k => XS.iadd X12.here hx rfl (hb hby at_106) rfl k) ?_
      show OG p e _ s below _ T12 (mkF m 107 #[.val (.int p1), .val (.int (0 : Int32)), .val (.ref o2), .val (.long f3_0), .second, .val (.long f3_1), .second] [(.int (1 : Int32)), (.long f3_1)])
      obtain ⟨_, _, ⟨T14, L14, k14, n14⟩, -, X14, ⟨Lc14, hQ14, l14, y14, z14⟩, st14⟩ := Jvm.LawKit.callS X12 hx (y := (⟨"com/example/tidewire/tidewire/internal/BackoffAttemptedPinLaw", "ref", "(I)J"⟩ : MethodName)) hown (mvT hZ (hw _ (List.mem_of_getElem? (i := 28) rfl))) (mvT hZ (hw _ (List.mem_of_getElem? (i := 29) rfl))) (mvT hZ (hw _ (List.mem_of_getElem? (i := 30) rfl))) (mvT hZ (hw _ (List.mem_of_getElem? (i := 31) rfl))) (by decide) (backOf (W := 2) (rm := ({ frames := 1, cells := 0, slots := 0, locals := 15 } : Room)) (rm6 l Z a0 hw [] (1 : Int32) T9.heap) hZ (hw _ (List.mem_of_getElem? (i := 31) rfl)) (hw _ (List.mem_of_getElem? (i := 30) rfl)) (by decide) (by decide)) (g := (mkF m 107 #[.val (.int p1), .val (.int (0 : Int32)), .val (.ref o2), .val (.long f3_0), .second, .val (.long f3_1), .second] [(.int (1 : Int32)), (.long f3_1)])) rfl (by rw [hml]; rfl) (argsL := [(.int (1 : Int32))]) (rest := [(.long f3_1)]) (lenOf pd__I_J rfl) rfl (by show 2 * 0 + _ ≤ _; exact Nat.le_of_eq rfl) (hb hby at_107) (fun _ _ => ⟨rfl, e12, (by decide : 1 + 0 ≤ _), (by decide : 1 + 0 ≤ _)⟩)
      dsimp only [Pt.U, Pt.locs, Pt.cells, Pt.slots] at X14 l14 y14 z14 st14 hQ14
      subst l14 y14 z14
      obtain ⟨rfl, rfl, e14⟩ := hQ14
      refine own_st st14 ?_
      have N14 := Fr.app N12 (Fr.nil n0)
      show OG p e _ s below _ T14 (mkF m 110 #[.val (.int p1), .val (.int (0 : Int32)), .val (.ref o2), .val (.long f3_0), .second, .val (.long f3_1), .second] [(.long (f6 (1 : Int32))), (.long f3_1)])
      refine own_st (fun t k => XS.lcmp X14.here hx rfl (hb hby at_110) rfl k) ?_
      show OG p e _ s below _ T14 (mkF m 111 #[.val (.int p1), .val (.int (0 : Int32)), .val (.ref o2), .val (.long f3_0), .second, .val (.long f3_1), .second] [(.int (lcmpW f3_1 (f6 (1 : Int32))))])
      by_cases c15 : f3_1 = (f6 (1 : Int32))
      · refine own_st (fun t k => XS.ifNo X14.here hx rfl (hb hby at_111) rfl (own_if0 (teq ((lw_eq _ _).mpr c15)).2) k) ?_
        show OG p e _ s below _ T14 (mkF m 114 #[.val (.int p1), .val (.int (0 : Int32)), .val (.ref o2), .val (.long f3_0), .second, .val (.long f3_1), .second] [])
        refine own_st (fun t k => XS.iconst X14.here hx rfl (hb hby at_114) k) ?_
        show OG p e _ s below _ T14 (mkF m 115 #[.val (.int p1), .val (.int (0 : Int32)), .val (.ref o2), .val (.long f3_0), .second, .val (.long f3_1), .second] [(.int (1 : Int32))])
        refine own_st (fun t k => XS.goto X14.here hx rfl (pc0 := 115) (pc' := 119) rfl (hb hby at_115) (by decide) (by decide) k) ?_
        show OG p e _ s below _ T14 (mkF m 119 #[.val (.int p1), .val (.int (0 : Int32)), .val (.ref o2), .val (.long f3_0), .second, .val (.long f3_1), .second] [(.int (1 : Int32))])
        refine own_retZ X14 hx (t := .boolean) hret (by simp) hlk (hb hby at_119) (by decide) (by decide) (w := (1 : Int32)) rfl ?_
        exact ⟨congrArg (fun z => some (Value.int z)) (show f0 p1 = (1 : Int32) from (by rw [f0, if_pos c1, if_pos c13, if_pos c15])).symm, N14⟩
      · refine own_st (fun t k => XS.ifYes X14.here hx rfl (pc0 := 111) (pc' := 118) rfl (hb hby at_111) rfl (own_if0 (feq (fun q => c15 ((lw_eq _ _).mp q))).2) (by decide) (by decide) k) ?_
        show OG p e _ s below _ T14 (mkF m 118 #[.val (.int p1), .val (.int (0 : Int32)), .val (.ref o2), .val (.long f3_0), .second, .val (.long f3_1), .second] [])
        refine own_st (fun t k => XS.iconst X14.here hx rfl (hb hby at_118) k) ?_
        show OG p e _ s below _ T14 (mkF m 119 #[.val (.int p1), .val (.int (0 : Int32)), .val (.ref o2), .val (.long f3_0), .second, .val (.long f3_1), .second] [(.int (0 : Int32))])
        refine own_retZ X14 hx (t := .boolean) hret (by simp) hlk (hb hby at_119) (by decide) (by decide) (w := (0 : Int32)) rfl ?_
        exact ⟨congrArg (fun z => some (Value.int z)) (show f0 p1 = (0 : Int32) from (by rw [f0, if_pos c1, if_pos c13, if_neg c15])).symm, N14⟩
    · refine own_st (fun t k => XS.ifYes X12.here hx rfl (pc0 := 99) (pc' := 118) rfl (hb hby at_99) rfl (own_if0 (feq (fun q => c13 ((lw_eq _ _).mp q))).2) (by decide) (by decide) k) ?_
      show OG p e _ s below _ T12 (mkF m 118 #[.val (.int p1), .val (.int (0 : Int32)), .val (.ref o2), .val (.long f3_0), .second, .val (.long f3_1), .second] [])
      refine own_st (fun t k => XS.iconst X12.here hx rfl (hb hby at_118) k) ?_
      show OG p e _ s below _ T12 (mkF m 119 #[.val (.int p1), .val (.int (0 : Int32)), .val (.ref o2), .val (.long f3_0), .second, .val (.long f3_1), .second] [(.int (0 : Int32))])
      refine own_retZ X12 hx (t := .boolean) hret (by simp) hlk (hb hby at_119) (by decide) (by decide) (w := (0 : Int32)) rfl ?_
      exact ⟨congrArg (fun z => some (Value.int z)) (show f0 p1 = (0 : Int32) from (by rw [f0, if_pos c1, if_neg c13])).symm, N12⟩
  · skip
    by_cases c16 : (g0_1 p1) = (1 : Int32)
    · rw [c16]
      show OG p e _ s below _ s₁ (mkF m 5 #[.val (.int p1), .val (.int (1 : Int32)), .unset, .unset, .unset, .unset, .unset] [])
      obtain ⟨T17, h17, X17, e17, E17, A17, D17, -, st17⟩ := newO X0 hx hZ hown (hw _ (List.mem_of_getElem? (i := 0) rfl)) (hw _ (List.mem_of_getElem? (i := 1) rfl)) (hw _ (List.mem_of_getElem? (i := 2) rfl)) e0 (g := (mkF m 5 #[.val (.int p1), .val (.int (1 : Int32)), .unset, .unset, .unset, .unset, .unset] [])) rfl (hb hby at_5) (by decide) (by decide)
      obtain ⟨o17, gb17⟩ : ∃ z, z = h0.size := ⟨_, rfl⟩
      rw [← gb17] at A17 D17 st17
      refine own_st st17 ?_
      have ge_o17 : n0 ≤ o17 := by rw [gb17]; exact Nat.le_trans Z0 (Keep.refl h0 []).1
      have sz_o17 : h0.size ≤ o17 := by rw [gb17]; exact (Keep.refl h0 []).1
      have K18 : Keep h0 h17 [] := (Keep.refl h0 []).ext E17
      have F19 : Fld Z h17 o17 "com/example/tidewire/tidewire/internal/Backoff" "attempts" "I" (.int (0 : Int32)) := D17 (Or.inl (hw _ (List.mem_of_getElem? (i := 15) rfl))) (ty := .int) (by decide)
      show OG p e _ s below _ T17 (mkF m 8 #[.val (.int p1), .val (.int (1 : Int32)), .unset, .unset, .unset, .unset, .unset] [(.ref o17)])
      refine own_st (fun t k => XS.dup X17.here hx rfl (hb hby at_8) rfl rfl k) ?_
      show OG p e _ s below _ T17 (mkF m 9 #[.val (.int p1), .val (.int (1 : Int32)), .unset, .unset, .unset, .unset, .unset] [(.ref o17), (.ref o17)])
      obtain ⟨_, _, ⟨T20, L20, k20, n20⟩, -, X20, ⟨Lc20, hQ20, l20, y20, z20⟩, st20⟩ := X17.specialBack hx (y := (⟨"com/example/tidewire/tidewire/internal/Backoff", "<init>", "()V"⟩ : MethodName)) rfl hown (mvT hZ (hw _ (List.mem_of_getElem? (i := 3) rfl))) (mvT hZ (hw _ (List.mem_of_getElem? (i := 4) rfl))) (mvT hZ (hw _ (List.mem_of_getElem? (i := 5) rfl))) (by decide) (backOf (W := 1) (rm := ({ frames := 1, cells := 0, slots := 0, locals := 12 } : Room)) (rm1 l Z a0 hw [] o17 h17 n0) hZ (hw _ (List.mem_of_getElem? (i := 5) rfl)) (hw _ (List.mem_of_getElem? (i := 2) rfl)) (by decide) (by decide)) (g := (mkF m 9 #[.val (.int p1), .val (.int (1 : Int32)), .unset, .unset, .unset, .unset, .unset] [(.ref o17), (.ref o17)])) rfl (by rw [hml]; rfl) (Steps.refl _) (a := o17) (argsL := []) (rest := [(.ref o17)]) (lenOf pd___V rfl) rfl (by show 2 * 0 + _ ≤ _; exact Nat.le_of_eq rfl) (hb hby at_9) (fun _ _ => ⟨rfl, e17, (by decide : 1 + 0 ≤ _), (by decide : 1 + 0 ≤ _)⟩)
      dsimp only [Pt.U, Pt.locs, Pt.cells, Pt.slots] at X20 l20 y20 z20 st20 hQ20
      subst l20 y20 z20
      obtain ⟨rfl, N20q, K20q⟩ := hQ20
      refine own_st (fun t k => st20.trans k) ?_
      have N20 := Fr.app N0 N20q
      have K20 : Keep h0 T20.heap [] := K18.trans K20q (own_all0 )
      have F21 : Exa Z T20.heap o17 "com/example/tidewire/tidewire/internal/Backoff" := (A17.keep K20q)
      have F22 : Fld Z T20.heap o17 "com/example/tidewire/tidewire/internal/Backoff" "attempts" "I" (.int (0 : Int32)) := (F19.keep K20q (own_nin0 ))
      show OG p e _ s below _ T20 (mkF m 12 #[.val (.int p1), .val (.int (1 : Int32)), .unset, .unset, .unset, .unset, .unset] [(.ref o17)])
      refine own_st (fun t k => XS.astoreN X20.here hx rfl (hb hby at_12) rfl rfl (l' := #[.val (.int p1), .val (.int (1 : Int32)), .val (.ref o17), .unset, .unset, .unset, .unset]) rfl k) ?_
      show OG p e _ s below _ T20 (mkF m 13 #[.val (.int p1), .val (.int (1 : Int32)), .val (.ref o17), .unset, .unset, .unset, .unset] [])
      refine own_st (fun t k => XS.iloadN X20.here hx rfl (hb hby at_13) rfl k) ?_
      show OG p e _ s below _ T20 (mkF m 14 #[.val (.int p1), .val (.int (1 : Int32)), .val (.ref o17), .unset, .unset, .unset, .unset] [(.int (1 : Int32))])
      refine own_st (fun t k => XS.iconst X20.here hx rfl (hb hby at_14) k) ?_
      show OG p e _ s below _ T20 (mkF m 15 #[.val (.int p1), .val (.int (1 : Int32)), .val (.ref o17), .unset, .unset, .unset, .unset] [(.int (1 : Int32)), (.int (1 : Int32))])
      refine own_st (fun t k => XS.icmpNo X20.here hx rfl (hb hby at_15) rfl (by decide) k) ?_
      show OG p e _ s below _ T20 (mkF m 18 #[.val (.int p1), .val (.int (1 : Int32)), .val (.ref o17), .unset, .unset, .unset, .unset] [])
      refine own_st (fun t k => XS.aloadN X20.here hx rfl (hb hby at_18) rfl rfl k) ?_
      show OG p e _ s below _ T20 (mkF m 19 #[.val (.int p1), .val (.int (1 : Int32)), .val (.ref o17), .unset, .unset, .unset, .unset] [(.ref o17)])
      obtain ⟨cq23, kq23, q23a, q23b, q23c⟩ := isOf hZ rfl F21
      obtain ⟨_, _, ⟨T23, L23, k23, n23⟩, -, X23, ⟨Lc23, hQ23, l23, y23, z23⟩, st23⟩ := X20.virtualBack hx (y := (⟨"com/example/tidewire/tidewire/internal/Backoff", "attempted", "()V"⟩ : MethodName)) (z := (⟨"com/example/tidewire/tidewire/internal/Backoff", "attempted", "()V"⟩ : MethodName)) hown (mvT hZ (hw _ (List.mem_of_getElem? (i := 16) rfl))) (mvT hZ (hw _ (List.mem_of_getElem? (i := 17) rfl))) (notFace_of_selects (args := #[]) (mvT hZ (hw _ (List.mem_of_getElem? (i := 19) rfl)))) (mvT hZ (hw _ (List.mem_of_getElem? (i := 19) rfl))) (mvT hZ (hw _ (List.mem_of_getElem? (i := 18) rfl))) (by decide) (backOf (W := 0) (rm := ({ frames := 0, cells := 0, slots := 0, locals := 0 } : Room)) (rm4 l Z a0 hw [] o17 (0 : Int32) T20.heap n0 F21 F22 ge_o17 (by decide)) hZ (hw _ (List.mem_of_getElem? (i := 20) rfl)) (hw _ (List.mem_of_getElem? (i := 2) rfl)) (by decide) (by decide)) q23a q23c (g := (mkF m 19 #[.val (.int p1), .val (.int (1 : Int32)), .val (.ref o17), .unset, .unset, .unset, .unset] [(.ref o17)])) rfl (by rw [hml]; rfl) (Steps.refl _) (argsL := []) (rest := []) (lenOf pd___V rfl) rfl (by show 2 * 0 + _ ≤ _; exact Nat.le_of_eq rfl) (hb hby at_19) (fun _ _ => ⟨rfl, rfl, (by decide : 1 + 0 ≤ _), (by decide : 1 + 0 ≤ _)⟩)
      dsimp only [Pt.U, Pt.locs, Pt.cells, Pt.slots] at X23 l23 y23 z23 st23 hQ23
      subst l23 y23 z23
      obtain ⟨rfl, N23q, K23q, P23_0, P23_1⟩ := hQ23
      refine own_st (fun t k => st23.trans k) ?_
      have N23 := Fr.app N20 N23q
      have K23 : Keep h0 T23.heap [] := K20.trans K23q (own_all1 (Or.inr sz_o17))
      have F24 : Fld Z T23.heap o17 "com/example/tidewire/tidewire/internal/Backoff" "attempts" "I" (.int (1 : Int32)) := P23_1
      show OG p e _ s below _ T23 (mkF m 22 #[.val (.int p1), .val (.int (1 : Int32)), .val (.ref o17), .unset, .unset, .unset, .unset] [])
      refine own_st (fun t k => XS.iloadN X23.here hx rfl (hb hby at_22) rfl k) ?_
      show OG p e _ s below _ T23 (mkF m 23 #[.val (.int p1), .val (.int (1 : Int32)), .val (.ref o17), .unset, .unset, .unset, .unset] [(.int (1 : Int32))])
      refine own_st (fun t k => XS.iconst X23.here hx rfl (hb hby at_23) k) ?_
      show OG p e _ s below _ T23 (mkF m 24 #[.val (.int p1), .val (.int (1 : Int32)), .val (.ref o17), .unset, .unset, .unset, .unset] [(.int (2 : Int32)), (.int (1 : Int32))])
      refine own_st (fun t k => XS.icmpYes X23.here hx rfl (pc0 := 24) (pc' := 31) rfl (hb hby at_24) rfl (by decide) (by decide) (by decide) k) ?_
      show OG p e _ s below _ T23 (mkF m 31 #[.val (.int p1), .val (.int (1 : Int32)), .val (.ref o17), .unset, .unset, .unset, .unset] [])
      refine own_st (fun t k => XS.iloadN X23.here hx rfl (hb hby at_31) rfl k) ?_
      show OG p e _ s below _ T23 (mkF m 32 #[.val (.int p1), .val (.int (1 : Int32)), .val (.ref o17), .unset, .unset, .unset, .unset] [(.int (1 : Int32))])
      refine own_st (fun t k => XS.iconst X23.here hx rfl (hb hby at_32) k) ?_
      show OG p e _ s below _ T23 (mkF m 33 #[.val (.int p1), .val (.int (1 : Int32)), .val (.ref o17), .unset, .unset, .unset, .unset] [(.int (3 : Int32)), (.int (1 : Int32))])
      refine own_st (fun t k => XS.icmpYes X23.here hx rfl (pc0 := 33) (pc' := 40) rfl (hb hby at_33) rfl (by decide) (by decide) (by decide) k) ?_
      show OG p e _ s below _ T23 (mkF m 40 #[.val (.int p1), .val (.int (1 : Int32)), .val (.ref o17), .unset, .unset, .unset, .unset] [])
      refine own_st (fun t k => XS.iloadN X23.here hx rfl (hb hby at_40) rfl k) ?_
      show OG p e _ s below _ T23 (mkF m 41 #[.val (.int p1), .val (.int (1 : Int32)), .val (.ref o17), .unset, .unset, .unset, .unset] [(.int (1 : Int32))])
      refine own_st (fun t k => XS.iconst X23.here hx rfl (hb hby at_41) k) ?_
      show OG p e _ s below _ T23 (mkF m 42 #[.val (.int p1), .val (.int (1 : Int32)), .val (.ref o17), .unset, .unset, .unset, .unset] [(.int (4 : Int32)), (.int (1 : Int32))])
      refine own_st (fun t k => XS.icmpYes X23.here hx rfl (pc0 := 42) (pc' := 49) rfl (hb hby at_42) rfl (by decide) (by decide) (by decide) k) ?_
      show OG p e _ s below _ T23 (mkF m 49 #[.val (.int p1), .val (.int (1 : Int32)), .val (.ref o17), .unset, .unset, .unset, .unset] [])
      refine own_st (fun t k => XS.iloadN X23.here hx rfl (hb hby at_49) rfl k) ?_
      show OG p e _ s below _ T23 (mkF m 50 #[.val (.int p1), .val (.int (1 : Int32)), .val (.ref o17), .unset, .unset, .unset, .unset] [(.int (1 : Int32))])
      refine own_st (fun t k => XS.iconst X23.here hx rfl (hb hby at_50) k) ?_
      show OG p e _ s below _ T23 (mkF m 51 #[.val (.int p1), .val (.int (1 : Int32)), .val (.ref o17), .unset, .unset, .unset, .unset] [(.int (5 : Int32)), (.int (1 : Int32))])
      refine own_st (fun t k => XS.icmpYes X23.here hx rfl (pc0 := 51) (pc' := 58) rfl (hb hby at_51) rfl (by decide) (by decide) (by decide) k) ?_
      show OG p e _ s below _ T23 (mkF m 58 #[.val (.int p1), .val (.int (1 : Int32)), .val (.ref o17), .unset, .unset, .unset, .unset] [])
      refine own_st (fun t k => XS.iloadN X23.here hx rfl (hb hby at_58) rfl k) ?_
      show OG p e _ s below _ T23 (mkF m 59 #[.val (.int p1), .val (.int (1 : Int32)), .val (.ref o17), .unset, .unset, .unset, .unset] [(.int (1 : Int32))])
      refine own_st (fun t k => XS.bipush X23.here hx rfl (hb hby at_59) k) ?_
      show OG p e _ s below _ T23 (mkF m 61 #[.val (.int p1), .val (.int (1 : Int32)), .val (.ref o17), .unset, .unset, .unset, .unset] [(.int (6 : Int32)), (.int (1 : Int32))])
      refine own_st (fun t k => XS.icmpYes X23.here hx rfl (pc0 := 61) (pc' := 68) rfl (hb hby at_61) rfl (by decide) (by decide) (by decide) k) ?_
      show OG p e _ s below _ T23 (mkF m 68 #[.val (.int p1), .val (.int (1 : Int32)), .val (.ref o17), .unset, .unset, .unset, .unset] [])
      refine own_st (fun t k => XS.iloadN X23.here hx rfl (hb hby at_68) rfl k) ?_
      show OG p e _ s below _ T23 (mkF m 69 #[.val (.int p1), .val (.int (1 : Int32)), .val (.ref o17), .unset, .unset, .unset, .unset] [(.int (1 : Int32))])
      refine own_st (fun t k => XS.bipush X23.here hx rfl (hb hby at_69) k) ?_
      show OG p e _ s below _ T23 (mkF m 71 #[.val (.int p1), .val (.int (1 : Int32)), .val (.ref o17), .unset, .unset, .unset, .unset] [(.int (7 : Int32)), (.int (1 : Int32))])
      refine own_st (fun t k => XS.icmpYes X23.here hx rfl (pc0 := 71) (pc' := 78) rfl (hb hby at_71) rfl (by decide) (by decide) (by decide) k) ?_
      show OG p e _ s below _ T23 (mkF m 78 #[.val (.int p1), .val (.int (1 : Int32)), .val (.ref o17), .unset, .unset, .unset, .unset] [])
      refine own_st (fun t k => XS.aloadN X23.here hx rfl (hb hby at_78) rfl rfl k) ?_
      show OG p e _ s below _ T23 (mkF m 79 #[.val (.int p1), .val (.int (1 : Int32)), .val (.ref o17), .unset, .unset, .unset, .unset] [(.ref o17)])
      obtain ⟨cq25, kq25, q25a, q25b, q25c⟩ := isOf hZ rfl P23_0
      obtain ⟨_, _, ⟨T25, L25, k25, n25⟩, -, X25, ⟨Lc25, hQ25, l25, y25, z25⟩, st25⟩ := X23.virtualBack hx (y := (⟨"com/example/tidewire/tidewire/internal/Backoff", "delayMs", "()J"⟩ : MethodName)) (z := (⟨"com/example/tidewire/tidewire/internal/Backoff", "delayMs", "()J"⟩ : MethodName)) hown (mvT hZ (hw _ (List.mem_of_getElem? (i := 9) rfl))) (mvT hZ (hw _ (List.mem_of_getElem? (i := 10) rfl))) (notFace_of_selects (args := #[]) (mvT hZ (hw _ (List.mem_of_getElem? (i := 12) rfl)))) (mvT hZ (hw _ (List.mem_of_getElem? (i := 12) rfl))) (mvT hZ (hw _ (List.mem_of_getElem? (i := 11) rfl))) (by decide) (backOf (W := 0) (rm := ({ frames := 1, cells := 0, slots := 0, locals := 15 } : Room)) (rm3_1 l Z a0 hw [] o17 T23.heap F24) hZ (hw _ (List.mem_of_getElem? (i := 13) rfl)) (hw _ (List.mem_of_getElem? (i := 2) rfl)) (by decide) (by decide)) q25a q25c (g := (mkF m 79 #[.val (.int p1), .val (.int (1 : Int32)), .val (.ref o17), .unset, .unset, .unset, .unset] [(.ref o17)])) rfl (by rw [hml]; rfl) (Steps.refl _) (argsL := []) (rest := []) (lenOf pd___J rfl) rfl (by show 2 * 0 + _ ≤ _; exact Nat.le_of_eq rfl) (hb hby at_79) (fun _ _ => ⟨rfl, rfl, (by decide : 1 + 0 ≤ _), (by decide : 1 + 0 ≤ _)⟩)
      dsimp only [Pt.U, Pt.locs, Pt.cells, Pt.slots] at X25 l25 y25 z25 st25 hQ25
      subst l25 y25 z25
      obtain ⟨rfl, rfl, e25⟩ := hQ25
      refine own_st (fun t k => st25.trans k) ?_
      have N25 := Fr.app N23 (Fr.nil n0)
      show OG p e _ s below _ T25 (mkF m 82 #[.val (.int p1), .val (.int (1 : Int32)), .val (.ref o17), .unset, .unset, .unset, .unset] [(.long f3_1)])
      refine own_st (fun t k => XS.lstoreN X25.here hx rfl (hb hby at_82) rfl (l' := #[.val (.int p1), .val (.int (1 : Int32)), .val (.ref o17), .val (.long f3_1), .second, .unset, .unset]) rfl k) ?_
      show OG p e _ s below _ T25 (mkF m 83 #[.val (.int p1), .val (.int (1 : Int32)), .val (.ref o17), .val (.long f3_1), .second, .unset, .unset] [])
      refine own_st (fun t k => XS.aloadN X25.here hx rfl (hb hby at_83) rfl rfl k) ?_
      show OG p e _ s below _ T25 (mkF m 84 #[.val (.int p1), .val (.int (1 : Int32)), .val (.ref o17), .val (.long f3_1), .second, .unset, .unset] [(.ref o17)])
      obtain ⟨cq26, kq26, q26a, q26b, q26c⟩ := isOf hZ e25 P23_0
      obtain ⟨_, _, ⟨T26, L26, k26, n26⟩, -, X26, ⟨Lc26, hQ26, l26, y26, z26⟩, st26⟩ := X25.virtualBack hx (y := (⟨"com/example/tidewire/tidewire/internal/Backoff", "attempted", "()V"⟩ : MethodName)) (z := (⟨"com/example/tidewire/tidewire/internal/Backoff", "attempted", "()V"⟩ : MethodName)) hown (mvT hZ (hw _ (List.mem_of_getElem? (i := 16) rfl))) (mvT hZ (hw _ (List.mem_of_getElem? (i := 17) rfl))) (notFace_of_selects (args := #[]) (mvT hZ (hw _ (List.mem_of_getElem? (i := 19) rfl)))) (mvT hZ (hw _ (List.mem_of_getElem? (i := 19) rfl))) (mvT hZ (hw _ (List.mem_of_getElem? (i := 18) rfl))) (by decide) (backOf (W := 0) (rm := ({ frames := 0, cells := 0, slots := 0, locals := 0 } : Room)) (rm4 l Z a0 hw [] o17 (1 : Int32) T23.heap n0 P23_0 F24 ge_o17 (by decide)) hZ (hw _ (List.mem_of_getElem? (i := 20) rfl)) (hw _ (List.mem_of_getElem? (i := 2) rfl)) (by decide) (by decide)) q26a q26c (g := (mkF m 84 #[.val (.int p1), .val (.int (1 : Int32)), .val (.ref o17), .val (.long f3_1), .second, .unset, .unset] [(.ref o17)])) rfl (by rw [hml]; rfl) (Steps.refl _) (argsL := []) (rest := []) (lenOf pd___V rfl) rfl (by show 2 * 0 + _ ≤ _; exact Nat.le_of_eq rfl) (hb hby at_84) (fun _ _ => ⟨rfl, e25, (by decide : 1 + 0 ≤ _), (by decide : 1 + 0 ≤ _)⟩)
      dsimp only [Pt.U, Pt.locs, Pt.cells, Pt.slots] at X26 l26 y26 z26 st26 hQ26
      subst l26 y26 z26
      obtain ⟨rfl, N26q, K26q, P26_0, P26_1⟩ := hQ26
      refine own_st (fun t k => st26.trans k) ?_
      have N26 := Fr.app N25 N26q
      have K26 : Keep h0 T26.heap [] := K23.trans K26q (own_all1 (Or.inr sz_o17))
      have F27 : Fld Z T26.heap o17 "com/example/tidewire/tidewire/internal/Backoff" "attempts" "I" (.int (2 : Int32)) := P26_1
      show OG p e _ s below _ T26 (mkF m 87 #[.val (.int p1), .val (.int (1 : Int32)), .val (.ref o17), .val (.long f3_1), .second, .unset, .unset] [])
      refine own_st (fun t k => XS.aloadN X26.here hx rfl (hb hby at_87) rfl rfl k) ?_
      show OG p e _ s below _ T26 (mkF m 88 #[.val (.int p1), .val (.int (1 : Int32)), .val (.ref o17), .val (.long f3_1), .second, .unset, .unset] [(.ref o17)])
      obtain ⟨cq28, kq28, q28a, q28b, q28c⟩ := isOf hZ rfl P26_0
      obtain ⟨_, _, ⟨T28, L28, k28, n28⟩, -, X28, ⟨Lc28, hQ28, l28, y28, z28⟩, st28⟩ := X26.virtualBack hx (y := (⟨"com/example/tidewire/tidewire/internal/Backoff", "delayMs", "()J"⟩ : MethodName)) (z := (⟨"com/example/tidewire/tidewire/internal/Backoff", "delayMs", "()J"⟩ : MethodName)) hown (mvT hZ (hw _ (List.mem_of_getElem? (i := 9) rfl))) (mvT hZ (hw _ (List.mem_of_getElem? (i := 10) rfl))) (notFace_of_selects (args := #[]) (mvT hZ (hw _ (List.mem_of_getElem? (i := 12) rfl)))) (mvT hZ (hw _ (List.mem_of_getElem? (i := 12) rfl))) (mvT hZ (hw _ (List.mem_of_getElem? (i := 11) rfl))) (by decide) (backOf (W := 0) (rm := ({ frames := 1, cells := 0, slots := 0, locals := 15 } : Room)) (rm3_2 l Z a0 hw [] o17 T26.heap F27) hZ (hw _ (List.mem_of_getElem? (i := 13) rfl)) (hw _ (List.mem_of_getElem? (i := 2) rfl)) (by decide) (by decide)) q28a q28c (g := (mkF m 88 #[.val (.int p1), .val (.int (1 : Int32)), .val (.ref o17), .val (.long f3_1), .second, .unset, .unset] [(.ref o17)])) rfl (by rw [hml]; rfl) (Steps.refl _) (argsL := []) (rest := []) (lenOf pd___J rfl) rfl (by show 2 * 0 + _ ≤ _; exact Nat.le_of_eq rfl) (hb hby at_88) (fun _ _ => ⟨rfl, rfl, (by decide : 1 + 0 ≤ _), (by decide : 1 + 0 ≤ _)⟩)
      dsimp only [Pt.U, Pt.locs, Pt.cells, Pt.slots] at X28 l28 y28 z28 st28 hQ28
      subst l28 y28 z28
      obtain ⟨rfl, rfl, e28⟩ := hQ28
      refine own_st (fun t k => st28.trans k) ?_
      have N28 := Fr.app N26 (Fr.nil n0)
      show OG p e _ s below _ T28 (mkF m 91 #[.val (.int p1), .val (.int (1 : Int32)), .val (.ref o17), .val (.long f3_1), .second, .unset, .unset] [(.long f3_2)])
      refine own_st (fun t k => XS.lstore X28.here hx rfl (hb hby at_91) rfl (l' := #[.val (.int p1), .val (.int (1 : Int32)), .val (.ref o17), .val (.long f3_1), .second, .val (.long f3_2), .second]) rfl k) ?_
      show OG p e _ s below _ T28 (mkF m 93 #[.val (.int p1), .val (.int (1 : Int32)), .val (.ref o17), .val (.long f3_1), .second, .val (.long f3_2), .second] [])
      refine own_st (fun t k => XS.lloadN X28.here hx rfl (hb hby at_93) rfl k) ?_
      show OG p e _ s below _ T28 (mkF m 94 #[.val (.int p1), .val (.int (1 : Int32)), .val (.ref o17), .val (.long f3_1), .second, .val (.long f3_2), .second] [(.long f3_1)])
      refine own_st (fun t k => XS.iloadN X28.here hx rfl (hb hby at_94) rfl k) ?_
      show OG p e _ s below _ T28 (mkF m 95 #[.val (.int p1), .val (.int (1 : Int32)), .val (.ref o17), .val (.long f3_1), .second, .val (.long f3_2), .second] [(.int (1 : Int32)), (.long f3_1)])
      obtain ⟨_, _, ⟨T29, L29, k29, n29⟩, -, X29, ⟨Lc29, hQ29, l29, y29, z29⟩, st29⟩ := Jvm.LawKit.callS X28 hx (y := (⟨"com/example/tidewire/tidewire/internal/BackoffAttemptedPinLaw", "ref", "(I)J"⟩ : MethodName)) hown (mvT hZ (hw _ (List.mem_of_getElem? (i := 28) rfl))) (mvT hZ (hw _ (List.mem_of_getElem? (i := 29) rfl))) (mvT hZ (hw _ (List.mem_of_getElem? (i := 30) rfl))) (mvT hZ (hw _ (List.mem_of_getElem? (i := 31) rfl))) (by decide) (backOf (W := 2) (rm := ({ frames := 1, cells := 0, slots := 0, locals := 15 } : Room)) (rm6 l Z a0 hw [] (1 : Int32) T26.heap) hZ (hw _ (List.mem_of_getElem? (i := 31) rfl)) (hw _ (List.mem_of_getElem? (i := 30) rfl)) (by decide) (by decide)) (g := (mkF m 95 #[.val (.int p1), .val (.int (1 : Int32)), .val (.ref o17), .val (.long f3_1), .second, .val (.long f3_2), .second] [(.int (1 : Int32)), (.long f3_1)])) rfl (by rw [hml]; rfl) (argsL := [(.int (1 : Int32))]) (rest := [(.long f3_1)]) (lenOf pd__I_J rfl) rfl (by show 2 * 0 + _ ≤ _; exact Nat.le_of_eq rfl) (hb hby at_95) (fun _ _ => ⟨rfl, e28, (by decide : 1 + 0 ≤ _), (by decide : 1 + 0 ≤ _)⟩)
      dsimp only [Pt.U, Pt.locs, Pt.cells, Pt.slots] at X29 l29 y29 z29 st29 hQ29
      subst l29 y29 z29
      obtain ⟨rfl, rfl, e29⟩ := hQ29
      refine own_st st29 ?_
      have N29 := Fr.app N28 (Fr.nil n0)
      show OG p e _ s below _ T29 (mkF m 98 #[.val (.int p1), .val (.int (1 : Int32)), .val (.ref o17), .val (.long f3_1), .second, .val (.long f3_2), .second] [(.long (f6 (1 : Int32))), (.long f3_1)])
      refine own_st (fun t k => XS.lcmp X29.here hx rfl (hb hby at_98) rfl k) ?_
      show OG p e _ s below _ T29 (mkF m 99 #[.val (.int p1), .val (.int (1 : Int32)), .val (.ref o17), .val (.long f3_1), .second, .val (.long f3_2), .second] [(.int (lcmpW f3_1 (f6 (1 : Int32))))])
      by_cases c30 : f3_1 = (f6 (1 : Int32))
      · refine own_st (fun t k => XS.ifNo X29.here hx rfl (hb hby at_99) rfl (own_if0 (teq ((lw_eq _ _).mpr c30)).2) k) ?_
        show OG p e _ s below _ T29 (mkF m 102 #[.val (.int p1), .val (.int (1 : Int32)), .val (.ref o17), .val (.long f3_1), .second, .val (.long f3_2), .second] [])
        refine own_st (fun t k => XS.lload X29.here hx rfl (hb hby at_102) rfl k) ?_
        show OG p e _ s below _ T29 (mkF m 104 #[.val (.int p1), .val (.int (1 : Int32)), .val (.ref o17), .val (.long f3_1), .second, .val (.long f3_2), .second] [(.long f3_2)])
        refine own_st (fun t k => XS.iloadN X29.here hx rfl (hb hby at_104) rfl k) ?_
        show OG p e _ s below _ T29 (mkF m 105 #[.val (.int p1), .val (.int (1 : Int32)), .val (.ref o17), .val (.long f3_1), .second, .val (.long f3_2), .second] [(.int (1 : Int32)), (.long f3_2)])
        refine own_st (fun t k => XS.iconst X29.here hx rfl (hb hby at_105) k) ?_
        show OG p e _ s below _ T29 (mkF m 106 #[.val (.int p1), .val (.int (1 : Int32)), .val (.ref o17), .val (.long f3_1), .second, .val (.long f3_2), .second] [(.int (1 : Int32)), (.int (1 : Int32)), (.long f3_2)])
        refine own_st (fun t k => XS.iadd X29.here hx rfl (hb hby at_106) rfl k) ?_
        show OG p e _ s below _ T29 (mkF m 107 #[.val (.int p1), .val (.int (1 : Int32)), .val (.ref o17), .val (.long f3_1), .second, .val (.long f3_2), .second] [(.int (2 : Int32)), (.long f3_2)])
        obtain ⟨_, _, ⟨T31, L31, k31, n31⟩, -, X31, ⟨Lc31, hQ31, l31, y31, z31⟩, st31⟩ := Jvm.LawKit.callS X29 hx (y := (⟨"com/example/tidewire/tidewire/internal/BackoffAttemptedPinLaw", "ref", "(I)J"⟩ : MethodName)) hown (mvT hZ (hw _ (List.mem_of_getElem? (i := 28) rfl))) (mvT hZ (hw _ (List.mem_of_getElem? (i := 29) rfl))) (mvT hZ (hw _ (List.mem_of_getElem? (i := 30) rfl))) (mvT hZ (hw _ (List.mem_of_getElem? (i := 31) rfl))) (by decide) (backOf (W := 2) (rm := ({ frames := 1, cells := 0, slots := 0, locals := 15 } : Room)) (rm6 l Z a0 hw [] (2 : Int32) T26.heap) hZ (hw _ (List.mem_of_getElem? (i := 31) rfl)) (hw _ (List.mem_of_getElem? (i := 30) rfl)) (by decide) (by decide)) (g := (mkF m 107 #[.val (.int p1), .val (.int (1 : Int32)), .val (.ref o17), .val (.long f3_1), .second, .val (.long f3_2), .second] [(.int (2 : Int32)), (.long f3_2)])) rfl (by rw [hml]; rfl) (argsL := [(.int (2 : Int32))]) (rest := [(.long f3_2)]) (lenOf pd__I_J rfl) rfl (by show 2 * 0 + _ ≤ _; exact Nat.le_of_eq rfl) (hb hby at_107) (fun _ _ => ⟨rfl, e29, (by decide : 1 + 0 ≤ _), (by decide : 1 + 0 ≤ _)⟩)
        dsimp only [Pt.U, Pt.locs, Pt.cells, Pt.slots] at X31 l31 y31 z31 st31 hQ31
        subst l31 y31 z31
        obtain ⟨rfl, rfl, e31⟩ := hQ31
        refine own_st st31 ?_
        have N31 := Fr.app N29 (Fr.nil n0)
        show OG p e _ s below _ T31 (mkF m 110 #[.val (.int p1), .val (.int (1 : Int32)), .val (.ref o17), .val (.long f3_1), .second, .val (.long f3_2), .second] [(.long (f6 (2 : Int32))), (.long f3_2)])
        refine own_st (fun t k => XS.lcmp X31.here hx rfl (hb hby at_110) rfl k) ?_
        show OG p e _ s below _ T31 (mkF m 111 #[.val (.int p1), .val (.int (1 : Int32)), .val (.ref o17), .val (.long f3_1), .second, .val (.long f3_2), .second] [(.int (lcmpW f3_2 (f6 (2 : Int32))))])
        by_cases c32 : f3_2 = (f6 (2 : Int32))
        · refine own_st (fun t k => XS.ifNo X31.here hx rfl (hb hby at_111) rfl (own_if0 (teq ((lw_eq _ _).mpr c32)).2) k) ?_
          show OG p e _ s below _ T31 (mkF m 114 #[.val (.int p1), .val (.int (1 : Int32)), .val (.ref o17), .val (.long f3_1), .second, .val (.long f3_2), .second] [])
          refine own_st (fun t k => XS.iconst X31.here hx rfl (hb hby at_114) k) ?_
          show OG p e _ s below _ T31 (mkF m 115 #[.val (.int p1), .val (.int (1 : Int32)), .val (.ref o17), .val (.long f3_1), .second, .val (.long f3_2), .second] [(.int (1 : Int32))])
          refine own_st (fun t k => XS.goto X31.here hx rfl (pc0 := 115) (pc' := 119) rfl (hb hby at_115) (by decide) (by decide) k) ?_
          show OG p e _ s below _ T31 (mkF m 119 #[.val (.int p1), .val (.int (1 : Int32)), .val (.ref o17), .val (.long f3_1), .second, .val (.long f3_2), .second] [(.int (1 : Int32))])
          refine own_retZ X31 hx (t := .boolean) hret (by simp) hlk (hb hby at_119) (by decide) (by decide) (w := (1 : Int32)) rfl ?_
          exact ⟨congrArg (fun z => some (Value.int z)) (show f0 p1 = (1 : Int32) from (by rw [f0, if_neg c1, if_pos c16, if_pos c30, if_pos c32])).symm, N31⟩
        · refine own_st (fun t k => XS.ifYes X31.here hx rfl (pc0 := 111) (pc' := 118) rfl (hb hby at_111) rfl (own_if0 (feq (fun q => c32 ((lw_eq _ _).mp q))).2) (by decide) (by decide) k) ?_
          show OG p e _ s below _ T31 (mkF m 118 #[.val (.int p1), .val (.int (1 : Int32)), .val (.ref o17), .val (.long f3_1), .second, .val (.long f3_2), .second] [])
          refine own_st (fun t k => XS.iconst X31.here hx rfl (hb hby at_118) k) ?_
          show OG p e _ s below _ T31 (mkF m 119 #[.val (.int p1), .val (.int (1 : Int32)), .val (.ref o17), .val (.long f3_1), .second, .val (.long f3_2), .second] [(.int (0 : Int32))])
          refine own_retZ X31 hx (t := .boolean) hret (by simp) hlk (hb hby at_119) (by decide) (by decide) (w := (0 : Int32)) rfl ?_
          exact ⟨congrArg (fun z => some (Value.int z)) (show f0 p1 = (0 : Int32) from (by rw [f0, if_neg c1, if_pos c16, if_pos c30, if_neg c32])).symm, N31⟩
      · refine own_st (fun t k => XS.ifYes X29.here hx rfl (pc0 := 99) (pc' := 118) rfl (hb hby at_99) rfl (own_if0 (feq (fun q => c30 ((lw_eq _ _).mp q))).2) (by decide) (by decide) k) ?_
        show OG p e _ s below _ T29 (mkF m 118 #[.val (.int p1), .val (.int (1 : Int32)), .val (.ref o17), .val (.long f3_1), .second, .val (.long f3_2), .second] [])
        refine own_st (fun t k => XS.iconst X29.here hx rfl (hb hby at_118) k) ?_
        show OG p e _ s below _ T29 (mkF m 119 #[.val (.int p1), .val (.int (1 : Int32)), .val (.ref o17), .val (.long f3_1), .second, .val (.long f3_2), .second] [(.int (0 : Int32))])
        refine own_retZ X29 hx (t := .boolean) hret (by simp) hlk (hb hby at_119) (by decide) (by decide) (w := (0 : Int32)) rfl ?_
        exact ⟨congrArg (fun z => some (Value.int z)) (show f0 p1 = (0 : Int32) from (by rw [f0, if_neg c1, if_pos c16, if_neg c30])).symm, N29⟩
    · skip
      by_cases c33 : (g0_1 p1) = (2 : Int32)
      · rw [c33]
        show OG p e _ s below _ s₁ (mkF m 5 #[.val (.int p1), .val (.int (2 : Int32)), .unset, .unset, .unset, .unset, .unset] [])
        obtain ⟨T34, h34, X34, e34, E34, A34, D34, -, st34⟩ := newO X0 hx hZ hown (hw _ (List.mem_of_getElem? (i := 0) rfl)) (hw _ (List.mem_of_getElem? (i := 1) rfl)) (hw _ (List.mem_of_getElem? (i := 2) rfl)) e0 (g := (mkF m 5 #[.val (.int p1), .val (.int (2 : Int32)), .unset, .unset, .unset, .unset, .unset] [])) rfl (hb hby at_5) (by decide) (by decide)
        obtain ⟨o34, gb34⟩ : ∃ z, z = h0.size := ⟨_, rfl⟩
        rw [← gb34] at A34 D34 st34
        refine own_st st34 ?_
        have ge_o34 : n0 ≤ o34 := by rw [gb34]; exact Nat.le_trans Z0 (Keep.refl h0 []).1
        have sz_o34 : h0.size ≤ o34 := by rw [gb34]; exact (Keep.refl h0 []).1
        have K35 : Keep h0 h34 [] := (Keep.refl h0 []).ext E34
        have F36 : Fld Z h34 o34 "com/example/tidewire/tidewire/internal/Backoff" "attempts" "I" (.int (0 : Int32)) := D34 (Or.inl (hw _ (List.mem_of_getElem? (i := 15) rfl))) (ty := .int) (by decide)
        show OG p e _ s below _ T34 (mkF m 8 #[.val (.int p1), .val (.int (2 : Int32)), .unset, .unset, .unset, .unset, .unset] [(.ref o34)])
        refine own_st (fun t k => XS.dup X34.here hx rfl (hb hby at_8) rfl rfl k) ?_
        show OG p e _ s below _ T34 (mkF m 9 #[.val (.int p1), .val (.int (2 : Int32)), .unset, .unset, .unset, .unset, .unset] [(.ref o34), (.ref o34)])
        obtain ⟨_, _, ⟨T37, L37, k37, n37⟩, -, X37, ⟨Lc37, hQ37, l37, y37, z37⟩, st37⟩ := X34.specialBack hx (y := (⟨"com/example/tidewire/tidewire/internal/Backoff", "<init>", "()V"⟩ : MethodName)) rfl hown (mvT hZ (hw _ (List.mem_of_getElem? (i := 3) rfl))) (mvT hZ (hw _ (List.mem_of_getElem? (i := 4) rfl))) (mvT hZ (hw _ (List.mem_of_getElem? (i := 5) rfl))) (by decide) (backOf (W := 1) (rm := ({ frames := 1, cells := 0, slots := 0, locals := 12 } : Room)) (rm1 l Z a0 hw [] o34 h34 n0) hZ (hw _ (List.mem_of_getElem? (i := 5) rfl)) (hw _ (List.mem_of_getElem? (i := 2) rfl)) (by decide) (by decide)) (g := (mkF m 9 #[.val (.int p1), .val (.int (2 : Int32)), .unset, .unset, .unset, .unset, .unset] [(.ref o34), (.ref o34)])) rfl (by rw [hml]; rfl) (Steps.refl _) (a := o34) (argsL := []) (rest := [(.ref o34)]) (lenOf pd___V rfl) rfl (by show 2 * 0 + _ ≤ _; exact Nat.le_of_eq rfl) (hb hby at_9) (fun _ _ => ⟨rfl, e34, (by decide : 1 + 0 ≤ _), (by decide : 1 + 0 ≤ _)⟩)
        dsimp only [Pt.U, Pt.locs, Pt.cells, Pt.slots] at X37 l37 y37 z37 st37 hQ37
        subst l37 y37 z37
        obtain ⟨rfl, N37q, K37q⟩ := hQ37
        refine own_st (fun t k => st37.trans k) ?_
        have N37 := Fr.app N0 N37q
        have K37 : Keep h0 T37.heap [] := K35.trans K37q (own_all0 )
        have F38 : Exa Z T37.heap o34 "com/example/tidewire/tidewire/internal/Backoff" := (A34.keep K37q)
        have F39 : Fld Z T37.heap o34 "com/example/tidewire/tidewire/internal/Backoff" "attempts" "I" (.int (0 : Int32)) := (F36.keep K37q (own_nin0 ))
        show OG p e _ s below _ T37 (mkF m 12 #[.val (.int p1), .val (.int (2 : Int32)), .unset, .unset, .unset, .unset, .unset] [(.ref o34)])
        refine own_st (fun t k => XS.astoreN X37.here hx rfl (hb hby at_12) rfl rfl (l' := #[.val (.int p1), .val (.int (2 : Int32)), .val (.ref o34), .unset, .unset, .unset, .unset]) rfl k) ?_
        show OG p e _ s below _ T37 (mkF m 13 #[.val (.int p1), .val (.int (2 : Int32)), .val (.ref o34), .unset, .unset, .unset, .unset] [])
        refine own_st (fun t k => XS.iloadN X37.here hx rfl (hb hby at_13) rfl k) ?_
        show OG p e _ s below _ T37 (mkF m 14 #[.val (.int p1), .val (.int (2 : Int32)), .val (.ref o34), .unset, .unset, .unset, .unset] [(.int (2 : Int32))])
        refine own_st (fun t k => XS.iconst X37.here hx rfl (hb hby at_14) k) ?_
        show OG p e _ s below _ T37 (mkF m 15 #[.val (.int p1), .val (.int (2 : Int32)), .val (.ref o34), .unset, .unset, .unset, .unset] [(.int (1 : Int32)), (.int (2 : Int32))])
        refine own_st (fun t k => XS.icmpNo X37.here hx rfl (hb hby at_15) rfl (by decide) k) ?_
        show OG p e _ s below _ T37 (mkF m 18 #[.val (.int p1), .val (.int (2 : Int32)), .val (.ref o34), .unset, .unset, .unset, .unset] [])
        refine own_st (fun t k => XS.aloadN X37.here hx rfl (hb hby at_18) rfl rfl k) ?_
        show OG p e _ s below _ T37 (mkF m 19 #[.val (.int p1), .val (.int (2 : Int32)), .val (.ref o34), .unset, .unset, .unset, .unset] [(.ref o34)])
        obtain ⟨cq40, kq40, q40a, q40b, q40c⟩ := isOf hZ rfl F38
        obtain ⟨_, _, ⟨T40, L40, k40, n40⟩, -, X40, ⟨Lc40, hQ40, l40, y40, z40⟩, st40⟩ := X37.virtualBack hx (y := (⟨"com/example/tidewire/tidewire/internal/Backoff", "attempted", "()V"⟩ : MethodName)) (z := (⟨"com/example/tidewire/tidewire/internal/Backoff", "attempted", "()V"⟩ : MethodName)) hown (mvT hZ (hw _ (List.mem_of_getElem? (i := 16) rfl))) (mvT hZ (hw _ (List.mem_of_getElem? (i := 17) rfl))) (notFace_of_selects (args := #[]) (mvT hZ (hw _ (List.mem_of_getElem? (i := 19) rfl)))) (mvT hZ (hw _ (List.mem_of_getElem? (i := 19) rfl))) (mvT hZ (hw _ (List.mem_of_getElem? (i := 18) rfl))) (by decide) (backOf (W := 0) (rm := ({ frames := 0, cells := 0, slots := 0, locals := 0 } : Room)) (rm4 l Z a0 hw [] o34 (0 : Int32) T37.heap n0 F38 F39 ge_o34 (by decide)) hZ (hw _ (List.mem_of_getElem? (i := 20) rfl)) (hw _ (List.mem_of_getElem? (i := 2) rfl)) (by decide) (by decide)) q40a q40c (g := (mkF m 19 #[.val (.int p1), .val (.int (2 : Int32)), .val (.ref o34), .unset, .unset, .unset, .unset] [(.ref o34)])) rfl (by rw [hml]; rfl) (Steps.refl _) (argsL := []) (rest := []) (lenOf pd___V rfl) rfl (by show 2 * 0 + _ ≤ _; exact Nat.le_of_eq rfl) (hb hby at_19) (fun _ _ => ⟨rfl, rfl, (by decide : 1 + 0 ≤ _), (by decide : 1 + 0 ≤ _)⟩)
        dsimp only [Pt.U, Pt.locs, Pt.cells, Pt.slots] at X40 l40 y40 z40 st40 hQ40
        subst l40 y40 z40
        obtain ⟨rfl, N40q, K40q, P40_0, P40_1⟩ := hQ40
        refine own_st (fun t k => st40.trans k) ?_
        have N40 := Fr.app N37 N40q
        have K40 : Keep h0 T40.heap [] := K37.trans K40q (own_all1 (Or.inr sz_o34))
        have F41 : Fld Z T40.heap o34 "com/example/tidewire/tidewire/internal/Backoff" "attempts" "I" (.int (1 : Int32)) := P40_1
        show OG p e _ s below _ T40 (mkF m 22 #[.val (.int p1), .val (.int (2 : Int32)), .val (.ref o34), .unset, .unset, .unset, .unset] [])
        refine own_st (fun t k => XS.iloadN X40.here hx rfl (hb hby at_22) rfl k) ?_
        show OG p e _ s below _ T40 (mkF m 23 #[.val (.int p1), .val (.int (2 : Int32)), .val (.ref o34), .unset, .unset, .unset, .unset] [(.int (2 : Int32))])
        refine own_st (fun t k => XS.iconst X40.here hx rfl (hb hby at_23) k) ?_
        show OG p e _ s below _ T40 (mkF m 24 #[.val (.int p1), .val (.int (2 : Int32)), .val (.ref o34), .unset, .unset, .unset, .unset] [(.int (2 : Int32)), (.int (2 : Int32))])
        refine own_st (fun t k => XS.icmpNo X40.here hx rfl (hb hby at_24) rfl (by decide) k) ?_
        show OG p e _ s below _ T40 (mkF m 27 #[.val (.int p1), .val (.int (2 : Int32)), .val (.ref o34), .unset, .unset, .unset, .unset] [])
        refine own_st (fun t k => XS.aloadN X40.here hx rfl (hb hby at_27) rfl rfl k) ?_
        show OG p e _ s below _ T40 (mkF m 28 #[.val (.int p1), .val (.int (2 : Int32)), .val (.ref o34), .unset, .unset, .unset, .unset] [(.ref o34)])
        obtain ⟨cq42, kq42, q42a, q42b, q42c⟩ := isOf hZ rfl P40_0
        obtain ⟨_, _, ⟨T42, L42, k42, n42⟩, -, X42, ⟨Lc42, hQ42, l42, y42, z42⟩, st42⟩ := X40.virtualBack hx (y := (⟨"com/example/tidewire/tidewire/internal/Backoff", "attempted", "()V"⟩ : MethodName)) (z := (⟨"com/example/tidewire/tidewire/internal/Backoff", "attempted", "()V"⟩ : MethodName)) hown (mvT hZ (hw _ (List.mem_of_getElem? (i := 16) rfl))) (mvT hZ (hw _ (List.mem_of_getElem? (i := 17) rfl))) (notFace_of_selects (args := #[]) (mvT hZ (hw _ (List.mem_of_getElem? (i := 19) rfl)))) (mvT hZ (hw _ (List.mem_of_getElem? (i := 19) rfl))) (mvT hZ (hw _ (List.mem_of_getElem? (i := 18) rfl))) (by decide) (backOf (W := 0) (rm := ({ frames := 0, cells := 0, slots := 0, locals := 0 } : Room)) (rm4 l Z a0 hw [] o34 (1 : Int32) T40.heap n0 P40_0 F41 ge_o34 (by decide)) hZ (hw _ (List.mem_of_getElem? (i := 20) rfl)) (hw _ (List.mem_of_getElem? (i := 2) rfl)) (by decide) (by decide)) q42a q42c (g := (mkF m 28 #[.val (.int p1), .val (.int (2 : Int32)), .val (.ref o34), .unset, .unset, .unset, .unset] [(.ref o34)])) rfl (by rw [hml]; rfl) (Steps.refl _) (argsL := []) (rest := []) (lenOf pd___V rfl) rfl (by show 2 * 0 + _ ≤ _; exact Nat.le_of_eq rfl) (hb hby at_28) (fun _ _ => ⟨rfl, rfl, (by decide : 1 + 0 ≤ _), (by decide : 1 + 0 ≤ _)⟩)
        dsimp only [Pt.U, Pt.locs, Pt.cells, Pt.slots] at X42 l42 y42 z42 st42 hQ42
        subst l42 y42 z42
        obtain ⟨rfl, N42q, K42q, P42_0, P42_1⟩ := hQ42
        refine own_st (fun t k => st42.trans k) ?_
        have N42 := Fr.app N40 N42q
        have K42 : Keep h0 T42.heap [] := K40.trans K42q (own_all1 (Or.inr sz_o34))
        have F43 : Fld Z T42.heap o34 "com/example/tidewire/tidewire/internal/Backoff" "attempts" "I" (.int (2 : Int32)) := P42_1
        show OG p e _ s below _ T42 (mkF m 31 #[.val (.int p1), .val (.int (2 : Int32)), .val (.ref o34), .unset, .unset, .unset, .unset] [])
        refine own_st (fun t k => XS.iloadN X42.here hx rfl (hb hby at_31) rfl k) ?_
        show OG p e _ s below _ T42 (mkF m 32 #[.val (.int p1), .val (.int (2 : Int32)), .val (.ref o34), .unset, .unset, .unset, .unset] [(.int (2 : Int32))])
        refine own_st (fun t k => XS.iconst X42.here hx rfl (hb hby at_32) k) ?_
        show OG p e _ s below _ T42 (mkF m 33 #[.val (.int p1), .val (.int (2 : Int32)), .val (.ref o34), .unset, .unset, .unset, .unset] [(.int (3 : Int32)), (.int (2 : Int32))])
        refine own_st (fun t k => XS.icmpYes X42.here hx rfl (pc0 := 33) (pc' := 40) rfl (hb hby at_33) rfl (by decide) (by decide) (by decide) k) ?_
        show OG p e _ s below _ T42 (mkF m 40 #[.val (.int p1), .val (.int (2 : Int32)), .val (.ref o34), .unset, .unset, .unset, .unset] [])
        refine own_st (fun t k => XS.iloadN X42.here hx rfl (hb hby at_40) rfl k) ?_
        show OG p e _ s below _ T42 (mkF m 41 #[.val (.int p1), .val (.int (2 : Int32)), .val (.ref o34), .unset, .unset, .unset, .unset] [(.int (2 : Int32))])
        refine own_st (fun t k => XS.iconst X42.here hx rfl (hb hby at_41) k) ?_
        show OG p e _ s below _ T42 (mkF m 42 #[.val (.int p1), .val (.int (2 : Int32)), .val (.ref o34), .unset, .unset, .unset, .unset] [(.int (4 : Int32)), (.int (2 : Int32))])
        refine own_st (fun t k => XS.icmpYes X42.here hx rfl (pc0 := 42) (pc' := 49) rfl (hb hby at_42) rfl (by decide) (by decide) (by decide) k) ?_
        show OG p e _ s below _ T42 (mkF m 49 #[.val (.int p1), .val (.int (2 : Int32)), .val (.ref o34), .unset, .unset, .unset, .unset] [])
        refine own_st (fun t k => XS.iloadN X42.here hx rfl (hb hby at_49) rfl k) ?_
        show OG p e _ s below _ T42 (mkF m 50 #[.val (.int p1), .val (.int (2 : Int32)), .val (.ref o34), .unset, .unset, .unset, .unset] [(.int (2 : Int32))])
        refine own_st (fun t k => XS.iconst X42.here hx rfl (hb hby at_50) k) ?_
        show OG p e _ s below _ T42 (mkF m 51 #[.val (.int p1), .val (.int (2 : Int32)), .val (.ref o34), .unset, .unset, .unset, .unset] [(.int (5 : Int32)), (.int (2 : Int32))])
        refine own_st (fun t k => XS.icmpYes X42.here hx rfl (pc0 := 51) (pc' := 58) rfl (hb hby at_51) rfl (by decide) (by decide) (by decide) k) ?_
        show OG p e _ s below _ T42 (mkF m 58 #[.val (.int p1), .val (.int (2 : Int32)), .val (.ref o34), .unset, .unset, .unset, .unset] [])
        refine own_st (fun t k => XS.iloadN X42.here hx rfl (hb hby at_58) rfl k) ?_
        show OG p e _ s below _ T42 (mkF m 59 #[.val (.int p1), .val (.int (2 : Int32)), .val (.ref o34), .unset, .unset, .unset, .unset] [(.int (2 : Int32))])
        refine own_st (fun t k => XS.bipush X42.here hx rfl (hb hby at_59) k) ?_
        show OG p e _ s below _ T42 (mkF m 61 #[.val (.int p1), .val (.int (2 : Int32)), .val (.ref o34), .unset, .unset, .unset, .unset] [(.int (6 : Int32)), (.int (2 : Int32))])
        refine own_st (fun t k => XS.icmpYes X42.here hx rfl (pc0 := 61) (pc' := 68) rfl (hb hby at_61) rfl (by decide) (by decide) (by decide) k) ?_
        show OG p e _ s below _ T42 (mkF m 68 #[.val (.int p1), .val (.int (2 : Int32)), .val (.ref o34), .unset, .unset, .unset, .unset] [])
        refine own_st (fun t k => XS.iloadN X42.here hx rfl (hb hby at_68) rfl k) ?_
        show OG p e _ s below _ T42 (mkF m 69 #[.val (.int p1), .val (.int (2 : Int32)), .val (.ref o34), .unset, .unset, .unset, .unset] [(.int (2 : Int32))])
        refine own_st (fun t k => XS.bipush X42.here hx rfl (hb hby at_69) k) ?_
        show OG p e _ s below _ T42 (mkF m 71 #[.val (.int p1), .val (.int (2 : Int32)), .val (.ref o34), .unset, .unset, .unset, .unset] [(.int (7 : Int32)), (.int (2 : Int32))])
        refine own_st (fun t k => XS.icmpYes X42.here hx rfl (pc0 := 71) (pc' := 78) rfl (hb hby at_71) rfl (by decide) (by decide) (by decide) k) ?_
        show OG p e _ s below _ T42 (mkF m 78 #[.val (.int p1), .val (.int (2 : Int32)), .val (.ref o34), .unset, .unset, .unset, .unset] [])
        refine own_st (fun t k => XS.aloadN X42.here hx rfl (hb hby at_78) rfl rfl k) ?_
        show OG p e _ s below _ T42 (mkF m 79 #[.val (.int p1), .val (.int (2 : Int32)), .val (.ref o34), .unset, .unset, .unset, .unset] [(.ref o34)])
        obtain ⟨cq44, kq44, q44a, q44b, q44c⟩ := isOf hZ rfl P42_0
        obtain ⟨_, _, ⟨T44, L44, k44, n44⟩, -, X44, ⟨Lc44, hQ44, l44, y44, z44⟩, st44⟩ := X42.virtualBack hx (y := (⟨"com/example/tidewire/tidewire/internal/Backoff", "delayMs", "()J"⟩ : MethodName)) (z := (⟨"com/example/tidewire/tidewire/internal/Backoff", "delayMs", "()J"⟩ : MethodName)) hown (mvT hZ (hw _ (List.mem_of_getElem? (i := 9) rfl))) (mvT hZ (hw _ (List.mem_of_getElem? (i := 10) rfl))) (notFace_of_selects (args := #[]) (mvT hZ (hw _ (List.mem_of_getElem? (i := 12) rfl)))) (mvT hZ (hw _ (List.mem_of_getElem? (i := 12) rfl))) (mvT hZ (hw _ (List.mem_of_getElem? (i := 11) rfl))) (by decide) (backOf (W := 0) (rm := ({ frames := 1, cells := 0, slots := 0, locals := 15 } : Room)) (rm3_2 l Z a0 hw [] o34 T42.heap F43) hZ (hw _ (List.mem_of_getElem? (i := 13) rfl)) (hw _ (List.mem_of_getElem? (i := 2) rfl)) (by decide) (by decide)) q44a q44c (g := (mkF m 79 #[.val (.int p1), .val (.int (2 : Int32)), .val (.ref o34), .unset, .unset, .unset, .unset] [(.ref o34)])) rfl (by rw [hml]; rfl) (Steps.refl _) (argsL := []) (rest := []) (lenOf pd___J rfl) rfl (by show 2 * 0 + _ ≤ _; exact Nat.le_of_eq rfl) (hb hby at_79) (fun _ _ => ⟨rfl, rfl, (by decide : 1 + 0 ≤ _), (by decide : 1 + 0 ≤ _)⟩)
        dsimp only [Pt.U, Pt.locs, Pt.cells, Pt.slots] at X44 l44 y44 z44 st44 hQ44
        subst l44 y44 z44
        obtain ⟨rfl, rfl, e44⟩ := hQ44
        refine own_st (fun t k => st44.trans k) ?_
        have N44 := Fr.app N42 (Fr.nil n0)
        show OG p e _ s below _ T44 (mkF m 82 #[.val (.int p1), .val (.int (2 : Int32)), .val (.ref o34), .unset, .unset, .unset, .unset] [(.long f3_2)])
        refine own_st (fun t k => XS.lstoreN X44.here hx rfl (hb hby at_82) rfl (l' := #[.val (.int p1), .val (.int (2 : Int32)), .val (.ref o34), .val (.long f3_2), .second, .unset, .unset]) rfl k) ?_
        show OG p e _ s below _ T44 (mkF m 83 #[.val (.int p1), .val (.int (2 : Int32)), .val (.ref o34), .val (.long f3_2), .second, .unset, .unset] [])
        refine own_st (fun t k => XS.aloadN X44.here hx rfl (hb hby at_83) rfl rfl k) ?_
        show OG p e _ s below _ T44 (mkF m 84 #[.val (.int p1), .val (.int (2 : Int32)), .val (.ref o34), .val (.long f3_2), .second, .unset, .unset] [(.ref o34)])
        obtain ⟨cq45, kq45, q45a, q45b, q45c⟩ := isOf hZ e44 P42_0
        obtain ⟨_, _, ⟨T45, L45, k45, n45⟩, -, X45, ⟨Lc45, hQ45, l45, y45, z45⟩, st45⟩ := X44.virtualBack hx (y := (⟨"com/example/tidewire/tidewire/internal/Backoff", "attempted", "()V"⟩ : MethodName)) (z := (⟨"com/example/tidewire/tidewire/internal/Backoff", "attempted", "()V"⟩ : MethodName)) hown (mvT hZ (hw _ (List.mem_of_getElem? (i := 16) rfl))) (mvT hZ (hw _ (List.mem_of_getElem? (i := 17) rfl))) (notFace_of_selects (args := #[]) (mvT hZ (hw _ (List.mem_of_getElem? (i := 19) rfl)))) (mvT hZ (hw _ (List.mem_of_getElem? (i := 19) rfl))) (mvT hZ (hw _ (List.mem_of_getElem? (i := 18) rfl))) (by decide) (backOf (W := 0) (rm := ({ frames := 0, cells := 0, slots := 0, locals := 0 } : Room)) (rm4 l Z a0 hw [] o34 (2 : Int32) T42.heap n0 P42_0 F43 ge_o34 (by decide)) hZ (hw _ (List.mem_of_getElem? (i := 20) rfl)) (hw _ (List.mem_of_getElem? (i := 2) rfl)) (by decide) (by decide)) q45a q45c (g := (mkF m 84 #[.val (.int p1), .val (.int (2 : Int32)), .val (.ref o34), .val (.long f3_2), .second, .unset, .unset] [(.ref o34)])) rfl (by rw [hml]; rfl) (Steps.refl _) (argsL := []) (rest := []) (lenOf pd___V rfl) rfl (by show 2 * 0 + _ ≤ _; exact Nat.le_of_eq rfl) (hb hby at_84) (fun _ _ => ⟨rfl, e44, (by decide : 1 + 0 ≤ _), (by decide : 1 + 0 ≤ _)⟩)
        dsimp only [Pt.U, Pt.locs, Pt.cells, Pt.slots] at X45 l45 y45 z45 st45 hQ45
        subst l45 y45 z45
        obtain ⟨rfl, N45q, K45q, P45_0, P45_1⟩ := hQ45
        refine own_st (fun t k => st45.trans k) ?_
        have N45 := Fr.app N44 N45q
        have K45 : Keep h0 T45.heap [] := K42.trans K45q (own_all1 (Or.inr sz_o34))
        have F46 : Fld Z T45.heap o34 "com/example/tidewire/tidewire/internal/Backoff" "attempts" "I" (.int (3 : Int32)) := P45_1
        show OG p e _ s below _ T45 (mkF m 87 #[.val (.int p1), .val (.int (2 : Int32)), .val (.ref o34), .val (.long f3_2), .second, .unset, .unset] [])
        refine own_st (fun t k => XS.aloadN X45.here hx rfl (hb hby at_87) rfl rfl k) ?_
        show OG p e _ s below _ T45 (mkF m 88 #[.val (.int p1), .val (.int (2 : Int32)), .val (.ref o34), .val (.long f3_2), .second, .unset, .unset] [(.ref o34)])
        obtain ⟨cq47, kq47, q47a, q47b, q47c⟩ := isOf hZ rfl P45_0
        obtain ⟨_, _, ⟨T47, L47, k47, n47⟩, -, X47, ⟨Lc47, hQ47, l47, y47, z47⟩, st47⟩ := X45.virtualBack hx (y := (⟨"com/example/tidewire/tidewire/internal/Backoff", "delayMs", "()J"⟩ : MethodName)) (z := (⟨"com/example/tidewire/tidewire/internal/Backoff", "delayMs", "()J"⟩ : MethodName)) hown (mvT hZ (hw _ (List.mem_of_getElem? (i := 9) rfl))) (mvT hZ (hw _ (List.mem_of_getElem? (i := 10) rfl))) (notFace_of_selects (args := #[]) (mvT hZ (hw _ (List.mem_of_getElem? (i := 12) rfl)))) (mvT hZ (hw _ (List.mem_of_getElem? (i := 12) rfl))) (mvT hZ (hw _ (List.mem_of_getElem? (i := 11) rfl))) (by decide) (backOf (W := 0) (rm := ({ frames := 1, cells := 0, slots := 0, locals := 15 } : Room)) (rm3_3 l Z a0 hw [] o34 T45.heap F46) hZ (hw _ (List.mem_of_getElem? (i := 13) rfl)) (hw _ (List.mem_of_getElem? (i := 2) rfl)) (by decide) (by decide)) q47a q47c (g := (mkF m 88 #[.val (.int p1), .val (.int (2 : Int32)), .val (.ref o34), .val (.long f3_2), .second, .unset, .unset] [(.ref o34)])) rfl (by rw [hml]; rfl) (Steps.refl _) (argsL := []) (rest := []) (lenOf pd___J rfl) rfl (by show 2 * 0 + _ ≤ _; exact Nat.le_of_eq rfl) (hb hby at_88) (fun _ _ => ⟨rfl, rfl, (by decide : 1 + 0 ≤ _), (by decide : 1 + 0 ≤ _)⟩)
        dsimp only [Pt.U, Pt.locs, Pt.cells, Pt.slots] at X47 l47 y47 z47 st47 hQ47
        subst l47 y47 z47
        obtain ⟨rfl, rfl, e47⟩ := hQ47
        refine own_st (fun t k => st47.trans k) ?_
        have N47 := Fr.app N45 (Fr.nil n0)
        show OG p e _ s below _ T47 (mkF m 91 #[.val (.int p1), .val (.int (2 : Int32)), .val (.ref o34), .val (.long f3_2), .second, .unset, .unset] [(.long f3_3)])
        refine own_st (fun t k => XS.lstore X47.here hx rfl (hb hby at_91) rfl (l' := #[.val (.int p1), .val (.int (2 : Int32)), .val (.ref o34), .val (.long f3_2), .second, .val (.long f3_3), .second]) rfl k) ?_
        show OG p e _ s below _ T47 (mkF m 93 #[.val (.int p1), .val (.int (2 : Int32)), .val (.ref o34), .val (.long f3_2), .second, .val (.long f3_3), .second] [])
        refine own_st (fun t k => XS.lloadN X47.here hx rfl (hb hby at_93) rfl k) ?_
        show OG p e _ s below _ T47 (mkF m 94 #[.val (.int p1), .val (.int (2 : Int32)), .val (.ref o34), .val (.long f3_2), .second, .val (.long f3_3), .second] [(.long f3_2)])
        refine own_st (fun t k => XS.iloadN X47.here hx rfl (hb hby at_94) rfl k) ?_
        show OG p e _ s below _ T47 (mkF m 95 #[.val (.int p1), .val (.int (2 : Int32)), .val (.ref o34), .val (.long f3_2), .second, .val (.long f3_3), .second] [(.int (2 : Int32)), (.long f3_2)])
        obtain ⟨_, _, ⟨T48, L48, k48, n48⟩, -, X48, ⟨Lc48, hQ48, l48, y48, z48⟩, st48⟩ := Jvm.LawKit.callS X47 hx (y := (⟨"com/example/tidewire/tidewire/internal/BackoffAttemptedPinLaw", "ref", "(I)J"⟩ : MethodName)) hown (mvT hZ (hw _ (List.mem_of_getElem? (i := 28) rfl))) (mvT hZ (hw _ (List.mem_of_getElem? (i := 29) rfl))) (mvT hZ (hw _ (List.mem_of_getElem? (i := 30) rfl))) (mvT hZ (hw _ (List.mem_of_getElem? (i := 31) rfl))) (by decide) (backOf (W := 2) (rm := ({ frames := 1, cells := 0, slots := 0, locals := 15 } : Room)) (rm6 l Z a0 hw [] (2 : Int32) T45.heap) hZ (hw _ (List.mem_of_getElem? (i := 31) rfl)) (hw _ (List.mem_of_getElem? (i := 30) rfl)) (by decide) (by decide)) (g := (mkF m 95 #[.val (.int p1), .val (.int (2 : Int32)), .val (.ref o34), .val (.long f3_2), .second, .val (.long f3_3), .second] [(.int (2 : Int32)), (.long f3_2)])) rfl (by rw [hml]; rfl) (argsL := [(.int (2 : Int32))]) (rest := [(.long f3_2)]) (lenOf pd__I_J rfl) rfl (by show 2 * 0 + _ ≤ _; exact Nat.le_of_eq rfl) (hb hby at_95) (fun _ _ => ⟨rfl, e47, (by decide : 1 + 0 ≤ _), (by decide : 1 + 0 ≤ _)⟩)
        dsimp only [Pt.U, Pt.locs, Pt.cells, Pt.slots] at X48 l48 y48 z48 st48 hQ48
        subst l48 y48 z48
        obtain ⟨rfl, rfl, e48⟩ := hQ48
        refine own_st st48 ?_
        have N48 := Fr.app N47 (Fr.nil n0)
        show OG p e _ s below _ T48 (mkF m 98 #[.val (.int p1), .val (.int (2 : Int32)), .val (.ref o34), .val (.long f3_2), .second, .val (.long f3_3), .second] [(.long (f6 (2 : Int32))), (.long f3_2)])
        refine own_st (fun t k => XS.lcmp X48.here hx rfl (hb hby at_98) rfl k) ?_
        show OG p e _ s below _ T48 (mkF m 99 #[.val (.int p1), .val (.int (2 : Int32)), .val (.ref o34), .val (.long f3_2), .second, .val (.long f3_3), .second] [(.int (lcmpW f3_2 (f6 (2 : Int32))))])
        by_cases c49 : f3_2 = (f6 (2 : Int32))
        · refine own_st (fun t k => XS.ifNo X48.here hx rfl (hb hby at_99) rfl (own_if0 (teq ((lw_eq _ _).mpr c49)).2) k) ?_
          show OG p e _ s below _ T48 (mkF m 102 #[.val (.int p1), .val (.int (2 : Int32)), .val (.ref o34), .val (.long f3_2), .second, .val (.long f3_3), .second] [])
          refine own_st (fun t k => XS.lload X48.here hx rfl (hb hby at_102) rfl k) ?_
          show OG p e _ s below _ T48 (mkF m 104 #[.val (.int p1), .val (.int (2 : Int32)), .val (.ref o34), .val (.long f3_2), .second, .val (.long f3_3), .second] [(.long f3_3)])
          refine own_st (fun t k => XS.iloadN X48.here hx rfl (hb hby at_104) rfl k) ?_
          show OG p e _ s below _ T48 (mkF m 105 #[.val (.int p1), .val (.int (2 : Int32)), .val (.ref o34), .val (.long f3_2), .second, .val (.long f3_3), .second] [(.int (2 : Int32)), (.long f3_3)])
          refine own_st (fun t k => XS.iconst X48.here hx rfl (hb hby at_105) k) ?_
          show OG p e _ s below _ T48 (mkF m 106 #[.val (.int p1), .val (.int (2 : Int32)), .val (.ref o34), .val (.long f3_2), .second, .val (.long f3_3), .second] [(.int (1 : Int32)), (.int (2 : Int32)), (.long f3_3)])
          refine own_st (fun t k => XS.iadd X48.here hx rfl (hb hby at_106) rfl k) ?_
          show OG p e _ s below _ T48 (mkF m 107 #[.val (.int p1), .val (.int (2 : Int32)), .val (.ref o34), .val (.long f3_2), .second, .val (.long f3_3), .second] [(.int (3 : Int32)), (.long f3_3)])
          obtain ⟨_, _, ⟨T50, L50, k50, n50⟩, -, X50, ⟨Lc50, hQ50, l50, y50, z50⟩, st50⟩ := Jvm.LawKit.callS X48 hx (y := (⟨"com/example/tidewire/tidewire/internal/BackoffAttemptedPinLaw", "ref", "(I)J"⟩ : MethodName)) hown (mvT hZ (hw _ (List.mem_of_getElem? (i := 28) rfl))) (mvT hZ (hw _ (List.mem_of_getElem? (i := 29) rfl))) (mvT hZ (hw _ (List.mem_of_getElem? (i := 30) rfl))) (mvT hZ (hw _ (List.mem_of_getElem? (i := 31) rfl))) (by decide) (backOf (W := 2) (rm := ({ frames := 1, cells := 0, slots := 0, locals := 15 } : Room)) (rm6 l Z a0 hw [] (3 : Int32) T45.heap) hZ (hw _ (List.mem_of_getElem? (i := 31) rfl)) (hw _ (List.mem_of_getElem? (i := 30) rfl)) (by decide) (by decide)) (g := (mkF m 107 #[.val (.int p1), .val (.int (2 : Int32)), .val (.ref o34), .val (.long f3_2), .second, .val (.long f3_3), .second] [(.int (3 : Int32)), (.long f3_3)])) rfl (by rw [hml]; rfl) (argsL := [(.int (3 : Int32))]) (rest := [(.long f3_3)]) (lenOf pd__I_J rfl) rfl (by show 2 * 0 + _ ≤ _; exact Nat.le_of_eq rfl) (hb hby at_107) (fun _ _ => ⟨rfl, e48, (by decide : 1 + 0 ≤ _), (by decide : 1 + 0 ≤ _)⟩)
          dsimp only [Pt.U, Pt.locs, Pt.cells, Pt.slots] at X50 l50 y50 z50 st50 hQ50
          subst l50 y50 z50
          obtain ⟨rfl, rfl, e50⟩ := hQ50
          refine own_st st50 ?_
          have N50 := Fr.app N48 (Fr.nil n0)
          show OG p e _ s below _ T50 (mkF m 110 #[.val (.int p1), .val (.int (2 : Int32)), .val (.ref o34), .val (.long f3_2), .second, .val (.long f3_3), .second] [(.long (f6 (3 : Int32))), (.long f3_3)])
          refine own_st (fun t k => XS.lcmp X50.here hx rfl (hb hby at_110) rfl k) ?_
          show OG p e _ s below _ T50 (mkF m 111 #[.val (.int p1), .val (.int (2 : Int32)), .val (.ref o34), .val (.long f3_2), .second, .val (.long f3_3), .second] [(.int (lcmpW f3_3 (f6 (3 : Int32))))])
          by_cases c51 : f3_3 = (f6 (3 : Int32))
          · refine own_st (fun t k => XS.ifNo X50.here hx rfl (hb hby at_111) rfl (own_if0 (teq ((lw_eq _ _).mpr c51)).2) k) ?_
            show OG p e _ s below _ T50 (mkF m 114 #[.val (.int p1), .val (.int (2 : Int32)), .val (.ref o34), .val (.long f3_2), .second, .val (.long f3_3), .second] [])
            refine own_st (fun t k => XS.iconst X50.here hx rfl (hb hby at_114) k) ?_
            show OG p e _ s below _ T50 (mkF m 115 #[.val (.int p1), .val (.int (2 : Int32)), .val (.ref o34), .val (.long f3_2), .second, .val (.long f3_3), .second] [(.int (1 : Int32))])
            refine own_st (fun t k => XS.goto X50.here hx rfl (pc0 := 115) (pc' := 119) rfl (hb hby at_115) (by decide) (by decide) k) ?_
            show OG p e _ s below _ T50 (mkF m 119 #[.val (.int p1), .val (.int (2 : Int32)), .val (.ref o34), .val (.long f3_2), .second, .val (.long f3_3), .second] [(.int (1 : Int32))])
            refine own_retZ X50 hx (t := .boolean) hret (by simp) hlk (hb hby at_119) (by decide) (by decide) (w := (1 : Int32)) rfl ?_
            exact ⟨congrArg (fun z => some (Value.int z)) (show f0 p1 = (1 : Int32) from (by rw [f0, if_neg c1, if_neg c16, if_pos c33, if_pos c49, if_pos c51])).symm, N50⟩
          · refine own_st (fun t k => XS.ifYes X50.here hx rfl (pc0 := 111) (pc' := 118) rfl (hb hby at_111) rfl (own_if0 (feq (fun q => c51 ((lw_eq _ _).mp q))).2) (by decide) (by decide) k) ?_
            show OG p e _ s below _ T50 (mkF m 118 #[.val (.int p1), .val (.int (2 : Int32)), .val (.ref o34), .val (.long f3_2), .second, .val (.long f3_3), .second] [])
            refine own_st (fun t k => XS.iconst X50.here hx rfl (hb hby at_118) k) ?_
            show OG p e _ s below _ T50 (mkF m 119 #[.val (.int p1), .val (.int (2 : Int32)), .val (.ref o34), .val (.long f3_2), .second, .val (.long f3_3), .second] [(.int (0 : Int32))])
            refine own_retZ X50 hx (t := .boolean) hret (by simp) hlk (hb hby at_119) (by decide) (by decide) (w := (0 : Int32)) rfl ?_
            exact ⟨congrArg (fun z => some (Value.int z)) (show f0 p1 = (0 : Int32) from (by rw [f0, if_neg c1, if_neg c16, if_pos c33, if_pos c49, if_neg c51])).symm, N50⟩
        · refine own_st (fun t k => XS.ifYes X48.here hx rfl (pc0 := 99) (pc' := 118) rfl (hb hby at_99) rfl (own_if0 (feq (fun q => c49 ((lw_eq _ _).mp q))).2) (by decide) (by decide) k) ?_
          show OG p e _ s below _ T48 (mkF m 118 #[.val (.int p1), .val (.int (2 : Int32)), .val (.ref o34), .val (.long f3_2), .second, .val (.long f3_3), .second] [])
          refine own_st (fun t k => XS.iconst X48.here hx rfl (hb hby at_118) k) ?_
          show OG p e _ s below _ T48 (mkF m 119 #[.val (.int p1), .val (.int (2 : Int32)), .val (.ref o34), .val (.long f3_2), .second, .val (.long f3_3), .second] [(.int (0 : Int32))])
          refine own_retZ X48 hx (t := .boolean) hret (by simp) hlk (hb hby at_119) (by decide) (by decide) (w := (0 : Int32)) rfl ?_
          exact ⟨congrArg (fun z => some (Value.int z)) (show f0 p1 = (0 : Int32) from (by rw [f0, if_neg c1, if_neg c16, if_pos c33, if_neg c49])).symm, N48⟩
      · skip
        by_cases c52 : (g0_1 p1) = (3 : Int32)
        · rw [c52]
          show OG p e _ s below _ s₁ (mkF m 5 #[.val (.int p1), .val (.int (3 : Int32)), .unset, .unset, .unset, .unset, .unset] [])
          obtain ⟨T53, h53, X53, e53, E53, A53, D53, -, st53⟩ := newO X0 hx hZ hown (hw _ (List.mem_of_getElem? (i := 0) rfl)) (hw _ (List.mem_of_getElem? (i := 1) rfl)) (hw _ (List.mem_of_getElem? (i := 2) rfl)) e0 (g := (mkF m 5 #[.val (.int p1), .val (.int (3 : Int32)), .unset, .unset, .unset, .unset, .unset] [])) rfl (hb hby at_5) (by decide) (by decide)
          obtain ⟨o53, gb53⟩ : ∃ z, z = h0.size := ⟨_, rfl⟩
          rw [← gb53] at A53 D53 st53
          refine own_st st53 ?_
          have ge_o53 : n0 ≤ o53 := by rw [gb53]; exact Nat.le_trans Z0 (Keep.refl h0 []).1
          have sz_o53 : h0.size ≤ o53 := by rw [gb53]; exact (Keep.refl h0 []).1
          have K54 : Keep h0 h53 [] := (Keep.refl h0 []).ext E53
          have F55 : Fld Z h53 o53 "com/example/tidewire/tidewire/internal/Backoff" "attempts" "I" (.int (0 : Int32)) := D53 (Or.inl (hw _ (List.mem_of_getElem? (i := 15) rfl))) (ty := .int) (by decide)
          show OG p e _ s below _ T53 (mkF m 8 #[.val (.int p1), .val (.int (3 : Int32)), .unset, .unset, .unset, .unset, .unset] [(.ref o53)])
          refine own_st (fun t k => XS.dup X53.here hx rfl (hb hby at_8) rfl rfl k) ?_
          show OG p e _ s below _ T53 (mkF m 9 #[.val (.int p1), .val (.int (3 : Int32)), .unset, .unset, .unset, .unset, .unset] [(.ref o53), (.ref o53)])
          obtain ⟨_, _, ⟨T56, L56, k56, n56⟩, -, X56, ⟨Lc56, hQ56, l56, y56, z56⟩, st56⟩ := X53.specialBack hx (y := (⟨"com/example/tidewire/tidewire/internal/Backoff", "<init>", "()V"⟩ : MethodName)) rfl hown (mvT hZ (hw _ (List.mem_of_getElem? (i := 3) rfl))) (mvT hZ (hw _ (List.mem_of_getElem? (i := 4) rfl))) (mvT hZ (hw _ (List.mem_of_getElem? (i := 5) rfl))) (by decide) (backOf (W := 1) (rm := ({ frames := 1, cells := 0, slots := 0, locals := 12 } : Room)) (rm1 l Z a0 hw [] o53 h53 n0) hZ (hw _ (List.mem_of_getElem? (i := 5) rfl)) (hw _ (List.mem_of_getElem? (i := 2) rfl)) (by decide) (by decide)) (g := (mkF m 9 #[.val (.int p1), .val (.int (3 : Int32)), .unset, .unset, .unset, .unset, .unset] [(.ref o53), (.ref o53)])) rfl (by rw [hml]; rfl) (Steps.refl _) (a := o53) (argsL := []) (rest := [(.ref o53)]) (lenOf pd___V rfl) rfl (by show 2 * 0 + _ ≤ _; exact Nat.le_of_eq rfl) (hb hby at_9) (fun _ _ => ⟨rfl, e53, (by decide : 1 + 0 ≤ _), (by decide : 1 + 0 ≤ _)⟩)
          dsimp only [Pt.U, Pt.locs, Pt.cells, Pt.slots] at X56 l56 y56 z56 st56 hQ56
          subst l56 y56 z56
          obtain ⟨rfl, N56q, K56q⟩ := hQ56
          refine own_st (fun t k => st56.trans k) ?_
          have N56 := Fr.app N0 N56q
          have K56 : Keep h0 T56.heap [] := K54.trans K56q (own_all0 )
          have F57 : Exa Z T56.heap o53 "com/example/tidewire/tidewire/internal/Backoff" := (A53.keep K56q)
          have F58 : Fld Z T56.heap o53 "com/example/tidewire/tidewire/internal/Backoff" "attempts" "I" (.int (0 : Int32)) := (F55.keep K56q (own_nin0 ))
          show OG p e _ s below _ T56 (mkF m 12 #[.val (.int p1), .val (.int (3 : Int32)), .unset, .unset, .unset, .unset, .unset] [(.ref o53)])
          refine own_st (fun t k => XS.astoreN X56.here hx rfl (hb hby at_12) rfl rfl (l' := #[.val (.int p1), .val (.int (3 : Int32)), .val (.ref o53), .unset, .unset, .unset, .unset]) rfl k) ?_
          show OG p e _ s below _ T56 (mkF m 13 #[.val (.int p1), .val (.int (3 : Int32)), .val (.ref o53), .unset, .unset, .unset, .unset] [])
          refine own_st (fun t k => XS.iloadN X56.here hx rfl (hb hby at_13) rfl k) ?_
          show OG p e _ s below _ T56 (mkF m 14 #[.val (.int p1), .val (.int (3 : Int32)), .val (.ref o53), .unset, .unset, .unset, .unset] [(.int (3 : Int32))])
          refine own_st (fun t k => XS.iconst X56.here hx rfl (hb hby at_14) k) ?_
          show OG p e _ s below _ T56 (mkF m 15 #[.val (.int p1), .val (.int (3 : Int32)), .val (.ref o53), .unset, .unset, .unset, .unset] [(.int (1 : Int32)), (.int (3 : Int32))])
          refine own_st (fun t k => XS.icmpNo X56.here hx rfl (hb hby at_15) rfl (by decide) k) ?_
          show OG p e _ s below _ T56 (mkF m 18 #[.val (.int p1), .val (.int (3 : Int32)), .val (.ref o53), .unset, .unset, .unset, .unset] [])
          refine own_st (fun t k => XS.aloadN X56.here hx rfl (hb hby at_18) rfl rfl k) ?_
          show OG p e _ s below _ T56 (mkF m 19 #[.val (.int p1), .val (.int (3 : Int32)), .val (.ref o53), .unset, .unset, .unset, .unset] [(.ref o53)])
          obtain ⟨cq59, kq59, q59a, q59b, q59c⟩ := isOf hZ rfl F57
          obtain ⟨_, _, ⟨T59, L59, k59, n59⟩, -, X59, ⟨Lc59, hQ59, l59, y59, z59⟩, st59⟩ := X56.virtualBack hx (y := (⟨"com/example/tidewire/tidewire/internal/Backoff", "attempted", "()V"⟩ : MethodName)) (z := (⟨"com/example/tidewire/tidewire/internal/Backoff", "attempted", "()V"⟩ : MethodName)) hown (mvT hZ (hw _ (List.mem_of_getElem? (i := 16) rfl))) (mvT hZ (hw _ (List.mem_of_getElem? (i := 17) rfl))) (notFace_of_selects (args := #[]) (mvT hZ (hw _ (List.mem_of_getElem? (i := 19) rfl)))) (mvT hZ (hw _ (List.mem_of_getElem? (i := 19) rfl))) (mvT hZ (hw _ (List.mem_of_getElem? (i := 18) rfl))) (by decide) (backOf (W := 0) (rm := ({ frames := 0, cells := 0, slots := 0, locals := 0 } : Room)) (rm4 l Z a0 hw [] o53 (0 : Int32) T56.heap n0 F57 F58 ge_o53 (by decide)) hZ (hw _ (List.mem_of_getElem? (i := 20) rfl)) (hw _ (List.mem_of_getElem? (i := 2) rfl)) (by decide) (by decide)) q59a q59c (g := (mkF m 19 #[.val (.int p1), .val (.int (3 : Int32)), .val (.ref o53), .unset, .unset, .unset, .unset] [(.ref o53)])) rfl (by rw [hml]; rfl) (Steps.refl _) (argsL := []) (rest := []) (lenOf pd___V rfl) rfl (by show 2 * 0 + _ ≤ _; exact Nat.le_of_eq rfl) (hb hby at_19) (fun _ _ => ⟨rfl, rfl, (by decide : 1 + 0 ≤ _), (by decide : 1 + 0 ≤ _)⟩)
          dsimp only [Pt.U, Pt.locs, Pt.cells, Pt.slots] at X59 l59 y59 z59 st59 hQ59
          subst l59 y59 z59
          obtain ⟨rfl, N59q, K59q, P59_0, P59_1⟩ := hQ59
          refine own_st (fun t k => st59.trans k) ?_
          have N59 := Fr.app N56 N59q
          have K59 : Keep h0 T59.heap [] := K56.trans K59q (own_all1 (Or.inr sz_o53))
          have F60 : Fld Z T59.heap o53 "com/example/tidewire/tidewire/internal/Backoff" "attempts" "I" (.int (1 : Int32)) := P59_1
          show OG p e _ s below _ T59 (mkF m 22 #[.val (.int p1), .val (.int (3 : Int32)), .val (.ref o53), .unset, .unset, .unset, .unset] [])
          refine own_st (fun t k => XS.iloadN X59.here hx rfl (hb hby at_22) rfl k) ?_
          show OG p e _ s below _ T59 (mkF m 23 #[.val (.int p1), .val (.int (3 : Int32)), .val (.ref o53), .unset, .unset, .unset, .unset] [(.int (3 : Int32))])
          refine own_st (fun t k => XS.iconst X59.here hx rfl (hb hby at_23) k) ?_
          show OG p e _ s below _ T59 (mkF m 24 #[.val (.int p1), .val (.int (3 : Int32)), .val (.ref o53), .unset, .unset, .unset, .unset] [(.int (2 : Int32)), (.int (3 : Int32))])
          refine own_st (fun t k => XS.icmpNo X59.here hx rfl (hb hby at_24) rfl (by decide) k) ?_
          show OG p e _ s below _ T59 (mkF m 27 #[.val (.int p1), .val (.int (3 : Int32)), .val (.ref o53), .unset, .unset, .unset, .unset] [])
          refine own_st (fun t k => XS.aloadN X59.here hx rfl (hb hby at_27) rfl rfl k) ?_
          show OG p e _ s below _ T59 (mkF m 28 #[.val (.int p1), .val (.int (3 : Int32)), .val (.ref o53), .unset, .unset, .unset, .unset] [(.ref o53)])
          obtain ⟨cq61, kq61, q61a, q61b, q61c⟩ := isOf hZ rfl P59_0
          obtain ⟨_, _, ⟨T61, L61, k61, n61⟩, -, X61, ⟨Lc61, hQ61, l61, y61, z61⟩, st61⟩ := X59.virtualBack hx (y := (⟨"com/example/tidewire/tidewire/internal/Backoff", "attempted", "()V"⟩ : MethodName)) (z := (⟨"com/example/tidewire/tidewire/internal/Backoff", "attempted", "()V"⟩ : MethodName)) hown (mvT hZ (hw _ (List.mem_of_getElem? (i := 16) rfl))) (mvT hZ (hw _ (List.mem_of_getElem? (i := 17) rfl))) (notFace_of_selects (args := #[]) (mvT hZ (hw _ (List.mem_of_getElem? (i := 19) rfl)))) (mvT hZ (hw _ (List.mem_of_getElem? (i := 19) rfl))) (mvT hZ (hw _ (List.mem_of_getElem? (i := 18) rfl))) (by decide) (backOf (W := 0) (rm := ({ frames := 0, cells := 0, slots := 0, locals := 0 } : Room)) (rm4 l Z a0 hw [] o53 (1 : Int32) T59.heap n0 P59_0 F60 ge_o53 (by decide)) hZ (hw _ (List.mem_of_getElem? (i := 20) rfl)) (hw _ (List.mem_of_getElem? (i := 2) rfl)) (by decide) (by decide)) q61a q61c (g := (mkF m 28 #[.val (.int p1), .val (.int (3 : Int32)), .val (.ref o53), .unset, .unset, .unset, .unset] [(.ref o53)])) rfl (by rw [hml]; rfl) (Steps.refl _) (argsL := []) (rest := []) (lenOf pd___V rfl) rfl (by show 2 * 0 + _ ≤ _; exact Nat.le_of_eq rfl) (hb hby at_28) (fun _ _ => ⟨rfl, rfl, (by decide : 1 + 0 ≤ _), (by decide : 1 + 0 ≤ _)⟩)
          dsimp only [Pt.U, Pt.locs, Pt.cells, Pt.slots] at X61 l61 y61 z61 st61 hQ61
          subst l61 y61 z61
          obtain ⟨rfl, N61q, K61q, P61_0, P61_1⟩ := hQ61
          refine own_st (fun t k => st61.trans k) ?_
          have N61 := Fr.app N59 N61q
          have K61 : Keep h0 T61.heap [] := K59.trans K61q (own_all1 (Or.inr sz_o53))
          have F62 : Fld Z T61.heap o53 "com/example/tidewire/tidewire/internal/Backoff" "attempts" "I" (.int (2 : Int32)) := P61_1
          show OG p e _ s below _ T61 (mkF m 31 #[.val (.int p1), .val (.int (3 : Int32)), .val (.ref o53), .unset, .unset, .unset, .unset] [])
          refine own_st (fun t k => XS.iloadN X61.here hx rfl (hb hby at_31) rfl k) ?_
          show OG p e _ s below _ T61 (mkF m 32 #[.val (.int p1), .val (.int (3 : Int32)), .val (.ref o53), .unset, .unset, .unset, .unset] [(.int (3 : Int32))])
          refine own_st (fun t k => XS.iconst X61.here hx rfl (hb hby at_32) k) ?_
          show OG p e _ s below _ T61 (mkF m 33 #[.val (.int p1), .val (.int (3 : Int32)), .val (.ref o53), .unset, .unset, .unset, .unset] [(.int (3 : Int32)), (.int (3 : Int32))])
          refine own_st (fun t k => XS.icmpNo X61.here hx rfl (hb hby at_33) rfl (by decide) k) ?_
          show OG p e _ s below _ T61 (mkF m 36 #[.val (.int p1), .val (.int (3 : Int32)), .val (.ref o53), .unset, .unset, .unset, .unset] [])
          refine own_st (fun t k => XS.aloadN X61.here hx rfl (hb hby at_36) rfl rfl k) ?_
          show OG p e _ s below _ T61 (mkF m 37 #[.val (.int p1), .val (.int (3 : Int32)), .val (.ref o53), .unset, .unset, .unset, .unset] [(.ref o53)])
          obtain ⟨cq63, kq63, q63a, q63b, q63c⟩ := isOf hZ rfl P61_0
          obtain ⟨_, _, ⟨T63, L63, k63, n63⟩, -, X63, ⟨Lc63, hQ63, l63, y63, z63⟩, st63⟩ := X61.virtualBack hx (y := (⟨"com/example/tidewire/tidewire/internal/Backoff", "attempted", "()V"⟩ : MethodName)) (z := (⟨"com/example/tidewire/tidewire/internal/Backoff", "attempted", "()V"⟩ : MethodName)) hown (mvT hZ (hw _ (List.mem_of_getElem? (i := 16) rfl))) (mvT hZ (hw _ (List.mem_of_getElem? (i := 17) rfl))) (notFace_of_selects (args := #[]) (mvT hZ (hw _ (List.mem_of_getElem? (i := 19) rfl)))) (mvT hZ (hw _ (List.mem_of_getElem? (i := 19) rfl))) (mvT hZ (hw _ (List.mem_of_getElem? (i := 18) rfl))) (by decide) (backOf (W := 0) (rm := ({ frames := 0, cells := 0, slots := 0, locals := 0 } : Room)) (rm4 l Z a0 hw [] o53 (2 : Int32) T61.heap n0 P61_0 F62 ge_o53 (by decide)) hZ (hw _ (List.mem_of_getElem? (i := 20) rfl)) (hw _ (List.mem_of_getElem? (i := 2) rfl)) (by decide) (by decide)) q63a q63c (g := (mkF m 37 #[.val (.int p1), .val (.int (3 : Int32)), .val (.ref o53), .unset, .unset, .unset, .unset] [(.ref o53)])) rfl (by rw [hml]; rfl) (Steps.refl _) (argsL := []) (rest := []) (lenOf pd___V rfl) rfl (by show 2 * 0 + _ ≤ _; exact Nat.le_of_eq rfl) (hb hby at_37) (fun _ _ => ⟨rfl, rfl, (by decide : 1 + 0 ≤ _), (by decide : 1 + 0 ≤ _)⟩)
          dsimp only [Pt.U, Pt.locs, Pt.cells, Pt.slots] at X63 l63 y63 z63 st63 hQ63
          subst l63 y63 z63
          obtain ⟨rfl, N63q, K63q, P63_0, P63_1⟩ := hQ63
          refine own_st (fun t k => st63.trans k) ?_
          have N63 := Fr.app N61 N63q
          have K63 : Keep h0 T63.heap [] := K61.trans K63q (own_all1 (Or.inr sz_o53))
          have F64 : Fld Z T63.heap o53 "com/example/tidewire/tidewire/internal/Backoff" "attempts" "I" (.int (3 : Int32)) := P63_1
          show OG p e _ s below _ T63 (mkF m 40 #[.val (.int p1), .val (.int (3 : Int32)), .val (.ref o53), .unset, .unset, .unset, .unset] [])
          refine own_st (fun t k => XS.iloadN X63.here hx rfl (hb hby at_40) rfl k) ?_
          show OG p e _ s below _ T63 (mkF m 41 #[.val (.int p1), .val (.int (3 : Int32)), .val (.ref o53), .unset, .unset, .unset, .unset] [(.int (3 : Int32))])
          refine own_st (fun t k => XS.iconst X63.here hx rfl (hb hby at_41) k) ?_
          show OG p e _ s below _ T63 (mkF m 42 #[.val (.int p1), .val (.int (3 : Int32)), .val (.ref o53), .unset, .unset, .unset, .unset] [(.int (4 : Int32)), (.int (3 : Int32))])
          refine own_st (fun t k => XS.icmpYes X63.here hx rfl (pc0 := 42) (pc' := 49) rfl (hb hby at_42) rfl (by decide) (by decide) (by decide) k) ?_
          show OG p e _ s below _ T63 (mkF m 49 #[.val (.int p1), .val (.int (3 : Int32)), .val (.ref o53), .unset, .unset, .unset, .unset] [])
          refine own_st (fun t k => XS.iloadN X63.here hx rfl (hb hby at_49) rfl k) ?_
          show OG p e _ s below _ T63 (mkF m 50 #[.val (.int p1), .val (.int (3 : Int32)), .val (.ref o53), .unset, .unset, .unset, .unset] [(.int (3 : Int32))])
          refine own_st (fun t k => XS.iconst X63.here hx rfl (hb hby at_50) k) ?_
          show OG p e _ s below _ T63 (mkF m 51 #[.val (.int p1), .val (.int (3 : Int32)), .val (.ref o53), .unset, .unset, .unset, .unset] [(.int (5 : Int32)), (.int (3 : Int32))])
          refine own_st (fun t k => XS.icmpYes X63.here hx rfl (pc0 := 51) (pc' := 58) rfl (hb hby at_51) rfl (by decide) (by decide) (by decide) k) ?_
          show OG p e _ s below _ T63 (mkF m 58 #[.val (.int p1), .val (.int (3 : Int32)), .val (.ref o53), .unset, .unset, .unset, .unset] [])
          refine own_st (fun t k => XS.iloadN X63.here hx rfl (hb hby at_58) rfl k) ?_
          show OG p e _ s below _ T63 (mkF m 59 #[.val (.int p1), .val (.int (3 : Int32)), .val (.ref o53), .unset, .unset, .unset, .unset] [(.int (3 : Int32))])
          refine own_st (fun t k => XS.bipush X63.here hx rfl (hb hby at_59) k) ?_
          show OG p e _ s below _ T63 (mkF m 61 #[.val (.int p1), .val (.int (3 : Int32)), .val (.ref o53), .unset, .unset, .unset, .unset] [(.int (6 : Int32)), (.int (3 : Int32))])
          refine own_st (fun t k => XS.icmpYes X63.here hx rfl (pc0 := 61) (pc' := 68) rfl (hb hby at_61) rfl (by decide) (by decide) (by decide) k) ?_
          show OG p e _ s below _ T63 (mkF m 68 #[.val (.int p1), .val (.int (3 : Int32)), .val (.ref o53), .unset, .unset, .unset, .unset] [])
          refine own_st (fun t k => XS.iloadN X63.here hx rfl (hb hby at_68) rfl k) ?_
          show OG p e _ s below _ T63 (mkF m 69 #[.val (.int p1), .val (.int (3 : Int32)), .val (.ref o53), .unset, .unset, .unset, .unset] [(.int (3 : Int32))])
          refine own_st (fun t k => XS.bipush X63.here hx rfl (hb hby at_69) k) ?_
          show OG p e _ s below _ T63 (mkF m 71 #[.val (.int p1), .val (.int (3 : Int32)), .val (.ref o53), .unset, .unset, .unset, .unset] [(.int (7 : Int32)), (.int (3 : Int32))])
          refine own_st (fun t k => XS.icmpYes X63.here hx rfl (pc0 := 71) (pc' := 78) rfl (hb hby at_71) rfl (by decide) (by decide) (by decide) k) ?_
          show OG p e _ s below _ T63 (mkF m 78 #[.val (.int p1), .val (.int (3 : Int32)), .val (.ref o53), .unset, .unset, .unset, .unset] [])
          refine own_st (fun t k => XS.aloadN X63.here hx rfl (hb hby at_78) rfl rfl k) ?_
          show OG p e _ s below _ T63 (mkF m 79 #[.val (.int p1), .val (.int (3 : Int32)), .val (.ref o53), .unset, .unset, .unset, .unset] [(.ref o53)])
          obtain ⟨cq65, kq65, q65a, q65b, q65c⟩ := isOf hZ rfl P63_0
          obtain ⟨_, _, ⟨T65, L65, k65, n65⟩, -, X65, ⟨Lc65, hQ65, l65, y65, z65⟩, st65⟩ := X63.virtualBack hx (y := (⟨"com/example/tidewire/tidewire/internal/Backoff", "delayMs", "()J"⟩ : MethodName)) (z := (⟨"com/example/tidewire/tidewire/internal/Backoff", "delayMs", "()J"⟩ : MethodName)) hown (mvT hZ (hw _ (List.mem_of_getElem? (i := 9) rfl))) (mvT hZ (hw _ (List.mem_of_getElem? (i := 10) rfl))) (notFace_of_selects (args := #[]) (mvT hZ (hw _ (List.mem_of_getElem? (i := 12) rfl)))) (mvT hZ (hw _ (List.mem_of_getElem? (i := 12) rfl))) (mvT hZ (hw _ (List.mem_of_getElem? (i := 11) rfl))) (by decide) (backOf (W := 0) (rm := ({ frames := 1, cells := 0, slots := 0, locals := 15 } : Room)) (rm3_3 l Z a0 hw [] o53 T63.heap F64) hZ (hw _ (List.mem_of_getElem? (i := 13) rfl)) (hw _ (List.mem_of_getElem? (i := 2) rfl)) (by decide) (by decide)) q65a q65c (g := (mkF m 79 #[.val (.int p1), .val (.int (3 : Int32)), .val (.ref o53), .unset, .unset, .unset, .unset] [(.ref o53)])) rfl (by rw [hml]; rfl) (Steps.refl _) (argsL := []) (rest := []) (lenOf pd___J rfl) rfl (by show 2 * 0 + _ ≤ _; exact Nat.le_of_eq rfl) (hb hby at_79) (fun _ _ => ⟨rfl, rfl, (by decide : 1 + 0 ≤ _), (by decide : 1 + 0 ≤ _)⟩)
          dsimp only [Pt.U, Pt.locs, Pt.cells, Pt.slots] at X65 l65 y65 z65 st65 hQ65
          subst l65 y65 z65
          obtain ⟨rfl, rfl, e65⟩ := hQ65
          refine own_st (fun t k => st65.trans k) ?_
          have N65 := Fr.app N63 (Fr.nil n0)
          show OG p e _ s below _ T65 (mkF m 82 #[.val (.int p1), .val (.int (3 : Int32)), .val (.ref o53), .unset, .unset, .unset, .unset] [(.long f3_3)])
          refine own_st (fun t k => XS.lstoreN X65.here hx rfl (hb hby at_82) rfl (l' := #[.val (.int p1), .val (.int (3 : Int32)), .val (.ref o53), .val (.long f3_3), .second, .unset, .unset]) rfl k) ?_
          show OG p e _ s below _ T65 (mkF m 83 #[.val (.int p1), .val (.int (3 : Int32)), .val (.ref o53), .val (.long f3_3), .second, .unset, .unset] [])
          refine own_st (fun t k => XS.aloadN X65.here hx rfl (hb hby at_83) rfl rfl k) ?_
          show OG p e _ s below _ T65 (mkF m 84 #[.val (.int p1), .val (.int (3 : Int32)), .val (.ref o53), .val (.long f3_3), .second, .unset, .unset] [(.ref o53)])
          obtain ⟨cq66, kq66, q66a, q66b, q66c⟩ := isOf hZ e65 P63_0
          obtain ⟨_, _, ⟨T66, L66, k66, n66⟩, -, X66, ⟨Lc66, hQ66, l66, y66, z66⟩, st66⟩ := X65.virtualBack hx (y := (⟨"com/example/tidewire/tidewire/internal/Backoff", "attempted", "()V"⟩ : MethodName)) (z := (⟨"com/example/tidewire/tidewire/internal/Backoff", "attempted", "()V"⟩ : MethodName)) hown (mvT hZ (hw _ (List.mem_of_getElem? (i := 16) rfl))) (mvT hZ (hw _ (List.mem_of_getElem? (i := 17) rfl))) (notFace_of_selects (args := #[]) (mvT hZ (hw _ (List.mem_of_getElem? (i := 19) rfl)))) (mvT hZ (hw _ (List.mem_of_getElem? (i := 19) rfl))) (mvT hZ (hw _ (List.mem_of_getElem? (i := 18) rfl))) (by decide) (backOf (W := 0) (rm := ({ frames := 0, cells := 0, slots := 0, locals := 0 } : Room)) (rm4 l Z a0 hw [] o53 (3 : Int32) T63.heap n0 P63_0 F64 ge_o53 (by decide)) hZ (hw _ (List.mem_of_getElem? (i := 20) rfl)) (hw _ (List.mem_of_getElem? (i := 2) rfl)) (by decide) (by decide)) q66a q66c (g := (mkF m 84 #[.val (.int p1), .val (.int (3 : Int32)), .val (.ref o53), .val (.long f3_3), .second, .unset, .unset] [(.ref o53)])) rfl (by rw [hml]; rfl) (Steps.refl _) (argsL := []) (rest := []) (lenOf pd___V rfl) rfl (by show 2 * 0 + _ ≤ _; exact Nat.le_of_eq rfl) (hb hby at_84) (fun _ _ => ⟨rfl, e65, (by decide : 1 + 0 ≤ _), (by decide : 1 + 0 ≤ _)⟩)
          dsimp only [Pt.U, Pt.locs, Pt.cells, Pt.slots] at X66 l66 y66 z66 st66 hQ66
          subst l66 y66 z66
          obtain ⟨rfl, N66q, K66q, P66_0, P66_1⟩ := hQ66
          refine own_st (fun t k => st66.trans k) ?_
          have N66 := Fr.app N65 N66q
          have K66 : Keep h0 T66.heap [] := K63.trans K66q (own_all1 (Or.inr sz_o53))
          have F67 : Fld Z T66.heap o53 "com/example/tidewire/tidewire/internal/Backoff" "attempts" "I" (.int (4 : Int32)) := P66_1
          show OG p e _ s below _ T66 (mkF m 87 #[.val (.int p1), .val (.int (3 : Int32)), .val (.ref o53), .val (.long f3_3), .second, .unset, .unset] [])
          refine own_st (fun t k => XS.aloadN X66.here hx rfl (hb hby at_87) rfl rfl k) ?_
          show OG p e _ s below _ T66 (mkF m 88 #[.val (.int p1), .val (.int (3 : Int32)), .val (.ref o53), .val (.long f3_3), .second, .unset, .unset] [(.ref o53)])
          obtain ⟨cq68, kq68, q68a, q68b, q68c⟩ := isOf hZ rfl P66_0
          obtain ⟨_, _, ⟨T68, L68, k68, n68⟩, -, X68, ⟨Lc68, hQ68, l68, y68, z68⟩, st68⟩ := X66.virtualBack hx (y := (⟨"com/example/tidewire/tidewire/internal/Backoff", "delayMs", "()J"⟩ : MethodName)) (z := (⟨"com/example/tidewire/tidewire/internal/Backoff", "delayMs", "()J"⟩ : MethodName)) hown (mvT hZ (hw _ (List.mem_of_getElem? (i := 9) rfl))) (mvT hZ (hw _ (List.mem_of_getElem? (i := 10) rfl))) (notFace_of_selects (args := #[]) (mvT hZ (hw _ (List.mem_of_getElem? (i := 12) rfl)))) (mvT hZ (hw _ (List.mem_of_getElem? (i := 12) rfl))) (mvT hZ (hw _ (List.mem_of_getElem? (i := 11) rfl))) (by decide) (backOf (W := 0) (rm := ({ frames := 1, cells := 0, slots := 0, locals := 15 } : Room)) (rm3_4 l Z a0 hw [] o53 T66.heap F67) hZ (hw _ (List.mem_of_getElem? (i := 13) rfl)) (hw _ (List.mem_of_getElem? (i := 2) rfl)) (by decide) (by decide)) q68a q68c (g := (mkF m 88 #[.val (.int p1), .val (.int (3 : Int32)), .val (.ref o53), .val (.long f3_3), .second, .unset, .unset] [(.ref o53)])) rfl (by rw [hml]; rfl) (Steps.refl _) (argsL := []) (rest := []) (lenOf pd___J rfl) rfl (by show 2 * 0 + _ ≤ _; exact Nat.le_of_eq rfl) (hb hby at_88) (fun _ _ => ⟨rfl, rfl, (by decide : 1 + 0 ≤ _), (by decide : 1 + 0 ≤ _)⟩)
          dsimp only [Pt.U, Pt.locs, Pt.cells, Pt.slots] at X68 l68 y68 z68 st68 hQ68
          subst l68 y68 z68
          obtain ⟨rfl, rfl, e68⟩ := hQ68
          refine own_st (fun t k => st68.trans k) ?_
          have N68 := Fr.app N66 (Fr.nil n0)
          show OG p e _ s below _ T68 (mkF m 91 #[.val (.int p1), .val (.int (3 : Int32)), .val (.ref o53), .val (.long f3_3), .second, .unset, .unset] [(.long f3_4)])
          refine own_st (fun t k => XS.lstore X68.here hx rfl (hb hby at_91) rfl (l' := #[.val (.int p1), .val (.int (3 : Int32)), .val (.ref o53), .val (.long f3_3), .second, .val (.long f3_4), .second]) rfl k) ?_
          show OG p e _ s below _ T68 (mkF m 93 #[.val (.int p1), .val (.int (3 : Int32)), .val (.ref o53), .val (.long f3_3), .second, .val (.long f3_4), .second] [])
          refine own_st (fun t k => XS.lloadN X68.here hx rfl (hb hby at_93) rfl k) ?_
          show OG p e _ s below _ T68 (mkF m 94 #[.val (.int p1), .val (.int (3 : Int32)), .val (.ref o53), .val (.long f3_3), .second, .val (.long f3_4), .second] [(.long f3_3)])
          refine own_st (fun t k => XS.iloadN X68.here hx rfl (hb hby at_94) rfl k) ?_
          show OG p e _ s below _ T68 (mkF m 95 #[.val (.int p1), .val (.int (3 : Int32)), .val (.ref o53), .val (.long f3_3), .second, .val (.long f3_4), .second] [(.int (3 : Int32)), (.long f3_3)])
          obtain ⟨_, _, ⟨T69, L69, k69, n69⟩, -, X69, ⟨Lc69, hQ69, l69, y69, z69⟩, st69⟩ := Jvm.LawKit.callS X68 hx (y := (⟨"com/example/tidewire/tidewire/internal/BackoffAttemptedPinLaw", "ref", "(I)J"⟩ : MethodName)) hown (mvT hZ (hw _ (List.mem_of_getElem? (i := 28) rfl))) (mvT hZ (hw _ (List.mem_of_getElem? (i := 29) rfl))) (mvT hZ (hw _ (List.mem_of_getElem? (i := 30) rfl))) (mvT hZ (hw _ (List.mem_of_getElem? (i := 31) rfl))) (by decide) (backOf (W := 2) (rm := ({ frames := 1, cells := 0, slots := 0, locals := 15 } : Room)) (rm6 l Z a0 hw [] (3 : Int32) T66.heap) hZ (hw _ (List.mem_of_getElem? (i := 31) rfl)) (hw _ (List.mem_of_getElem? (i := 30) rfl)) (by decide) (by decide)) (g := (mkF m 95 #[.val (.int p1), .val (.int (3 : Int32)), .val (.ref o53), .val (.long f3_3), .second, .val (.long f3_4), .second] [(.int (3 : Int32)), (.long f3_3)])) rfl (by rw [hml]; rfl) (argsL := [(.int (3 : Int32))]) (rest := [(.long f3_3)]) (lenOf pd__I_J rfl) rfl (by show 2 * 0 + _ ≤ _; exact Nat.le_of_eq rfl) (hb hby at_95) (fun _ _ => ⟨rfl, e68, (by decide : 1 + 0 ≤ _), (by decide : 1 + 0 ≤ _)⟩)
          dsimp only [Pt.U, Pt.locs, Pt.cells, Pt.slots] at X69 l69 y69 z69 st69 hQ69
          subst l69 y69 z69
          obtain ⟨rfl, rfl, e69⟩ := hQ69
          refine own_st st69 ?_
          have N69 := Fr.app N68 (Fr.nil n0)
          show OG p e _ s below _ T69 (mkF m 98 #[.val (.int p1), .val (.int (3 : Int32)), .val (.ref o53), .val (.long f3_3), .second, .val (.long f3_4), .second] [(.long (f6 (3 : Int32))), (.long f3_3)])
          refine own_st (fun t k => XS.lcmp X69.here hx rfl (hb hby at_98) rfl k) ?_
          show OG p e _ s below _ T69 (mkF m 99 #[.val (.int p1), .val (.int (3 : Int32)), .val (.ref o53), .val (.long f3_3), .second, .val (.long f3_4), .second] [(.int (lcmpW f3_3 (f6 (3 : Int32))))])
          by_cases c70 : f3_3 = (f6 (3 : Int32))
          · refine own_st (fun t k => XS.ifNo X69.here hx rfl (hb hby at_99) rfl (own_if0 (teq ((lw_eq _ _).mpr c70)).2) k) ?_
            show OG p e _ s below _ T69 (mkF m 102 #[.val (.int p1), .val (.int (3 : Int32)), .val (.ref o53), .val (.long f3_3), .second, .val (.long f3_4), .second] [])
            refine own_st (fun t k => XS.lload X69.here hx rfl (hb hby at_102) rfl k) ?_
            show OG p e _ s below _ T69 (mkF m 104 #[.val (.int p1), .val (.int (3 : Int32)), .val (.ref o53), .val (.long f3_3), .second, .val (.long f3_4), .second] [(.long f3_4)])
            refine own_st (fun t k => XS.iloadN X69.here hx rfl (hb hby at_104) rfl k) ?_
            show OG p e _ s below _ T69 (mkF m 105 #[.val (.int p1), .val (.int (3 : Int32)), .val (.ref o53), .val (.long f3_3), .second, .val (.long f3_4), .second] [(.int (3 : Int32)), (.long f3_4)])
            refine own_st (fun t k => XS.iconst X69.here hx rfl (hb hby at_105) k) ?_
            show OG p e _ s below _ T69 (mkF m 106 #[.val (.int p1), .val (.int (3 : Int32)), .val (.ref o53), .val (.long f3_3), .second, .val (.long f3_4), .second] [(.int (1 : Int32)), (.int (3 : Int32)), (.long f3_4)])
            refine own_st (fun t k => XS.iadd X69.here hx rfl (hb hby at_106) rfl k) ?_
            show OG p e _ s below _ T69 (mkF m 107 #[.val (.int p1), .val (.int (3 : Int32)), .val (.ref o53), .val (.long f3_3), .second, .val (.long f3_4), .second] [(.int (4 : Int32)), (.long f3_4)])
            obtain ⟨_, _, ⟨T71, L71, k71, n71⟩, -, X71, ⟨Lc71, hQ71, l71, y71, z71⟩, st71⟩ := Jvm.LawKit.callS X69 hx (y := (⟨"com/example/tidewire/tidewire/internal/BackoffAttemptedPinLaw", "ref", "(I)J"⟩ : MethodName)) hown (mvT hZ (hw _ (List.mem_of_getElem? (i := 28) rfl))) (mvT hZ (hw _ (List.mem_of_getElem? (i := 29) rfl))) (mvT hZ (hw _ (List.mem_of_getElem? (i := 30) rfl))) (mvT hZ (hw _ (List.mem_of_getElem? (i := 31) rfl))) (by decide) (backOf (W := 2) (rm := ({ frames := 1, cells := 0, slots := 0, locals := 15 } : Room)) (rm6 l Z a0 hw [] (4 : Int32) T66.heap) hZ (hw _ (List.mem_of_getElem? (i := 31) rfl)) (hw _ (List.mem_of_getElem? (i := 30) rfl)) (by decide) (by decide)) (g := (mkF m 107 #[.val (.int p1), .val (.int (3 : Int32)), .val (.ref o53), .val (.long f3_3), .second, .val (.long f3_4), .second] [(.int (4 : Int32)), (.long f3_4)])) rfl (by rw [hml]; rfl) (argsL := [(.int (4 : Int32))]) (rest := [(.long f3_4)]) (lenOf pd__I_J rfl) rfl (by show 2 * 0 + _ ≤ _; exact Nat.le_of_eq rfl) (hb hby at_107) (fun _ _ => ⟨rfl, e69, (by decide : 1 + 0 ≤ _), (by decide : 1 + 0 ≤ _)⟩)
            dsimp only [Pt.U, Pt.locs, Pt.cells, Pt.slots] at X71 l71 y71 z71 st71 hQ71
            subst l71 y71 z71
            obtain ⟨rfl, rfl, e71⟩ := hQ71
            refine own_st st71 ?_
            have N71 := Fr.app N69 (Fr.nil n0)
            show OG p e _ s below _ T71 (mkF m 110 #[.val (.int p1), .val (.int (3 : Int32)), .val (.ref o53), .val (.long f3_3), .second, .val (.long f3_4), .second] [(.long (f6 (4 : Int32))), (.long f3_4)])
            refine own_st (fun t k => XS.lcmp X71.here hx rfl (hb hby at_110) rfl k) ?_
            show OG p e _ s below _ T71 (mkF m 111 #[.val (.int p1), .val (.int (3 : Int32)), .val (.ref o53), .val (.long f3_3), .second, .val (.long f3_4), .second] [(.int (lcmpW f3_4 (f6 (4 : Int32))))])
            by_cases c72 : f3_4 = (f6 (4 : Int32))
            · refine own_st (fun t k => XS.ifNo X71.here hx rfl (hb hby at_111) rfl (own_if0 (teq ((lw_eq _ _).mpr c72)).2) k) ?_
              show OG p e _ s below _ T71 (mkF m 114 #[.val (.int p1), .val (.int (3 : Int32)), .val (.ref o53), .val (.long f3_3), .second, .val (.long f3_4), .second] [])
              refine own_st (fun t k => XS.iconst X71.here hx rfl (hb hby at_114) k) ?_
              show OG p e _ s below _ T71 (mkF m 115 #[.val (.int p1), .val (.int (3 : Int32)), .val (.ref o53), .val (.long f3_3), .second, .val (.long f3_4), .second] [(.int (1 : Int32))])
              refine own_st (fun t k => XS.goto X71.here hx rfl (pc0 := 115) (pc' := 119) rfl (hb hby at_115) (by decide) (by decide) k) ?_
              show OG p e _ s below _ T71 (mkF m 119 #[.val (.int p1), .val (.int (3 : Int32)), .val (.ref o53), .val (.long f3_3), .second, .val (.long f3_4), .second] [(.int (1 : Int32))])
              refine own_retZ X71 hx (t := .boolean) hret (by simp) hlk (hb hby at_119) (by decide) (by decide) (w := (1 : Int32)) rfl ?_
              exact ⟨congrArg (fun z => some (Value.int z)) (show f0 p1 = (1 : Int32) from (by rw [f0, if_neg c1, if_neg c16, if_neg c33, if_pos c52, if_pos c70, if_pos c72])).symm, N71⟩
            · refine own_st (fun t k => XS.ifYes X71.here hx rfl (pc0 := 111) (pc' := 118) rfl (hb hby at_111) rfl (own_if0 (feq (fun q => c72 ((lw_eq _ _).mp q))).2) (by decide) (by decide) k) ?_
              show OG p e _ s below _ T71 (mkF m 118 #[.val (.int p1), .val (.int (3 : Int32)), .val (.ref o53), .val (.long f3_3), .second, .val (.long f3_4), .second] [])
              refine own_st (fun t k => XS.iconst X71.here hx rfl (hb hby at_118) k) ?_
              show OG p e _ s below _ T71 (mkF m 119 #[.val (.int p1), .val (.int (3 : Int32)), .val (.ref o53), .val (.long f3_3), .second, .val (.long f3_4), .second] [(.int (0 : Int32))])
              refine own_retZ X71 hx (t := .boolean) hret (by simp) hlk (hb hby at_119) (by decide) (by decide) (w := (0 : Int32)) rfl ?_
              exact ⟨congrArg (fun z => some (Value.int z)) (show f0 p1 = (0 : Int32) from (by rw [f0, if_neg c1, if_neg c16, if_neg c33, if_pos c52, if_pos c70, if_neg c72])).symm, N71⟩
          · refine own_st (fun t k => XS.ifYes X69.here hx rfl (pc0 := 99) (pc' := 118) rfl (hb hby at_99) rfl (own_if0 (feq (fun q => c70 ((lw_eq _ _).mp q))).2) (by decide) (by decide) k) ?_
            show OG p e _ s below _ T69 (mkF m 118 #[.val (.int p1), .val (.int (3 : Int32)), .val (.ref o53), .val (.long f3_3), .second, .val (.long f3_4), .second] [])
            refine own_st (fun t k => XS.iconst X69.here hx rfl (hb hby at_118) k) ?_
            show OG p e _ s below _ T69 (mkF m 119 #[.val (.int p1), .val (.int (3 : Int32)), .val (.ref o53), .val (.long f3_3), .second, .val (.long f3_4), .second] [(.int (0 : Int32))])
            refine own_retZ X69 hx (t := .boolean) hret (by simp) hlk (hb hby at_119) (by decide) (by decide) (w := (0 : Int32)) rfl ?_
            exact ⟨congrArg (fun z => some (Value.int z)) (show f0 p1 = (0 : Int32) from (by rw [f0, if_neg c1, if_neg c16, if_neg c33, if_pos c52, if_neg c70])).symm, N69⟩
        · skip
          by_cases c73 : (g0_1 p1) = (4 : Int32)
          · rw [c73]
            show OG p e _ s below _ s₁ (mkF m 5 #[.val (.int p1), .val (.int (4 : Int32)), .unset, .unset, .unset, .unset, .unset] [])
            obtain ⟨T74, h74, X74, e74, E74, A74, D74, -, st74⟩ := newO X0 hx hZ hown (hw _ (List.mem_of_getElem? (i := 0) rfl)) (hw _ (List.mem_of_getElem? (i := 1) rfl)) (hw _ (List.mem_of_getElem? (i := 2) rfl)) e0 (g := (mkF m 5 #[.val (.int p1), .val (.int (4 : Int32)), .unset, .unset, .unset, .unset, .unset] [])) rfl (hb hby at_5) (by decide) (by decide)
            obtain ⟨o74, gb74⟩ : ∃ z, z = h0.size := ⟨_, rfl⟩
            rw [← gb74] at A74 D74 st74
            refine own_st st74 ?_
            have ge_o74 : n0 ≤ o74 := by rw [gb74]; exact Nat.le_trans Z0 (Keep.refl h0 []).1
            have sz_o74 : h0.size ≤ o74 := by rw [gb74]; exact (Keep.refl h0 []).1
            have K75 : Keep h0 h74 [] := (Keep.refl h0 []).ext E74
            have F76 : Fld Z h74 o74 "com/example/tidewire/tidewire/internal/Backoff" "attempts" "I" (.int (0 : Int32)) := D74 (Or.inl (hw _ (List.mem_of_getElem? (i := 15) rfl))) (ty := .int) (by decide)
            show OG p e _ s below _ T74 (mkF m 8 #[.val (.int p1), .val (.int (4 : Int32)), .unset, .unset, .unset, .unset, .unset] [(.ref o74)])
            refine own_st (fun t k => XS.dup X74.here hx rfl (hb hby at_8) rfl rfl k) ?_
            show OG p e _ s below _ T74 (mkF m 9 #[.val (.int p1), .val (.int (4 : Int32)), .unset, .unset, .unset, .unset, .unset] [(.ref o74), (.ref o74)])
            obtain ⟨_, _, ⟨T77, L77, k77, n77⟩, -, X77, ⟨Lc77, hQ77, l77, y77, z77⟩, st77⟩ := X74.specialBack hx (y := (⟨"com/example/tidewire/tidewire/internal/Backoff", "<init>", "()V"⟩ : MethodName)) rfl hown (mvT hZ (hw _ (List.mem_of_getElem? (i := 3) rfl))) (mvT hZ (hw _ (List.mem_of_getElem? (i := 4) rfl))) (mvT hZ (hw _ (List.mem_of_getElem? (i := 5) rfl))) (by decide) (backOf (W := 1) (rm := ({ frames := 1, cells := 0, slots := 0, locals := 12 } : Room)) (rm1 l Z a0 hw [] o74 h74 n0) hZ (hw _ (List.mem_of_getElem? (i := 5) rfl)) (hw _ (List.mem_of_getElem? (i := 2) rfl)) (by decide) (by decide)) (g := (mkF m 9 #[.val (.int p1), .val (.int (4 : Int32)), .unset, .unset, .unset, .unset, .unset] [(.ref o74), (.ref o74)])) rfl (by rw [hml]; rfl) (Steps.refl _) (a := o74) (argsL := []) (rest := [(.ref o74)]) (lenOf pd___V rfl) rfl (by show 2 * 0 + _ ≤ _; exact Nat.le_of_eq rfl) (hb hby at_9) (fun _ _ => ⟨rfl, e74, (by decide : 1 + 0 ≤ _), (by decide : 1 + 0 ≤ _)⟩)
            dsimp only [Pt.U, Pt.locs, Pt.cells, Pt.slots] at X77 l77 y77 z77 st77 hQ77
            subst l77 y77 z77
            obtain ⟨rfl, N77q, K77q⟩ := hQ77
            refine own_st (fun t k => st77.trans k) ?_
            have N77 := Fr.app N0 N77q
            have K77 : Keep h0 T77.heap [] := K75.trans K77q (own_all0 )
            have F78 : Exa Z T77.heap o74 "com/example/tidewire/tidewire/internal/Backoff" := (A74.keep K77q)
            have F79 : Fld Z T77.heap o74 "com/example/tidewire/tidewire/internal/Backoff" "attempts" "I" (.int (0 : Int32)) := (F76.keep K77q (own_nin0 ))
            show OG p e _ s below _ T77 (mkF m 12 #[.val (.int p1), .val (.int (4 : Int32)), .unset, .unset, .unset, .unset, .unset] [(.ref o74)])
            refine own_st (fun t k => XS.astoreN X77.here hx rfl (hb hby at_12) rfl rfl (l' := #[.val (.int p1), .val (.int (4 : Int32)), .val (.ref o74), .unset, .unset, .unset, .unset]) rfl k) ?_
            show OG p e _ s below _ T77 (mkF m 13 #[.val (.int p1), .val (.int (4 : Int32)), .val (.ref o74), .unset, .unset, .unset, .unset] [])
            refine own_st (fun t k => XS.iloadN X77.here hx rfl (hb hby at_13) rfl k) ?_
            show OG p e _ s below _ T77 (mkF m 14 #[.val (.int p1), .val (.int (4 : Int32)), .val (.ref o74), .unset, .unset, .unset, .unset] [(.int (4 : Int32))])
            refine own_st (fun t k => XS.iconst X77.here hx rfl (hb hby at_14) k) ?_
            show OG p e _ s below _ T77 (mkF m 15 #[.val (.int p1), .val (.int (4 : Int32)), .val (.ref o74), .unset, .unset, .unset, .unset] [(.int (1 : Int32)), (.int (4 : Int32))])
            refine own_st (fun t k => XS.icmpNo X77.here hx rfl (hb hby at_15) rfl (by decide) k) ?_
            show OG p e _ s below _ T77 (mkF m 18 #[.val (.int p1), .val (.int (4 : Int32)), .val (.ref o74), .unset, .unset, .unset, .unset] [])
            refine own_st (fun t k => XS.aloadN X77.here hx rfl (hb hby at_18) rfl rfl k) ?_
            show OG p e _ s below _ T77 (mkF m 19 #[.val (.int p1), .val (.int (4 : Int32)), .val (.ref o74), .unset, .unset, .unset, .unset] [(.ref o74)])
            obtain ⟨cq80, kq80, q80a, q80b, q80c⟩ := isOf hZ rfl F78
            obtain ⟨_, _, ⟨T80, L80, k80, n80⟩, -, X80, ⟨Lc80, hQ80, l80, y80, z80⟩, st80⟩ := X77.virtualBack hx (y := (⟨"com/example/tidewire/tidewire/internal/Backoff", "attempted", "()V"⟩ : MethodName)) (z := (⟨"com/example/tidewire/tidewire/internal/Backoff", "attempted", "()V"⟩ : MethodName)) hown (mvT hZ (hw _ (List.mem_of_getElem? (i := 16) rfl))) (mvT hZ (hw _ (List.mem_of_getElem? (i := 17) rfl))) (notFace_of_selects (args := #[]) (mvT hZ (hw _ (List.mem_of_getElem? (i := 19) rfl)))) (mvT hZ (hw _ (List.mem_of_getElem? (i := 19) rfl))) (mvT hZ (hw _ (List.mem_of_getElem? (i := 18) rfl))) (by decide) (backOf (W := 0) (rm := ({ frames := 0, cells := 0, slots := 0, locals := 0 } : Room)) (rm4 l Z a0 hw [] o74 (0 : Int32) T77.heap n0 F78 F79 ge_o74 (by decide)) hZ (hw _ (List.mem_of_getElem? (i := 20) rfl)) (hw _ (List.mem_of_getElem? (i := 2) rfl)) (by decide) (by decide)) q80a q80c (g := (mkF m 19 #[.val (.int p1), .val (.int (4 : Int32)), .val (.ref o74), .unset, .unset, .unset, .unset] [(.ref o74)])) rfl (by rw [hml]; rfl) (Steps.refl _) (argsL := []) (rest := []) (lenOf pd___V rfl) rfl (by show 2 * 0 + _ ≤ _; exact Nat.le_of_eq rfl) (hb hby at_19) (fun _ _ => ⟨rfl, rfl, (by decide : 1 + 0 ≤ _), (by decide : 1 + 0 ≤ _)⟩)
            dsimp only [Pt.U, Pt.locs, Pt.cells, Pt.slots] at X80 l80 y80 z80 st80 hQ80
            subst l80 y80 z80
            obtain ⟨rfl, N80q, K80q, P80_0, P80_1⟩ := hQ80
            refine own_st (fun t k => st80.trans k) ?_
            have N80 := Fr.app N77 N80q
            have K80 : Keep h0 T80.heap [] := K77.trans K80q (own_all1 (Or.inr sz_o74))
            have F81 : Fld Z T80.heap o74 "com/example/tidewire/tidewire/internal/Backoff" "attempts" "I" (.int (1 : Int32)) := P80_1
            show OG p e _ s below _ T80 (mkF m 22 #[.val (.int p1), .val (.int (4 : Int32)), .val (.ref o74), .unset, .unset, .unset, .unset] [])
            refine own_st (fun t k => XS.iloadN X80.here hx rfl (hb hby at_22) rfl k) ?_
            show OG p e _ s below _ T80 (mkF m 23 #[.val (.int p1), .val (.int (4 : Int32)), .val (.ref o74), .unset, .unset, .unset, .unset] [(.int (4 : Int32))])
            refine own_st (fun t k => XS.iconst X80.here hx rfl (hb hby at_23) k) ?_
            show OG p e _ s below _ T80 (mkF m 24 #[.val (.int p1), .val (.int (4 : Int32)), .val (.ref o74), .unset, .unset, .unset, .unset] [(.int (2 : Int32)), (.int (4 : Int32))])
            refine own_st (fun t k => XS.icmpNo X80.here hx rfl (hb hby at_24) rfl (by decide) k) ?_
            show OG p e _ s below _ T80 (mkF m 27 #[.val (.int p1), .val (.int (4 : Int32)), .val (.ref o74), .unset, .unset, .unset, .unset] [])
            refine own_st (fun t k => XS.aloadN X80.here hx rfl (hb hby at_27) rfl rfl k) ?_
            show OG p e _ s below _ T80 (mkF m 28 #[.val (.int p1), .val (.int (4 : Int32)), .val (.ref o74), .unset, .unset, .unset, .unset] [(.ref o74)])
            obtain ⟨cq82, kq82, q82a, q82b, q82c⟩ := isOf hZ rfl P80_0
            obtain ⟨_, _, ⟨T82, L82, k82, n82⟩, -, X82, ⟨Lc82, hQ82, l82, y82, z82⟩, st82⟩ := X80.virtualBack hx (y := (⟨"com/example/tidewire/tidewire/internal/Backoff", "attempted", "()V"⟩ : MethodName)) (z := (⟨"com/example/tidewire/tidewire/internal/Backoff", "attempted", "()V"⟩ : MethodName)) hown (mvT hZ (hw _ (List.mem_of_getElem? (i := 16) rfl))) (mvT hZ (hw _ (List.mem_of_getElem? (i := 17) rfl))) (notFace_of_selects (args := #[]) (mvT hZ (hw _ (List.mem_of_getElem? (i := 19) rfl)))) (mvT hZ (hw _ (List.mem_of_getElem? (i := 19) rfl))) (mvT hZ (hw _ (List.mem_of_getElem? (i := 18) rfl))) (by decide) (backOf (W := 0) (rm := ({ frames := 0, cells := 0, slots := 0, locals := 0 } : Room)) (rm4 l Z a0 hw [] o74 (1 : Int32) T80.heap n0 P80_0 F81 ge_o74 (by decide)) hZ (hw _ (List.mem_of_getElem? (i := 20) rfl)) (hw _ (List.mem_of_getElem? (i := 2) rfl)) (by decide) (by decide)) q82a q82c (g := (mkF m 28 #[.val (.int p1), .val (.int (4 : Int32)), .val (.ref o74), .unset, .unset, .unset, .unset] [(.ref o74)])) rfl (by rw [hml]; rfl) (Steps.refl _) (argsL := []) (rest := []) (lenOf pd___V rfl) rfl (by show 2 * 0 + _ ≤ _; exact Nat.le_of_eq rfl) (hb hby at_28) (fun _ _ => ⟨rfl, rfl, (by decide : 1 + 0 ≤ _), (by decide : 1 + 0 ≤ _)⟩)
            dsimp only [Pt.U, Pt.locs, Pt.cells, Pt.slots] at X82 l82 y82 z82 st82 hQ82
            subst l82 y82 z82
            obtain ⟨rfl, N82q, K82q, P82_0, P82_1⟩ := hQ82
            refine own_st (fun t k => st82.trans k) ?_
            have N82 := Fr.app N80 N82q
            have K82 : Keep h0 T82.heap [] := K80.trans K82q (own_all1 (Or.inr sz_o74))
            have F83 : Fld Z T82.heap o74 "com/example/tidewire/tidewire/internal/Backoff" "attempts" "I" (.int (2 : Int32)) := P82_1
            show OG p e _ s below _ T82 (mkF m 31 #[.val (.int p1), .val (.int (4 : Int32)), .val (.ref o74), .unset, .unset, .unset, .unset] [])
            refine own_st (fun t k => XS.iloadN X82.here hx rfl (hb hby at_31) rfl k) ?_
            show OG p e _ s below _ T82 (mkF m 32 #[.val (.int p1), .val (.int (4 : Int32)), .val (.ref o74), .unset, .unset, .unset, .unset] [(.int (4 : Int32))])
            refine own_st (fun t k => XS.iconst X82.here hx rfl (hb hby at_32) k) ?_
            show OG p e _ s below _ T82 (mkF m 33 #[.val (.int p1), .val (.int (4 : Int32)), .val (.ref o74), .unset, .unset, .unset, .unset] [(.int (3 : Int32)), (.int (4 : Int32))])
            refine own_st (fun t k => XS.icmpNo X82.here hx rfl (hb hby at_33) rfl (by decide) k) ?_
            show OG p e _ s below _ T82 (mkF m 36 #[.val (.int p1), .val (.int (4 : Int32)), .val (.ref o74), .unset, .unset, .unset, .unset] [])
            refine own_st (fun t k => XS.aloadN X82.here hx rfl (hb hby at_36) rfl rfl k) ?_
            show OG p e _ s below _ T82 (mkF m 37 #[.val (.int p1), .val (.int (4 : Int32)), .val (.ref o74), .unset, .unset, .unset, .unset] [(.ref o74)])
            obtain ⟨cq84, kq84, q84a, q84b, q84c⟩ := isOf hZ rfl P82_0
            obtain ⟨_, _, ⟨T84, L84, k84, n84⟩, -, X84, ⟨Lc84, hQ84, l84, y84, z84⟩, st84⟩ := X82.virtualBack hx (y := (⟨"com/example/tidewire/tidewire/internal/Backoff", "attempted", "()V"⟩ : MethodName)) (z := (⟨"com/example/tidewire/tidewire/internal/Backoff", "attempted", "()V"⟩ : MethodName)) hown (mvT hZ (hw _ (List.mem_of_getElem? (i := 16) rfl))) (mvT hZ (hw _ (List.mem_of_getElem? (i := 17) rfl))) (notFace_of_selects (args := #[]) (mvT hZ (hw _ (List.mem_of_getElem? (i := 19) rfl)))) (mvT hZ (hw _ (List.mem_of_getElem? (i := 19) rfl))) (mvT hZ (hw _ (List.mem_of_getElem? (i := 18) rfl))) (by decide) (backOf (W := 0) (rm := ({ frames := 0, cells := 0, slots := 0, locals := 0 } : Room)) (rm4 l Z a0 hw [] o74 (2 : Int32) T82.heap n0 P82_0 F83 ge_o74 (by decide)) hZ (hw _ (List.mem_of_getElem? (i := 20) rfl)) (hw _ (List.mem_of_getElem? (i := 2) rfl)) (by decide) (by decide)) q84a q84c (g := (mkF m 37 #[.val (.int p1), .val (.int (4 : Int32)), .val (.ref o74), .unset, .unset, .unset, .unset] [(.ref o74)])) rfl (by rw [hml]; rfl) (Steps.refl _) (argsL := []) (rest := []) (lenOf pd___V rfl) rfl (by show 2 * 0 + _ ≤ _; exact Nat.le_of_eq rfl) (hb hby at_37) (fun _ _ => ⟨rfl, rfl, (by decide : 1 + 0 ≤ _), (by decide : 1 + 0 ≤ _)⟩)
            dsimp only [Pt.U, Pt.locs, Pt.cells, Pt.slots] at X84 l84 y84 z84 st84 hQ84
            subst l84 y84 z84
            obtain ⟨rfl, N84q, K84q, P84_0, P84_1⟩ := hQ84
            refine own_st (fun t k => st84.trans k) ?_
            have N84 := Fr.app N82 N84q
            have K84 : Keep h0 T84.heap [] := K82.trans K84q (own_all1 (Or.inr sz_o74))
            have F85 : Fld Z T84.heap o74 "com/example/tidewire/tidewire/internal/Backoff" "attempts" "I" (.int (3 : Int32)) := P84_1
            show OG p e _ s below _ T84 (mkF m 40 #[.val (.int p1), .val (.int (4 : Int32)), .val (.ref o74), .unset, .unset, .unset, .unset] [])
            refine own_st (fun t k => XS.iloadN X84.here hx rfl (hb hby at_40) rfl k) ?_
            show OG p e _ s below _ T84 (mkF m 41 #[.val (.int p1), .val (.int (4 : Int32)), .val (.ref o74), .unset, .unset, .unset, .unset] [(.int (4 : Int32))])
            refine own_st (fun t k => XS.iconst X84.here hx rfl (hb hby at_41) k) ?_
            show OG p e _ s below _ T84 (mkF m 42 #[.val (.int p1), .val (.int (4 : Int32)), .val (.ref o74), .unset, .unset, .unset, .unset] [(.int (4 : Int32)), (.int (4 : Int32))])
            refine own_st (fun t k => XS.icmpNo X84.here hx rfl (hb hby at_42) rfl (by decide) k) ?_
            show OG p e _ s below _ T84 (mkF m 45 #[.val (.int p1), .val (.int (4 : Int32)), .val (.ref o74), .unset, .unset, .unset, .unset] [])
            refine own_st (fun t k => XS.aloadN X84.here hx rfl (hb hby at_45) rfl rfl k) ?_
            show OG p e _ s below _ T84 (mkF m 46 #[.val (.int p1), .val (.int (4 : Int32)), .val (.ref o74), .unset, .unset, .unset, .unset] [(.ref o74)])
            obtain ⟨cq86, kq86, q86a, q86b, q86c⟩ := isOf hZ rfl P84_0
            obtain ⟨_, _, ⟨T86, L86, k86, n86⟩, -, X86, ⟨Lc86, hQ86, l86, y86, z86⟩, st86⟩ := X84.virtualBack hx (y := (⟨"com/example/tidewire/tidewire/internal/Backoff", "attempted", "()V"⟩ : MethodName)) (z := (⟨"com/example/tidewire/tidewire/internal/Backoff", "attempted", "()V"⟩ : MethodName)) hown (mvT hZ (hw _ (List.mem_of_getElem? (i := 16) rfl))) (mvT hZ (hw _ (List.mem_of_getElem? (i := 17) rfl))) (notFace_of_selects (args := #[]) (mvT hZ (hw _ (List.mem_of_getElem? (i := 19) rfl)))) (mvT hZ (hw _ (List.mem_of_getElem? (i := 19) rfl))) (mvT hZ (hw _ (List.mem_of_getElem? (i := 18) rfl))) (by decide) (backOf (W := 0) (rm := ({ frames := 0, cells := 0, slots := 0, locals := 0 } : Room)) (rm4 l Z a0 hw [] o74 (3 : Int32) T84.heap n0 P84_0 F85 ge_o74 (by decide)) hZ (hw _ (List.mem_of_getElem? (i := 20) rfl)) (hw _ (List.mem_of_getElem? (i := 2) rfl)) (by decide) (by decide)) q86a q86c (g := (mkF m 46 #[.val (.int p1), .val (.int (4 : Int32)), .val (.ref o74), .unset, .unset, .unset, .unset] [(.ref o74)])) rfl (by rw [hml]; rfl) (Steps.refl _) (argsL := []) (rest := []) (lenOf pd___V rfl) rfl (by show 2 * 0 + _ ≤ _; exact Nat.le_of_eq rfl) (hb hby at_46) (fun _ _ => ⟨rfl, rfl, (by decide : 1 + 0 ≤ _), (by decide : 1 + 0 ≤ _)⟩)
            dsimp only [Pt.U, Pt.locs, Pt.cells, Pt.slots] at X86 l86 y86 z86 st86 hQ86
            subst l86 y86 z86
            obtain ⟨rfl, N86q, K86q, P86_0, P86_1⟩ := hQ86
            refine own_st (fun t k => st86.trans k) ?_
            have N86 := Fr.app N84 N86q
            have K86 : Keep h0 T86.heap [] := K84.trans K86q (own_all1 (Or.inr sz_o74))
            have F87 : Fld Z T86.heap o74 "com/example/tidewire/tidewire/internal/Backoff" "attempts" "I" (.int (4 : Int32)) := P86_1
            show OG p e _ s below _ T86 (mkF m 49 #[.val (.int p1), .val (.int (4 : Int32)), .val (.ref o74), .unset, .unset, .unset, .unset] [])
            refine own_st (fun t k => XS.iloadN X86.here hx rfl (hb hby at_49) rfl k) ?_
            show OG p e _ s below _ T86 (mkF m 50 #[.val (.int p1), .val (.int (4 : Int32)), .val (.ref o74), .unset, .unset, .unset, .unset] [(.int (4 : Int32))])
            refine own_st (fun t k => XS.iconst X86.here hx rfl (hb hby at_50) k) ?_
            show OG p e _ s below _ T86 (mkF m 51 #[.val (.int p1), .val (.int (4 : Int32)), .val (.ref o74), .unset, .unset, .unset, .unset] [(.int (5 : Int32)), (.int (4 : Int32))])
            refine own_st (fun t k => XS.icmpYes X86.here hx rfl (pc0 := 51) (pc' := 58) rfl (hb hby at_51) rfl (by decide) (by decide) (by decide) k) ?_
            show OG p e _ s below _ T86 (mkF m 58 #[.val (.int p1), .val (.int (4 : Int32)), .val (.ref o74), .unset, .unset, .unset, .unset] [])
            refine own_st (fun t k => XS.iloadN X86.here hx rfl (hb hby at_58) rfl k) ?_
            show OG p e _ s below _ T86 (mkF m 59 #[.val (.int p1), .val (.int (4 : Int32)), .val (.ref o74), .unset, .unset, .unset, .unset] [(.int (4 : Int32))])
            refine own_st (fun t k => XS.bipush X86.here hx rfl (hb hby at_59) k) ?_
            show OG p e _ s below _ T86 (mkF m 61 #[.val (.int p1), .val (.int (4 : Int32)), .val (.ref o74), .unset, .unset, .unset, .unset] [(.int (6 : Int32)), (.int (4 : Int32))])
            refine own_st (fun t k => XS.icmpYes X86.here hx rfl (pc0 := 61) (pc' := 68) rfl (hb hby at_61) rfl (by decide) (by decide) (by decide) k) ?_
            show OG p e _ s below _ T86 (mkF m 68 #[.val (.int p1), .val (.int (4 : Int32)), .val (.ref o74), .unset, .unset, .unset, .unset] [])
            refine own_st (fun t k => XS.iloadN X86.here hx rfl (hb hby at_68) rfl k) ?_
            show OG p e _ s below _ T86 (mkF m 69 #[.val (.int p1), .val (.int (4 : Int32)), .val (.ref o74), .unset, .unset, .unset, .unset] [(.int (4 : Int32))])
            refine own_st (fun t k => XS.bipush X86.here hx rfl (hb hby at_69) k) ?_
            show OG p e _ s below _ T86 (mkF m 71 #[.val (.int p1), .val (.int (4 : Int32)), .val (.ref o74), .unset, .unset, .unset, .unset] [(.int (7 : Int32)), (.int (4 : Int32))])
            refine own_st (fun t k => XS.icmpYes X86.here hx rfl (pc0 := 71) (pc' := 78) rfl (hb hby at_71) rfl (by decide) (by decide) (by decide) k) ?_
            show OG p e _ s below _ T86 (mkF m 78 #[.val (.int p1), .val (.int (4 : Int32)), .val (.ref o74), .unset, .unset, .unset, .unset] [])
            refine own_st (fun t k => XS.aloadN X86.here hx rfl (hb hby at_78) rfl rfl k) ?_
            show OG p e _ s below _ T86 (mkF m 79 #[.val (.int p1), .val (.int (4 : Int32)), .val (.ref o74), .unset, .unset, .unset, .unset] [(.ref o74)])
            obtain ⟨cq88, kq88, q88a, q88b, q88c⟩ := isOf hZ rfl P86_0
            obtain ⟨_, _, ⟨T88, L88, k88, n88⟩, -, X88, ⟨Lc88, hQ88, l88, y88, z88⟩, st88⟩ := X86.virtualBack hx (y := (⟨"com/example/tidewire/tidewire/internal/Backoff", "delayMs", "()J"⟩ : MethodName)) (z := (⟨"com/example/tidewire/tidewire/internal/Backoff", "delayMs", "()J"⟩ : MethodName)) hown (mvT hZ (hw _ (List.mem_of_getElem? (i := 9) rfl))) (mvT hZ (hw _ (List.mem_of_getElem? (i := 10) rfl))) (notFace_of_selects (args := #[]) (mvT hZ (hw _ (List.mem_of_getElem? (i := 12) rfl)))) (mvT hZ (hw _ (List.mem_of_getElem? (i := 12) rfl))) (mvT hZ (hw _ (List.mem_of_getElem? (i := 11) rfl))) (by decide) (backOf (W := 0) (rm := ({ frames := 1, cells := 0, slots := 0, locals := 15 } : Room)) (rm3_4 l Z a0 hw [] o74 T86.heap F87) hZ (hw _ (List.mem_of_getElem? (i := 13) rfl)) (hw _ (List.mem_of_getElem? (i := 2) rfl)) (by decide) (by decide)) q88a q88c (g := (mkF m 79 #[.val (.int p1), .val (.int (4 : Int32)), .val (.ref o74), .unset, .unset, .unset, .unset] [(.ref o74)])) rfl (by rw [hml]; rfl) (Steps.refl _) (argsL := []) (rest := []) (lenOf pd___J rfl) rfl (by show 2 * 0 + _ ≤ _; exact Nat.le_of_eq rfl) (hb hby at_79) (fun _ _ => ⟨rfl, rfl, (by decide : 1 + 0 ≤ _), (by decide : 1 + 0 ≤ _)⟩)
            dsimp only [Pt.U, Pt.locs, Pt.cells, Pt.slots] at X88 l88 y88 z88 st88 hQ88
            subst l88 y88 z88
            obtain ⟨rfl, rfl, e88⟩ := hQ88
            refine own_st (fun t k => st88.trans k) ?_
            have N88 := Fr.app N86 (Fr.nil n0)
            show OG p e _ s below _ T88 (mkF m 82 #[.val (.int p1), .val (.int (4 : Int32)), .val (.ref o74), .unset, .unset, .unset, .unset] [(.long f3_4)])
            refine own_st (fun t k => XS.lstoreN X88.here hx rfl (hb hby at_82) rfl (l' := #[.val (.int p1), .val (.int (4 : Int32)), .val (.ref o74), .val (.long f3_4), .second, .unset, .unset]) rfl k) ?_
            show OG p e _ s below _ T88 (mkF m 83 #[.val (.int p1), .val (.int (4 : Int32)), .val (.ref o74), .val (.long f3_4), .second, .unset, .unset] [])
            refine own_st (fun t k => XS.aloadN X88.here hx rfl (hb hby at_83) rfl rfl k) ?_
            show OG p e _ s below _ T88 (mkF m 84 #[.val (.int p1), .val (.int (4 : Int32)), .val (.ref o74), .val (.long f3_4), .second, .unset, .unset] [(.ref o74)])
            obtain ⟨cq89, kq89, q89a, q89b, q89c⟩ := isOf hZ e88 P86_0
            obtain ⟨_, _, ⟨T89, L89, k89, n89⟩, -, X89, ⟨Lc89, hQ89, l89, y89, z89⟩, st89⟩ := X88.virtualBack hx (y := (⟨"com/example/tidewire/tidewire/internal/Backoff", "attempted", "()V"⟩ : MethodName)) (z := (⟨"com/example/tidewire/tidewire/internal/Backoff", "attempted", "()V"⟩ : MethodName)) hown (mvT hZ (hw _ (List.mem_of_getElem? (i := 16) rfl))) (mvT hZ (hw _ (List.mem_of_getElem? (i := 17) rfl))) (notFace_of_selects (args := #[]) (mvT hZ (hw _ (List.mem_of_getElem? (i := 19) rfl)))) (mvT hZ (hw _ (List.mem_of_getElem? (i := 19) rfl))) (mvT hZ (hw _ (List.mem_of_getElem? (i := 18) rfl))) (by decide) (backOf (W := 0) (rm := ({ frames := 0, cells := 0, slots := 0, locals := 0 } : Room)) (rm4 l Z a0 hw [] o74 (4 : Int32) T86.heap n0 P86_0 F87 ge_o74 (by decide)) hZ (hw _ (List.mem_of_getElem? (i := 20) rfl)) (hw _ (List.mem_of_getElem? (i := 2) rfl)) (by decide) (by decide)) q89a q89c (g := (mkF m 84 #[.val (.int p1), .val (.int (4 : Int32)), .val (.ref o74), .val (.long f3_4), .second, .unset, .unset] [(.ref o74)])) rfl (by rw [hml]; rfl) (Steps.refl _) (argsL := []) (rest := []) (lenOf pd___V rfl) rfl (by show 2 * 0 + _ ≤ _; exact Nat.le_of_eq rfl) (hb hby at_84) (fun _ _ => ⟨rfl, e88, (by decide : 1 + 0 ≤ _), (by decide : 1 + 0 ≤ _)⟩)
            dsimp only [Pt.U, Pt.locs, Pt.cells, Pt.slots] at X89 l89 y89 z89 st89 hQ89
            subst l89 y89 z89
            obtain ⟨rfl, N89q, K89q, P89_0, P89_1⟩ := hQ89
            refine own_st (fun t k => st89.trans k) ?_
            have N89 := Fr.app N88 N89q
            have K89 : Keep h0 T89.heap [] := K86.trans K89q (own_all1 (Or.inr sz_o74))
            have F90 : Fld Z T89.heap o74 "com/example/tidewire/tidewire/internal/Backoff" "attempts" "I" (.int (5 : Int32)) := P89_1
            show OG p e _ s below _ T89 (mkF m 87 #[.val (.int p1), .val (.int (4 : Int32)), .val (.ref o74), .val (.long f3_4), .second, .unset, .unset] [])
            refine own_st (fun t k => XS.aloadN X89.here hx rfl (hb hby at_87) rfl rfl k) ?_
            show OG p e _ s below _ T89 (mkF m 88 #[.val (.int p1), .val (.int (4 : Int32)), .val (.ref o74), .val (.long f3_4), .second, .unset, .unset] [(.ref o74)])
            obtain ⟨cq91, kq91, q91a, q91b, q91c⟩ := isOf hZ rfl P89_0
            obtain ⟨_, _, ⟨T91, L91, k91, n91⟩, -, X91, ⟨Lc91, hQ91, l91, y91, z91⟩, st91⟩ := X89.virtualBack hx (y := (⟨"com/example/tidewire/tidewire/internal/Backoff", "delayMs", "()J"⟩ : MethodName)) (z := (⟨"com/example/tidewire/tidewire/internal/Backoff", "delayMs", "()J"⟩ : MethodName)) hown (mvT hZ (hw _ (List.mem_of_getElem? (i := 9) rfl))) (mvT hZ (hw _ (List.mem_of_getElem? (i := 10) rfl))) (notFace_of_selects (args := #[]) (mvT hZ (hw _ (List.mem_of_getElem? (i := 12) rfl)))) (mvT hZ (hw _ (List.mem_of_getElem? (i := 12) rfl))) (mvT hZ (hw _ (List.mem_of_getElem? (i := 11) rfl))) (by decide) (backOf (W := 0) (rm := ({ frames := 1, cells := 0, slots := 0, locals := 15 } : Room)) (rm3_5 l Z a0 hw [] o74 T89.heap F90) hZ (hw _ (List.mem_of_getElem? (i := 13) rfl)) (hw _ (List.mem_of_getElem? (i := 2) rfl)) (by decide) (by decide)) q91a q91c (g := (mkF m 88 #[.val (.int p1), .val (.int (4 : Int32)), .val (.ref o74), .val (.long f3_4), .second, .unset, .unset] [(.ref o74)])) rfl (by rw [hml]; rfl) (Steps.refl _) (argsL := []) (rest := []) (lenOf pd___J rfl) rfl (by show 2 * 0 + _ ≤ _; exact Nat.le_of_eq rfl) (hb hby at_88) (fun _ _ => ⟨rfl, rfl, (by decide : 1 + 0 ≤ _), (by decide : 1 + 0 ≤ _)⟩)
            dsimp only [Pt.U, Pt.locs, Pt.cells, Pt.slots] at X91 l91 y91 z91 st91 hQ91
            subst l91 y91 z91
            obtain ⟨rfl, rfl, e91⟩ := hQ91
            refine own_st (fun t k => st91.trans k) ?_
            have N91 := Fr.app N89 (Fr.nil n0)
            show OG p e _ s below _ T91 (mkF m 91 #[.val (.int p1), .val (.int (4 : Int32)), .val (.ref o74), .val (.long f3_4), .second, .unset, .unset] [(.long f3_5)])
            refine own_st (fun t k => XS.lstore X91.here hx rfl (hb hby at_91) rfl (l' := #[.val (.int p1), .val (.int (4 : Int32)), .val (.ref o74), .val (.long f3_4), .second, .val (.long f3_5), .second]) rfl k) ?_
            show OG p e _ s below _ T91 (mkF m 93 #[.val (.int p1), .val (.int (4 : Int32)), .val (.ref o74), .val (.long f3_4), .second, .val (.long f3_5), .second] [])
            refine own_st (fun t k => XS.lloadN X91.here hx rfl (hb hby at_93) rfl k) ?_
            show OG p e _ s below _ T91 (mkF m 94 #[.val (.int p1), .val (.int (4 : Int32)), .val (.ref o74), .val (.long f3_4), .second, .val (.long f3_5), .second] [(.long f3_4)])
            refine own_st (fun t k => XS.iloadN X91.here hx rfl (hb hby at_94) rfl k) ?_
            show OG p e _ s below _ T91 (mkF m 95 #[.val (.int p1), .val (.int (4 : Int32)), .val (.ref o74), .val (.long f3_4), .second, .val (.long f3_5), .second] [(.int (4 : Int32)), (.long f3_4)])
            obtain ⟨_, _, ⟨T92, L92, k92, n92⟩, -, X92, ⟨Lc92, hQ92, l92, y92, z92⟩, st92⟩ := Jvm.LawKit.callS X91 hx (y := (⟨"com/example/tidewire/tidewire/internal/BackoffAttemptedPinLaw", "ref", "(I)J"⟩ : MethodName)) hown (mvT hZ (hw _ (List.mem_of_getElem? (i := 28) rfl))) (mvT hZ (hw _ (List.mem_of_getElem? (i := 29) rfl))) (mvT hZ (hw _ (List.mem_of_getElem? (i := 30) rfl))) (mvT hZ (hw _ (List.mem_of_getElem? (i := 31) rfl))) (by decide) (backOf (W := 2) (rm := ({ frames := 1, cells := 0, slots := 0, locals := 15 } : Room)) (rm6 l Z a0 hw [] (4 : Int32) T89.heap) hZ (hw _ (List.mem_of_getElem? (i := 31) rfl)) (hw _ (List.mem_of_getElem? (i := 30) rfl)) (by decide) (by decide)) (g := (mkF m 95 #[.val (.int p1), .val (.int (4 : Int32)), .val (.ref o74), .val (.long f3_4), .second, .val (.long f3_5), .second] [(.int (4 : Int32)), (.long f3_4)])) rfl (by rw [hml]; rfl) (argsL := [(.int (4 : Int32))]) (rest := [(.long f3_4)]) (lenOf pd__I_J rfl) rfl (by show 2 * 0 + _ ≤ _; exact Nat.le_of_eq rfl) (hb hby at_95) (fun _ _ => ⟨rfl, e91, (by decide : 1 + 0 ≤ _), (by decide : 1 + 0 ≤ _)⟩)
            dsimp only [Pt.U, Pt.locs, Pt.cells, Pt.slots] at X92 l92 y92 z92 st92 hQ92
            subst l92 y92 z92
            obtain ⟨rfl, rfl, e92⟩ := hQ92
            refine own_st st92 ?_
            have N92 := Fr.app N91 (Fr.nil n0)
            show OG p e _ s below _ T92 (mkF m 98 #[.val (.int p1), .val (.int (4 : Int32)), .val (.ref o74), .val (.long f3_4), .second, .val (.long f3_5), .second] [(.long (f6 (4 : Int32))), (.long f3_4)])
            refine own_st (fun t k => XS.lcmp X92.here hx rfl (hb hby at_98) rfl k) ?_
            show OG p e _ s below _ T92 (mkF m 99 #[.val (.int p1), .val (.int (4 : Int32)), .val (.ref o74), .val (.long f3_4), .second, .val (.long f3_5), .second] [(.int (lcmpW f3_4 (f6 (4 : Int32))))])
            by_cases c93 : f3_4 = (f6 (4 : Int32))
            · refine own_st (fun t k => XS.ifNo X92.here hx rfl (hb hby at_99) rfl (own_if0 (teq ((lw_eq _ _).mpr c93)).2) k) ?_
              show OG p e _ s below _ T92 (mkF m 102 #[.val (.int p1), .val (.int (4 : Int32)), .val (.ref o74), .val (.long f3_4), .second, .val (.long f3_5), .second] [])
              refine own_st (fun t k => XS.lload X92.here hx rfl (hb hby at_102) rfl k) ?_
              show OG p e _ s below _ T92 (mkF m 104 #[.val (.int p1), .val (.int (4 : Int32)), .val (.ref o74), .val (.long f3_4), .second, .val (.long f3_5), .second] [(.long f3_5)])
              refine own_st (fun t k => XS.iloadN X92.here hx rfl (hb hby at_104) rfl k) ?_
              show OG p e _ s below _ T92 (mkF m 105 #[.val (.int p1), .val (.int (4 : Int32)), .val (.ref o74), .val (.long f3_4), .second, .val (.long f3_5), .second] [(.int (4 : Int32)), (.long f3_5)])
              refine own_st (fun t k => XS.iconst X92.here hx rfl (hb hby at_105) k) ?_
              show OG p e _ s below _ T92 (mkF m 106 #[.val (.int p1), .val (.int (4 : Int32)), .val (.ref o74), .val (.long f3_4), .second, .val (.long f3_5), .second] [(.int (1 : Int32)), (.int (4 : Int32)), (.long f3_5)])
              refine own_st (fun t k => XS.iadd X92.here hx rfl (hb hby at_106) rfl k) ?_
              show OG p e _ s below _ T92 (mkF m 107 #[.val (.int p1), .val (.int (4 : Int32)), .val (.ref o74), .val (.long f3_4), .second, .val (.long f3_5), .second] [(.int (5 : Int32)), (.long f3_5)])
              obtain ⟨_, _, ⟨T94, L94, k94, n94⟩, -, X94, ⟨Lc94, hQ94, l94, y94, z94⟩, st94⟩ := Jvm.LawKit.callS X92 hx (y := (⟨"com/example/tidewire/tidewire/internal/BackoffAttemptedPinLaw", "ref", "(I)J"⟩ : MethodName)) hown (mvT hZ (hw _ (List.mem_of_getElem? (i := 28) rfl))) (mvT hZ (hw _ (List.mem_of_getElem? (i := 29) rfl))) (mvT hZ (hw _ (List.mem_of_getElem? (i := 30) rfl))) (mvT hZ (hw _ (List.mem_of_getElem? (i := 31) rfl))) (by decide) (backOf (W := 2) (rm := ({ frames := 1, cells := 0, slots := 0, locals := 15 } : Room)) (rm6 l Z a0 hw [] (5 : Int32) T89.heap) hZ (hw _ (List.mem_of_getElem? (i := 31) rfl)) (hw _ (List.mem_of_getElem? (i := 30) rfl)) (by decide) (by decide)) (g := (mkF m 107 #[.val (.int p1), .val (.int (4 : Int32)), .val (.ref o74), .val (.long f3_4), .second, .val (.long f3_5), .second] [(.int (5 : Int32)), (.long f3_5)])) rfl (by rw [hml]; rfl) (argsL := [(.int (5 : Int32))]) (rest := [(.long f3_5)]) (lenOf pd__I_J rfl) rfl (by show 2 * 0 + _ ≤ _; exact Nat.le_of_eq rfl) (hb hby at_107) (fun _ _ => ⟨rfl, e92, (by decide : 1 + 0 ≤ _), (by decide : 1 + 0 ≤ _)⟩)
              dsimp only [Pt.U, Pt.locs, Pt.cells, Pt.slots] at X94 l94 y94 z94 st94 hQ94
              subst l94 y94 z94
              obtain ⟨rfl, rfl, e94⟩ := hQ94
              refine own_st st94 ?_
              have N94 := Fr.app N92 (Fr.nil n0)
              show OG p e _ s below _ T94 (mkF m 110 #[.val (.int p1), .val (.int (4 : Int32)), .val (.ref o74), .val (.long f3_4), .second, .val (.long f3_5), .second] [(.long (f6 (5 : Int32))), (.long f3_5)])
              refine own_st (fun t k => XS.lcmp X94.here hx rfl (hb hby at_110) rfl k) ?_
              show OG p e _ s below _ T94 (mkF m 111 #[.val (.int p1), .val (.int (4 : Int32)), .val (.ref o74), .val (.long f3_4), .second, .val (.long f3_5), .second] [(.int (lcmpW f3_5 (f6 (5 : Int32))))])
              by_cases c95 : f3_5 = (f6 (5 : Int32))
              · refine own_st (fun t k => XS.ifNo X94.here hx rfl (hb hby at_111) rfl (own_if0 (teq ((lw_eq _ _).mpr c95)).2) k) ?_
                show OG p e _ s below _ T94 (mkF m 114 #[.val (.int p1), .val (.int (4 : Int32)), .val (.ref o74), .val (.long f3_4), .second, .val (.long f3_5), .second] [])
                refine own_st (fun t k => XS.iconst X94.here hx rfl (hb hby at_114) k) ?_
                show OG p e _ s below _ T94 (mkF m 115 #[.val (.int p1), .val (.int (4 : Int32)), .val (.ref o74), .val (.long f3_4), .second, .val (.long f3_5), .second] [(.int (1 : Int32))])
                refine own_st (fun t k => XS.goto X94.here hx rfl (pc0 := 115) (pc' := 119) rfl (hb hby at_115) (by decide) (by decide) k) ?_
                show OG p e _ s below _ T94 (mkF m 119 #[.val (.int p1), .val (.int (4 : Int32)), .val (.ref o74), .val (.long f3_4), .second, .val (.long f3_5), .second] [(.int (1 : Int32))])
                refine own_retZ X94 hx (t := .boolean) hret (by simp) hlk (hb hby at_119) (by decide) (by decide) (w := (1 : Int32)) rfl ?_
                exact ⟨congrArg (fun z => some (Value.int z)) (show f0 p1 = (1 : Int32) from (by rw [f0, if_neg c1, if_neg c16, if_neg c33, if_neg c52, if_pos c73, if_pos c93, if_pos c95])).symm, N94⟩
              · refine own_st (fun t k => XS.ifYes X94.here hx rfl (pc0 := 111) (pc' := 118) rfl (hb hby at_111) rfl (own_if0 (feq (fun q => c95 ((lw_eq _ _).mp q))).2) (by decide) (by decide) k) ?_
                show OG p e _ s below _ T94 (mkF m 118 #[.val (.int p1), .val (.int (4 : Int32)), .val (.ref o74), .val (.long f3_4), .second, .val (.long f3_5), .second] [])
                refine own_st (fun t k => XS.iconst X94.here hx rfl (hb hby at_118) k) ?_
                show OG p e _ s below _ T94 (mkF m 119 #[.val (.int p1), .val (.int (4 : Int32)), .val (.ref o74), .val (.long f3_4), .second, .val (.long f3_5), .second] [(.int (0 : Int32))])
                refine own_retZ X94 hx (t := .boolean) hret (by simp) hlk (hb hby at_119) (by decide) (by decide) (w := (0 : Int32)) rfl ?_
                exact ⟨congrArg (fun z => some (Value.int z)) (show f0 p1 = (0 : Int32) from (by rw [f0, if_neg c1, if_neg c16, if_neg c33, if_neg c52, if_pos c73, if_pos c93, if_neg c95])).symm, N94⟩
            · refine own_st (fun t k => XS.ifYes X92.here hx rfl (pc0 := 99) (pc' := 118) rfl (hb hby at_99) rfl (own_if0 (feq (fun q => c93 ((lw_eq _ _).mp q))).2) (by decide) (by decide) k) ?_
              show OG p e _ s below _ T92 (mkF m 118 #[.val (.int p1), .val (.int (4 : Int32)), .val (.ref o74), .val (.long f3_4), .second, .val (.long f3_5), .second] [])
              refine own_st (fun t k => XS.iconst X92.here hx rfl (hb hby at_118) k) ?_
              show OG p e _ s below _ T92 (mkF m 119 #[.val (.int p1), .val (.int (4 : Int32)), .val (.ref o74), .val (.long f3_4), .second, .val (.long f3_5), .second] [(.int (0 : Int32))])
              refine own_retZ X92 hx (t := .boolean) hret (by simp) hlk (hb hby at_119) (by decide) (by decide) (w := (0 : Int32)) rfl ?_
              exact ⟨congrArg (fun z => some (Value.int z)) (show f0 p1 = (0 : Int32) from (by rw [f0, if_neg c1, if_neg c16, if_neg c33, if_neg c52, if_pos c73, if_neg c93])).symm, N92⟩
          · skip
            by_cases c96 : (g0_1 p1) = (5 : Int32)
            · rw [c96]
              show OG p e _ s below _ s₁ (mkF m 5 #[.val (.int p1), .val (.int (5 : Int32)), .unset, .unset, .unset, .unset, .unset] [])
              obtain ⟨T97, h97, X97, e97, E97, A97, D97, -, st97⟩ := newO X0 hx hZ hown (hw _ (List.mem_of_getElem? (i := 0) rfl)) (hw _ (List.mem_of_getElem? (i := 1) rfl)) (hw _ (List.mem_of_getElem? (i := 2) rfl)) e0 (g := (mkF m 5 #[.val (.int p1), .val (.int (5 : Int32)), .unset, .unset, .unset, .unset, .unset] [])) rfl (hb hby at_5) (by decide) (by decide)
              obtain ⟨o97, gb97⟩ : ∃ z, z = h0.size := ⟨_, rfl⟩
              rw [← gb97] at A97 D97 st97
              refine own_st st97 ?_
              have ge_o97 : n0 ≤ o97 := by rw [gb97]; exact Nat.le_trans Z0 (Keep.refl h0 []).1
              have sz_o97 : h0.size ≤ o97 := by rw [gb97]; exact (Keep.refl h0 []).1
              have K98 : Keep h0 h97 [] := (Keep.refl h0 []).ext E97
              have F99 : Fld Z h97 o97 "com/example/tidewire/tidewire/internal/Backoff" "attempts" "I" (.int (0 : Int32)) := D97 (Or.inl (hw _ (List.mem_of_getElem? (i := 15) rfl))) (ty := .int) (by decide)
              show OG p e _ s below _ T97 (mkF m 8 #[.val (.int p1), .val (.int (5 : Int32)), .unset, .unset, .unset, .unset, .unset] [(.ref o97)])
              refine own_st (fun t k => XS.dup X97.here hx rfl (hb hby at_8) rfl rfl k) ?_
              show OG p e _ s below _ T97 (mkF m 9 #[.val (.int p1), .val (.int (5 : Int32)), .unset, .unset, .unset, .unset, .unset] [(.ref o97), (.ref o97)])
              obtain ⟨_, _, ⟨T100, L100, k100, n100⟩, -, X100, ⟨Lc100, hQ100, l100, y100, z100⟩, st100⟩ := X97.specialBack hx (y := (⟨"com/example/tidewire/tidewire/internal/Backoff", "<init>", "()V"⟩ : MethodName)) rfl hown (mvT hZ (hw _ (List.mem_of_getElem? (i := 3) rfl))) (mvT hZ (hw _ (List.mem_of_getElem? (i := 4) rfl))) (mvT hZ (hw _ (List.mem_of_getElem? (i := 5) rfl))) (by decide) (backOf (W := 1) (rm := ({ frames := 1, cells := 0, slots := 0, locals := 12 } : Room)) (rm1 l Z a0 hw [] o97 h97 n0) hZ (hw _ (List.mem_of_getElem? (i := 5) rfl)) (hw _ (List.mem_of_getElem? (i := 2) rfl)) (by decide) (by decide)) (g := (mkF m 9 #[.val (.int p1), .val (.int (5 : Int32)), .unset, .unset, .unset, .unset, .unset] [(.ref o97), (.ref o97)])) rfl (by rw [hml]; rfl) (Steps.refl _) (a := o97) (argsL := []) (rest := [(.ref o97)]) (lenOf pd___V rfl) rfl (by show 2 * 0 + _ ≤ _; exact Nat.le_of_eq rfl) (hb hby at_9) (fun _ _ => ⟨rfl, e97, (by decide : 1 + 0 ≤ _), (by decide : 1 + 0 ≤ _)⟩)
              dsimp only [Pt.U, Pt.locs, Pt.cells, Pt.slots] at X100 l100 y100 z100 st100 hQ100
              subst l100 y100 z100
              obtain ⟨rfl, N100q, K100q⟩ := hQ100
              refine own_st (fun t k => st100.trans k) ?_
              have N100 := Fr.app N0 N100q
              have K100 : Keep h0 T100.heap [] := K98.trans K100q (own_all0 )
              have F101 : Exa Z T100.heap o97 "com/example/tidewire/tidewire/internal/Backoff" := (A97.keep K100q)
              have F102 : Fld Z T100.heap o97 "com/example/tidewire/tidewire/internal/Backoff" "attempts" "I" (.int (0 : Int32)) := (F99.keep K100q (own_nin0 ))
              show OG p e _ s below _ T100 (mkF m 12 #[.val (.int p1), .val (.int (5 : Int32)), .unset, .unset, .unset, .unset, .unset] [(.ref o97)])
              refine own_st (fun t k => XS.astoreN X100.here hx rfl (hb hby at_12) rfl rfl (l' := #[.val (.int p1), .val (.int (5 : Int32)), .val (.ref o97), .unset, .unset, .unset, .unset]) rfl k) ?_
              show OG p e _ s below _ T100 (mkF m 13 #[.val (.int p1), .val (.int (5 : Int32)), .val (.ref o97), .unset, .unset, .unset, .unset] [])
              refine own_st (fun t k => XS.iloadN X100.here hx rfl (hb hby at_13) rfl k) ?_
              show OG p e _ s below _ T100 (mkF m 14 #[.val (.int p1), .val (.int (5 : Int32)), .val (.ref o97), .unset, .unset, .unset, .unset] [(.int (5 : Int32))])
              refine own_st (fun t k => XS.iconst X100.here hx rfl (hb hby at_14) k) ?_
              show OG p e _ s below _ T100 (mkF m 15 #[.val (.int p1), .val (.int (5 : Int32)), .val (.ref o97), .unset, .unset, .unset, .unset] [(.int (1 : Int32)), (.int (5 : Int32))])
              refine own_st (fun t k => XS.icmpNo X100.here hx rfl (hb hby at_15) rfl (by decide) k) ?_
              show OG p e _ s below _ T100 (mkF m 18 #[.val (.int p1), .val (.int (5 : Int32)), .val (.ref o97), .unset, .unset, .unset, .unset] [])
              refine own_st (fun t k => XS.aloadN X100.here hx rfl (hb hby at_18) rfl rfl k) ?_
              show OG p e _ s below _ T100 (mkF m 19 #[.val (.int p1), .val (.int (5 : Int32)), .val (.ref o97), .unset, .unset, .unset, .unset] [(.ref o97)])
              obtain ⟨cq103, kq103, q103a, q103b, q103c⟩ := isOf hZ rfl F101
              obtain ⟨_, _, ⟨T103, L103, k103, n103⟩, -, X103, ⟨Lc103, hQ103, l103, y103, z103⟩, st103⟩ := X100.virtualBack hx (y := (⟨"com/example/tidewire/tidewire/internal/Backoff", "attempted", "()V"⟩ : MethodName)) (z := (⟨"com/example/tidewire/tidewire/internal/Backoff", "attempted", "()V"⟩ : MethodName)) hown (mvT hZ (hw _ (List.mem_of_getElem? (i := 16) rfl))) (mvT hZ (hw _ (List.mem_of_getElem? (i := 17) rfl))) (notFace_of_selects (args := #[]) (mvT hZ (hw _ (List.mem_of_getElem? (i := 19) rfl)))) (mvT hZ (hw _ (List.mem_of_getElem? (i := 19) rfl))) (mvT hZ (hw _ (List.mem_of_getElem? (i := 18) rfl))) (by decide) (backOf (W := 0) (rm := ({ frames := 0, cells := 0, slots := 0, locals := 0 } : Room)) (rm4 l Z a0 hw [] o97 (0 : Int32) T100.heap n0 F101 F102 ge_o97 (by decide)) hZ (hw _ (List.mem_of_getElem? (i := 20) rfl)) (hw _ (List.mem_of_getElem? (i := 2) rfl)) (by decide) (by decide)) q103a q103c (g := (mkF m 19 #[.val (.int p1), .val (.int (5 : Int32)), .val (.ref o97), .unset, .unset, .unset, .unset] [(.ref o97)])) rfl (by rw [hml]; rfl) (Steps.refl _) (argsL := []) (rest := []) (lenOf pd___V rfl) rfl (by show 2 * 0 + _ ≤ _; exact Nat.le_of_eq rfl) (hb hby at_19) (fun _ _ => ⟨rfl, rfl, (by decide : 1 + 0 ≤ _), (by decide : 1 + 0 ≤ _)⟩)
              dsimp only [Pt.U, Pt.locs, Pt.cells, Pt.slots] at X103 l103 y103 z103 st103 hQ103
              subst l103 y103 z103
              obtain ⟨rfl, N103q, K103q, P103_0, P103_1⟩ := hQ103
              refine own_st (fun t k => st103.trans k) ?_
              have N103 := Fr.app N100 N103q
              have K103 : Keep h0 T103.heap [] := K100.trans K103q (own_all1 (Or.inr sz_o97))
              have F104 : Fld Z T103.heap o97 "com/example/tidewire/tidewire/internal/Backoff" "attempts" "I" (.int (1 : Int32)) := P103_1
              show OG p e _ s below _ T103 (mkF m 22 #[.val (.int p1), .val (.int (5 : Int32)), .val (.ref o97), .unset, .unset, .unset, .unset] [])
              refine own_st (fun t k => XS.iloadN X103.here hx rfl (hb hby at_22) rfl k) ?_
              show OG p e _ s below _ T103 (mkF m 23 #[.val (.int p1), .val (.int (5 : Int32)), .val (.ref o97), .unset, .unset, .unset, .unset] [(.int (5 : Int32))])
              refine own_st (fun t k => XS.iconst X103.here hx rfl (hb hby at_23) k) ?_
              show OG p e _ s below _ T103 (mkF m 24 #[.val (.int p1), .val (.int (5 : Int32)), .val (.ref o97), .unset, .unset, .unset, .unset] [(.int (2 : Int32)), (.int (5 : Int32))])
              refine own_st (fun t k => XS.icmpNo X103.here hx rfl (hb hby at_24) rfl (by decide) k) ?_
              show OG p e _ s below _ T103 (mkF m 27 #[.val (.int p1), .val (.int (5 : Int32)), .val (.ref o97), .unset, .unset, .unset, .unset] [])
              refine own_st (fun t k => XS.aloadN X103.here hx rfl (hb hby at_27) rfl rfl k) ?_
              show OG p e _ s below _ T103 (mkF m 28 #[.val (.int p1), .val (.int (5 : Int32)), .val (.ref o97), .unset, .unset, .unset, .unset] [(.ref o97)])
              obtain ⟨cq105, kq105, q105a, q105b, q105c⟩ := isOf hZ rfl P103_0
              obtain ⟨_, _, ⟨T105, L105, k105, n105⟩, -, X105, ⟨Lc105, hQ105, l105, y105, z105⟩, st105⟩ := X103.virtualBack hx (y := (⟨"com/example/tidewire/tidewire/internal/Backoff", "attempted", "()V"⟩ : MethodName)) (z := (⟨"com/example/tidewire/tidewire/internal/Backoff", "attempted", "()V"⟩ : MethodName)) hown (mvT hZ (hw _ (List.mem_of_getElem? (i := 16) rfl))) (mvT hZ (hw _ (List.mem_of_getElem? (i := 17) rfl))) (notFace_of_selects (args := #[]) (mvT hZ (hw _ (List.mem_of_getElem? (i := 19) rfl)))) (mvT hZ (hw _ (List.mem_of_getElem? (i := 19) rfl))) (mvT hZ (hw _ (List.mem_of_getElem? (i := 18) rfl))) (by decide) (backOf (W := 0) (rm := ({ frames := 0, cells := 0, slots := 0, locals := 0 } : Room)) (rm4 l Z a0 hw [] o97 (1 : Int32) T103.heap n0 P103_0 F104 ge_o97 (by decide)) hZ (hw _ (List.mem_of_getElem? (i := 20) rfl)) (hw _ (List.mem_of_getElem? (i := 2) rfl)) (by decide) (by decide)) q105a q105c (g := (mkF m 28 #[.val (.int p1), .val (.int (5 : Int32)), .val (.ref o97), .unset, .unset, .unset, .unset] [(.ref o97)])) rfl (by rw [hml]; rfl) (Steps.refl _) (argsL := []) (rest := []) (lenOf pd___V rfl) rfl (by show 2 * 0 + _ ≤ _; exact Nat.le_of_eq rfl) (hb hby at_28) (fun _ _ => ⟨rfl, rfl, (by decide : 1 + 0 ≤ _), (by decide : 1 + 0 ≤ _)⟩)
              dsimp only [Pt.U, Pt.locs, Pt.cells, Pt.slots] at X105 l105 y105 z105 st105 hQ105
              subst l105 y105 z105
              obtain ⟨rfl, N105q, K105q, P105_0, P105_1⟩ := hQ105
              refine own_st (fun t k => st105.trans k) ?_
              have N105 := Fr.app N103 N105q
              have K105 : Keep h0 T105.heap [] := K103.trans K105q (own_all1 (Or.inr sz_o97))
              have F106 : Fld Z T105.heap o97 "com/example/tidewire/tidewire/internal/Backoff" "attempts" "I" (.int (2 : Int32)) := P105_1
              show OG p e _ s below _ T105 (mkF m 31 #[.val (.int p1), .val (.int (5 : Int32)), .val (.ref o97), .unset, .unset, .unset, .unset] [])
              refine own_st (fun t k => XS.iloadN X105.here hx rfl (hb hby at_31) rfl k) ?_
              show OG p e _ s below _ T105 (mkF m 32 #[.val (.int p1), .val (.int (5 : Int32)), .val (.ref o97), .unset, .unset, .unset, .unset] [(.int (5 : Int32))])
              refine own_st (fun t k => XS.iconst X105.here hx rfl (hb hby at_32) k) ?_
              show OG p e _ s below _ T105 (mkF m 33 #[.val (.int p1), .val (.int (5 : Int32)), .val (.ref o97), .unset, .unset, .unset, .unset] [(.int (3 : Int32)), (.int (5 : Int32))])
              refine own_st (fun t k => XS.icmpNo X105.here hx rfl (hb hby at_33) rfl (by decide) k) ?_
              show OG p e _ s below _ T105 (mkF m 36 #[.val (.int p1), .val (.int (5 : Int32)), .val (.ref o97), .unset, .unset, .unset, .unset] [])
              refine own_st (fun t k => XS.aloadN X105.here hx rfl (hb hby at_36) rfl rfl k) ?_
              show OG p e _ s below _ T105 (mkF m 37 #[.val (.int p1), .val (.int (5 : Int32)), .val (.ref o97), .unset, .unset, .unset, .unset] [(.ref o97)])
              obtain ⟨cq107, kq107, q107a, q107b, q107c⟩ := isOf hZ rfl P105_0
              obtain ⟨_, _, ⟨T107, L107, k107, n107⟩, -, X107, ⟨Lc107, hQ107, l107, y107, z107⟩, st107⟩ := X105.virtualBack hx (y := (⟨"com/example/tidewire/tidewire/internal/Backoff", "attempted", "()V"⟩ : MethodName)) (z := (⟨"com/example/tidewire/tidewire/internal/Backoff", "attempted", "()V"⟩ : MethodName)) hown (mvT hZ (hw _ (List.mem_of_getElem? (i := 16) rfl))) (mvT hZ (hw _ (List.mem_of_getElem? (i := 17) rfl))) (notFace_of_selects (args := #[]) (mvT hZ (hw _ (List.mem_of_getElem? (i := 19) rfl)))) (mvT hZ (hw _ (List.mem_of_getElem? (i := 19) rfl))) (mvT hZ (hw _ (List.mem_of_getElem? (i := 18) rfl))) (by decide) (backOf (W := 0) (rm := ({ frames := 0, cells := 0, slots := 0, locals := 0 } : Room)) (rm4 l Z a0 hw [] o97 (2 : Int32) T105.heap n0 P105_0 F106 ge_o97 (by decide)) hZ (hw _ (List.mem_of_getElem? (i := 20) rfl)) (hw _ (List.mem_of_getElem? (i := 2) rfl)) (by decide) (by decide)) q107a q107c (g := (mkF m 37 #[.val (.int p1), .val (.int (5 : Int32)), .val (.ref o97), .unset, .unset, .unset, .unset] [(.ref o97)])) rfl (by rw [hml]; rfl) (Steps.refl _) (argsL := []) (rest := []) (lenOf pd___V rfl) rfl (by show 2 * 0 + _ ≤ _; exact Nat.le_of_eq rfl) (hb hby at_37) (fun _ _ => ⟨rfl, rfl, (by decide : 1 + 0 ≤ _), (by decide : 1 + 0 ≤ _)⟩)
              dsimp only [Pt.U, Pt.locs, Pt.cells, Pt.slots] at X107 l107 y107 z107 st107 hQ107
              subst l107 y107 z107
              obtain ⟨rfl, N107q, K107q, P107_0, P107_1⟩ := hQ107
              refine own_st (fun t k => st107.trans k) ?_
              have N107 := Fr.app N105 N107q
              have K107 : Keep h0 T107.heap [] := K105.trans K107q (own_all1 (Or.inr sz_o97))
              have F108 : Fld Z T107.heap o97 "com/example/tidewire/tidewire/internal/Backoff" "attempts" "I" (.int (3 : Int32)) := P107_1
              show OG p e _ s below _ T107 (mkF m 40 #[.val (.int p1), .val (.int (5 : Int32)), .val (.ref o97), .unset, .unset, .unset, .unset] [])
              refine own_st (fun t k => XS.iloadN X107.here hx rfl (hb hby at_40) rfl k) ?_
              show OG p e _ s below _ T107 (mkF m 41 #[.val (.int p1), .val (.int (5 : Int32)), .val (.ref o97), .unset, .unset, .unset, .unset] [(.int (5 : Int32))])
              refine own_st (fun t k => XS.iconst X107.here hx rfl (hb hby at_41) k) ?_
              show OG p e _ s below _ T107 (mkF m 42 #[.val (.int p1), .val (.int (5 : Int32)), .val (.ref o97), .unset, .unset, .unset, .unset] [(.int (4 : Int32)), (.int (5 : Int32))])
              refine own_st (fun t k => XS.icmpNo X107.here hx rfl (hb hby at_42) rfl (by decide) k) ?_
              show OG p e _ s below _ T107 (mkF m 45 #[.val (.int p1), .val (.int (5 : Int32)), .val (.ref o97), .unset, .unset, .unset, .unset] [])
              refine own_st (fun t k => XS.aloadN X107.here hx rfl (hb hby at_45) rfl rfl k) ?_
              show OG p e _ s below _ T107 (mkF m 46 #[.val (.int p1), .val (.int (5 : Int32)), .val (.ref o97), .unset, .unset, .unset, .unset] [(.ref o97)])
              obtain ⟨cq109, kq109, q109a, q109b, q109c⟩ := isOf hZ rfl P107_0
              obtain ⟨_, _, ⟨T109, L109, k109, n109⟩, -, X109, ⟨Lc109, hQ109, l109, y109, z109⟩, st109⟩ := X107.virtualBack hx (y := (⟨"com/example/tidewire/tidewire/internal/Backoff", "attempted", "()V"⟩ : MethodName)) (z := (⟨"com/example/tidewire/tidewire/internal/Backoff", "attempted", "()V"⟩ : MethodName)) hown (mvT hZ (hw _ (List.mem_of_getElem? (i := 16) rfl))) (mvT hZ (hw _ (List.mem_of_getElem? (i := 17) rfl))) (notFace_of_selects (args := #[]) (mvT hZ (hw _ (List.mem_of_getElem? (i := 19) rfl)))) (mvT hZ (hw _ (List.mem_of_getElem? (i := 19) rfl))) (mvT hZ (hw _ (List.mem_of_getElem? (i := 18) rfl))) (by decide) (backOf (W := 0) (rm := ({ frames := 0, cells := 0, slots := 0, locals := 0 } : Room)) (rm4 l Z a0 hw [] o97 (3 : Int32) T107.heap n0 P107_0 F108 ge_o97 (by decide)) hZ (hw _ (List.mem_of_getElem? (i := 20) rfl)) (hw _ (List.mem_of_getElem? (i := 2) rfl)) (by decide) (by decide)) q109a q109c (g := (mkF m 46 #[.val (.int p1), .val (.int (5 : Int32)), .val (.ref o97), .unset, .unset, .unset, .unset] [(.ref o97)])) rfl (by rw [hml]; rfl) (Steps.refl _) (argsL := []) (rest := []) (lenOf pd___V rfl) rfl (by show 2 * 0 + _ ≤ _; exact Nat.le_of_eq rfl) (hb hby at_46) (fun _ _ => ⟨rfl, rfl, (by decide : 1 + 0 ≤ _), (by decide : 1 + 0 ≤ _)⟩)
              dsimp only [Pt.U, Pt.locs, Pt.cells, Pt.slots] at X109 l109 y109 z109 st109 hQ109
              subst l109 y109 z109
              obtain ⟨rfl, N109q, K109q, P109_0, P109_1⟩ := hQ109
              refine own_st (fun t k => st109.trans k) ?_
              have N109 := Fr.app N107 N109q
              have K109 : Keep h0 T109.heap [] := K107.trans K109q (own_all1 (Or.inr sz_o97))
              have F110 : Fld Z T109.heap o97 "com/example/tidewire/tidewire/internal/Backoff" "attempts" "I" (.int (4 : Int32)) := P109_1
              show OG p e _ s below _ T109 (mkF m 49 #[.val (.int p1), .val (.int (5 : Int32)), .val (.ref o97), .unset, .unset, .unset, .unset] [])
              refine own_st (fun t k => XS.iloadN X109.here hx rfl (hb hby at_49) rfl k) ?_
              show OG p e _ s below _ T109 (mkF m 50 #[.val (.int p1), .val (.int (5 : Int32)), .val (.ref o97), .unset, .unset, .unset, .unset] [(.int (5 : Int32))])
              refine own_st (fun t k => XS.iconst X109.here hx rfl (hb hby at_50) k) ?_
              show OG p e _ s below _ T109 (mkF m 51 #[.val (.int p1), .val (.int (5 : Int32)), .val (.ref o97), .unset, .unset, .unset, .unset] [(.int (5 : Int32)), (.int (5 : Int32))])
              refine own_st (fun t k => XS.icmpNo X109.here hx rfl (hb hby at_51) rfl (by decide) k) ?_
              show OG p e _ s below _ T109 (mkF m 54 #[.val (.int p1), .val (.int (5 : Int32)), .val (.ref o97), .unset, .unset, .unset, .unset] [])
              refine own_st (fun t k => XS.aloadN X109.here hx rfl (hb hby at_54) rfl rfl k) ?_
              show OG p e _ s below _ T109 (mkF m 55 #[.val (.int p1), .val (.int (5 : Int32)), .val (.ref o97), .unset, .unset, .unset, .unset] [(.ref o97)])
              obtain ⟨cq111, kq111, q111a, q111b, q111c⟩ := isOf hZ rfl P109_0
              obtain ⟨_, _, ⟨T111, L111, k111, n111⟩, -, X111, ⟨Lc111, hQ111, l111, y111, z111⟩, st111⟩ := X109.virtualBack hx (y := (⟨"com/example/tidewire/tidewire/internal/Backoff", "attempted", "()V"⟩ : MethodName)) (z := (⟨"com/example/tidewire/tidewire/internal/Backoff", "attempted", "()V"⟩ : MethodName)) hown (mvT hZ (hw _ (List.mem_of_getElem? (i := 16) rfl))) (mvT hZ (hw _ (List.mem_of_getElem? (i := 17) rfl))) (notFace_of_selects (args := #[]) (mvT hZ (hw _ (List.mem_of_getElem? (i := 19) rfl)))) (mvT hZ (hw _ (List.mem_of_getElem? (i := 19) rfl))) (mvT hZ (hw _ (List.mem_of_getElem? (i := 18) rfl))) (by decide) (backOf (W := 0) (rm := ({ frames := 0, cells := 0, slots := 0, locals := 0 } : Room)) (rm4 l Z a0 hw [] o97 (4 : Int32) T109.heap n0 P109_0 F110 ge_o97 (by decide)) hZ (hw _ (List.mem_of_getElem? (i := 20) rfl)) (hw _ (List.mem_of_getElem? (i := 2) rfl)) (by decide) (by decide)) q111a q111c (g := (mkF m 55 #[.val (.int p1), .val (.int (5 : Int32)), .val (.ref o97), .unset, .unset, .unset, .unset] [(.ref o97)])) rfl (by rw [hml]; rfl) (Steps.refl _) (argsL := []) (rest := []) (lenOf pd___V rfl) rfl (by show 2 * 0 + _ ≤ _; exact Nat.le_of_eq rfl) (hb hby at_55) (fun _ _ => ⟨rfl, rfl, (by decide : 1 + 0 ≤ _), (by decide : 1 + 0 ≤ _)⟩)
              dsimp only [Pt.U, Pt.locs, Pt.cells, Pt.slots] at X111 l111 y111 z111 st111 hQ111
              subst l111 y111 z111
              obtain ⟨rfl, N111q, K111q, P111_0, P111_1⟩ := hQ111
              refine own_st (fun t k => st111.trans k) ?_
              have N111 := Fr.app N109 N111q
              have K111 : Keep h0 T111.heap [] := K109.trans K111q (own_all1 (Or.inr sz_o97))
              have F112 : Fld Z T111.heap o97 "com/example/tidewire/tidewire/internal/Backoff" "attempts" "I" (.int (5 : Int32)) := P111_1
              show OG p e _ s below _ T111 (mkF m 58 #[.val (.int p1), .val (.int (5 : Int32)), .val (.ref o97), .unset, .unset, .unset, .unset] [])
              refine own_st (fun t k => XS.iloadN X111.here hx rfl (hb hby at_58) rfl k) ?_
              show OG p e _ s below _ T111 (mkF m 59 #[.val (.int p1), .val (.int (5 : Int32)), .val (.ref o97), .unset, .unset, .unset, .unset] [(.int (5 : Int32))])
              refine own_st (fun t k => XS.bipush X111.here hx rfl (hb hby at_59) k) ?_
              show OG p e _ s below _ T111 (mkF m 61 #[.val (.int p1), .val (.int (5 : Int32)), .val (.ref o97), .unset, .unset, .unset, .unset] [(.int (6 : Int32)), (.int (5 : Int32))])
              refine own_st (fun t k => XS.icmpYes X111.here hx rfl (pc0 := 61) (pc' := 68) rfl (hb hby at_61) rfl (by decide) (by decide) (by decide) k) ?_
              show OG p e _ s below _ T111 (mkF m 68 #[.val (.int p1), .val (.int (5 : Int32)), .val (.ref o97), .unset, .unset, .unset, .unset] [])
              refine own_st (fun t k => XS.iloadN X111.here hx rfl (hb hby at_68) rfl k) ?_
              show OG p e _ s below _ T111 (mkF m 69 #[.val (.int p1), .val (.int (5 : Int32)), .val (.ref o97), .unset, .unset, .unset, .unset] [(.int (5 : Int32))])
              refine own_st (fun t k => XS.bipush X111.here hx rfl (hb hby at_69) k) ?_
              show OG p e _ s below _ T111 (mkF m 71 #[.val (.int p1), .val (.int (5 : Int32)), .val (.ref o97), .unset, .unset, .unset, .unset] [(.int (7 : Int32)), (.int (5 : Int32))])
              refine own_st (fun t k => XS.icmpYes X111.here hx rfl (pc0 := 71) (pc' := 78) rfl (hb hby at_71) rfl (by decide) (by decide) (by decide) k) ?_
              show OG p e _ s below _ T111 (mkF m 78 #[.val (.int p1), .val (.int (5 : Int32)), .val (.ref o97), .unset, .unset, .unset, .unset] [])
              refine own_st (fun t k => XS.aloadN X111.here hx rfl (hb hby at_78) rfl rfl k) ?_
              show OG p e _ s below _ T111 (mkF m 79 #[.val (.int p1), .val (.int (5 : Int32)), .val (.ref o97), .unset, .unset, .unset, .unset] [(.ref o97)])
              obtain ⟨cq113, kq113, q113a, q113b, q113c⟩ := isOf hZ rfl P111_0
              obtain ⟨_, _, ⟨T113, L113, k113, n113⟩, -, X113, ⟨Lc113, hQ113, l113, y113, z113⟩, st113⟩ := X111.virtualBack hx (y := (⟨"com/example/tidewire/tidewire/internal/Backoff", "delayMs", "()J"⟩ : MethodName)) (z := (⟨"com/example/tidewire/tidewire/internal/Backoff", "delayMs", "()J"⟩ : MethodName)) hown (mvT hZ (hw _ (List.mem_of_getElem? (i := 9) rfl))) (mvT hZ (hw _ (List.mem_of_getElem? (i := 10) rfl))) (notFace_of_selects (args := #[]) (mvT hZ (hw _ (List.mem_of_getElem? (i := 12) rfl)))) (mvT hZ (hw _ (List.mem_of_getElem? (i := 12) rfl))) (mvT hZ (hw _ (List.mem_of_getElem? (i := 11) rfl))) (by decide) (backOf (W := 0) (rm := ({ frames := 1, cells := 0, slots := 0, locals := 15 } : Room)) (rm3_5 l Z a0 hw [] o97 T111.heap F112) hZ (hw _ (List.mem_of_getElem? (i := 13) rfl)) (hw _ (List.mem_of_getElem? (i := 2) rfl)) (by decide) (by decide)) q113a q113c (g := (mkF m 79 #[.val (.int p1), .val (.int (5 : Int32)), .val (.ref o97), .unset, .unset, .unset, .unset] [(.ref o97)])) rfl (by rw [hml]; rfl) (Steps.refl _) (argsL := []) (rest := []) (lenOf pd___J rfl) rfl (by show 2 * 0 + _ ≤ _; exact Nat.le_of_eq rfl) (hb hby at_79) (fun _ _ => ⟨rfl, rfl, (by decide : 1 + 0 ≤ _), (by decide : 1 + 0 ≤ _)⟩)
              dsimp only [Pt.U, Pt.locs, Pt.cells, Pt.slots] at X113 l113 y113 z113 st113 hQ113
              subst l113 y113 z113
              obtain ⟨rfl, rfl, e113⟩ := hQ113
              refine own_st (fun t k => st113.trans k) ?_
              have N113 := Fr.app N111 (Fr.nil n0)
              show OG p e _ s below _ T113 (mkF m 82 #[.val (.int p1), .val (.int (5 : Int32)), .val (.ref o97), .unset, .unset, .unset, .unset] [(.long f3_5)])
              refine own_st (fun t k => XS.lstoreN X113.here hx rfl (hb hby at_82) rfl (l' := #[.val (.int p1), .val (.int (5 : Int32)), .val (.ref o97), .val (.long f3_5), .second, .unset, .unset]) rfl k) ?_
              show OG p e _ s below _ T113 (mkF m 83 #[.val (.int p1), .val (.int (5 : Int32)), .val (.ref o97), .val (.long f3_5), .second, .unset, .unset] [])
              refine own_st (fun t k => XS.aloadN X113.here hx rfl (hb hby at_83) rfl rfl k) ?_
              show OG p e _ s below _ T113 (mkF m 84 #[.val (.int p1), .val (.int (5 : Int32)), .val (.ref o97), .val (.long f3_5), .second, .unset, .unset] [(.ref o97)])
              obtain ⟨cq114, kq114, q114a, q114b, q114c⟩ := isOf hZ e113 P111_0
              obtain ⟨_, _, ⟨T114, L114, k114, n114⟩, -, X114, ⟨Lc114, hQ114, l114, y114, z114⟩, st114⟩ := X113.virtualBack hx (y := (⟨"com/example/tidewire/tidewire/internal/Backoff", "attempted", "()V"⟩ : MethodName)) (z := (⟨"com/example/tidewire/tidewire/internal/Backoff", "attempted", "()V"⟩ : MethodName)) hown (mvT hZ (hw _ (List.mem_of_getElem? (i := 16) rfl))) (mvT hZ (hw _ (List.mem_of_getElem? (i := 17) rfl))) (notFace_of_selects (args := #[]) (mvT hZ (hw _ (List.mem_of_getElem? (i := 19) rfl)))) (mvT hZ (hw _ (List.mem_of_getElem? (i := 19) rfl))) (mvT hZ (hw _ (List.mem_of_getElem? (i := 18) rfl))) (by decide) (backOf (W := 0) (rm := ({ frames := 0, cells := 0, slots := 0, locals := 0 } : Room)) (rm4 l Z a0 hw [] o97 (5 : Int32) T111.heap n0 P111_0 F112 ge_o97 (by decide)) hZ (hw _ (List.mem_of_getElem? (i := 20) rfl)) (hw _ (List.mem_of_getElem? (i := 2) rfl)) (by decide) (by decide)) q114a q114c (g := (mkF m 84 #[.val (.int p1), .val (.int (5 : Int32)), .val (.ref o97), .val (.long f3_5), .second, .unset, .unset] [(.ref o97)])) rfl (by rw [hml]; rfl) (Steps.refl _) (argsL := []) (rest := []) (lenOf pd___V rfl) rfl (by show 2 * 0 + _ ≤ _; exact Nat.le_of_eq rfl) (hb hby at_84) (fun _ _ => ⟨rfl, e113, (by decide : 1 + 0 ≤ _), (by decide : 1 + 0 ≤ _)⟩)
              dsimp only [Pt.U, Pt.locs, Pt.cells, Pt.slots] at X114 l114 y114 z114 st114 hQ114
              subst l114 y114 z114
              obtain ⟨rfl, N114q, K114q, P114_0, P114_1⟩ := hQ114
              refine own_st (fun t k => st114.trans k) ?_
              have N114 := Fr.app N113 N114q
              have K114 : Keep h0 T114.heap [] := K111.trans K114q (own_all1 (Or.inr sz_o97))
              have F115 : Fld Z T114.heap o97 "com/example/tidewire/tidewire/internal/Backoff" "attempts" "I" (.int (6 : Int32)) := P114_1
              show OG p e _ s below _ T114 (mkF m 87 #[.val (.int p1), .val (.int (5 : Int32)), .val (.ref o97), .val (.long f3_5), .second, .unset, .unset] [])
              refine own_st (fun t k => XS.aloadN X114.here hx rfl (hb hby at_87) rfl rfl k) ?_
              show OG p e _ s below _ T114 (mkF m 88 #[.val (.int p1), .val (.int (5 : Int32)), .val (.ref o97), .val (.long f3_5), .second, .unset, .unset] [(.ref o97)])
              obtain ⟨cq116, kq116, q116a, q116b, q116c⟩ := isOf hZ rfl P114_0
              obtain ⟨_, _, ⟨T116, L116, k116, n116⟩, -, X116, ⟨Lc116, hQ116, l116, y116, z116⟩, st116⟩ := X114.virtualBack hx (y := (⟨"com/example/tidewire/tidewire/internal/Backoff", "delayMs", "()J"⟩ : MethodName)) (z := (⟨"com/example/tidewire/tidewire/internal/Backoff", "delayMs", "()J"⟩ : MethodName)) hown (mvT hZ (hw _ (List.mem_of_getElem? (i := 9) rfl))) (mvT hZ (hw _ (List.mem_of_getElem? (i := 10) rfl))) (notFace_of_selects (args := #[]) (mvT hZ (hw _ (List.mem_of_getElem? (i := 12) rfl)))) (mvT hZ (hw _ (List.mem_of_getElem? (i := 12) rfl))) (mvT hZ (hw _ (List.mem_of_getElem? (i := 11) rfl))) (by decide) (backOf (W := 0) (rm := ({ frames := 1, cells := 0, slots := 0, locals := 15 } : Room)) (rm3_6 l Z a0 hw [] o97 T114.heap F115) hZ (hw _ (List.mem_of_getElem? (i := 13) rfl)) (hw _ (List.mem_of_getElem? (i := 2) rfl)) (by decide) (by decide)) q116a q116c (g := (mkF m 88 #[.val (.int p1), .val (.int (5 : Int32)), .val (.ref o97), .val (.long f3_5), .second, .unset, .unset] [(.ref o97)])) rfl (by rw [hml]; rfl) (Steps.refl _) (argsL := []) (rest := []) (lenOf pd___J rfl) rfl (by show 2 * 0 + _ ≤ _; exact Nat.le_of_eq rfl) (hb hby at_88) (fun _ _ => ⟨rfl, rfl, (by decide : 1 + 0 ≤ _), (by decide : 1 + 0 ≤ _)⟩)
              dsimp only [Pt.U, Pt.locs, Pt.cells, Pt.slots] at X116 l116 y116 z116 st116 hQ116
              subst l116 y116 z116
              obtain ⟨rfl, rfl, e116⟩ := hQ116
              refine own_st (fun t k => st116.trans k) ?_
              have N116 := Fr.app N114 (Fr.nil n0)
              show OG p e _ s below _ T116 (mkF m 91 #[.val (.int p1), .val (.int (5 : Int32)), .val (.ref o97), .val (.long f3_5), .second, .unset, .unset] [(.long f3_6)])
              refine own_st (fun t k => XS.lstore X116.here hx rfl (hb hby at_91) rfl (l' := #[.val (.int p1), .val (.int (5 : Int32)), .val (.ref o97), .val (.long f3_5), .second, .val (.long f3_6), .second]) rfl k) ?_
              show OG p e _ s below _ T116 (mkF m 93 #[.val (.int p1), .val (.int (5 : Int32)), .val (.ref o97), .val (.long f3_5), .second, .val (.long f3_6), .second] [])
              refine own_st (fun t k => XS.lloadN X116.here hx rfl (hb hby at_93) rfl k) ?_
              show OG p e _ s below _ T116 (mkF m 94 #[.val (.int p1), .val (.int (5 : Int32)), .val (.ref o97), .val (.long f3_5), .second, .val (.long f3_6), .second] [(.long f3_5)])
              refine own_st (fun t k => XS.iloadN X116.here hx rfl (hb hby at_94) rfl k) ?_
              show OG p e _ s below _ T116 (mkF m 95 #[.val (.int p1), .val (.int (5 : Int32)), .val (.ref o97), .val (.long f3_5), .second, .val (.long f3_6), .second] [(.int (5 : Int32)), (.long f3_5)])
              obtain ⟨_, _, ⟨T117, L117, k117, n117⟩, -, X117, ⟨Lc117, hQ117, l117, y117, z117⟩, st117⟩ := Jvm.LawKit.callS X116 hx (y := (⟨"com/example/tidewire/tidewire/internal/BackoffAttemptedPinLaw", "ref", "(I)J"⟩ : MethodName)) hown (mvT hZ (hw _ (List.mem_of_getElem? (i := 28) rfl))) (mvT hZ (hw _ (List.mem_of_getElem? (i := 29) rfl))) (mvT hZ (hw _ (List.mem_of_getElem? (i := 30) rfl))) (mvT hZ (hw _ (List.mem_of_getElem? (i := 31) rfl))) (by decide) (backOf (W := 2) (rm := ({ frames := 1, cells := 0, slots := 0, locals := 15 } : Room)) (rm6 l Z a0 hw [] (5 : Int32) T114.heap) hZ (hw _ (List.mem_of_getElem? (i := 31) rfl)) (hw _ (List.mem_of_getElem? (i := 30) rfl)) (by decide) (by decide)) (g := (mkF m 95 #[.val (.int p1), .val (.int (5 : Int32)), .val (.ref o97), .val (.long f3_5), .second, .val (.long f3_6), .second] [(.int (5 : Int32)), (.long f3_5)])) rfl (by rw [hml]; rfl) (argsL := [(.int (5 : Int32))]) (rest := [(.long f3_5)]) (lenOf pd__I_J rfl) rfl (by show 2 * 0 + _ ≤ _; exact Nat.le_of_eq rfl) (hb hby at_95) (fun _ _ => ⟨rfl, e116, (by decide : 1 + 0 ≤ _), (by decide : 1 + 0 ≤ _)⟩)
              dsimp only [Pt.U, Pt.locs, Pt.cells, Pt.slots] at X117 l117 y117 z117 st117 hQ117
              subst l117 y117 z117
              obtain ⟨rfl, rfl, e117⟩ := hQ117
              refine own_st st117 ?_
              have N117 := Fr.app N116 (Fr.nil n0)
              show OG p e _ s below _ T117 (mkF m 98 #[.val (.int p1), .val (.int (5 : Int32)), .val (.ref o97), .val (.long f3_5), .second, .val (.long f3_6), .second] [(.long (f6 (5 : Int32))), (.long f3_5)])
              refine own_st (fun t k => XS.lcmp X117.here hx rfl (hb hby at_98) rfl k) ?_
              show OG p e _ s below _ T117 (mkF m 99 #[.val (.int p1), .val (.int (5 : Int32)), .val (.ref o97), .val (.long f3_5), .second, .val (.long f3_6), .second] [(.int (lcmpW f3_5 (f6 (5 : Int32))))])
              by_cases c118 : f3_5 = (f6 (5 : Int32))
              · refine own_st (fun t k => XS.ifNo X117.here hx rfl (hb hby at_99) rfl (own_if0 (teq ((lw_eq _ _).mpr c118)).2) k) ?_
                show OG p e _ s below _ T117 (mkF m 102 #[.val (.int p1), .val (.int (5 : Int32)), .val (.ref o97), .val (.long f3_5), .second, .val (.long f3_6), .second] [])
                refine own_st (fun t k => XS.lload X117.here hx rfl (hb hby at_102) rfl k) ?_
                show OG p e _ s below _ T117 (mkF m 104 #[.val (.int p1), .val (.int (5 : Int32)), .val (.ref o97), .val (.long f3_5), .second, .val (.long f3_6), .second] [(.long f3_6)])
                refine own_st (fun t k => XS.iloadN X117.here hx rfl (hb hby at_104) rfl k) ?_
                show OG p e _ s below _ T117 (mkF m 105 #[.val (.int p1), .val (.int (5 : Int32)), .val (.ref o97), .val (.long f3_5), .second, .val (.long f3_6), .second] [(.int (5 : Int32)), (.long f3_6)])
                refine own_st (fun t k => XS.iconst X117.here hx rfl (hb hby at_105) k) ?_
                show OG p e _ s below _ T117 (mkF m 106 #[.val (.int p1), .val (.int (5 : Int32)), .val (.ref o97), .val (.long f3_5), .second, .val (.long f3_6), .second] [(.int (1 : Int32)), (.int (5 : Int32)), (.long f3_6)])
                refine own_st (fun t k => XS.iadd X117.here hx rfl (hb hby at_106) rfl k) ?_
                show OG p e _ s below _ T117 (mkF m 107 #[.val (.int p1), .val (.int (5 : Int32)), .val (.ref o97), .val (.long f3_5), .second, .val (.long f3_6), .second] [(.int (6 : Int32)), (.long f3_6)])
                obtain ⟨_, _, ⟨T119, L119, k119, n119⟩, -, X119, ⟨Lc119, hQ119, l119, y119, z119⟩, st119⟩ := Jvm.LawKit.callS X117 hx (y := (⟨"com/example/tidewire/tidewire/internal/BackoffAttemptedPinLaw", "ref", "(I)J"⟩ : MethodName)) hown (mvT hZ (hw _ (List.mem_of_getElem? (i := 28) rfl))) (mvT hZ (hw _ (List.mem_of_getElem? (i := 29) rfl))) (mvT hZ (hw _ (List.mem_of_getElem? (i := 30) rfl))) (mvT hZ (hw _ (List.mem_of_getElem? (i := 31) rfl))) (by decide) (backOf (W := 2) (rm := ({ frames := 1, cells := 0, slots := 0, locals := 15 } : Room)) (rm6 l Z a0 hw [] (6 : Int32) T114.heap) hZ (hw _ (List.mem_of_getElem? (i := 31) rfl)) (hw _ (List.mem_of_getElem? (i := 30) rfl)) (by decide) (by decide)) (g := (mkF m 107 #[.val (.int p1), .val (.int (5 : Int32)), .val (.ref o97), .val (.long f3_5), .second, .val (.long f3_6), .second] [(.int (6 : Int32)), (.long f3_6)])) rfl (by rw [hml]; rfl) (argsL := [(.int (6 : Int32))]) (rest := [(.long f3_6)]) (lenOf pd__I_J rfl) rfl (by show 2 * 0 + _ ≤ _; exact Nat.le_of_eq rfl) (hb hby at_107) (fun _ _ => ⟨rfl, e117, (by decide : 1 + 0 ≤ _), (by decide : 1 + 0 ≤ _)⟩)
                dsimp only [Pt.U, Pt.locs, Pt.cells, Pt.slots] at X119 l119 y119 z119 st119 hQ119
                subst l119 y119 z119
                obtain ⟨rfl, rfl, e119⟩ := hQ119
                refine own_st st119 ?_
                have N119 := Fr.app N117 (Fr.nil n0)
                show OG p e _ s below _ T119 (mkF m 110 #[.val (.int p1), .val (.int (5 : Int32)), .val (.ref o97), .val (.long f3_5), .second, .val (.long f3_6), .second] [(.long (f6 (6 : Int32))), (.long f3_6)])
                refine own_st (fun t k => XS.lcmp X119.here hx rfl (hb hby at_110) rfl k) ?_
                show OG p e _ s below _ T119 (mkF m 111 #[.val (.int p1), .val (.int (5 : Int32)), .val (.ref o97), .val (.long f3_5), .second, .val (.long f3_6), .second] [(.int (lcmpW f3_6 (f6 (6 : Int32))))])
                by_cases c120 : f3_6 = (f6 (6 : Int32))
                · refine own_st (fun t k => XS.ifNo X119.here hx rfl (hb hby at_111) rfl (own_if0 (teq ((lw_eq _ _).mpr c120)).2) k) ?_
                  show OG p e _ s below _ T119 (mkF m 114 #[.val (.int p1), .val (.int (5 : Int32)), .val (.ref o97), .val (.long f3_5), .second, .val (.long f3_6), .second] [])
                  refine own_st (fun t k => XS.iconst X119.here hx rfl (hb hby at_114) k) ?_
                  show OG p e _ s below _ T119 (mkF m 115 #[.val (.int p1), .val (.int (5 : Int32)), .val (.ref o97), .val (.long f3_5), .second, .val (.long f3_6), .second] [(.int (1 : Int32))])
                  refine own_st (fun t k => XS.goto X119.here hx rfl (pc0 := 115) (pc' := 119) rfl (hb hby at_115) (by decide) (by decide) k) ?_
                  show OG p e _ s below _ T119 (mkF m 119 #[.val (.int p1), .val (.int (5 : Int32)), .val (.ref o97), .val (.long f3_5), .second, .val (.long f3_6), .second] [(.int (1 : Int32))])
                  refine own_retZ X119 hx (t := .boolean) hret (by simp) hlk (hb hby at_119) (by decide) (by decide) (w := (1 : Int32)) rfl ?_
                  exact ⟨congrArg (fun z => some (Value.int z)) (show f0 p1 = (1 : Int32) from (by rw [f0, if_neg c1, if_neg c16, if_neg c33, if_neg c52, if_neg c73, if_pos c96, if_pos c118, if_pos c120])).symm, N119⟩
                · refine own_st (fun t k => XS.ifYes X119.here hx rfl (pc0 := 111) (pc' := 118) rfl (hb hby at_111) rfl (own_if0 (feq (fun q => c120 ((lw_eq _ _).mp q))).2) (by decide) (by decide) k) ?_
                  show OG p e _ s below _ T119 (mkF m 118 #[.val (.int p1), .val (.int (5 : Int32)), .val (.ref o97), .val (.long f3_5), .second, .val (.long f3_6), .second] [])
                  refine own_st (fun t k => XS.iconst X119.here hx rfl (hb hby at_118) k) ?_
                  show OG p e _ s below _ T119 (mkF m 119 #[.val (.int p1), .val (.int (5 : Int32)), .val (.ref o97), .val (.long f3_5), .second, .val (.long f3_6), .second] [(.int (0 : Int32))])
                  refine own_retZ X119 hx (t := .boolean) hret (by simp) hlk (hb hby at_119) (by decide) (by decide) (w := (0 : Int32)) rfl ?_
                  exact ⟨congrArg (fun z => some (Value.int z)) (show f0 p1 = (0 : Int32) from (by rw [f0, if_neg c1, if_neg c16, if_neg c33, if_neg c52, if_neg c73, if_pos c96, if_pos c118, if_neg c120])).symm, N119⟩
              · refine own_st (fun t k => XS.ifYes X117.here hx rfl (pc0 := 99) (pc' := 118) rfl (hb hby at_99) rfl (own_if0 (feq (fun q => c118 ((lw_eq _ _).mp q))).2) (by decide) (by decide) k) ?_
                show OG p e _ s below _ T117 (mkF m 118 #[.val (.int p1), .val (.int (5 : Int32)), .val (.ref o97), .val (.long f3_5), .second, .val (.long f3_6), .second] [])
                refine own_st (fun t k => XS.iconst X117.here hx rfl (hb hby at_118) k) ?_
                show OG p e _ s below _ T117 (mkF m 119 #[.val (.int p1), .val (.int (5 : Int32)), .val (.ref o97), .val (.long f3_5), .second, .val (.long f3_6), .second] [(.int (0 : Int32))])
                refine own_retZ X117 hx (t := .boolean) hret (by simp) hlk (hb hby at_119) (by decide) (by decide) (w := (0 : Int32)) rfl ?_
                exact ⟨congrArg (fun z => some (Value.int z)) (show f0 p1 = (0 : Int32) from (by rw [f0, if_neg c1, if_neg c16, if_neg c33, if_neg c52, if_neg c73, if_pos c96, if_neg c118])).symm, N117⟩
            · skip
              by_cases c121 : (g0_1 p1) = (6 : Int32)
              · rw [c121]
                show OG p e _ s below _ s₁ (mkF m 5 #[.val (.int p1), .val (.int (6 : Int32)), .unset, .unset, .unset, .unset, .unset] [])
                obtain ⟨T122, h122, X122, e122, E122, A122, D122, -, st122⟩ := newO X0 hx hZ hown (hw _ (List.mem_of_getElem? (i := 0) rfl)) (hw _ (List.mem_of_getElem? (i := 1) rfl)) (hw _ (List.mem_of_getElem? (i := 2) rfl)) e0 (g := (mkF m 5 #[.val (.int p1), .val (.int (6 : Int32)), .unset, .unset, .unset, .unset, .unset] [])) rfl (hb hby at_5) (by decide) (by decide)
                obtain ⟨o122, gb122⟩ : ∃ z, z = h0.size := ⟨_, rfl⟩
                rw [← gb122] at A122 D122 st122
                refine own_st st122 ?_
                have ge_o122 : n0 ≤ o122 := by rw [gb122]; exact Nat.le_trans Z0 (Keep.refl h0 []).1
                have sz_o122 : h0.size ≤ o122 := by rw [gb122]; exact (Keep.refl h0 []).1
                have K123 : Keep h0 h122 [] := (Keep.refl h0 []).ext E122
                have F124 : Fld Z h122 o122 "com/example/tidewire/tidewire/internal/Backoff" "attempts" "I" (.int (0 : Int32)) := D122 (Or.inl (hw _ (List.mem_of_getElem? (i := 15) rfl))) (ty := .int) (by decide)
                show OG p e _ s below _ T122 (mkF m 8 #[.val (.int p1), .val (.int (6 : Int32)), .unset, .unset, .unset, .unset, .unset] [(.ref o122)])
                refine own_st (fun t k => XS.dup X122.here hx rfl (hb hby at_8) rfl rfl k) ?_
                show OG p e _ s below _ T122 (mkF m 9 #[.val (.int p1), .val (.int (6 : Int32)), .unset, .unset, .unset, .unset, .unset] [(.ref o122), (.ref o122)])
                obtain ⟨_, _, ⟨T125, L125, k125, n125⟩, -, X125, ⟨Lc125, hQ125, l125, y125, z125⟩, st125⟩ := X122.specialBack hx (y := (⟨"com/example/tidewire/tidewire/internal/Backoff", "<init>", "()V"⟩ : MethodName)) rfl hown (mvT hZ (hw _ (List.mem_of_getElem? (i := 3) rfl))) (mvT hZ (hw _ (List.mem_of_getElem? (i := 4) rfl))) (mvT hZ (hw _ (List.mem_of_getElem? (i := 5) rfl))) (by decide) (backOf (W := 1) (rm := ({ frames := 1, cells := 0, slots := 0, locals := 12 } : Room)) (rm1 l Z a0 hw [] o122 h122 n0) hZ (hw _ (List.mem_of_getElem? (i := 5) rfl)) (hw _ (List.mem_of_getElem? (i := 2) rfl)) (by decide) (by decide)) (g := (mkF m 9 #[.val (.int p1), .val (.int (6 : Int32)), .unset, .unset, .unset, .unset, .unset] [(.ref o122), (.ref o122)])) rfl (by rw [hml]; rfl) (Steps.refl _) (a := o122) (argsL := []) (rest := [(.ref o122)]) (lenOf pd___V rfl) rfl (by show 2 * 0 + _ ≤ _; exact Nat.le_of_eq rfl) (hb hby at_9) (fun _ _ => ⟨rfl, e122, (by decide : 1 + 0 ≤ _), (by decide : 1 + 0 ≤ _)⟩)
                dsimp only [Pt.U, Pt.locs, Pt.cells, Pt.slots] at X125 l125 y125 z125 st125 hQ125
                subst l125 y125 z125
                obtain ⟨rfl, N125q, K125q⟩ := hQ125
                refine own_st (fun t k => st125.trans k) ?_
                have N125 := Fr.app N0 N125q
                have K125 : Keep h0 T125.heap [] := K123.trans K125q (own_all0 )
                have F126 : Exa Z T125.heap o122 "com/example/tidewire/tidewire/internal/Backoff" := (A122.keep K125q)
                have F127 : Fld Z T125.heap o122 "com/example/tidewire/tidewire/internal/Backoff" "attempts" "I" (.int (0 : Int32)) := (F124.keep K125q (own_nin0 ))
                show OG p e _ s below _ T125 (mkF m 12 #[.val (.int p1), .val (.int (6 : Int32)), .unset, .unset, .unset, .unset, .unset] [(.ref o122)])
                refine own_st (fun t k => XS.astoreN X125.here hx rfl (hb hby at_12) rfl rfl (l' := #[.val (.int p1), .val (.int (6 : Int32)), .val (.ref o122), .unset, .unset, .unset, .unset]) rfl k) ?_
                show OG p e _ s below _ T125 (mkF m 13 #[.val (.int p1), .val (.int (6 : Int32)), .val (.ref o122), .unset, .unset, .unset, .unset] [])
                refine own_st (fun t k => XS.iloadN X125.here hx rfl (hb hby at_13) rfl k) ?_
                show OG p e _ s below _ T125 (mkF m 14 #[.val (.int p1), .val (.int (6 : Int32)), .val (.ref o122), .unset, .unset, .unset, .unset] [(.int (6 : Int32))])
                refine own_st (fun t k => XS.iconst X125.here hx rfl (hb hby at_14) k) ?_
                show OG p e _ s below _ T125 (mkF m 15 #[.val (.int p1), .val (.int (6 : Int32)), .val (.ref o122), .unset, .unset, .unset, .unset] [(.int (1 : Int32)), (.int (6 : Int32))])
                refine own_st (fun t k => XS.icmpNo X125.here hx rfl (hb hby at_15) rfl (by decide) k) ?_
                show OG p e _ s below _ T125 (mkF m 18 #[.val (.int p1), .val (.int (6 : Int32)), .val (.ref o122), .unset, .unset, .unset, .unset] [])
                refine own_st (fun t k => XS.aloadN X125.here hx rfl (hb hby at_18) rfl rfl k) ?_
                show OG p e _ s below _ T125 (mkF m 19 #[.val (.int p1), .val (.int (6 : Int32)), .val (.ref o122), .unset, .unset, .unset, .unset] [(.ref o122)])
                obtain ⟨cq128, kq128, q128a, q128b, q128c⟩ := isOf hZ rfl F126
                obtain ⟨_, _, ⟨T128, L128, k128, n128⟩, -, X128, ⟨Lc128, hQ128, l128, y128, z128⟩, st128⟩ := X125.virtualBack hx (y := (⟨"com/example/tidewire/tidewire/internal/Backoff", "attempted", "()V"⟩ : MethodName)) (z := (⟨"com/example/tidewire/tidewire/internal/Backoff", "attempted", "()V"⟩ : MethodName)) hown (mvT hZ (hw _ (List.mem_of_getElem? (i := 16) rfl))) (mvT hZ (hw _ (List.mem_of_getElem? (i := 17) rfl))) (notFace_of_selects (args := #[]) (mvT hZ (hw _ (List.mem_of_getElem? (i := 19) rfl)))) (mvT hZ (hw _ (List.mem_of_getElem? (i := 19) rfl))) (mvT hZ (hw _ (List.mem_of_getElem? (i := 18) rfl))) (by decide) (backOf (W := 0) (rm := ({ frames := 0, cells := 0, slots := 0, locals := 0 } : Room)) (rm4 l Z a0 hw [] o122 (0 : Int32) T125.heap n0 F126 F127 ge_o122 (by decide)) hZ (hw _ (List.mem_of_getElem? (i := 20) rfl)) (hw _ (List.mem_of_getElem? (i := 2) rfl)) (by decide) (by decide)) q128a q128c (g := (mkF m 19 #[.val (.int p1), .val (.int (6 : Int32)), .val (.ref o122), .unset, .unset, .unset, .unset] [(.ref o122)])) rfl (by rw [hml]; rfl) (Steps.refl _) (argsL := []) (rest := []) (lenOf pd___V rfl) rfl (by show 2 * 0 + _ ≤ _; exact Nat.le_of_eq rfl) (hb hby at_19) (fun _ _ => ⟨rfl, rfl, (by decide : 1 + 0 ≤ _), (by decide : 1 + 0 ≤ _)⟩)
                dsimp only [Pt.U, Pt.locs, Pt.cells, Pt.slots] at X128 l128 y128 z128 st128 hQ128
                subst l128 y128 z128
                obtain ⟨rfl, N128q, K128q, P128_0, P128_1⟩ := hQ128
                refine own_st (fun t k => st128.trans k) ?_
                have N128 := Fr.app N125 N128q
                have K128 : Keep h0 T128.heap [] := K125.trans K128q (own_all1 (Or.inr sz_o122))
                have F129 : Fld Z T128.heap o122 "com/example/tidewire/tidewire/internal/Backoff" "attempts" "I" (.int (1 : Int32)) := P128_1
                show OG p e _ s below _ T128 (mkF m 22 #[.val (.int p1), .val (.int (6 : Int32)), .val (.ref o122), .unset, .unset, .unset, .unset] [])
                refine own_st (fun t k => XS.iloadN X128.here hx rfl (hb hby at_22) rfl k) ?_
                show OG p e _ s below _ T128 (mkF m 23 #[.val (.int p1), .val (.int (6 : Int32)), .val (.ref o122), .unset, .unset, .unset, .unset] [(.int (6 : Int32))])
                refine own_st (fun t k => XS.iconst X128.here hx rfl (hb hby at_23) k) ?_
                show OG p e _ s below _ T128 (mkF m 24 #[.val (.int p1), .val (.int (6 : Int32)), .val (.ref o122), .unset, .unset, .unset, .unset] [(.int (2 : Int32)), (.int (6 : Int32))])
                refine own_st (fun t k => XS.icmpNo X128.here hx rfl (hb hby at_24) rfl (by decide) k) ?_
                show OG p e _ s below _ T128 (mkF m 27 #[.val (.int p1), .val (.int (6 : Int32)), .val (.ref o122), .unset, .unset, .unset, .unset] [])
                refine own_st (fun t k => XS.aloadN X128.here hx rfl (hb hby at_27) rfl rfl k) ?_
                show OG p e _ s below _ T128 (mkF m 28 #[.val (.int p1), .val (.int (6 : Int32)), .val (.ref o122), .unset, .unset, .unset, .unset] [(.ref o122)])
                obtain ⟨cq130, kq130, q130a, q130b, q130c⟩ := isOf hZ rfl P128_0
                obtain ⟨_, _, ⟨T130, L130, k130, n130⟩, -, X130, ⟨Lc130, hQ130, l130, y130, z130⟩, st130⟩ := X128.virtualBack hx (y := (⟨"com/example/tidewire/tidewire/internal/Backoff", "attempted", "()V"⟩ : MethodName)) (z := (⟨"com/example/tidewire/tidewire/internal/Backoff", "attempted", "()V"⟩ : MethodName)) hown (mvT hZ (hw _ (List.mem_of_getElem? (i := 16) rfl))) (mvT hZ (hw _ (List.mem_of_getElem? (i := 17) rfl))) (notFace_of_selects (args := #[]) (mvT hZ (hw _ (List.mem_of_getElem? (i := 19) rfl)))) (mvT hZ (hw _ (List.mem_of_getElem? (i := 19) rfl))) (mvT hZ (hw _ (List.mem_of_getElem? (i := 18) rfl))) (by decide) (backOf (W := 0) (rm := ({ frames := 0, cells := 0, slots := 0, locals := 0 } : Room)) (rm4 l Z a0 hw [] o122 (1 : Int32) T128.heap n0 P128_0 F129 ge_o122 (by decide)) hZ (hw _ (List.mem_of_getElem? (i := 20) rfl)) (hw _ (List.mem_of_getElem? (i := 2) rfl)) (by decide) (by decide)) q130a q130c (g := (mkF m 28 #[.val (.int p1), .val (.int (6 : Int32)), .val (.ref o122), .unset, .unset, .unset, .unset] [(.ref o122)])) rfl (by rw [hml]; rfl) (Steps.refl _) (argsL := []) (rest := []) (lenOf pd___V rfl) rfl (by show 2 * 0 + _ ≤ _; exact Nat.le_of_eq rfl) (hb hby at_28) (fun _ _ => ⟨rfl, rfl, (by decide : 1 + 0 ≤ _), (by decide : 1 + 0 ≤ _)⟩)
                dsimp only [Pt.U, Pt.locs, Pt.cells, Pt.slots] at X130 l130 y130 z130 st130 hQ130
                subst l130 y130 z130
                obtain ⟨rfl, N130q, K130q, P130_0, P130_1⟩ := hQ130
                refine own_st (fun t k => st130.trans k) ?_
                have N130 := Fr.app N128 N130q
                have K130 : Keep h0 T130.heap [] := K128.trans K130q (own_all1 (Or.inr sz_o122))
                have F131 : Fld Z T130.heap o122 "com/example/tidewire/tidewire/internal/Backoff" "attempts" "I" (.int (2 : Int32)) := P130_1
                show OG p e _ s below _ T130 (mkF m 31 #[.val (.int p1), .val (.int (6 : Int32)), .val (.ref o122), .unset, .unset, .unset, .unset] [])
                refine own_st (fun t k => XS.iloadN X130.here hx rfl (hb hby at_31) rfl k) ?_
                show OG p e _ s below _ T130 (mkF m 32 #[.val (.int p1), .val (.int (6 : Int32)), .val (.ref o122), .unset, .unset, .unset, .unset] [(.int (6 : Int32))])
                refine own_st (fun t k => XS.iconst X130.here hx rfl (hb hby at_32) k) ?_
                show OG p e _ s below _ T130 (mkF m 33 #[.val (.int p1), .val (.int (6 : Int32)), .val (.ref o122), .unset, .unset, .unset, .unset] [(.int (3 : Int32)), (.int (6 : Int32))])
                refine own_st (fun t k => XS.icmpNo X130.here hx rfl (hb hby at_33) rfl (by decide) k) ?_
                show OG p e _ s below _ T130 (mkF m 36 #[.val (.int p1), .val (.int (6 : Int32)), .val (.ref o122), .unset, .unset, .unset, .unset] [])
                refine own_st (fun t k => XS.aloadN X130.here hx rfl (hb hby at_36) rfl rfl k) ?_
                show OG p e _ s below _ T130 (mkF m 37 #[.val (.int p1), .val (.int (6 : Int32)), .val (.ref o122), .unset, .unset, .unset, .unset] [(.ref o122)])
                obtain ⟨cq132, kq132, q132a, q132b, q132c⟩ := isOf hZ rfl P130_0
                obtain ⟨_, _, ⟨T132, L132, k132, n132⟩, -, X132, ⟨Lc132, hQ132, l132, y132, z132⟩, st132⟩ := X130.virtualBack hx (y := (⟨"com/example/tidewire/tidewire/internal/Backoff", "attempted", "()V"⟩ : MethodName)) (z := (⟨"com/example/tidewire/tidewire/internal/Backoff", "attempted", "()V"⟩ : MethodName)) hown (mvT hZ (hw _ (List.mem_of_getElem? (i := 16) rfl))) (mvT hZ (hw _ (List.mem_of_getElem? (i := 17) rfl))) (notFace_of_selects (args := #[]) (mvT hZ (hw _ (List.mem_of_getElem? (i := 19) rfl)))) (mvT hZ (hw _ (List.mem_of_getElem? (i := 19) rfl))) (mvT hZ (hw _ (List.mem_of_getElem? (i := 18) rfl))) (by decide) (backOf (W := 0) (rm := ({ frames := 0, cells := 0, slots := 0, locals := 0 } : Room)) (rm4 l Z a0 hw [] o122 (2 : Int32) T130.heap n0 P130_0 F131 ge_o122 (by decide)) hZ (hw _ (List.mem_of_getElem? (i := 20) rfl)) (hw _ (List.mem_of_getElem? (i := 2) rfl)) (by decide) (by decide)) q132a q132c (g := (mkF m 37 #[.val (.int p1), .val (.int (6 : Int32)), .val (.ref o122), .unset, .unset, .unset, .unset] [(.ref o122)])) rfl (by rw [hml]; rfl) (Steps.refl _) (argsL := []) (rest := []) (lenOf pd___V rfl) rfl (by show 2 * 0 + _ ≤ _; exact Nat.le_of_eq rfl) (hb hby at_37) (fun _ _ => ⟨rfl, rfl, (by decide : 1 + 0 ≤ _), (by decide : 1 + 0 ≤ _)⟩)
                dsimp only [Pt.U, Pt.locs, Pt.cells, Pt.slots] at X132 l132 y132 z132 st132 hQ132
                subst l132 y132 z132
                obtain ⟨rfl, N132q, K132q, P132_0, P132_1⟩ := hQ132
                refine own_st (fun t k => st132.trans k) ?_
                have N132 := Fr.app N130 N132q
                have K132 : Keep h0 T132.heap [] := K130.trans K132q (own_all1 (Or.inr sz_o122))
                have F133 : Fld Z T132.heap o122 "com/example/tidewire/tidewire/internal/Backoff" "attempts" "I" (.int (3 : Int32)) := P132_1
                show OG p e _ s below _ T132 (mkF m 40 #[.val (.int p1), .val (.int (6 : Int32)), .val (.ref o122), .unset, .unset, .unset, .unset] [])
                refine own_st (fun t k => XS.iloadN X132.here hx rfl (hb hby at_40) rfl k) ?_
                show OG p e _ s below _ T132 (mkF m 41 #[.val (.int p1), .val (.int (6 : Int32)), .val (.ref o122), .unset, .unset, .unset, .unset] [(.int (6 : Int32))])
                refine own_st (fun t k => XS.iconst X132.here hx rfl (hb hby at_41) k) ?_
                show OG p e _ s below _ T132 (mkF m 42 #[.val (.int p1), .val (.int (6 : Int32)), .val (.ref o122), .unset, .unset, .unset, .unset] [(.int (4 : Int32)), (.int (6 : Int32))])
                refine own_st (fun t k => XS.icmpNo X132.here hx rfl (hb hby at_42) rfl (by decide) k) ?_
                show OG p e _ s below _ T132 (mkF m 45 #[.val (.int p1), .val (.int (6 : Int32)), .val (.ref o122), .unset, .unset, .unset, .unset] [])
                refine own_st (fun t k => XS.aloadN X132.here hx rfl (hb hby at_45) rfl rfl k) ?_
                show OG p e _ s below _ T132 (mkF m 46 #[.val (.int p1), .val (.int (6 : Int32)), .val (.ref o122), .unset, .unset, .unset, .unset] [(.ref o122)])
                obtain ⟨cq134, kq134, q134a, q134b, q134c⟩ := isOf hZ rfl P132_0
                obtain ⟨_, _, ⟨T134, L134, k134, n134⟩, -, X134, ⟨Lc134, hQ134, l134, y134, z134⟩, st134⟩ := X132.virtualBack hx (y := (⟨"com/example/tidewire/tidewire/internal/Backoff", "attempted", "()V"⟩ : MethodName)) (z := (⟨"com/example/tidewire/tidewire/internal/Backoff", "attempted", "()V"⟩ : MethodName)) hown (mvT hZ (hw _ (List.mem_of_getElem? (i := 16) rfl))) (mvT hZ (hw _ (List.mem_of_getElem? (i := 17) rfl))) (notFace_of_selects (args := #[]) (mvT hZ (hw _ (List.mem_of_getElem? (i := 19) rfl)))) (mvT hZ (hw _ (List.mem_of_getElem? (i := 19) rfl))) (mvT hZ (hw _ (List.mem_of_getElem? (i := 18) rfl))) (by decide) (backOf (W := 0) (rm := ({ frames := 0, cells := 0, slots := 0, locals := 0 } : Room)) (rm4 l Z a0 hw [] o122 (3 : Int32) T132.heap n0 P132_0 F133 ge_o122 (by decide)) hZ (hw _ (List.mem_of_getElem? (i := 20) rfl)) (hw _ (List.mem_of_getElem? (i := 2) rfl)) (by decide) (by decide)) q134a q134c (g := (mkF m 46 #[.val (.int p1), .val (.int (6 : Int32)), .val (.ref o122), .unset, .unset, .unset, .unset] [(.ref o122)])) rfl (by rw [hml]; rfl) (Steps.refl _) (argsL := []) (rest := []) (lenOf pd___V rfl) rfl (by show 2 * 0 + _ ≤ _; exact Nat.le_of_eq rfl) (hb hby at_46) (fun _ _ => ⟨rfl, rfl, (by decide : 1 + 0 ≤ _), (by decide : 1 + 0 ≤ _)⟩)
                dsimp only [Pt.U, Pt.locs, Pt.cells, Pt.slots] at X134 l134 y134 z134 st134 hQ134
                subst l134 y134 z134
                obtain ⟨rfl, N134q, K134q, P134_0, P134_1⟩ := hQ134
                refine own_st (fun t k => st134.trans k) ?_
                have N134 := Fr.app N132 N134q
                have K134 : Keep h0 T134.heap [] := K132.trans K134q (own_all1 (Or.inr sz_o122))
                have F135 : Fld Z T134.heap o122 "com/example/tidewire/tidewire/internal/Backoff" "attempts" "I" (.int (4 : Int32)) := P134_1
                show OG p e _ s below _ T134 (mkF m 49 #[.val (.int p1), .val (.int (6 : Int32)), .val (.ref o122), .unset, .unset, .unset, .unset] [])
                refine own_st (fun t k => XS.iloadN X134.here hx rfl (hb hby at_49) rfl k) ?_
                show OG p e _ s below _ T134 (mkF m 50 #[.val (.int p1), .val (.int (6 : Int32)), .val (.ref o122), .unset, .unset, .unset, .unset] [(.int (6 : Int32))])
                refine own_st (fun t k => XS.iconst X134.here hx rfl (hb hby at_50) k) ?_
                show OG p e _ s below _ T134 (mkF m 51 #[.val (.int p1), .val (.int (6 : Int32)), .val (.ref o122), .unset, .unset, .unset, .unset] [(.int (5 : Int32)), (.int (6 : Int32))])
                refine own_st (fun t k => XS.icmpNo X134.here hx rfl (hb hby at_51) rfl (by decide) k) ?_
                show OG p e _ s below _ T134 (mkF m 54 #[.val (.int p1), .val (.int (6 : Int32)), .val (.ref o122), .unset, .unset, .unset, .unset] [])
                refine own_st (fun t k => XS.aloadN X134.here hx rfl (hb hby at_54) rfl rfl k) ?_
                show OG p e _ s below _ T134 (mkF m 55 #[.val (.int p1), .val (.int (6 : Int32)), .val (.ref o122), .unset, .unset, .unset, .unset] [(.ref o122)])
                obtain ⟨cq136, kq136, q136a, q136b, q136c⟩ := isOf hZ rfl P134_0
                obtain ⟨_, _, ⟨T136, L136, k136, n136⟩, -, X136, ⟨Lc136, hQ136, l136, y136, z136⟩, st136⟩ := X134.virtualBack hx (y := (⟨"com/example/tidewire/tidewire/internal/Backoff", "attempted", "()V"⟩ : MethodName)) (z := (⟨"com/example/tidewire/tidewire/internal/Backoff", "attempted", "()V"⟩ : MethodName)) hown (mvT hZ (hw _ (List.mem_of_getElem? (i := 16) rfl))) (mvT hZ (hw _ (List.mem_of_getElem? (i := 17) rfl))) (notFace_of_selects (args := #[]) (mvT hZ (hw _ (List.mem_of_getElem? (i := 19) rfl)))) (mvT hZ (hw _ (List.mem_of_getElem? (i := 19) rfl))) (mvT hZ (hw _ (List.mem_of_getElem? (i := 18) rfl))) (by decide) (backOf (W := 0) (rm := ({ frames := 0, cells := 0, slots := 0, locals := 0 } : Room)) (rm4 l Z a0 hw [] o122 (4 : Int32) T134.heap n0 P134_0 F135 ge_o122 (by decide)) hZ (hw _ (List.mem_of_getElem? (i := 20) rfl)) (hw _ (List.mem_of_getElem? (i := 2) rfl)) (by decide) (by decide)) q136a q136c (g := (mkF m 55 #[.val (.int p1), .val (.int (6 : Int32)), .val (.ref o122), .unset, .unset, .unset, .unset] [(.ref o122)])) rfl (by rw [hml]; rfl) (Steps.refl _) (argsL := []) (rest := []) (lenOf pd___V rfl) rfl (by show 2 * 0 + _ ≤ _; exact Nat.le_of_eq rfl) (hb hby at_55) (fun _ _ => ⟨rfl, rfl, (by decide : 1 + 0 ≤ _), (by decide : 1 + 0 ≤ _)⟩)
                dsimp only [Pt.U, Pt.locs, Pt.cells, Pt.slots] at X136 l136 y136 z136 st136 hQ136
                subst l136 y136 z136
                obtain ⟨rfl, N136q, K136q, P136_0, P136_1⟩ := hQ136
                refine own_st (fun t k => st136.trans k) ?_
                have N136 := Fr.app N134 N136q
                have K136 : Keep h0 T136.heap [] := K134.trans K136q (own_all1 (Or.inr sz_o122))
                have F137 : Fld Z T136.heap o122 "com/example/tidewire/tidewire/internal/Backoff" "attempts" "I" (.int (5 : Int32)) := P136_1
                show OG p e _ s below _ T136 (mkF m 58 #[.val (.int p1), .val (.int (6 : Int32)), .val (.ref o122), .unset, .unset, .unset, .unset] [])
                refine own_st (fun t k => XS.iloadN X136.here hx rfl (hb hby at_58) rfl k) ?_
                show OG p e _ s below _ T136 (mkF m 59 #[.val (.int p1), .val (.int (6 : Int32)), .val (.ref o122), .unset, .unset, .unset, .unset] [(.int (6 : Int32))])
                refine own_st (fun t k => XS.bipush X136.here hx rfl (hb hby at_59) k) ?_
                show OG p e _ s below _ T136 (mkF m 61 #[.val (.int p1), .val (.int (6 : Int32)), .val (.ref o122), .unset, .unset, .unset, .unset] [(.int (6 : Int32)), (.int (6 : Int32))])
                refine own_st (fun t k => XS.icmpNo X136.here hx rfl (hb hby at_61) rfl (by decide) k) ?_
                show OG p e _ s below _ T136 (mkF m 64 #[.val (.int p1), .val (.int (6 : Int32)), .val (.ref o122), .unset, .unset, .unset, .unset] [])
                refine own_st (fun t k => XS.aloadN X136.here hx rfl (hb hby at_64) rfl rfl k) ?_
                show OG p e _ s below _ T136 (mkF m 65 #[.val (.int p1), .val (.int (6 : Int32)), .val (.ref o122), .unset, .unset, .unset, .unset] [(.ref o122)])
                obtain ⟨cq138, kq138, q138a, q138b, q138c⟩ := isOf hZ rfl P136_0
                obtain ⟨_, _, ⟨T138, L138, k138, n138⟩, -, X138, ⟨Lc138, hQ138, l138, y138, z138⟩, st138⟩ := X136.virtualBack hx (y := (⟨"com/example/tidewire/tidewire/internal/Backoff", "attempted", "()V"⟩ : MethodName)) (z := (⟨"com/example/tidewire/tidewire/internal/Backoff", "attempted", "()V"⟩ : MethodName)) hown (mvT hZ (hw _ (List.mem_of_getElem? (i := 16) rfl))) (mvT hZ (hw _ (List.mem_of_getElem? (i := 17) rfl))) (notFace_of_selects (args := #[]) (mvT hZ (hw _ (List.mem_of_getElem? (i := 19) rfl)))) (mvT hZ (hw _ (List.mem_of_getElem? (i := 19) rfl))) (mvT hZ (hw _ (List.mem_of_getElem? (i := 18) rfl))) (by decide) (backOf (W := 0) (rm := ({ frames := 0, cells := 0, slots := 0, locals := 0 } : Room)) (rm4 l Z a0 hw [] o122 (5 : Int32) T136.heap n0 P136_0 F137 ge_o122 (by decide)) hZ (hw _ (List.mem_of_getElem? (i := 20) rfl)) (hw _ (List.mem_of_getElem? (i := 2) rfl)) (by decide) (by decide)) q138a q138c (g := (mkF m 65 #[.val (.int p1), .val (.int (6 : Int32)), .val (.ref o122), .unset, .unset, .unset, .unset] [(.ref o122)])) rfl (by rw [hml]; rfl) (Steps.refl _) (argsL := []) (rest := []) (lenOf pd___V rfl) rfl (by show 2 * 0 + _ ≤ _; exact Nat.le_of_eq rfl) (hb hby at_65) (fun _ _ => ⟨rfl, rfl, (by decide : 1 + 0 ≤ _), (by decide : 1 + 0 ≤ _)⟩)
                dsimp only [Pt.U, Pt.locs, Pt.cells, Pt.slots] at X138 l138 y138 z138 st138 hQ138
                subst l138 y138 z138
                obtain ⟨rfl, N138q, K138q, P138_0, P138_1⟩ := hQ138
                refine own_st (fun t k => st138.trans k) ?_
                have N138 := Fr.app N136 N138q
                have K138 : Keep h0 T138.heap [] := K136.trans K138q (own_all1 (Or.inr sz_o122))
                have F139 : Fld Z T138.heap o122 "com/example/tidewire/tidewire/internal/Backoff" "attempts" "I" (.int (6 : Int32)) := P138_1
                show OG p e _ s below _ T138 (mkF m 68 #[.val (.int p1), .val (.int (6 : Int32)), .val (.ref o122), .unset, .unset, .unset, .unset] [])
                refine own_st (fun t k => XS.iloadN X138.here hx rfl (hb hby at_68) rfl k) ?_
                show OG p e _ s below _ T138 (mkF m 69 #[.val (.int p1), .val (.int (6 : Int32)), .val (.ref o122), .unset, .unset, .unset, .unset] [(.int (6 : Int32))])
                refine own_st (fun t k => XS.bipush X138.here hx rfl (hb hby at_69) k) ?_
                show OG p e _ s below _ T138 (mkF m 71 #[.val (.int p1), .val (.int (6 : Int32)), .val (.ref o122), .unset, .unset, .unset, .unset] [(.int (7 : Int32)), (.int (6 : Int32))])
                refine own_st (fun t k => XS.icmpYes X138.here hx rfl (pc0 := 71) (pc' := 78) rfl (hb hby at_71) rfl (by decide) (by decide) (by decide) k) ?_
                show OG p e _ s below _ T138 (mkF m 78 #[.val (.int p1), .val (.int (6 : Int32)), .val (.ref o122), .unset, .unset, .unset, .unset] [])
                refine own_st (fun t k => XS.aloadN X138.here hx rfl (hb hby at_78) rfl rfl k) ?_
                show OG p e _ s below _ T138 (mkF m 79 #[.val (.int p1), .val (.int (6 : Int32)), .val (.ref o122), .unset, .unset, .unset, .unset] [(.ref o122)])
                obtain ⟨cq140, kq140, q140a, q140b, q140c⟩ := isOf hZ rfl P138_0
                obtain ⟨_, _, ⟨T140, L140, k140, n140⟩, -, X140, ⟨Lc140, hQ140, l140, y140, z140⟩, st140⟩ := X138.virtualBack hx (y := (⟨"com/example/tidewire/tidewire/internal/Backoff", "delayMs", "()J"⟩ : MethodName)) (z := (⟨"com/example/tidewire/tidewire/internal/Backoff", "delayMs", "()J"⟩ : MethodName)) hown (mvT hZ (hw _ (List.mem_of_getElem? (i := 9) rfl))) (mvT hZ (hw _ (List.mem_of_getElem? (i := 10) rfl))) (notFace_of_selects (args := #[]) (mvT hZ (hw _ (List.mem_of_getElem? (i := 12) rfl)))) (mvT hZ (hw _ (List.mem_of_getElem? (i := 12) rfl))) (mvT hZ (hw _ (List.mem_of_getElem? (i := 11) rfl))) (by decide) (backOf (W := 0) (rm := ({ frames := 1, cells := 0, slots := 0, locals := 15 } : Room)) (rm3_6 l Z a0 hw [] o122 T138.heap F139) hZ (hw _ (List.mem_of_getElem? (i := 13) rfl)) (hw _ (List.mem_of_getElem? (i := 2) rfl)) (by decide) (by decide)) q140a q140c (g := (mkF m 79 #[.val (.int p1), .val (.int (6 : Int32)), .val (.ref o122), .unset, .unset, .unset, .unset] [(.ref o122)])) rfl (by rw [hml]; rfl) (Steps.refl _) (argsL := []) (rest := []) (lenOf pd___J rfl) rfl (by show 2 * 0 + _ ≤ _; exact Nat.le_of_eq rfl) (hb hby at_79) (fun _ _ => ⟨rfl, rfl, (by decide : 1 + 0 ≤ _), (by decide : 1 + 0 ≤ _)⟩)
                dsimp only [Pt.U, Pt.locs, Pt.cells, Pt.slots] at X140 l140 y140 z140 st140 hQ140
                subst l140 y140 z140
                obtain ⟨rfl, rfl, e140⟩ := hQ140
                refine own_st (fun t k => st140.trans k) ?_
                have N140 := Fr.app N138 (Fr.nil n0)
                show OG p e _ s below _ T140 (mkF m 82 #[.val (.int p1), .val (.int (6 : Int32)), .val (.ref o122), .unset, .unset, .unset, .unset] [(.long f3_6)])
                refine own_st (fun t k => XS.lstoreN X140.here hx rfl (hb hby at_82) rfl (l' := #[.val (.int p1), .val (.int (6 : Int32)), .val (.ref o122), .val (.long f3_6), .second, .unset, .unset]) rfl k) ?_
                show OG p e _ s below _ T140 (mkF m 83 #[.val (.int p1), .val (.int (6 : Int32)), .val (.ref o122), .val (.long f3_6), .second, .unset, .unset] [])
                refine own_st (fun t k => XS.aloadN X140.here hx rfl (hb hby at_83) rfl rfl k) ?_
                show OG p e _ s below _ T140 (mkF m 84 #[.val (.int p1), .val (.int (6 : Int32)), .val (.ref o122), .val (.long f3_6), .second, .unset, .unset] [(.ref o122)])
                obtain ⟨cq141, kq141, q141a, q141b, q141c⟩ := isOf hZ e140 P138_0
                obtain ⟨_, _, ⟨T141, L141, k141, n141⟩, -, X141, ⟨Lc141, hQ141, l141, y141, z141⟩, st141⟩ := X140.virtualBack hx (y := (⟨"com/example/tidewire/tidewire/internal/Backoff", "attempted", "()V"⟩ : MethodName)) (z := (⟨"com/example/tidewire/tidewire/internal/Backoff", "attempted", "()V"⟩ : MethodName)) hown (mvT hZ (hw _ (List.mem_of_getElem? (i := 16) rfl))) (mvT hZ (hw _ (List.mem_of_getElem? (i := 17) rfl))) (notFace_of_selects (args := #[]) (mvT hZ (hw _ (List.mem_of_getElem? (i := 19) rfl)))) (mvT hZ (hw _ (List.mem_of_getElem? (i := 19) rfl))) (mvT hZ (hw _ (List.mem_of_getElem? (i := 18) rfl))) (by decide) (backOf (W := 0) (rm := ({ frames := 0, cells := 0, slots := 0, locals := 0 } : Room)) (rm4 l Z a0 hw [] o122 (6 : Int32) T138.heap n0 P138_0 F139 ge_o122 (by decide)) hZ (hw _ (List.mem_of_getElem? (i := 20) rfl)) (hw _ (List.mem_of_getElem? (i := 2) rfl)) (by decide) (by decide)) q141a q141c (g := (mkF m 84 #[.val (.int p1), .val (.int (6 : Int32)), .val (.ref o122), .val (.long f3_6), .second, .unset, .unset] [(.ref o122)])) rfl (by rw [hml]; rfl) (Steps.refl _) (argsL := []) (rest := []) (lenOf pd___V rfl) rfl (by show 2 * 0 + _ ≤ _; exact Nat.le_of_eq rfl) (hb hby at_84) (fun _ _ => ⟨rfl, e140, (by decide : 1 + 0 ≤ _), (by decide : 1 + 0 ≤ _)⟩)
                dsimp only [Pt.U, Pt.locs, Pt.cells, Pt.slots] at X141 l141 y141 z141 st141 hQ141
                subst l141 y141 z141
                obtain ⟨rfl, N141q, K141q, P141_0, P141_1⟩ := hQ141
                refine own_st (fun t k => st141.trans k) ?_
                have N141 := Fr.app N140 N141q
                have K141 : Keep h0 T141.heap [] := K138.trans K141q (own_all1 (Or.inr sz_o122))
                have F142 : Fld Z T141.heap o122 "com/example/tidewire/tidewire/internal/Backoff" "attempts" "I" (.int (7 : Int32)) := P141_1
                show OG p e _ s below _ T141 (mkF m 87 #[.val (.int p1), .val (.int (6 : Int32)), .val (.ref o122), .val (.long f3_6), .second, .unset, .unset] [])
                refine own_st (fun t k => XS.aloadN X141.here hx rfl (hb hby at_87) rfl rfl k) ?_
                show OG p e _ s below _ T141 (mkF m 88 #[.val (.int p1), .val (.int (6 : Int32)), .val (.ref o122), .val (.long f3_6), .second, .unset, .unset] [(.ref o122)])
                obtain ⟨cq143, kq143, q143a, q143b, q143c⟩ := isOf hZ rfl P141_0
                obtain ⟨_, _, ⟨T143, L143, k143, n143⟩, -, X143, ⟨Lc143, hQ143, l143, y143, z143⟩, st143⟩ := X141.virtualBack hx (y := (⟨"com/example/tidewire/tidewire/internal/Backoff", "delayMs", "()J"⟩ : MethodName)) (z := (⟨"com/example/tidewire/tidewire/internal/Backoff", "delayMs", "()J"⟩ : MethodName)) hown (mvT hZ (hw _ (List.mem_of_getElem? (i := 9) rfl))) (mvT hZ (hw _ (List.mem_of_getElem? (i := 10) rfl))) (notFace_of_selects (args := #[]) (mvT hZ (hw _ (List.mem_of_getElem? (i := 12) rfl)))) (mvT hZ (hw _ (List.mem_of_getElem? (i := 12) rfl))) (mvT hZ (hw _ (List.mem_of_getElem? (i := 11) rfl))) (by decide) (backOf (W := 0) (rm := ({ frames := 1, cells := 0, slots := 0, locals := 15 } : Room)) (rm3_7 l Z a0 hw [] o122 T141.heap F142) hZ (hw _ (List.mem_of_getElem? (i := 13) rfl)) (hw _ (List.mem_of_getElem? (i := 2) rfl)) (by decide) (by decide)) q143a q143c (g := (mkF m 88 #[.val (.int p1), .val (.int (6 : Int32)), .val (.ref o122), .val (.long f3_6), .second, .unset, .unset] [(.ref o122)])) rfl (by rw [hml]; rfl) (Steps.refl _) (argsL := []) (rest := []) (lenOf pd___J rfl) rfl (by show 2 * 0 + _ ≤ _; exact Nat.le_of_eq rfl) (hb hby at_88) (fun _ _ => ⟨rfl, rfl, (by decide : 1 + 0 ≤ _), (by decide : 1 + 0 ≤ _)⟩)
                dsimp only [Pt.U, Pt.locs, Pt.cells, Pt.slots] at X143 l143 y143 z143 st143 hQ143
                subst l143 y143 z143
                obtain ⟨rfl, rfl, e143⟩ := hQ143
                refine own_st (fun t k => st143.trans k) ?_
                have N143 := Fr.app N141 (Fr.nil n0)
                show OG p e _ s below _ T143 (mkF m 91 #[.val (.int p1), .val (.int (6 : Int32)), .val (.ref o122), .val (.long f3_6), .second, .unset, .unset] [(.long f3_7)])
                refine own_st (fun t k => XS.lstore X143.here hx rfl (hb hby at_91) rfl (l' := #[.val (.int p1), .val (.int (6 : Int32)), .val (.ref o122), .val (.long f3_6), .second, .val (.long f3_7), .second]) rfl k) ?_
                show OG p e _ s below _ T143 (mkF m 93 #[.val (.int p1), .val (.int (6 : Int32)), .val (.ref o122), .val (.long f3_6), .second, .val (.long f3_7), .second] [])
                refine own_st (fun t k => XS.lloadN X143.here hx rfl (hb hby at_93) rfl k) ?_
                show OG p e _ s below _ T143 (mkF m 94 #[.val (.int p1), .val (.int (6 : Int32)), .val (.ref o122), .val (.long f3_6), .second, .val (.long f3_7), .second] [(.long f3_6)])
                refine own_st (fun t k => XS.iloadN X143.here hx rfl (hb hby at_94) rfl k) ?_
                show OG p e _ s below _ T143 (mkF m 95 #[.val (.int p1), .val (.int (6 : Int32)), .val (.ref o122), .val (.long f3_6), .second, .val (.long f3_7), .second] [(.int (6 : Int32)), (.long f3_6)])
                obtain ⟨_, _, ⟨T144, L144, k144, n144⟩, -, X144, ⟨Lc144, hQ144, l144, y144, z144⟩, st144⟩ := Jvm.LawKit.callS X143 hx (y := (⟨"com/example/tidewire/tidewire/internal/BackoffAttemptedPinLaw", "ref", "(I)J"⟩ : MethodName)) hown (mvT hZ (hw _ (List.mem_of_getElem? (i := 28) rfl))) (mvT hZ (hw _ (List.mem_of_getElem? (i := 29) rfl))) (mvT hZ (hw _ (List.mem_of_getElem? (i := 30) rfl))) (mvT hZ (hw _ (List.mem_of_getElem? (i := 31) rfl))) (by decide) (backOf (W := 2) (rm := ({ frames := 1, cells := 0, slots := 0, locals := 15 } : Room)) (rm6 l Z a0 hw [] (6 : Int32) T141.heap) hZ (hw _ (List.mem_of_getElem? (i := 31) rfl)) (hw _ (List.mem_of_getElem? (i := 30) rfl)) (by decide) (by decide)) (g := (mkF m 95 #[.val (.int p1), .val (.int (6 : Int32)), .val (.ref o122), .val (.long f3_6), .second, .val (.long f3_7), .second] [(.int (6 : Int32)), (.long f3_6)])) rfl (by rw [hml]; rfl) (argsL := [(.int (6 : Int32))]) (rest := [(.long f3_6)]) (lenOf pd__I_J rfl) rfl (by show 2 * 0 + _ ≤ _; exact Nat.le_of_eq rfl) (hb hby at_95) (fun _ _ => ⟨rfl, e143, (by decide : 1 + 0 ≤ _), (by decide : 1 + 0 ≤ _)⟩)
                dsimp only [Pt.U, Pt.locs, Pt.cells, Pt.slots] at X144 l144 y144 z144 st144 hQ144
                subst l144 y144 z144
                obtain ⟨rfl, rfl, e144⟩ := hQ144
                refine own_st st144 ?_
                have N144 := Fr.app N143 (Fr.nil n0)
                show OG p e _ s below _ T144 (mkF m 98 #[.val (.int p1), .val (.int (6 : Int32)), .val (.ref o122), .val (.long f3_6), .second, .val (.long f3_7), .second] [(.long (f6 (6 : Int32))), (.long f3_6)])
                refine own_st (fun t k => XS.lcmp X144.here hx rfl (hb hby at_98) rfl k) ?_
                show OG p e _ s below _ T144 (mkF m 99 #[.val (.int p1), .val (.int (6 : Int32)), .val (.ref o122), .val (.long f3_6), .second, .val (.long f3_7), .second] [(.int (lcmpW f3_6 (f6 (6 : Int32))))])
                by_cases c145 : f3_6 = (f6 (6 : Int32))
                · refine own_st (fun t k => XS.ifNo X144.here hx rfl (hb hby at_99) rfl (own_if0 (teq ((lw_eq _ _).mpr c145)).2) k) ?_
                  show OG p e _ s below _ T144 (mkF m 102 #[.val (.int p1), .val (.int (6 : Int32)), .val (.ref o122), .val (.long f3_6), .second, .val (.long f3_7), .second] [])
                  refine own_st (fun t k => XS.lload X144.here hx rfl (hb hby at_102) rfl k) ?_
                  show OG p e _ s below _ T144 (mkF m 104 #[.val (.int p1), .val (.int (6 : Int32)), .val (.ref o122), .val (.long f3_6), .second, .val (.long f3_7), .second] [(.long f3_7)])
                  refine own_st (fun t k => XS.iloadN X144.here hx rfl (hb hby at_104) rfl k) ?_
                  show OG p e _ s below _ T144 (mkF m 105 #[.val (.int p1), .val (.int (6 : Int32)), .val (.ref o122), .val (.long f3_6), .second, .val (.long f3_7), .second] [(.int (6 : Int32)), (.long f3_7)])
                  refine own_st (fun t k => XS.iconst X144.here hx rfl (hb hby at_105) k) ?_
                  show OG p e _ s below _ T144 (mkF m 106 #[.val (.int p1), .val (.int (6 : Int32)), .val (.ref o122), .val (.long f3_6), .second, .val (.long f3_7), .second] [(.int (1 : Int32)), (.int (6 : Int32)), (.long f3_7)])
                  refine own_st (fun t k => XS.iadd X144.here hx rfl (hb hby at_106) rfl k) ?_
                  show OG p e _ s below _ T144 (mkF m 107 #[.val (.int p1), .val (.int (6 : Int32)), .val (.ref o122), .val (.long f3_6), .second, .val (.long f3_7), .second] [(.int (7 : Int32)), (.long f3_7)])
                  obtain ⟨_, _, ⟨T146, L146, k146, n146⟩, -, X146, ⟨Lc146, hQ146, l146, y146, z146⟩, st146⟩ := Jvm.LawKit.callS X144 hx (y := (⟨"com/example/tidewire/tidewire/internal/BackoffAttemptedPinLaw", "ref", "(I)J"⟩ : MethodName)) hown (mvT hZ (hw _ (List.mem_of_getElem? (i := 28) rfl))) (mvT hZ (hw _ (List.mem_of_getElem? (i := 29) rfl))) (mvT hZ (hw _ (List.mem_of_getElem? (i := 30) rfl))) (mvT hZ (hw _ (List.mem_of_getElem? (i := 31) rfl))) (by decide) (backOf (W := 2) (rm := ({ frames := 1, cells := 0, slots := 0, locals := 15 } : Room)) (rm6 l Z a0 hw [] (7 : Int32) T141.heap) hZ (hw _ (List.mem_of_getElem? (i := 31) rfl)) (hw _ (List.mem_of_getElem? (i := 30) rfl)) (by decide) (by decide)) (g := (mkF m 107 #[.val (.int p1), .val (.int (6 : Int32)), .val (.ref o122), .val (.long f3_6), .second, .val (.long f3_7), .second] [(.int (7 : Int32)), (.long f3_7)])) rfl (by rw [hml]; rfl) (argsL := [(.int (7 : Int32))]) (rest := [(.long f3_7)]) (lenOf pd__I_J rfl) rfl (by show 2 * 0 + _ ≤ _; exact Nat.le_of_eq rfl) (hb hby at_107) (fun _ _ => ⟨rfl, e144, (by decide : 1 + 0 ≤ _), (by decide : 1 + 0 ≤ _)⟩)
                  dsimp only [Pt.U, Pt.locs, Pt.cells, Pt.slots] at X146 l146 y146 z146 st146 hQ146
                  subst l146 y146 z146
                  obtain ⟨rfl, rfl, e146⟩ := hQ146
                  refine own_st st146 ?_
                  have N146 := Fr.app N144 (Fr.nil n0)
                  show OG p e _ s below _ T146 (mkF m 110 #[.val (.int p1), .val (.int (6 : Int32)), .val (.ref o122), .val (.long f3_6), .second, .val (.long f3_7), .second] [(.long (f6 (7 : Int32))), (.long f3_7)])
                  refine own_st (fun t k => XS.lcmp X146.here hx rfl (hb hby at_110) rfl k) ?_
                  show OG p e _ s below _ T146 (mkF m 111 #[.val (.int p1), .val (.int (6 : Int32)), .val (.ref o122), .val (.long f3_6), .second, .val (.long f3_7), .second] [(.int (lcmpW f3_7 (f6 (7 : Int32))))])
                  by_cases c147 : f3_7 = (f6 (7 : Int32))
                  · refine own_st (fun t k => XS.ifNo X146.here hx rfl (hb hby at_111) rfl (own_if0 (teq ((lw_eq _ _).mpr c147)).2) k) ?_
                    show OG p e _ s below _ T146 (mkF m 114 #[.val (.int p1), .val (.int (6 : Int32)), .val (.ref o122), .val (.long f3_6), .second, .val (.long f3_7), .second] [])
                    refine own_st (fun t k => XS.iconst X146.here hx rfl (hb hby at_114) k) ?_
                    show OG p e _ s below _ T146 (mkF m 115 #[.val (.int p1), .val (.int (6 : Int32)), .val (.ref o122), .val (.long f3_6), .second, .val (.long f3_7), .second] [(.int (1 : Int32))])
                    refine own_st (fun t k => XS.goto X146.here hx rfl (pc0 := 115) (pc' := 119) rfl (hb hby at_115) (by decide) (by decide) k) ?_
                    show OG p e _ s below _ T146 (mkF m 119 #[.val (.int p1), .val (.int (6 : Int32)), .val (.ref o122), .val (.long f3_6), .second, .val (.long f3_7), .second] [(.int (1 : Int32))])
                    refine own_retZ X146 hx (t := .boolean) hret (by simp) hlk (hb hby at_119) (by decide) (by decide) (w := (1 : Int32)) rfl ?_
                    exact ⟨congrArg (fun z => some (Value.int z)) (show f0 p1 = (1 : Int32) from (by rw [f0, if_neg c1, if_neg c16, if_neg c33, if_neg c52, if_neg c73, if_neg c96, if_pos c121, if_pos c145, if_pos c147])).symm, N146⟩
                  · refine own_st (fun t k => XS.ifYes X146.here hx rfl (pc0 := 111) (pc' := 118) rfl (hb hby at_111) rfl (own_if0 (feq (fun q => c147 ((lw_eq _ _).mp q))).2) (by decide) (by decide) k) ?_
                    show OG p e _ s below _ T146 (mkF m 118 #[.val (.int p1), .val (.int (6 : Int32)), .val (.ref o122), .val (.long f3_6), .second, .val (.long f3_7), .second] [])
                    refine own_st (fun t k => XS.iconst X146.here hx rfl (hb hby at_118) k) ?_
                    show OG p e _ s below _ T146 (mkF m 119 #[.val (.int p1), .val (.int (6 : Int32)), .val (.ref o122), .val (.long f3_6), .second, .val (.long f3_7), .second] [(.int (0 : Int32))])
                    refine own_retZ X146 hx (t := .boolean) hret (by simp) hlk (hb hby at_119) (by decide) (by decide) (w := (0 : Int32)) rfl ?_
                    exact ⟨congrArg (fun z => some (Value.int z)) (show f0 p1 = (0 : Int32) from (by rw [f0, if_neg c1, if_neg c16, if_neg c33, if_neg c52, if_neg c73, if_neg c96, if_pos c121, if_pos c145, if_neg c147])).symm, N146⟩
                · refine own_st (fun t k => XS.ifYes X144.here hx rfl (pc0 := 99) (pc' := 118) rfl (hb hby at_99) rfl (own_if0 (feq (fun q => c145 ((lw_eq _ _).mp q))).2) (by decide) (by decide) k) ?_
                  show OG p e _ s below _ T144 (mkF m 118 #[.val (.int p1), .val (.int (6 : Int32)), .val (.ref o122), .val (.long f3_6), .second, .val (.long f3_7), .second] [])
                  refine own_st (fun t k => XS.iconst X144.here hx rfl (hb hby at_118) k) ?_
                  show OG p e _ s below _ T144 (mkF m 119 #[.val (.int p1), .val (.int (6 : Int32)), .val (.ref o122), .val (.long f3_6), .second, .val (.long f3_7), .second] [(.int (0 : Int32))])
                  refine own_retZ X144 hx (t := .boolean) hret (by simp) hlk (hb hby at_119) (by decide) (by decide) (w := (0 : Int32)) rfl ?_
                  exact ⟨congrArg (fun z => some (Value.int z)) (show f0 p1 = (0 : Int32) from (by rw [f0, if_neg c1, if_neg c16, if_neg c33, if_neg c52, if_neg c73, if_neg c96, if_pos c121, if_neg c145])).symm, N144⟩
              · skip
                by_cases c148 : (g0_1 p1) = (7 : Int32)
                · rw [c148]
                  show OG p e _ s below _ s₁ (mkF m 5 #[.val (.int p1), .val (.int (7 : Int32)), .unset, .unset, .unset, .unset, .unset] [])
                  obtain ⟨T149, h149, X149, e149, E149, A149, D149, -, st149⟩ := newO X0 hx hZ hown (hw _ (List.mem_of_getElem? (i := 0) rfl)) (hw _ (List.mem_of_getElem? (i := 1) rfl)) (hw _ (List.mem_of_getElem? (i := 2) rfl)) e0 (g := (mkF m 5 #[.val (.int p1), .val (.int (7 : Int32)), .unset, .unset, .unset, .unset, .unset] [])) rfl (hb hby at_5) (by decide) (by decide)
                  obtain ⟨o149, gb149⟩ : ∃ z, z = h0.size := ⟨_, rfl⟩
                  rw [← gb149] at A149 D149 st149
                  refine own_st st149 ?_
                  have ge_o149 : n0 ≤ o149 := by rw [gb149]; exact Nat.le_trans Z0 (Keep.refl h0 []).1
                  have sz_o149 : h0.size ≤ o149 := by rw [gb149]; exact (Keep.refl h0 []).1
                  have K150 : Keep h0 h149 [] := (Keep.refl h0 []).ext E149
                  have F151 : Fld Z h149 o149 "com/example/tidewire/tidewire/internal/Backoff" "attempts" "I" (.int (0 : Int32)) := D149 (Or.inl (hw _ (List.mem_of_getElem? (i := 15) rfl))) (ty := .int) (by decide)
                  show OG p e _ s below _ T149 (mkF m 8 #[.val (.int p1), .val (.int (7 : Int32)), .unset, .unset, .unset, .unset, .unset] [(.ref o149)])
                  refine own_st (fun t k => XS.dup X149.here hx rfl (hb hby at_8) rfl rfl k) ?_
                  show OG p e _ s below _ T149 (mkF m 9 #[.val (.int p1), .val (.int (7 : Int32)), .unset, .unset, .unset, .unset, .unset] [(.ref o149), (.ref o149)])
                  obtain ⟨_, _, ⟨T152, L152, k152, n152⟩, -, X152, ⟨Lc152, hQ152, l152, y152, z152⟩, st152⟩ := X149.specialBack hx (y := (⟨"com/example/tidewire/tidewire/internal/Backoff", "<init>", "()V"⟩ : MethodName)) rfl hown (mvT hZ (hw _ (List.mem_of_getElem? (i := 3) rfl))) (mvT hZ (hw _ (List.mem_of_getElem? (i := 4) rfl))) (mvT hZ (hw _ (List.mem_of_getElem? (i := 5) rfl))) (by decide) (backOf (W := 1) (rm := ({ frames := 1, cells := 0, slots := 0, locals := 12 } : Room)) (rm1 l Z a0 hw [] o149 h149 n0) hZ (hw _ (List.mem_of_getElem? (i := 5) rfl)) (hw _ (List.mem_of_getElem? (i := 2) rfl)) (by decide) (by decide)) (g := (mkF m 9 #[.val (.int p1), .val (.int (7 : Int32)), .unset, .unset, .unset, .unset, .unset] [(.ref o149), (.ref o149)])) rfl (by rw [hml]; rfl) (Steps.refl _) (a := o149) (argsL := []) (rest := [(.ref o149)]) (lenOf pd___V rfl) rfl (by show 2 * 0 + _ ≤ _; exact Nat.le_of_eq rfl) (hb hby at_9) (fun _ _ => ⟨rfl, e149, (by decide : 1 + 0 ≤ _), (by decide : 1 + 0 ≤ _)⟩)
                  dsimp only [Pt.U, Pt.locs, Pt.cells, Pt.slots] at X152 l152 y152 z152 st152 hQ152
                  subst l152 y152 z152
                  obtain ⟨rfl, N152q, K152q⟩ := hQ152
                  refine own_st (fun t k => st152.trans k) ?_
                  have N152 := Fr.app N0 N152q
                  have K152 : Keep h0 T152.heap [] := K150.trans K152q (own_all0 )
                  have F153 : Exa Z T152.heap o149 "com/example/tidewire/tidewire/internal/Backoff" := (A149.keep K152q)
                  have F154 : Fld Z T152.heap o149 "com/example/tidewire/tidewire/internal/Backoff" "attempts" "I" (.int (0 : Int32)) := (F151.keep K152q (own_nin0 ))
                  show OG p e _ s below _ T152 (mkF m 12 #[.val (.int p1), .val (.int (7 : Int32)), .unset, .unset, .unset, .unset, .unset] [(.ref o149)])
                  refine own_st (fun t k => XS.astoreN X152.here hx rfl (hb hby at_12) rfl rfl (l' := #[.val (.int p1), .val (.int (7 : Int32)), .val (.ref o149), .unset, .unset, .unset, .unset]) rfl k) ?_
                  show OG p e _ s below _ T152 (mkF m 13 #[.val (.int p1), .val (.int (7 : Int32)), .val (.ref o149), .unset, .unset, .unset, .unset] [])
                  refine own_st (fun t k => XS.iloadN X152.here hx rfl (hb hby at_13) rfl k) ?_
                  show OG p e _ s below _ T152 (mkF m 14 #[.val (.int p1), .val (.int (7 : Int32)), .val (.ref o149), .unset, .unset, .unset, .unset] [(.int (7 : Int32))])
                  refine own_st (fun t k => XS.iconst X152.here hx rfl (hb hby at_14) k) ?_
                  show OG p e _ s below _ T152 (mkF m 15 #[.val (.int p1), .val (.int (7 : Int32)), .val (.ref o149), .unset, .unset, .unset, .unset] [(.int (1 : Int32)), (.int (7 : Int32))])
                  refine own_st (fun t k => XS.icmpNo X152.here hx rfl (hb hby at_15) rfl (by decide) k) ?_
                  show OG p e _ s below _ T152 (mkF m 18 #[.val (.int p1), .val (.int (7 : Int32)), .val (.ref o149), .unset, .unset, .unset, .unset] [])
                  refine own_st (fun t k => XS.aloadN X152.here hx rfl (hb hby at_18) rfl rfl k) ?_
                  show OG p e _ s below _ T152 (mkF m 19 #[.val (.int p1), .val (.int (7 : Int32)), .val (.ref o149), .unset, .unset, .unset, .unset] [(.ref o149)])
                  obtain ⟨cq155, kq155, q155a, q155b, q155c⟩ := isOf hZ rfl F153
                  obtain ⟨_, _, ⟨T155, L155, k155, n155⟩, -, X155, ⟨Lc155, hQ155, l155, y155, z155⟩, st155⟩ := X152.virtualBack hx (y := (⟨"com/example/tidewire/tidewire/internal/Backoff", "attempted", "()V"⟩ : MethodName)) (z := (⟨"com/example/tidewire/tidewire/internal/Backoff", "attempted", "()V"⟩ : MethodName)) hown (mvT hZ (hw _ (List.mem_of_getElem? (i := 16) rfl))) (mvT hZ (hw _ (List.mem_of_getElem? (i := 17) rfl))) (notFace_of_selects (args := #[]) (mvT hZ (hw _ (List.mem_of_getElem? (i := 19) rfl)))) (mvT hZ (hw _ (List.mem_of_getElem? (i := 19) rfl))) (mvT hZ (hw _ (List.mem_of_getElem? (i := 18) rfl))) (by decide) (backOf (W := 0) (rm := ({ frames := 0, cells := 0, slots := 0, locals := 0 } : Room)) (rm4 l Z a0 hw [] o149 (0 : Int32) T152.heap n0 F153 F154 ge_o149 (by decide)) hZ (hw _ (List.mem_of_getElem? (i := 20) rfl)) (hw _ (List.mem_of_getElem? (i := 2) rfl)) (by decide) (by decide)) q155a q155c (g := (mkF m 19 #[.val (.int p1), .val (.int (7 : Int32)), .val (.ref o149), .unset, .unset, .unset, .unset] [(.ref o149)])) rfl (by rw [hml]; rfl) (Steps.refl _) (argsL := []) (rest := []) (lenOf pd___V rfl) rfl (by show 2 * 0 + _ ≤ _; exact Nat.le_of_eq rfl) (hb hby at_19) (fun _ _ => ⟨rfl, rfl, (by decide : 1 + 0 ≤ _), (by decide : 1 + 0 ≤ _)⟩)
                  dsimp only [Pt.U, Pt.locs, Pt.cells, Pt.slots] at X155 l155 y155 z155 st155 hQ155
                  subst l155 y155 z155
                  obtain ⟨rfl, N155q, K155q, P155_0, P155_1⟩ := hQ155
                  refine own_st (fun t k => st155.trans k) ?_
                  have N155 := Fr.app N152 N155q
                  have K155 : Keep h0 T155.heap [] := K152.trans K155q (own_all1 (Or.inr sz_o149))
                  have F156 : Fld Z T155.heap o149 "com/example/tidewire/tidewire/internal/Backoff" "attempts" "I" (.int (1 : Int32)) := P155_1
                  show OG p e _ s below _ T155 (mkF m 22 #[.val (.int p1), .val (.int (7 : Int32)), .val (.ref o149), .unset, .unset, .unset, .unset] [])
                  refine own_st (fun t k => XS.iloadN X155.here hx rfl (hb hby at_22) rfl k) ?_
                  show OG p e _ s below _ T155 (mkF m 23 #[.val (.int p1), .val (.int (7 : Int32)), .val (.ref o149), .unset, .unset, .unset, .unset] [(.int (7 : Int32))])
                  refine own_st (fun t k => XS.iconst X155.here hx rfl (hb hby at_23) k) ?_
                  show OG p e _ s below _ T155 (mkF m 24 #[.val (.int p1), .val (.int (7 : Int32)), .val (.ref o149), .unset, .unset, .unset, .unset] [(.int (2 : Int32)), (.int (7 : Int32))])
                  refine own_st (fun t k => XS.icmpNo X155.here hx rfl (hb hby at_24) rfl (by decide) k) ?_
                  show OG p e _ s below _ T155 (mkF m 27 #[.val (.int p1), .val (.int (7 : Int32)), .val (.ref o149), .unset, .unset, .unset, .unset] [])
                  refine own_st (fun t k => XS.aloadN X155.here hx rfl (hb hby at_27) rfl rfl k) ?_
                  show OG p e _ s below _ T155 (mkF m 28 #[.val (.int p1), .val (.int (7 : Int32)), .val (.ref o149), .unset, .unset, .unset, .unset] [(.ref o149)])
                  obtain ⟨cq157, kq157, q157a, q157b, q157c⟩ := isOf hZ rfl P155_0
                  obtain ⟨_, _, ⟨T157, L157, k157, n157⟩, -, X157, ⟨Lc157, hQ157, l157, y157, z157⟩, st157⟩ := X155.virtualBack hx (y := (⟨"com/example/tidewire/tidewire/internal/Backoff", "attempted", "()V"⟩ : MethodName)) (z := (⟨"com/example/tidewire/tidewire/internal/Backoff", "attempted", "()V"⟩ : MethodName)) hown (mvT hZ (hw _ (List.mem_of_getElem? (i := 16) rfl))) (mvT hZ (hw _ (List.mem_of_getElem? (i := 17) rfl))) (notFace_of_selects (args := #[]) (mvT hZ (hw _ (List.mem_of_getElem? (i := 19) rfl)))) (mvT hZ (hw _ (List.mem_of_getElem? (i := 19) rfl))) (mvT hZ (hw _ (List.mem_of_getElem? (i := 18) rfl))) (by decide) (backOf (W := 0) (rm := ({ frames := 0, cells := 0, slots := 0, locals := 0 } : Room)) (rm4 l Z a0 hw [] o149 (1 : Int32) T155.heap n0 P155_0 F156 ge_o149 (by decide)) hZ (hw _ (List.mem_of_getElem? (i := 20) rfl)) (hw _ (List.mem_of_getElem? (i := 2) rfl)) (by decide) (by decide)) q157a q157c (g := (mkF m 28 #[.val (.int p1), .val (.int (7 : Int32)), .val (.ref o149), .unset, .unset, .unset, .unset] [(.ref o149)])) rfl (by rw [hml]; rfl) (Steps.refl _) (argsL := []) (rest := []) (lenOf pd___V rfl) rfl (by show 2 * 0 + _ ≤ _; exact Nat.le_of_eq rfl) (hb hby at_28) (fun _ _ => ⟨rfl, rfl, (by decide : 1 + 0 ≤ _), (by decide : 1 + 0 ≤ _)⟩)
                  dsimp only [Pt.U, Pt.locs, Pt.cells, Pt.slots] at X157 l157 y157 z157 st157 hQ157
                  subst l157 y157 z157
                  obtain ⟨rfl, N157q, K157q, P157_0, P157_1⟩ := hQ157
                  refine own_st (fun t k => st157.trans k) ?_
                  have N157 := Fr.app N155 N157q
                  have K157 : Keep h0 T157.heap [] := K155.trans K157q (own_all1 (Or.inr sz_o149))
                  have F158 : Fld Z T157.heap o149 "com/example/tidewire/tidewire/internal/Backoff" "attempts" "I" (.int (2 : Int32)) := P157_1
                  show OG p e _ s below _ T157 (mkF m 31 #[.val (.int p1), .val (.int (7 : Int32)), .val (.ref o149), .unset, .unset, .unset, .unset] [])
                  refine own_st (fun t k => XS.iloadN X157.here hx rfl (hb hby at_31) rfl k) ?_
                  show OG p e _ s below _ T157 (mkF m 32 #[.val (.int p1), .val (.int (7 : Int32)), .val (.ref o149), .unset, .unset, .unset, .unset] [(.int (7 : Int32))])
                  refine own_st (fun t k => XS.iconst X157.here hx rfl (hb hby at_32) k) ?_
                  show OG p e _ s below _ T157 (mkF m 33 #[.val (.int p1), .val (.int (7 : Int32)), .val (.ref o149), .unset, .unset, .unset, .unset] [(.int (3 : Int32)), (.int (7 : Int32))])
                  refine own_st (fun t k => XS.icmpNo X157.here hx rfl (hb hby at_33) rfl (by decide) k) ?_
                  show OG p e _ s below _ T157 (mkF m 36 #[.val (.int p1), .val (.int (7 : Int32)), .val (.ref o149), .unset, .unset, .unset, .unset] [])
                  refine own_st (fun t k => XS.aloadN X157.here hx rfl (hb hby at_36) rfl rfl k) ?_
                  show OG p e _ s below _ T157 (mkF m 37 #[.val (.int p1), .val (.int (7 : Int32)), .val (.ref o149), .unset, .unset, .unset, .unset] [(.ref o149)])
                  obtain ⟨cq159, kq159, q159a, q159b, q159c⟩ := isOf hZ rfl P157_0
                  obtain ⟨_, _, ⟨T159, L159, k159, n159⟩, -, X159, ⟨Lc159, hQ159, l159, y159, z159⟩, st159⟩ := X157.virtualBack hx (y := (⟨"com/example/tidewire/tidewire/internal/Backoff", "attempted", "()V"⟩ : MethodName)) (z := (⟨"com/example/tidewire/tidewire/internal/Backoff", "attempted", "()V"⟩ : MethodName)) hown (mvT hZ (hw _ (List.mem_of_getElem? (i := 16) rfl))) (mvT hZ (hw _ (List.mem_of_getElem? (i := 17) rfl))) (notFace_of_selects (args := #[]) (mvT hZ (hw _ (List.mem_of_getElem? (i := 19) rfl)))) (mvT hZ (hw _ (List.mem_of_getElem? (i := 19) rfl))) (mvT hZ (hw _ (List.mem_of_getElem? (i := 18) rfl))) (by decide) (backOf (W := 0) (rm := ({ frames := 0, cells := 0, slots := 0, locals := 0 } : Room)) (rm4 l Z a0 hw [] o149 (2 : Int32) T157.heap n0 P157_0 F158 ge_o149 (by decide)) hZ (hw _ (List.mem_of_getElem? (i := 20) rfl)) (hw _ (List.mem_of_getElem? (i := 2) rfl)) (by decide) (by decide)) q159a q159c (g := (mkF m 37 #[.val (.int p1), .val (.int (7 : Int32)), .val (.ref o149), .unset, .unset, .unset, .unset] [(.ref o149)])) rfl (by rw [hml]; rfl) (Steps.refl _) (argsL := []) (rest := []) (lenOf pd___V rfl) rfl (by show 2 * 0 + _ ≤ _; exact Nat.le_of_eq rfl) (hb hby at_37) (fun _ _ => ⟨rfl, rfl, (by decide : 1 + 0 ≤ _), (by decide : 1 + 0 ≤ _)⟩)
                  dsimp only [Pt.U, Pt.locs, Pt.cells, Pt.slots] at X159 l159 y159 z159 st159 hQ159
                  subst l159 y159 z159
                  obtain ⟨rfl, N159q, K159q, P159_0, P159_1⟩ := hQ159
                  refine own_st (fun t k => st159.trans k) ?_
                  have N159 := Fr.app N157 N159q
                  have K159 : Keep h0 T159.heap [] := K157.trans K159q (own_all1 (Or.inr sz_o149))
                  have F160 : Fld Z T159.heap o149 "com/example/tidewire/tidewire/internal/Backoff" "attempts" "I" (.int (3 : Int32)) := P159_1
                  show OG p e _ s below _ T159 (mkF m 40 #[.val (.int p1), .val (.int (7 : Int32)), .val (.ref o149), .unset, .unset, .unset, .unset] [])
                  refine own_st (fun t k => XS.iloadN X159.here hx rfl (hb hby at_40) rfl k) ?_
                  show OG p e _ s below _ T159 (mkF m 41 #[.val (.int p1), .val (.int (7 : Int32)), .val (.ref o149), .unset, .unset, .unset, .unset] [(.int (7 : Int32))])
                  refine own_st (fun t k => XS.iconst X159.here hx rfl (hb hby at_41) k) ?_
                  show OG p e _ s below _ T159 (mkF m 42 #[.val (.int p1), .val (.int (7 : Int32)), .val (.ref o149), .unset, .unset, .unset, .unset] [(.int (4 : Int32)), (.int (7 : Int32))])
                  refine own_st (fun t k => XS.icmpNo X159.here hx rfl (hb hby at_42) rfl (by decide) k) ?_
                  show OG p e _ s below _ T159 (mkF m 45 #[.val (.int p1), .val (.int (7 : Int32)), .val (.ref o149), .unset, .unset, .unset, .unset] [])
                  refine own_st (fun t k => XS.aloadN X159.here hx rfl (hb hby at_45) rfl rfl k) ?_
                  show OG p e _ s below _ T159 (mkF m 46 #[.val (.int p1), .val (.int (7 : Int32)), .val (.ref o149), .unset, .unset, .unset, .unset] [(.ref o149)])
                  obtain ⟨cq161, kq161, q161a, q161b, q161c⟩ := isOf hZ rfl P159_0
                  obtain ⟨_, _, ⟨T161, L161, k161, n161⟩, -, X161, ⟨Lc161, hQ161, l161, y161, z161⟩, st161⟩ := X159.virtualBack hx (y := (⟨"com/example/tidewire/tidewire/internal/Backoff", "attempted", "()V"⟩ : MethodName)) (z := (⟨"com/example/tidewire/tidewire/internal/Backoff", "attempted", "()V"⟩ : MethodName)) hown (mvT hZ (hw _ (List.mem_of_getElem? (i := 16) rfl))) (mvT hZ (hw _ (List.mem_of_getElem? (i := 17) rfl))) (notFace_of_selects (args := #[]) (mvT hZ (hw _ (List.mem_of_getElem? (i := 19) rfl)))) (mvT hZ (hw _ (List.mem_of_getElem? (i := 19) rfl))) (mvT hZ (hw _ (List.mem_of_getElem? (i := 18) rfl))) (by decide) (backOf (W := 0) (rm := ({ frames := 0, cells := 0, slots := 0, locals := 0 } : Room)) (rm4 l Z a0 hw [] o149 (3 : Int32) T159.heap n0 P159_0 F160 ge_o149 (by decide)) hZ (hw _ (List.mem_of_getElem? (i := 20) rfl)) (hw _ (List.mem_of_getElem? (i := 2) rfl)) (by decide) (by decide)) q161a q161c (g := (mkF m 46 #[.val (.int p1), .val (.int (7 : Int32)), .val (.ref o149), .unset, .unset, .unset, .unset] [(.ref o149)])) rfl (by rw [hml]; rfl) (Steps.refl _) (argsL := []) (rest := []) (lenOf pd___V rfl) rfl (by show 2 * 0 + _ ≤ _; exact Nat.le_of_eq rfl) (hb hby at_46) (fun _ _ => ⟨rfl, rfl, (by decide : 1 + 0 ≤ _), (by decide : 1 + 0 ≤ _)⟩)
                  dsimp only [Pt.U, Pt.locs, Pt.cells, Pt.slots] at X161 l161 y161 z161 st161 hQ161
                  subst l161 y161 z161
                  obtain ⟨rfl, N161q, K161q, P161_0, P161_1⟩ := hQ161
                  refine own_st (fun t k => st161.trans k) ?_
                  have N161 := Fr.app N159 N161q
                  have K161 : Keep h0 T161.heap [] := K159.trans K161q (own_all1 (Or.inr sz_o149))
                  have F162 : Fld Z T161.heap o149 "com/example/tidewire/tidewire/internal/Backoff" "attempts" "I" (.int (4 : Int32)) := P161_1
                  show OG p e _ s below _ T161 (mkF m 49 #[.val (.int p1), .val (.int (7 : Int32)), .val (.ref o149), .unset, .unset, .unset, .unset] [])
                  refine own_st (fun t k => XS.iloadN X161.here hx rfl (hb hby at_49) rfl k) ?_
                  show OG p e _ s below _ T161 (mkF m 50 #[.val (.int p1), .val (.int (7 : Int32)), .val (.ref o149), .unset, .unset, .unset, .unset] [(.int (7 : Int32))])
                  refine own_st (fun t k => XS.iconst X161.here hx rfl (hb hby at_50) k) ?_
                  show OG p e _ s below _ T161 (mkF m 51 #[.val (.int p1), .val (.int (7 : Int32)), .val (.ref o149), .unset, .unset, .unset, .unset] [(.int (5 : Int32)), (.int (7 : Int32))])
                  refine own_st (fun t k => XS.icmpNo X161.here hx rfl (hb hby at_51) rfl (by decide) k) ?_
                  show OG p e _ s below _ T161 (mkF m 54 #[.val (.int p1), .val (.int (7 : Int32)), .val (.ref o149), .unset, .unset, .unset, .unset] [])
                  refine own_st (fun t k => XS.aloadN X161.here hx rfl (hb hby at_54) rfl rfl k) ?_
                  show OG p e _ s below _ T161 (mkF m 55 #[.val (.int p1), .val (.int (7 : Int32)), .val (.ref o149), .unset, .unset, .unset, .unset] [(.ref o149)])
                  obtain ⟨cq163, kq163, q163a, q163b, q163c⟩ := isOf hZ rfl P161_0
                  obtain ⟨_, _, ⟨T163, L163, k163, n163⟩, -, X163, ⟨Lc163, hQ163, l163, y163, z163⟩, st163⟩ := X161.virtualBack hx (y := (⟨"com/example/tidewire/tidewire/internal/Backoff", "attempted", "()V"⟩ : MethodName)) (z := (⟨"com/example/tidewire/tidewire/internal/Backoff", "attempted", "()V"⟩ : MethodName)) hown (mvT hZ (hw _ (List.mem_of_getElem? (i := 16) rfl))) (mvT hZ (hw _ (List.mem_of_getElem? (i := 17) rfl))) (notFace_of_selects (args := #[]) (mvT hZ (hw _ (List.mem_of_getElem? (i := 19) rfl)))) (mvT hZ (hw _ (List.mem_of_getElem? (i := 19) rfl))) (mvT hZ (hw _ (List.mem_of_getElem? (i := 18) rfl))) (by decide) (backOf (W := 0) (rm := ({ frames := 0, cells := 0, slots := 0, locals := 0 } : Room)) (rm4 l Z a0 hw [] o149 (4 : Int32) T161.heap n0 P161_0 F162 ge_o149 (by decide)) hZ (hw _ (List.mem_of_getElem? (i := 20) rfl)) (hw _ (List.mem_of_getElem? (i := 2) rfl)) (by decide) (by decide)) q163a q163c (g := (mkF m 55 #[.val (.int p1), .val (.int (7 : Int32)), .val (.ref o149), .unset, .unset, .unset, .unset] [(.ref o149)])) rfl (by rw [hml]; rfl) (Steps.refl _) (argsL := []) (rest := []) (lenOf pd___V rfl) rfl (by show 2 * 0 + _ ≤ _; exact Nat.le_of_eq rfl) (hb hby at_55) (fun _ _ => ⟨rfl, rfl, (by decide : 1 + 0 ≤ _), (by decide : 1 + 0 ≤ _)⟩)
                  dsimp only [Pt.U, Pt.locs, Pt.cells, Pt.slots] at X163 l163 y163 z163 st163 hQ163
                  subst l163 y163 z163
                  obtain ⟨rfl, N163q, K163q, P163_0, P163_1⟩ := hQ163
                  refine own_st (fun t k => st163.trans k) ?_
                  have N163 := Fr.app N161 N163q
                  have K163 : Keep h0 T163.heap [] := K161.trans K163q (own_all1 (Or.inr sz_o149))
                  have F164 : Fld Z T163.heap o149 "com/example/tidewire/tidewire/internal/Backoff" "attempts" "I" (.int (5 : Int32)) := P163_1
                  show OG p e _ s below _ T163 (mkF m 58 #[.val (.int p1), .val (.int (7 : Int32)), .val (.ref o149), .unset, .unset, .unset, .unset] [])
                  refine own_st (fun t k => XS.iloadN X163.here hx rfl (hb hby at_58) rfl k) ?_
                  show OG p e _ s below _ T163 (mkF m 59 #[.val (.int p1), .val (.int (7 : Int32)), .val (.ref o149), .unset, .unset, .unset, .unset] [(.int (7 : Int32))])
                  refine own_st (fun t k => XS.bipush X163.here hx rfl (hb hby at_59) k) ?_
                  show OG p e _ s below _ T163 (mkF m 61 #[.val (.int p1), .val (.int (7 : Int32)), .val (.ref o149), .unset, .unset, .unset, .unset] [(.int (6 : Int32)), (.int (7 : Int32))])
                  refine own_st (fun t k => XS.icmpNo X163.here hx rfl (hb hby at_61) rfl (by decide) k) ?_
                  show OG p e _ s below _ T163 (mkF m 64 #[.val (.int p1), .val (.int (7 : Int32)), .val (.ref o149), .unset, .unset, .unset, .unset] [])
                  refine own_st (fun t k => XS.aloadN X163.here hx rfl (hb hby at_64) rfl rfl k) ?_
                  show OG p e _ s below _ T163 (mkF m 65 #[.val (.int p1), .val (.int (7 : Int32)), .val (.ref o149), .unset, .unset, .unset, .unset] [(.ref o149)])
                  obtain ⟨cq165, kq165, q165a, q165b, q165c⟩ := isOf hZ rfl P163_0
                  obtain ⟨_, _, ⟨T165, L165, k165, n165⟩, -, X165, ⟨Lc165, hQ165, l165, y165, z165⟩, st165⟩ := X163.virtualBack hx (y := (⟨"com/example/tidewire/tidewire/internal/Backoff", "attempted", "()V"⟩ : MethodName)) (z := (⟨"com/example/tidewire/tidewire/internal/Backoff", "attempted", "()V"⟩ : MethodName)) hown (mvT hZ (hw _ (List.mem_of_getElem? (i := 16) rfl))) (mvT hZ (hw _ (List.mem_of_getElem? (i := 17) rfl))) (notFace_of_selects (args := #[]) (mvT hZ (hw _ (List.mem_of_getElem? (i := 19) rfl)))) (mvT hZ (hw _ (List.mem_of_getElem? (i := 19) rfl))) (mvT hZ (hw _ (List.mem_of_getElem? (i := 18) rfl))) (by decide) (backOf (W := 0) (rm := ({ frames := 0, cells := 0, slots := 0, locals := 0 } : Room)) (rm4 l Z a0 hw [] o149 (5 : Int32) T163.heap n0 P163_0 F164 ge_o149 (by decide)) hZ (hw _ (List.mem_of_getElem? (i := 20) rfl)) (hw _ (List.mem_of_getElem? (i := 2) rfl)) (by decide) (by decide)) q165a q165c (g := (mkF m 65 #[.val (.int p1), .val (.int (7 : Int32)), .val (.ref o149), .unset, .unset, .unset, .unset] [(.ref o149)])) rfl (by rw [hml]; rfl) (Steps.refl _) (argsL := []) (rest := []) (lenOf pd___V rfl) rfl (by show 2 * 0 + _ ≤ _; exact Nat.le_of_eq rfl) (hb hby at_65) (fun _ _ => ⟨rfl, rfl, (by decide : 1 + 0 ≤ _), (by decide : 1 + 0 ≤ _)⟩)
                  dsimp only [Pt.U, Pt.locs, Pt.cells, Pt.slots] at X165 l165 y165 z165 st165 hQ165
                  subst l165 y165 z165
                  obtain ⟨rfl, N165q, K165q, P165_0, P165_1⟩ := hQ165
                  refine own_st (fun t k => st165.trans k) ?_
                  have N165 := Fr.app N163 N165q
                  have K165 : Keep h0 T165.heap [] := K163.trans K165q (own_all1 (Or.inr sz_o149))
                  have F166 : Fld Z T165.heap o149 "com/example/tidewire/tidewire/internal/Backoff" "attempts" "I" (.int (6 : Int32)) := P165_1
                  show OG p e _ s below _ T165 (mkF m 68 #[.val (.int p1), .val (.int (7 : Int32)), .val (.ref o149), .unset, .unset, .unset, .unset] [])
                  refine own_st (fun t k => XS.iloadN X165.here hx rfl (hb hby at_68) rfl k) ?_
                  show OG p e _ s below _ T165 (mkF m 69 #[.val (.int p1), .val (.int (7 : Int32)), .val (.ref o149), .unset, .unset, .unset, .unset] [(.int (7 : Int32))])
                  refine own_st (fun t k => XS.bipush X165.here hx rfl (hb hby at_69) k) ?_
                  show OG p e _ s below _ T165 (mkF m 71 #[.val (.int p1), .val (.int (7 : Int32)), .val (.ref o149), .unset, .unset, .unset, .unset] [(.int (7 : Int32)), (.int (7 : Int32))])
                  refine own_st (fun t k => XS.icmpNo X165.here hx rfl (hb hby at_71) rfl (by decide) k) ?_
                  show OG p e _ s below _ T165 (mkF m 74 #[.val (.int p1), .val (.int (7 : Int32)), .val (.ref o149), .unset, .unset, .unset, .unset] [])
                  refine own_st (fun t k => XS.aloadN X165.here hx rfl (hb hby at_74) rfl rfl k) ?_
                  show OG p e _ s below _ T165 (mkF m 75 #[.val (.int p1), .val (.int (7 : Int32)), .val (.ref o149), .unset, .unset, .unset, .unset] [(.ref o149)])
                  obtain ⟨cq167, kq167, q167a, q167b, q167c⟩ := isOf hZ rfl P165_0
                  obtain ⟨_, _, ⟨T167, L167, k167, n167⟩, -, X167, ⟨Lc167, hQ167, l167, y167, z167⟩, st167⟩ := X165.virtualBack hx (y := (⟨"com/example/tidewire/tidewire/internal/Backoff", "attempted", "()V"⟩ : MethodName)) (z := (⟨"com/example/tidewire/tidewire/internal/Backoff", "attempted", "()V"⟩ : MethodName)) hown (mvT hZ (hw _ (List.mem_of_getElem? (i := 16) rfl))) (mvT hZ (hw _ (List.mem_of_getElem? (i := 17) rfl))) (notFace_of_selects (args := #[]) (mvT hZ (hw _ (List.mem_of_getElem? (i := 19) rfl)))) (mvT hZ (hw _ (List.mem_of_getElem? (i := 19) rfl))) (mvT hZ (hw _ (List.mem_of_getElem? (i := 18) rfl))) (by decide) (backOf (W := 0) (rm := ({ frames := 0, cells := 0, slots := 0, locals := 0 } : Room)) (rm4 l Z a0 hw [] o149 (6 : Int32) T165.heap n0 P165_0 F166 ge_o149 (by decide)) hZ (hw _ (List.mem_of_getElem? (i := 20) rfl)) (hw _ (List.mem_of_getElem? (i := 2) rfl)) (by decide) (by decide)) q167a q167c (g := (mkF m 75 #[.val (.int p1), .val (.int (7 : Int32)), .val (.ref o149), .unset, .unset, .unset, .unset] [(.ref o149)])) rfl (by rw [hml]; rfl) (Steps.refl _) (argsL := []) (rest := []) (lenOf pd___V rfl) rfl (by show 2 * 0 + _ ≤ _; exact Nat.le_of_eq rfl) (hb hby at_75) (fun _ _ => ⟨rfl, rfl, (by decide : 1 + 0 ≤ _), (by decide : 1 + 0 ≤ _)⟩)
                  dsimp only [Pt.U, Pt.locs, Pt.cells, Pt.slots] at X167 l167 y167 z167 st167 hQ167
                  subst l167 y167 z167
                  obtain ⟨rfl, N167q, K167q, P167_0, P167_1⟩ := hQ167
                  refine own_st (fun t k => st167.trans k) ?_
                  have N167 := Fr.app N165 N167q
                  have K167 : Keep h0 T167.heap [] := K165.trans K167q (own_all1 (Or.inr sz_o149))
                  have F168 : Fld Z T167.heap o149 "com/example/tidewire/tidewire/internal/Backoff" "attempts" "I" (.int (7 : Int32)) := P167_1
                  show OG p e _ s below _ T167 (mkF m 78 #[.val (.int p1), .val (.int (7 : Int32)), .val (.ref o149), .unset, .unset, .unset, .unset] [])
                  refine own_st (fun t k => XS.aloadN X167.here hx rfl (hb hby at_78) rfl rfl k) ?_
                  show OG p e _ s below _ T167 (mkF m 79 #[.val (.int p1), .val (.int (7 : Int32)), .val (.ref o149), .unset, .unset, .unset, .unset] [(.ref o149)])
                  obtain ⟨cq169, kq169, q169a, q169b, q169c⟩ := isOf hZ rfl P167_0
                  obtain ⟨_, _, ⟨T169, L169, k169, n169⟩, -, X169, ⟨Lc169, hQ169, l169, y169, z169⟩, st169⟩ := X167.virtualBack hx (y := (⟨"com/example/tidewire/tidewire/internal/Backoff", "delayMs", "()J"⟩ : MethodName)) (z := (⟨"com/example/tidewire/tidewire/internal/Backoff", "delayMs", "()J"⟩ : MethodName)) hown (mvT hZ (hw _ (List.mem_of_getElem? (i := 9) rfl))) (mvT hZ (hw _ (List.mem_of_getElem? (i := 10) rfl))) (notFace_of_selects (args := #[]) (mvT hZ (hw _ (List.mem_of_getElem? (i := 12) rfl)))) (mvT hZ (hw _ (List.mem_of_getElem? (i := 12) rfl))) (mvT hZ (hw _ (List.mem_of_getElem? (i := 11) rfl))) (by decide) (backOf (W := 0) (rm := ({ frames := 1, cells := 0, slots := 0, locals := 15 } : Room)) (rm3_7 l Z a0 hw [] o149 T167.heap F168) hZ (hw _ (List.mem_of_getElem? (i := 13) rfl)) (hw _ (List.mem_of_getElem? (i := 2) rfl)) (by decide) (by decide)) q169a q169c (g := (mkF m 79 #[.val (.int p1), .val (.int (7 : Int32)), .val (.ref o149), .unset, .unset, .unset, .unset] [(.ref o149)])) rfl (by rw [hml]; rfl) (Steps.refl _) (argsL := []) (rest := []) (lenOf pd___J rfl) rfl (by show 2 * 0 + _ ≤ _; exact Nat.le_of_eq rfl) (hb hby at_79) (fun _ _ => ⟨rfl, rfl, (by decide : 1 + 0 ≤ _), (by decide : 1 + 0 ≤ _)⟩)
                  dsimp only [Pt.U, Pt.locs, Pt.cells, Pt.slots] at X169 l169 y169 z169 st169 hQ169
                  subst l169 y169 z169
                  obtain ⟨rfl, rfl, e169⟩ := hQ169
                  refine own_st (fun t k => st169.trans k) ?_
                  have N169 := Fr.app N167 (Fr.nil n0)
                  show OG p e _ s below _ T169 (mkF m 82 #[.val (.int p1), .val (.int (7 : Int32)), .val (.ref o149), .unset, .unset, .unset, .unset] [(.long f3_7)])
                  refine own_st (fun t k => XS.lstoreN X169.here hx rfl (hb hby at_82) rfl (l' := #[.val (.int p1), .val (.int (7 : Int32)), .val (.ref o149), .val (.long f3_7), .second, .unset, .unset]) rfl k) ?_
                  show OG p e _ s below _ T169 (mkF m 83 #[.val (.int p1), .val (.int (7 : Int32)), .val (.ref o149), .val (.long f3_7), .second, .unset, .unset] [])
                  refine own_st (fun t k => XS.aloadN X169.here hx rfl (hb hby at_83) rfl rfl k) ?_
                  show OG p e _ s below _ T169 (mkF m 84 #[.val (.int p1), .val (.int (7 : Int32)), .val (.ref o149), .val (.long f3_7), .second, .unset, .unset] [(.ref o149)])
                  obtain ⟨cq170, kq170, q170a, q170b, q170c⟩ := isOf hZ e169 P167_0
                  obtain ⟨_, _, ⟨T170, L170, k170, n170⟩, -, X170, ⟨Lc170, hQ170, l170, y170, z170⟩, st170⟩ := X169.virtualBack hx (y := (⟨"com/example/tidewire/tidewire/internal/Backoff", "attempted", "()V"⟩ : MethodName)) (z := (⟨"com/example/tidewire/tidewire/internal/Backoff", "attempted", "()V"⟩ : MethodName)) hown (mvT hZ (hw _ (List.mem_of_getElem? (i := 16) rfl))) (mvT hZ (hw _ (List.mem_of_getElem? (i := 17) rfl))) (notFace_of_selects (args := #[]) (mvT hZ (hw _ (List.mem_of_getElem? (i := 19) rfl)))) (mvT hZ (hw _ (List.mem_of_getElem? (i := 19) rfl))) (mvT hZ (hw _ (List.mem_of_getElem? (i := 18) rfl))) (by decide) (backOf (W := 0) (rm := ({ frames := 0, cells := 0, slots := 0, locals := 0 } : Room)) (rm4 l Z a0 hw [] o149 (7 : Int32) T167.heap n0 P167_0 F168 ge_o149 (by decide)) hZ (hw _ (List.mem_of_getElem? (i := 20) rfl)) (hw _ (List.mem_of_getElem? (i := 2) rfl)) (by decide) (by decide)) q170a q170c (g := (mkF m 84 #[.val (.int p1), .val (.int (7 : Int32)), .val (.ref o149), .val (.long f3_7), .second, .unset, .unset] [(.ref o149)])) rfl (by rw [hml]; rfl) (Steps.refl _) (argsL := []) (rest := []) (lenOf pd___V rfl) rfl (by show 2 * 0 + _ ≤ _; exact Nat.le_of_eq rfl) (hb hby at_84) (fun _ _ => ⟨rfl, e169, (by decide : 1 + 0 ≤ _), (by decide : 1 + 0 ≤ _)⟩)
                  dsimp only [Pt.U, Pt.locs, Pt.cells, Pt.slots] at X170 l170 y170 z170 st170 hQ170
                  subst l170 y170 z170
                  obtain ⟨rfl, N170q, K170q, P170_0, P170_1⟩ := hQ170
                  refine own_st (fun t k => st170.trans k) ?_
                  have N170 := Fr.app N169 N170q
                  have K170 : Keep h0 T170.heap [] := K167.trans K170q (own_all1 (Or.inr sz_o149))
                  have F171 : Fld Z T170.heap o149 "com/example/tidewire/tidewire/internal/Backoff" "attempts" "I" (.int (8 : Int32)) := P170_1
                  show OG p e _ s below _ T170 (mkF m 87 #[.val (.int p1), .val (.int (7 : Int32)), .val (.ref o149), .val (.long f3_7), .second, .unset, .unset] [])
                  refine own_st (fun t k => XS.aloadN X170.here hx rfl (hb hby at_87) rfl rfl k) ?_
                  show OG p e _ s below _ T170 (mkF m 88 #[.val (.int p1), .val (.int (7 : Int32)), .val (.ref o149), .val (.long f3_7), .second, .unset, .unset] [(.ref o149)])
                  obtain ⟨cq172, kq172, q172a, q172b, q172c⟩ := isOf hZ rfl P170_0
                  obtain ⟨_, _, ⟨T172, L172, k172, n172⟩, -, X172, ⟨Lc172, hQ172, l172, y172, z172⟩, st172⟩ := X170.virtualBack hx (y := (⟨"com/example/tidewire/tidewire/internal/Backoff", "delayMs", "()J"⟩ : MethodName)) (z := (⟨"com/example/tidewire/tidewire/internal/Backoff", "delayMs", "()J"⟩ : MethodName)) hown (mvT hZ (hw _ (List.mem_of_getElem? (i := 9) rfl))) (mvT hZ (hw _ (List.mem_of_getElem? (i := 10) rfl))) (notFace_of_selects (args := #[]) (mvT hZ (hw _ (List.mem_of_getElem? (i := 12) rfl)))) (mvT hZ (hw _ (List.mem_of_getElem? (i := 12) rfl))) (mvT hZ (hw _ (List.mem_of_getElem? (i := 11) rfl))) (by decide) (backOf (W := 0) (rm := ({ frames := 1, cells := 0, slots := 0, locals := 15 } : Room)) (rm3_8 l Z a0 hw [] o149 T170.heap F171) hZ (hw _ (List.mem_of_getElem? (i := 13) rfl)) (hw _ (List.mem_of_getElem? (i := 2) rfl)) (by decide) (by decide)) q172a q172c (g := (mkF m 88 #[.val (.int p1), .val (.int (7 : Int32)), .val (.ref o149), .val (.long f3_7), .second, .unset, .unset] [(.ref o149)])) rfl (by rw [hml]; rfl) (Steps.refl _) (argsL := []) (rest := []) (lenOf pd___J rfl) rfl (by show 2 * 0 + _ ≤ _; exact Nat.le_of_eq rfl) (hb hby at_88) (fun _ _ => ⟨rfl, rfl, (by decide : 1 + 0 ≤ _), (by decide : 1 + 0 ≤ _)⟩)
                  dsimp only [Pt.U, Pt.locs, Pt.cells, Pt.slots] at X172 l172 y172 z172 st172 hQ172
                  subst l172 y172 z172
                  obtain ⟨rfl, rfl, e172⟩ := hQ172
                  refine own_st (fun t k => st172.trans k) ?_
                  have N172 := Fr.app N170 (Fr.nil n0)
                  show OG p e _ s below _ T172 (mkF m 91 #[.val (.int p1), .val (.int (7 : Int32)), .val (.ref o149), .val (.long f3_7), .second, .unset, .unset] [(.long f3_8)])
                  refine own_st (fun t k => XS.lstore X172.here hx rfl (hb hby at_91) rfl (l' := #[.val (.int p1), .val (.int (7 : Int32)), .val (.ref o149), .val (.long f3_7), .second, .val (.long f3_8), .second]) rfl k) ?_
                  show OG p e _ s below _ T172 (mkF m 93 #[.val (.int p1), .val (.int (7 : Int32)), .val (.ref o149), .val (.long f3_7), .second, .val (.long f3_8), .second] [])
                  refine own_st (fun t k => XS.lloadN X172.here hx rfl (hb hby at_93) rfl k) ?_
                  show OG p e _ s below _ T172 (mkF m 94 #[.val (.int p1), .val (.int (7 : Int32)), .val (.ref o149), .val (.long f3_7), .second, .val (.long f3_8), .second] [(.long f3_7)])
                  refine own_st (fun t k => XS.iloadN X172.here hx rfl (hb hby at_94) rfl k) ?_
                  show OG p e _ s below _ T172 (mkF m 95 #[.val (.int p1), .val (.int (7 : Int32)), .val (.ref o149), .val (.long f3_7), .second, .val (.long f3_8), .second] [(.int (7 : Int32)), (.long f3_7)])
                  obtain ⟨_, _, ⟨T173, L173, k173, n173⟩, -, X173, ⟨Lc173, hQ173, l173, y173, z173⟩, st173⟩ := Jvm.LawKit.callS X172 hx (y := (⟨"com/example/tidewire/tidewire/internal/BackoffAttemptedPinLaw", "ref", "(I)J"⟩ : MethodName)) hown (mvT hZ (hw _ (List.mem_of_getElem? (i := 28) rfl))) (mvT hZ (hw _ (List.mem_of_getElem? (i := 29) rfl))) (mvT hZ (hw _ (List.mem_of_getElem? (i := 30) rfl))) (mvT hZ (hw _ (List.mem_of_getElem? (i := 31) rfl))) (by decide) (backOf (W := 2) (rm := ({ frames := 1, cells := 0, slots := 0, locals := 15 } : Room)) (rm6 l Z a0 hw [] (7 : Int32) T170.heap) hZ (hw _ (List.mem_of_getElem? (i := 31) rfl)) (hw _ (List.mem_of_getElem? (i := 30) rfl)) (by decide) (by decide)) (g := (mkF m 95 #[.val (.int p1), .val (.int (7 : Int32)), .val (.ref o149), .val (.long f3_7), .second, .val (.long f3_8), .second] [(.int (7 : Int32)), (.long f3_7)])) rfl (by rw [hml]; rfl) (argsL := [(.int (7 : Int32))]) (rest := [(.long f3_7)]) (lenOf pd__I_J rfl) rfl (by show 2 * 0 + _ ≤ _; exact Nat.le_of_eq rfl) (hb hby at_95) (fun _ _ => ⟨rfl, e172, (by decide : 1 + 0 ≤ _), (by decide : 1 + 0 ≤ _)⟩)
                  dsimp only [Pt.U, Pt.locs, Pt.cells, Pt.slots] at X173 l173 y173 z173 st173 hQ173
                  subst l173 y173 z173
                  obtain ⟨rfl, rfl, e173⟩ := hQ173
                  refine own_st st173 ?_
                  have N173 := Fr.app N172 (Fr.nil n0)
                  show OG p e _ s below _ T173 (mkF m 98 #[.val (.int p1), .val (.int (7 : Int32)), .val (.ref o149), .val (.long f3_7), .second, .val (.long f3_8), .second] [(.long (f6 (7 : Int32))), (.long f3_7)])
                  refine own_st (fun t k => XS.lcmp X173.here hx rfl (hb hby at_98) rfl k) ?_
                  show OG p e _ s below _ T173 (mkF m 99 #[.val (.int p1), .val (.int (7 : Int32)), .val (.ref o149), .val (.long f3_7), .second, .val (.long f3_8), .second] [(.int (lcmpW f3_7 (f6 (7 : Int32))))])
                  by_cases c174 : f3_7 = (f6 (7 : Int32))
                  · refine own_st (fun t k => XS.ifNo X173.here hx rfl (hb hby at_99) rfl (own_if0 (teq ((lw_eq _ _).mpr c174)).2) k) ?_
                    show OG p e _ s below _ T173 (mkF m 102 #[.val (.int p1), .val (.int (7 : Int32)), .val (.ref o149), .val (.long f3_7), .second, .val (.long f3_8), .second] [])
                    refine own_st (fun t k => XS.lload X173.here hx rfl (hb hby at_102) rfl k) ?_
                    show OG p e _ s below _ T173 (mkF m 104 #[.val (.int p1), .val (.int (7 : Int32)), .val (.ref o149), .val (.long f3_7), .second, .val (.long f3_8), .second] [(.long f3_8)])
                    refine own_st (fun t k => XS.iloadN X173.here hx rfl (hb hby at_104) rfl k) ?_
                    show OG p e _ s below _ T173 (mkF m 105 #[.val (.int p1), .val (.int (7 : Int32)), .val (.ref o149), .val (.long f3_7), .second, .val (.long f3_8), .second] [(.int (7 : Int32)), (.long f3_8)])
                    refine own_st (fun t k => XS.iconst X173.here hx rfl (hb hby at_105) k) ?_
                    show OG p e _ s below _ T173 (mkF m 106 #[.val (.int p1), .val (.int (7 : Int32)), .val (.ref o149), .val (.long f3_7), .second, .val (.long f3_8), .second] [(.int (1 : Int32)), (.int (7 : Int32)), (.long f3_8)])
                    refine own_st (fun t k => XS.iadd X173.here hx rfl (hb hby at_106) rfl k) ?_
                    show OG p e _ s below _ T173 (mkF m 107 #[.val (.int p1), .val (.int (7 : Int32)), .val (.ref o149), .val (.long f3_7), .second, .val (.long f3_8), .second] [(.int (8 : Int32)), (.long f3_8)])
                    obtain ⟨_, _, ⟨T175, L175, k175, n175⟩, -, X175, ⟨Lc175, hQ175, l175, y175, z175⟩, st175⟩ := Jvm.LawKit.callS X173 hx (y := (⟨"com/example/tidewire/tidewire/internal/BackoffAttemptedPinLaw", "ref", "(I)J"⟩ : MethodName)) hown (mvT hZ (hw _ (List.mem_of_getElem? (i := 28) rfl))) (mvT hZ (hw _ (List.mem_of_getElem? (i := 29) rfl))) (mvT hZ (hw _ (List.mem_of_getElem? (i := 30) rfl))) (mvT hZ (hw _ (List.mem_of_getElem? (i := 31) rfl))) (by decide) (backOf (W := 2) (rm := ({ frames := 1, cells := 0, slots := 0, locals := 15 } : Room)) (rm6 l Z a0 hw [] (8 : Int32) T170.heap) hZ (hw _ (List.mem_of_getElem? (i := 31) rfl)) (hw _ (List.mem_of_getElem? (i := 30) rfl)) (by decide) (by decide)) (g := (mkF m 107 #[.val (.int p1), .val (.int (7 : Int32)), .val (.ref o149), .val (.long f3_7), .second, .val (.long f3_8), .second] [(.int (8 : Int32)), (.long f3_8)])) rfl (by rw [hml]; rfl) (argsL := [(.int (8 : Int32))]) (rest := [(.long f3_8)]) (lenOf pd__I_J rfl) rfl (by show 2 * 0 + _ ≤ _; exact Nat.le_of_eq rfl) (hb hby at_107) (fun _ _ => ⟨rfl, e173, (by decide : 1 + 0 ≤ _), (by decide : 1 + 0 ≤ _)⟩)
                    dsimp only [Pt.U, Pt.locs, Pt.cells, Pt.slots] at X175 l175 y175 z175 st175 hQ175
                    subst l175 y175 z175
                    obtain ⟨rfl, rfl, e175⟩ := hQ175
                    refine own_st st175 ?_
                    have N175 := Fr.app N173 (Fr.nil n0)
                    show OG p e _ s below _ T175 (mkF m 110 #[.val (.int p1), .val (.int (7 : Int32)), .val (.ref o149), .val (.long f3_7), .second, .val (.long f3_8), .second] [(.long (f6 (8 : Int32))), (.long f3_8)])
                    refine own_st (fun t k => XS.lcmp X175.here hx rfl (hb hby at_110) rfl k) ?_
                    show OG p e _ s below _ T175 (mkF m 111 #[.val (.int p1), .val (.int (7 : Int32)), .val (.ref o149), .val (.long f3_7), .second, .val (.long f3_8), .second] [(.int (lcmpW f3_8 (f6 (8 : Int32))))])
                    by_cases c176 : f3_8 = (f6 (8 : Int32))
                    · refine own_st (fun t k => XS.ifNo X175.here hx rfl (hb hby at_111) rfl (own_if0 (teq ((lw_eq _ _).mpr c176)).2) k) ?_
                      show OG p e _ s below _ T175 (mkF m 114 #[.val (.int p1), .val (.int (7 : Int32)), .val (.ref o149), .val (.long f3_7), .second, .val (.long f3_8), .second] [])
                      refine own_st (fun t k => XS.iconst X175.here hx rfl (hb hby at_114) k) ?_
                      show OG p e _ s below _ T175 (mkF m 115 #[.val (.int p1), .val (.int (7 : Int32)), .val (.ref o149), .val (.long f3_7), .second, .val (.long f3_8), .second] [(.int (1 : Int32))])
                      refine own_st (fun t k => XS.goto X175.here hx rfl (pc0 := 115) (pc' := 119) rfl (hb hby at_115) (by decide) (by decide) k) ?_
                      show OG p e _ s below _ T175 (mkF m 119 #[.val (.int p1), .val (.int (7 : Int32)), .val (.ref o149), .val (.long f3_7), .second, .val (.long f3_8), .second] [(.int (1 : Int32))])
                      refine own_retZ X175 hx (t := .boolean) hret (by simp) hlk (hb hby at_119) (by decide) (by decide) (w := (1 : Int32)) rfl ?_
                      exact ⟨congrArg (fun z => some (Value.int z)) (show f0 p1 = (1 : Int32) from (by rw [f0, if_neg c1, if_neg c16, if_neg c33, if_neg c52, if_neg c73, if_neg c96, if_neg c121, if_pos c148, if_pos c174, if_pos c176])).symm, N175⟩
                    · refine own_st (fun t k => XS.ifYes X175.here hx rfl (pc0 := 111) (pc' := 118) rfl (hb hby at_111) rfl (own_if0 (feq (fun q => c176 ((lw_eq _ _).mp q))).2) (by decide) (by decide) k) ?_
                      show OG p e _ s below _ T175 (mkF m 118 #[.val (.int p1), .val (.int (7 : Int32)), .val (.ref o149), .val (.long f3_7), .second, .val (.long f3_8), .second] [])
                      refine own_st (fun t k => XS.iconst X175.here hx rfl (hb hby at_118) k) ?_
                      show OG p e _ s below _ T175 (mkF m 119 #[.val (.int p1), .val (.int (7 : Int32)), .val (.ref o149), .val (.long f3_7), .second, .val (.long f3_8), .second] [(.int (0 : Int32))])
                      refine own_retZ X175 hx (t := .boolean) hret (by simp) hlk (hb hby at_119) (by decide) (by decide) (w := (0 : Int32)) rfl ?_
                      exact ⟨congrArg (fun z => some (Value.int z)) (show f0 p1 = (0 : Int32) from (by rw [f0, if_neg c1, if_neg c16, if_neg c33, if_neg c52, if_neg c73, if_neg c96, if_neg c121, if_pos c148, if_pos c174, if_neg c176])).symm, N175⟩
                  · refine own_st (fun t k => XS.ifYes X173.here hx rfl (pc0 := 99) (pc' := 118) rfl (hb hby at_99) rfl (own_if0 (feq (fun q => c174 ((lw_eq _ _).mp q))).2) (by decide) (by decide) k) ?_
                    show OG p e _ s below _ T173 (mkF m 118 #[.val (.int p1), .val (.int (7 : Int32)), .val (.ref o149), .val (.long f3_7), .second, .val (.long f3_8), .second] [])
                    refine own_st (fun t k => XS.iconst X173.here hx rfl (hb hby at_118) k) ?_
                    show OG p e _ s below _ T173 (mkF m 119 #[.val (.int p1), .val (.int (7 : Int32)), .val (.ref o149), .val (.long f3_7), .second, .val (.long f3_8), .second] [(.int (0 : Int32))])
                    refine own_retZ X173 hx (t := .boolean) hret (by simp) hlk (hb hby at_119) (by decide) (by decide) (w := (0 : Int32)) rfl ?_
                    exact ⟨congrArg (fun z => some (Value.int z)) (show f0 p1 = (0 : Int32) from (by rw [f0, if_neg c1, if_neg c16, if_neg c33, if_neg c52, if_neg c73, if_neg c96, if_neg c121, if_pos c148, if_neg c174])).symm, N173⟩
                · skip
                  exact (own_range p1 c1 c16 c33 c52 c73 c96 c121 c148).elim
/-! the plain law -/
theorem own_law (p1 : Int32) : f0 p1 = 1 := by
  have e0 : f3_0 = f6 0 := by decide
  have e1 : f3_1 = f6 1 := by decide
  have e2 : f3_2 = f6 2 := by decide
  have e3 : f3_3 = f6 3 := by decide
  have e4 : f3_4 = f6 4 := by decide
  have e5 : f3_5 = f6 5 := by decide
  have e6 : f3_6 = f6 6 := by decide
  have e7 : f3_7 = f6 7 := by decide
  have e8 : f3_8 = f6 8 := by decide
  simp only [f0, if_pos e0, if_pos e1, if_pos e2, if_pos e3, if_pos e4, if_pos e5, if_pos e6, if_pos e7, if_pos e8]
  repeat' split
  all_goals first | rfl | (exfalso; apply own_range p1 <;> assumption)

theorem own_met (l : Launch) (Z : State) (a0 : Array Value) (hw : ∀ d ∈ tables_1, d.before a0 Z = true) (ws : List Jvm.Cond) (p1 : Int32) (h0 : Heap) :
    OMet l Z x code maxLocals ret ws room_1 #[(.int p1)] h0 (fun v h L => v = some (.int 1) ∧ Fr h0.size L) := by
  intro p e ha hc hk s m args below hf happ hP hK
  obtain ⟨n, o, h1, h2, h3, v, L, ho, ⟨hv, hL⟩, hq⟩ := rm0 l Z a0 hw ws p1 h0 h0.size (Nat.le_refl _) p e ha hc hk s m args below hf happ hP hK
  rw [own_law] at hv
  exact ⟨n, o, h1, h2, h3, v, L, ho, ⟨hv, hL⟩, hq⟩
set_option maxRecDepth 65536 in
set_option maxHeartbeats 40000000 in
theorem comes_1 {Post : Tables → Env → Array Value → State → Outcome → State → Prop} (hpost : ∀ tb e args s v u, (limb_1_1.after args s (.returned v) u = true ∧ limb_1_2.after args s (.returned v) u = true ∧ True) → FrameEnd s (.returned v) u (Jvm.fieldLocs frame_1_writes args s ++ Jvm.arrayLocs frame_1_arrays args s ++ Jvm.staticLocs frame_1_statics s) 16 128 → Post tb e args s (.returned v) u) :
    ArmFor flags0 classFile x code maxLocals ret World_1 tables_1 room_1 Calls_1 rest_1 Pre_1 Post := by
  intro l hfl _ _ p e ha hc hk s m args below hf hA hF happ hP
  obtain ⟨hcalls, hrest, hpre⟩ := hP
  obtain ⟨-, -, -, hnamed, -, -, -, hat⟩ := (Spec.applies_iff hf).mp happ
  obtain ⟨hg, hn⟩ := and_e (Cond.before_iff.mp (show (Jvm.Cond.and given_1 narrow_1).before args s = true from hpre))
  obtain ⟨h1, g0⟩ := and_e hg
  obtain ⟨w0, rfl⟩ : ∃ w0 : Value, args = #[w0] := by
    have hs : args.size = 1 := by simpa [Cond.value, given_1] using h1
    obtain ⟨L⟩ := args
    match L, hs with
    | [w0], _ => exact ⟨w0, rfl⟩
  have hw := fun d (hd : d ∈ tables_1) => atoms_spec (ws := Jvm.Cond.code x code maxLocals ret :: tables_1) hat d (List.mem_cons_of_mem _ hd)
  obtain ⟨i0, e0⟩ := is_v g0
  obtain rfl : w0 = (.int i0) := Option.some.inj e0
  obtain ⟨n, o, h1, h2, h3, _, L, rfl, ⟨rfl, N⟩, hq⟩ := own_met l s _ hw tables_1 i0 s.heap p e ha hc hk s m _ below hf ((Spec.applies_iff_loose hf).mp happ).1 ⟨rfl, State.Warmed39.refl s, rfl⟩ trivial
  refine ⟨n, _, h1, h2, h3, hpost _ _ _ _ _ _ ⟨Cond.after_iff.mpr rfl, Cond.after_iff.mpr (eq_i res_at (Term.int_eval (1)) rfl), trivial⟩ ⟨hq.1, hq.2.1, (hq.2.2.sift fun y hy => Or.inr (N y hy)).mono (by decide) (by decide)⟩⟩
theorem main_1_1 : Claimed_1_1 := comes_1 fun _ _ _ _ _ _ h hF => ⟨h.1, hF⟩
theorem main_1_2 : Claimed_1_2 := comes_1 fun _ _ _ _ _ _ h hF => ⟨h.2.1, hF⟩
end Jvm.Pilot.@@N@@
namespace Jvm.Pilot.@@N@@
open Jvm Jvm.ClassFile Sem Op Lib Jvm.Free Jvm.Stand Jvm.Pilot.@@N@@.Jvm.D
/-! MADE BY PROGRAM (witnessworld.py) out of the Statement's table words and the real class files: 10 classes; the members and pool entries that the words name. The judged class is class 1, her method 2. -/
namespace start1
open Jvm.ClassFile
def u (s : String) : CpInfo := .utf8 (stringToUtf16 s)
/-- a pool by its gaps: so many unusable entries, then the entry; so many at the end -/
def gap : Nat → List CpInfo → List CpInfo
  | 0, r => r
  | n + 1, r => .unusable :: gap n r
def poolList (es : List (Nat × CpInfo)) (last : Nat) : List CpInfo := es.foldr (fun e r => gap e.1 (e.2 :: r)) (gap last [])
def pool (es : List (Nat × CpInfo)) (last : Nat) : Array CpInfo := ⟨poolList es last⟩
def fileOf (pool : Array CpInfo) (this : Nat) (attrs : Array Attribute := #[]) (ms : Array MethodInfo := #[]) (fl : Nat := 33) (sup : Nat := 0) (ifs : Array Nat := #[]) (fds : Array FieldInfo := #[]) : ClassFile where
  minorVersion := 0
  majorVersion := 65
  constantPool := pool
  accessFlags := fl
  thisClass := this
  superClass := sup
  interfaces := ifs
  fields := fds
  methods := ms
  attributes := attrs
def plain (name : String) (sup : Option ClassId) : Class where
  name := name
  kind := .ordinary
  loader := none
  accessFlags := 33
  super := sup
  interfaces := #[]
  cf := none
  fields := #[]
  methods := #[]
  instanceTypes := #[]
  staticTypes := #[]
  resolved := #[]
  callSites := []
  init := .initialized
  statics := none
  mirror := none

def pool0 : Array CpInfo := pool [(5, u "<init>"), (0, u "()V"), (1, .class_ 10), (1, u "java/lang/Object")] 113

def k0c0 : Code := { maxStack := 0, maxLocals := 1, code := object_method_1_code, exceptionTable := #[], attributes := #[] }
def k0m0 : Method := { name := "<init>", desc := "()V", sig := { parameters := [], returnType := none }, accessFlags := 1, code := some k0c0 }
/-- java/lang/Object -/
def k0 : Class := { plain "java/lang/Object" none with
  accessFlags := 33
  interfaces := #[]
  cf := some (fileOf pool0 8 #[] #[{ accessFlags := 1, nameIndex := 5, descriptorIndex := 6, attributes := #[] }] 33 0 #[] #[])
  fields := #[]
  methods := #[k0m0]
  instanceTypes := #[]
  staticTypes := #[]
  resolved := Array.replicate 124 none
  statics := none }

def pool1 : Array CpInfo := pool [(2, .class_ 4), (0, .nameAndType 5 6), (0, u "java/lang/Object"), (0, u "<init>"), (0, u "()V"), (0, .long 250), (1, .long 10000), (1, .methodref 12 13), (0, .class_ 14), (0, .nameAndType 15 16), (0, u "java/lang/Math"), (0, u "min"), (0, u "(JJ)J"), (0, .class_ 18), (0, u "com/example/tidewire/tidewire/internal/Backoff"), (0, .methodref 17 3), (0, .methodref 17 21), (0, .nameAndType 22 6), (0, u "attempted"), (0, .methodref 17 24), (0, .nameAndType 25 26), (0, u "delayMs"), (0, u "()J"), (0, .methodref 28 29), (0, .class_ 30), (0, .nameAndType 31 32), (0, u "com/example/tidewire/tidewire/internal/BackoffAttemptedPinLaw"), (0, u "ref"), (0, u "(I)J"), (3, u "law"), (0, u "(I)Z")] 2

def k1m0 : Method := { name := "<init>", desc := "()V", sig := { parameters := [], returnType := none }, accessFlags := 1, code := none }
def k1c1 : Code := { maxStack := 4, maxLocals := 3, code := method_2_code, exceptionTable := #[], attributes := #[] }
def k1m1 : Method := { name := "ref", desc := "(I)J", sig := { parameters := [.int], returnType := some .long }, accessFlags := 10, code := some k1c1 }
def k1c2 : Code := { maxStack := 4, maxLocals := 7, code := code, exceptionTable := #[], attributes := #[] }
def k1m2 : Method := { name := "law", desc := "(I)Z", sig := { parameters := [.int], returnType := some .boolean }, accessFlags := 9, code := some k1c2 }
/-- com/example/tidewire/tidewire/internal/BackoffAttemptedPinLaw -/
def k1 : Class := { plain "com/example/tidewire/tidewire/internal/BackoffAttemptedPinLaw" (some 0) with
  accessFlags := 49
  interfaces := #[]
  cf := some (fileOf pool1 28 #[] #[{ accessFlags := 1, nameIndex := 5, descriptorIndex := 6, attributes := #[] }, { accessFlags := 10, nameIndex := 31, descriptorIndex := 32, attributes := #[] }, { accessFlags := 9, nameIndex := 36, descriptorIndex := 37, attributes := #[] }] 49 2 #[] #[])
  fields := #[]
  methods := #[k1m0, k1m1, k1m2]
  instanceTypes := #[]
  staticTypes := #[]
  resolved := Array.replicate 40 none
  statics := none }

def pool2 : Array CpInfo := pool [(1, .methodref 2 3), (0, .class_ 4), (0, .nameAndType 5 6), (0, u "java/lang/Object"), (0, u "<init>"), (0, u "()V"), (0, .fieldref 8 9), (0, .class_ 10), (0, .nameAndType 11 12), (0, u "com/example/tidewire/tidewire/internal/Backoff"), (0, u "attempts"), (0, u "I"), (0, .long 250), (1, .long 10000), (1, .long 2), (1, .methodref 20 21), (0, .class_ 22), (0, .nameAndType 23 24), (0, u "java/lang/Math"), (0, u "min"), (0, u "(JJ)J"), (2, .integer 2147483647), (0, u "FIRST_WAIT_MS"), (0, u "J"), (1, u "MAX_WAIT_MS"), (2, u "delayMs"), (0, u "()J"), (1, u "attempted")] 3

def k2c0 : Code := { maxStack := 1, maxLocals := 1, code := prog_2_method_1_code, exceptionTable := #[], attributes := #[] }
def k2m0 : Method := { name := "<init>", desc := "()V", sig := { parameters := [], returnType := none }, accessFlags := 1, code := some k2c0 }
def k2c1 : Code := { maxStack := 4, maxLocals := 4, code := prog_2_method_2_code, exceptionTable := #[], attributes := #[] }
def k2m1 : Method := { name := "delayMs", desc := "()J", sig := { parameters := [], returnType := some .long }, accessFlags := 1, code := some k2c1 }
def k2c2 : Code := { maxStack := 3, maxLocals := 1, code := prog_2_method_3_code, exceptionTable := #[], attributes := #[] }
def k2m2 : Method := { name := "attempted", desc := "()V", sig := { parameters := [], returnType := none }, accessFlags := 1, code := some k2c2 }
/-- com/example/tidewire/tidewire/internal/Backoff -/
def k2 : Class := { plain "com/example/tidewire/tidewire/internal/Backoff" (some 0) with
  accessFlags := 49
  interfaces := #[]
  cf := some (fileOf pool2 8 #[] #[{ accessFlags := 1, nameIndex := 5, descriptorIndex := 6, attributes := #[] }, { accessFlags := 1, nameIndex := 34, descriptorIndex := 35, attributes := #[] }, { accessFlags := 1, nameIndex := 37, descriptorIndex := 6, attributes := #[] }] 49 2 #[] #[{ accessFlags := 26, nameIndex := 28, descriptorIndex := 29, attributes := #[] }, { accessFlags := 26, nameIndex := 31, descriptorIndex := 29, attributes := #[] }, { accessFlags := 2, nameIndex := 11, descriptorIndex := 12, attributes := #[] }])
  fields := #[{ name := "FIRST_WAIT_MS", type := .long, accessFlags := 26, slot := 0, constantValue := 0 }, { name := "MAX_WAIT_MS", type := .long, accessFlags := 26, slot := 1, constantValue := 0 }, { name := "attempts", type := .int, accessFlags := 2, slot := 0, constantValue := 0 }]
  methods := #[k2m0, k2m1, k2m2]
  instanceTypes := #[.int]
  staticTypes := #[.long, .long]
  resolved := Array.replicate 41 none
  statics := none }

def pool3 : Array CpInfo := pool [(1, .class_ 2), (0, u "java/lang/Math"), (1, .class_ 6), (1, u "java/lang/Object"), (0, u "<init>"), (0, u "()V"), (89, .class_ 100), (1, u "java/lang/Math$RandomNumberGeneratorHolder"), (20, u "(JJ)J"), (50, u "negativeZeroFloatBits"), (0, u "J"), (2, u "negativeZeroDoubleBits"), (24, u "min"), (43, u "$assertionsDisabled"), (0, u "Z"), (91, u "twoToTheDoubleScaleDown"), (0, u "D"), (4, u "twoToTheDoubleScaleUp"), (9, u "E"), (3, u "PI"), (2, u "TAU"), (2, u "DEGREES_TO_RADIANS"), (0, u "RADIANS_TO_DEGREES")] 94

def k3m0 : Method := { name := "<init>", desc := "()V", sig := { parameters := [], returnType := none }, accessFlags := 2, code := none }
def k3c1 : Code := { maxStack := 4, maxLocals := 4, code := jdk_29_method_70_code, exceptionTable := #[], attributes := #[] }
def k3m1 : Method := { name := "min", desc := "(JJ)J", sig := { parameters := [.long, .long], returnType := some .long }, accessFlags := 9, code := some k3c1 }
/-- java/lang/Math -/
def k3 : Class := { plain "java/lang/Math" (some 0) with
  accessFlags := 49
  interfaces := #[]
  cf := some (fileOf pool3 1 #[.nestMembers #[98]] #[{ accessFlags := 2, nameIndex := 7, descriptorIndex := 8, attributes := #[] }, { accessFlags := 9, nameIndex := 201, descriptorIndex := 121, attributes := #[] }] 49 4 #[] #[{ accessFlags := 25, nameIndex := 354, descriptorIndex := 339, attributes := #[] }, { accessFlags := 25, nameIndex := 358, descriptorIndex := 339, attributes := #[] }, { accessFlags := 25, nameIndex := 361, descriptorIndex := 339, attributes := #[] }, { accessFlags := 26, nameIndex := 364, descriptorIndex := 339, attributes := #[] }, { accessFlags := 26, nameIndex := 365, descriptorIndex := 339, attributes := #[] }, { accessFlags := 26, nameIndex := 172, descriptorIndex := 173, attributes := #[] }, { accessFlags := 26, nameIndex := 176, descriptorIndex := 173, attributes := #[] }, { accessFlags := 8, nameIndex := 344, descriptorIndex := 339, attributes := #[] }, { accessFlags := 8, nameIndex := 338, descriptorIndex := 339, attributes := #[] }, { accessFlags := 4120, nameIndex := 245, descriptorIndex := 246, attributes := #[] }])
  fields := #[{ name := "E", type := .double, accessFlags := 25, slot := 0, constantValue := 0 }, { name := "PI", type := .double, accessFlags := 25, slot := 1, constantValue := 0 }, { name := "TAU", type := .double, accessFlags := 25, slot := 2, constantValue := 0 }, { name := "DEGREES_TO_RADIANS", type := .double, accessFlags := 26, slot := 3, constantValue := 0 }, { name := "RADIANS_TO_DEGREES", type := .double, accessFlags := 26, slot := 4, constantValue := 0 }, { name := "negativeZeroFloatBits", type := .long, accessFlags := 26, slot := 5, constantValue := 0 }, { name := "negativeZeroDoubleBits", type := .long, accessFlags := 26, slot := 6, constantValue := 0 }, { name := "twoToTheDoubleScaleUp", type := .double, accessFlags := 8, slot := 7, constantValue := 0 }, { name := "twoToTheDoubleScaleDown", type := .double, accessFlags := 8, slot := 8, constantValue := 0 }, { name := "$assertionsDisabled", type := .boolean, accessFlags := 4120, slot := 9, constantValue := 0 }]
  methods := #[k3m0, k3m1]
  instanceTypes := #[]
  staticTypes := #[.double, .double, .double, .double, .double, .long, .long, .double, .double, .boolean]
  resolved := Array.replicate 460 none
  statics := none }

def pool4 : Array CpInfo := pool [(1, u "java/lang/Cloneable"), (0, .class_ 1), (0, u "java/lang/Object"), (0, .class_ 3)] 3

/-- java/lang/Cloneable -/
def k4 : Class := { plain "java/lang/Cloneable" (some 0) with
  accessFlags := 1537
  interfaces := #[]
  cf := some (fileOf pool4 2 #[] #[] 1537 4 #[] #[])
  fields := #[]
  methods := #[]
  instanceTypes := #[]
  staticTypes := #[]
  resolved := Array.replicate 8 none
  statics := none }

def pool5 : Array CpInfo := pool [(1, u "java/io/Serializable"), (0, .class_ 1), (0, u "java/lang/Object"), (0, .class_ 3)] 3

/-- java/io/Serializable -/
def k5 : Class := { plain "java/io/Serializable" (some 0) with
  accessFlags := 1537
  interfaces := #[]
  cf := some (fileOf pool5 2 #[] #[] 1537 4 #[] #[])
  fields := #[]
  methods := #[]
  instanceTypes := #[]
  staticTypes := #[]
  resolved := Array.replicate 8 none
  statics := none }

/-- the primitive byte -/
def k6 : Class := { plain "byte" none with kind := .primitive 'B', accessFlags := 0x411 }
/-- [B -/
def k7 : Class := { plain "[B" (some 0) with kind := .array 6 .byte, interfaces := #[4, 5], accessFlags := 1041 }

/-- the primitive int -/
def k8 : Class := { plain "int" none with kind := .primitive 'I', accessFlags := 0x411 }
/-- [I -/
def k9 : Class := { plain "[I" (some 0) with kind := .array 8 .int, interfaces := #[4, 5], accessFlags := 1041 }

def heap : Heap := #[]
def classes : Array Class := #[k0, k1, k2, k3, k4, k5, k6, k7, k8, k9]
def interned : List (Array UInt16 × Addr) := []
def slotsUsed : Nat := 0
def theMethod : MethodId := ⟨1, 2⟩
def args0 : Array Value := #[.int 5]
def aboutOver (below : List Frame) : State where
  vm := { classes := classes, interned := interned.toArray }
  heap := heap
  slotsUsed := slotsUsed
  threads := #[{ frames := .invoking theMethod args0 :: below }]
def below0 : List Frame := [.native { method := ⟨0, 0⟩, args := #[] }]
def about1 : State := aboutOver below0
def p0 : Program := .bare "" "" ""
def e0 : Env := launch0.env 0 0 0
theorem w_frames : about1.frames = Frame.invoking theMethod args0 :: below0 := rfl
set_option maxRecDepth 65536 in
theorem w_args : argsFit about1.vm theMethod args0 = true := by decide +kernel
set_option maxRecDepth 65536 in
theorem w_heap : heapFits about1 = true := by decide +kernel
set_option maxRecDepth 65536 in
theorem w_runnable : about1.curStatus? = some .runnable := by decide +kernel
set_option maxRecDepth 65536 in
theorem w_alone : about1.alone = true := by decide +kernel
set_option maxRecDepth 65536 in
theorem w_named : about1.methodNamed? x = some theMethod := by decide +kernel
set_option maxRecDepth 65536 in
theorem w_hears : about1.hears theMethod below0 = true := by decide +kernel
set_option maxRecDepth 65536 in
theorem w_ripe : about1.ripe theMethod args0 below0 = true := by decide +kernel
theorem w_running : about1.status = .running := rfl
set_option maxRecDepth 65536 in
theorem w_room : about1.hasRoom e0.platform room_1 = true :=
  launch0.hasRoom_least _ room_1 (by decide +kernel) (by decide +kernel) (by decide +kernel) (by decide +kernel) (by decide +kernel) (by decide +kernel)
theorem allAtoms_all (ts : List Jvm.Cond) (a : Array Jvm.Value) (st : Jvm.State) : (allAtoms ts).before a st = ts.all (fun c => c.before a st) := by
  induction ts with
  | nil => rfl
  | cons c t ih =>
    show (Jvm.Cond.and c (allAtoms t)).before a st = _
    rw [Jvm.Cond.before_and, ih, List.all_cons]
def words1 : List Jvm.Cond := Jvm.Cond.code x code maxLocals ret :: tables_1
/-- a 'code' word, met by the world's own term for the bytes: nothing is compared byte by byte -/
theorem code_word {y : MethodName} {bytes : ByteArray} {mx : Nat} {rt : Option FieldType} {a : Array Value} {s : State} {m : MethodId} {meth : Method} {c : Code} (h1 : s.methodNamed? y = some m) (h2 : s.vm.method? m = some meth) (h3 : meth.code = some c) (h4 : c.code = bytes)
    (h5 : (c.maxLocals == mx && c.exceptionTable.isEmpty && decide (c.maxStack ≤ mostOperands) && decide (meth.sig.returnType = rt) && !meth.locks && decide (parseMethodDescriptor y.desc = some meth.sig)) = true) : (Jvm.Cond.code y bytes mx rt).before a s = true := by
  simp only [Bool.and_eq_true, beq_iff_eq, Bool.not_eq_true', decide_eq_true_eq] at h5
  obtain ⟨⟨⟨⟨⟨g1, g2⟩, g3⟩, g4⟩, g5⟩, g6⟩ := h5
  simp [Cond.before, Cond.holds, Cond.value, h1, h2, h3, h4, g1, g2, g3, g4, g5, g6]
def isCode : Jvm.Cond → Bool
  | .code _ _ _ _ => true
  | _ => false
theorem all_split {L : List Jvm.Cond} {P : Jvm.Cond → Bool} (h1 : L.all (fun c => isCode c || P c) = true) (h2 : ∀ c ∈ L.filter isCode, P c = true) : L.all P = true := by
  refine List.all_eq_true.mpr fun c hc => ?_
  have h := List.all_eq_true.mp h1 c hc
  rcases Bool.eq_false_or_eq_true (isCode c) with hi | hi
  · exact h2 c (List.mem_filter.mpr ⟨hc, hi⟩)
  · simpa [hi] using h
set_option maxRecDepth 65536 in
theorem w_c0 : (Jvm.Cond.code x code maxLocals ret).before args0 about1 = true := code_word (m := ⟨1, 2⟩) (meth := k1m2) (c := k1c2) (by decide +kernel) rfl rfl rfl (by decide +kernel)
set_option maxRecDepth 65536 in
theorem w_c1 : (Jvm.Cond.code ({ cls := "com/example/tidewire/tidewire/internal/Backoff", name := "<init>", desc := "()V" } : Jvm.MethodName) prog_2_method_1_code (1 : Nat) (Option.none : Option Jvm.ClassFile.FieldType)).before args0 about1 = true := code_word (m := ⟨2, 0⟩) (meth := k2m0) (c := k2c0) (by decide +kernel) rfl rfl rfl (by decide +kernel)
set_option maxRecDepth 65536 in
theorem w_c2 : (Jvm.Cond.code ({ cls := "java/lang/Object", name := "<init>", desc := "()V" } : Jvm.MethodName) object_method_1_code (1 : Nat) (Option.none : Option Jvm.ClassFile.FieldType)).before args0 about1 = true := code_word (m := ⟨0, 0⟩) (meth := k0m0) (c := k0c0) (by decide +kernel) rfl rfl rfl (by decide +kernel)
set_option maxRecDepth 65536 in
theorem w_c3 : (Jvm.Cond.code ({ cls := "com/example/tidewire/tidewire/internal/Backoff", name := "delayMs", desc := "()J" } : Jvm.MethodName) prog_2_method_2_code (4 : Nat) (Option.some Jvm.ClassFile.FieldType.long)).before args0 about1 = true := code_word (m := ⟨2, 1⟩) (meth := k2m1) (c := k2c1) (by decide +kernel) rfl rfl rfl (by decide +kernel)
set_option maxRecDepth 65536 in
theorem w_c4 : (Jvm.Cond.code ({ cls := "com/example/tidewire/tidewire/internal/Backoff", name := "attempted", desc := "()V" } : Jvm.MethodName) prog_2_method_3_code (1 : Nat) (Option.none : Option Jvm.ClassFile.FieldType)).before args0 about1 = true := code_word (m := ⟨2, 2⟩) (meth := k2m2) (c := k2c2) (by decide +kernel) rfl rfl rfl (by decide +kernel)
set_option maxRecDepth 65536 in
theorem w_c5 : (Jvm.Cond.code ({ cls := "java/lang/Math", name := "min", desc := "(JJ)J" } : Jvm.MethodName) jdk_29_method_70_code (4 : Nat) (Option.some Jvm.ClassFile.FieldType.long)).before args0 about1 = true := code_word (m := ⟨3, 1⟩) (meth := k3m1) (c := k3c1) (by decide +kernel) rfl rfl rfl (by decide +kernel)
set_option maxRecDepth 65536 in
theorem w_c6 : (Jvm.Cond.code ({ cls := "com/example/tidewire/tidewire/internal/BackoffAttemptedPinLaw", name := "ref", desc := "(I)J" } : Jvm.MethodName) method_2_code (3 : Nat) (Option.some Jvm.ClassFile.FieldType.long)).before args0 about1 = true := code_word (m := ⟨1, 1⟩) (meth := k1m1) (c := k1c1) (by decide +kernel) rfl rfl rfl (by decide +kernel)
def codes1 : List Jvm.Cond := [Jvm.Cond.code x code maxLocals ret, Jvm.Cond.code ({ cls := "com/example/tidewire/tidewire/internal/Backoff", name := "<init>", desc := "()V" } : Jvm.MethodName) prog_2_method_1_code (1 : Nat) (Option.none : Option Jvm.ClassFile.FieldType), Jvm.Cond.code ({ cls := "java/lang/Object", name := "<init>", desc := "()V" } : Jvm.MethodName) object_method_1_code (1 : Nat) (Option.none : Option Jvm.ClassFile.FieldType), Jvm.Cond.code ({ cls := "com/example/tidewire/tidewire/internal/Backoff", name := "delayMs", desc := "()J" } : Jvm.MethodName) prog_2_method_2_code (4 : Nat) (Option.some Jvm.ClassFile.FieldType.long), Jvm.Cond.code ({ cls := "com/example/tidewire/tidewire/internal/Backoff", name := "attempted", desc := "()V" } : Jvm.MethodName) prog_2_method_3_code (1 : Nat) (Option.none : Option Jvm.ClassFile.FieldType), Jvm.Cond.code ({ cls := "java/lang/Math", name := "min", desc := "(JJ)J" } : Jvm.MethodName) jdk_29_method_70_code (4 : Nat) (Option.some Jvm.ClassFile.FieldType.long), Jvm.Cond.code ({ cls := "com/example/tidewire/tidewire/internal/BackoffAttemptedPinLaw", name := "ref", desc := "(I)J" } : Jvm.MethodName) method_2_code (3 : Nat) (Option.some Jvm.ClassFile.FieldType.long)]
set_option maxRecDepth 65536 in
theorem codes_eq : words1.filter isCode = codes1 := rfl
theorem w_codes : ∀ c ∈ words1.filter isCode, c.before args0 about1 = true := by
  rw [codes_eq]
  intro c hc
  simp only [codes1, List.mem_cons, List.not_mem_nil, or_false] at hc
  rcases hc with rfl | rfl | rfl | rfl | rfl | rfl | rfl
  · exact w_c0
  · exact w_c1
  · exact w_c2
  · exact w_c3
  · exact w_c4
  · exact w_c5
  · exact w_c6
set_option maxRecDepth 65536 in
theorem w_t1 : (words1.take 24).all (fun c => isCode c || c.before args0 about1) = true := by decide +kernel
set_option maxRecDepth 65536 in
theorem w_t2 : (words1.drop 24).all (fun c => isCode c || c.before args0 about1) = true := by decide +kernel
theorem w_tables : (allAtoms (Jvm.Cond.code x code maxLocals ret :: tables_1)).before args0 about1 = true := by
  rw [allAtoms_all]
  show words1.all (fun c => c.before args0 about1) = true
  refine all_split ?_ w_codes
  rw [← List.take_append_drop 24 words1, List.all_append, w_t1, w_t2]
  rfl
set_option maxRecDepth 65536 in
theorem w_case : (Jvm.Cond.and given_1 narrow_1).before args0 about1 = true := by decide +kernel
theorem w_applies : (headSpec (Jvm.Cond.code x code maxLocals ret :: tables_1) room_1).applies x e0.platform about1 = true :=
  (Spec.applies_iff w_frames).mpr ⟨w_running, w_runnable, w_alone, w_named, w_hears, w_ripe, w_room, w_tables⟩
theorem atStart : AtStart classFile x code maxLocals ret World_1 tables_1 room_1 Calls_1 rest_1 Pre_1 launch0 p0 e0 about1 theMethod args0 below0 :=
  ⟨lists_1, trivial, launch0.admits_env _ _ _, launch0.least_env, fairChoices_fair.cas, fairChoices_fair.clock, w_frames, w_args, w_heap, w_applies, trivial, trivial, w_case⟩
end start1
theorem witness_1 : WitnessClaimed_1 := ⟨start1.p0, start1.e0, start1.about1, start1.theMethod, start1.args0, start1.below0, start1.atStart⟩
end Jvm.Pilot.@@N@@
