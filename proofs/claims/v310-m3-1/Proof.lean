import JvmDerived
import JvmDerived.Pilot.@@N@@Statement
import JvmDerived.Pilot.@@N@@Code
set_option linter.unusedVariables false
set_option linter.unusedSimpArgs false
namespace Jvm.Pilot.@@N@@
open Jvm Jvm.ClassFile Sem Op Lib Jvm.Free Jvm.Stand Jvm.LawKit Jvm.RoadKit Bundle Jvm.Pilot.@@N@@.Jvm.D
/-! what a body's walk owes, in the manner of a continuation -/
section Own
variable {p : Program} {l : Launch} {e : Env} {R : Room} {s : State} {m : MethodId} {args : Array Value} {below : List Frame} {meth : Method} {c : Code} {T T' : State} {locs : List Loc} {cells slots : Nat} {Q Q' : Option Value → Heap → List Loc → Prop}
abbrev OMet (l : Launch) (Z : State) (y : MethodName) (bytes : ByteArray) (maxL : Nat) (ret : Option FieldType) (ws : List Jvm.Cond) (rm : Room) (as : Array Value) (h0 : Heap) (Q : Option Value → Heap → List Loc → Prop) : Prop :=
  MetFree l y (head1 (Jvm.Cond.code y bytes maxL ret :: ws) rm) (fun a U => a = as ∧ Z.Warmed39 U.vm ∧ U.heap = h0) (fun _ _ _ _ _ => True) (fun _ U o U' => ∃ v L, o = .returned v ∧ Q v U'.heap L ∧ FrameEnd U o U' L rm.cells rm.slots)
def OG (p : Program) (e : Env) (R : Room) (s : State) (below : List Frame) (Q : Option Value → Heap → List Loc → Prop) (T : State) (g : JFrame) : Prop :=
  ∃ s₂ o, Steps p.tables e below (T.setTop g) s₂ ∧ s₂.status = .running ∧ Ended s₂ below o ∧ ∃ v L, o = .returned v ∧ Q v s₂.heap L ∧ FrameEnd s o s₂ L R.cells R.slots
theorem own_st {g g' : JFrame} (h : ∀ t, Steps p.tables e below (T'.setTop g') t → Steps p.tables e below (T.setTop g) t) (k : OG p e R s below Q T' g') : OG p e R s below Q T g := by
  obtain ⟨s₂, o, h1, h2⟩ := k
  exact ⟨s₂, o, h _ h1, h2⟩
theorem own_sp {g g' : JFrame} {t : State} (h : ∀ t, Steps p.tables e below (T'.setTop g') t → Steps p.tables e below (T.setTop g) t) (k : Steps p.tables e below (T'.setTop g') t) : Steps p.tables e below (T.setTop g) t := h _ k
theorem own_cast {g g' : JFrame} (q : g = g') (k : OG p e R s below Q T g') : OG p e R s below Q T g := q ▸ k
theorem own_irr {x : Int64} : ¬ x < x := Int64.lt_irrefl
theorem own_if0 {cd : ClassFile.Cond} {x : Int32} {b : Bool} (h : if_icmp.holds cd x 0 = b) : ifCond.holds cd x = b := by rw [if0]; exact h
theorem own_retZ (X : Stand p l e R s m args below meth c T locs cells slots) (hx : p.tables.exec = Jvm.exec) {t : FieldType} (hret : meth.sig.returnType = some t) (ht : t = .boolean ∨ t = .byte ∨ t = .char ∨ t = .short) (hlk : meth.locks = false) {pc : Nat} {Ls : Array Slot} {z : Int32} {rest : List Value}
    (hd : decode c.code pc = .ok (.ireturn, 1)) (hc : cells ≤ R.cells) (hs : slots ≤ R.slots) {w : Int32} (hn : nar t z = w) (hq : Q (some (.int w)) T.heap locs) : OG p e R s below Q T (mkF m pc Ls (.int z :: rest)) := by
  subst hn
  obtain ⟨fs, hr, hrun, hended, hW, hsame⟩ := X.leave (v := some (.int (nar t z))) (fun h => by rw [hret] at h; cases h) hlk
  exact ⟨_, _, retN X hx hret ht hd hr, hrun, hended, _, _, rfl, hq, ⟨_, rfl⟩, hW, hsame.mono hc hs⟩
theorem own_retV (X : Stand p l e R s m args below meth c T locs cells slots) (hx : p.tables.exec = Jvm.exec) {t : FieldType} {i : Instr} {w : Value} (hret : meth.sig.returnType = some t) (hn : narrow t w = w)
    (hi : (i = .ireturn ∧ (t = .int ∨ t = .boolean ∨ t = .byte ∨ t = .char ∨ t = .short) ∧ ∃ z, w = .int z) ∨ (i = .lreturn ∧ t = .long ∧ ∃ z, w = .long z) ∨ (i = .dreturn ∧ t = .double ∧ ∃ z, w = .double z) ∨ (i = .freturn ∧ t = .float ∧ ∃ z, w = .float z) ∨ (i = .areturn ∧ t.isReference = true ∧ w.isRef = true))
    (hlk : meth.locks = false) {pc : Nat} {Ls : Array Slot} {rest : List Value}
    (hd : decode c.code pc = .ok (i, 1)) (hc : cells ≤ R.cells) (hs : slots ≤ R.slots) (hq : Q (some w) T.heap locs) : OG p e R s below Q T (mkF m pc Ls (w :: rest)) := by
  obtain ⟨fs, hr, hrun, hended, hW, hsame⟩ := X.leave (v := some w) (fun h => by rw [hret] at h; cases h) hlk
  exact ⟨_, _, retOut X hx hret hn hi hd hr, hrun, hended, _, _, rfl, hq, ⟨_, rfl⟩, hW, hsame.mono hc hs⟩
theorem own_retI (X : Stand p l e R s m args below meth c T locs cells slots) (hx : p.tables.exec = Jvm.exec) (hret : meth.sig.returnType = some .int) (hlk : meth.locks = false) {pc : Nat} {Ls : Array Slot} {z : Int32} {rest : List Value}
    (hd : decode c.code pc = .ok (.ireturn, 1)) (hc : cells ≤ R.cells) (hs : slots ≤ R.slots) (hq : Q (some (.int z)) T.heap locs) : OG p e R s below Q T (mkF m pc Ls (.int z :: rest)) :=
  own_retV X hx hret rfl (Or.inl ⟨rfl, Or.inl rfl, _, rfl⟩) hlk hd hc hs hq
theorem own_retL (X : Stand p l e R s m args below meth c T locs cells slots) (hx : p.tables.exec = Jvm.exec) (hret : meth.sig.returnType = some .long) (hlk : meth.locks = false) {pc : Nat} {Ls : Array Slot} {z : Int64} {rest : List Value}
    (hd : decode c.code pc = .ok (.lreturn, 1)) (hc : cells ≤ R.cells) (hs : slots ≤ R.slots) (hq : Q (some (.long z)) T.heap locs) : OG p e R s below Q T (mkF m pc Ls (.long z :: rest)) :=
  own_retV X hx hret rfl (Or.inr (Or.inl ⟨rfl, rfl, _, rfl⟩)) hlk hd hc hs hq
theorem own_ret0 (X : Stand p l e R s m args below meth c T locs cells slots) (hx : p.tables.exec = Jvm.exec) (hret : meth.sig.returnType = none) (hlk : meth.locks = false) {pc : Nat} {Ls : Array Slot}
    (hd : decode c.code pc = .ok (.return_, 1)) (hc : cells ≤ R.cells) (hs : slots ≤ R.slots) (hq : Q none T.heap locs) : OG p e R s below Q T (mkF m pc Ls []) := by
  obtain ⟨fs, hr, hrun, hended, hW, hsame⟩ := X.leave (v := none) (fun _ => rfl) hlk
  exact ⟨_, _, X.returnOut hx hret hd hr, hrun, hended, _, _, rfl, hq, ⟨_, rfl⟩, hW, hsame.mono hc hs⟩
theorem own_enter {Z : State} {y : MethodName} {bytes : ByteArray} {maxL : Nat} {ret : Option FieldType} {ws : List Jvm.Cond} {rm : Room} {as : Array Value} {h0 : Heap} (hp : plainFor y = true)
    (body : ∀ (p : Program) (e : Env) (s : State) (m : MethodId) (below : List Frame) (meth : Method) (c : Code) (s₁ : State), p.tables.exec = Jvm.exec → c.code = bytes → c.maxLocals = maxL → s.vm.findClass y.cls = some m.cls → meth.sig.returnType = ret → meth.locks = false → meth.name = y.name → Z.Warmed39 s.vm →
      Stand p l e rm s m as below meth c s₁ [] 0 0 → s₁.heap = h0 → OG p e rm s below Q s₁ (entryFrame m as maxL)) : OMet l Z y bytes maxL ret ws rm as h0 Q := by
  refine MetFree.of_bodySF hp hisR ?_
  intro p e s m args below meth c s₁ Bd hml0 hP hK
  obtain ⟨rfl, hZ, hh⟩ := hP
  exact body p e s m below meth c s₁ Bd.exec Bd.bytes hml0 (findClass_of_methodNamed Bd.named) Bd.returns Bd.notSynchronized (name_of_methodNamed Bd.named Bd.method).1 hZ (Stand.of_body Bd) (by rw [← hh, Bd.state]; rfl)
end Own
section OwnH
variable {Z : State} {h h' h0 : Heap} {a b : Addr} {ty : FieldType} {vs : List Value} {n sl : Nat} {v : Value} {ws : List Addr}
/-- an array, by the whole list of what it holds -/
def OA (Z : State) (h : Heap) (a : Addr) (ty : FieldType) (vs : List Value) : Prop := ∃ c : Cell, Arr Z h a c ty ∧ c.slots.toList = vs
/-- an array, by its length alone -/
def OL (Z : State) (h : Heap) (a : Addr) (ty : FieldType) (n : Nat) : Prop := ∃ c : Cell, Arr Z h a c ty ∧ c.slots.size = n
theorem OA.lt (F : OA Z h a ty vs) : a < h.size := by obtain ⟨c, A, -⟩ := F; exact A.lt
theorem OL.lt (F : OL Z h a ty n) : a < h.size := by obtain ⟨c, A, -⟩ := F; exact A.lt
theorem OA.ext (F : OA Z h a ty vs) (E : Ext h h') : OA Z h' a ty vs := by obtain ⟨c, A, r⟩ := F; exact ⟨c, A.ext E, r⟩
theorem OL.ext (F : OL Z h a ty n) (E : Ext h h') : OL Z h' a ty n := by obtain ⟨c, A, r⟩ := F; exact ⟨c, A.ext E, r⟩
theorem OA.other (F : OA Z h b ty vs) (W : Wr h h' a sl v) (q : b ≠ a) : OA Z h' b ty vs := by obtain ⟨c, A, r⟩ := F; exact ⟨c, A.other W q, r⟩
theorem OL.other (F : OL Z h b ty n) (W : Wr h h' a sl v) (q : b ≠ a) : OL Z h' b ty n := by obtain ⟨c, A, r⟩ := F; exact ⟨c, A.other W q, r⟩
theorem OA.keep (F : OA Z h a ty vs) (K : Keep h h' ws) (q : a ∉ ws) : OA Z h' a ty vs := by obtain ⟨c, A, r⟩ := F; exact ⟨c, ⟨K.2.1 a c A.1 q, A.2⟩, r⟩
theorem OL.keep (F : OL Z h a ty n) (K : Keep h h' ws) (q : a ∉ ws) : OL Z h' a ty n := by obtain ⟨c, A, r⟩ := F; exact ⟨c, ⟨K.2.1 a c A.1 q, A.2⟩, r⟩
theorem OA.new {k : ClassId} {z : Int32} (A : Arr Z h a (newA k ty z) ty) : OA Z h a ty (List.replicate z.toNatClampNeg (defaultValue ty)) := ⟨_, A, by show (Array.replicate _ _).toList = _; exact Array.toList_replicate⟩
theorem OL.new {k : ClassId} {z : Int32} (A : Arr Z h a (newA k ty z) ty) : OL Z h a ty z.toNatClampNeg := ⟨_, A, sz_new _ _ _⟩
theorem OA.len (F : OA Z h a ty vs) : ∃ c : Cell, Arr Z h a c ty ∧ c.slots.size = vs.length := by obtain ⟨c, A, r⟩ := F; exact ⟨c, A, by rw [← r]; simp⟩
theorem OA.set {j : Int32} {i : Nat} (F : OA Z h a ty vs) (W : Wr h h' a j.toNatClampNeg v) (hj : j.toNatClampNeg = i) : OA Z h' a ty (vs.set i v) := by
  obtain ⟨c, A, r⟩ := F
  refine ⟨_, A.same W, ?_⟩
  subst hj r
  show (c.slots.setIfInBounds _ _).toList = _
  exact Array.toList_setIfInBounds
theorem OL.set {j : Int32} (F : OL Z h a ty n) (W : Wr h h' a j.toNatClampNeg v) : OL Z h' a ty n := by
  obtain ⟨c, A, r⟩ := F
  exact ⟨_, A.same W, by rw [sz_set]; exact r⟩
theorem own_rd (F : OA Z h a ty vs) {j : Int32} {i : Nat} (hj : j.toNatClampNeg = i) (hn : ¬ j < 0) (hv : vs[i]? = some v) : ∃ c : Cell, Arr Z h a c ty ∧ ¬ (j < 0 ∨ c.slots.size ≤ j.toNatClampNeg) ∧ c.slots[j.toNatClampNeg]? = some v := by
  obtain ⟨c, A, r⟩ := F
  subst hj r
  rw [Array.getElem?_toList] at hv
  refine ⟨c, A, fun q => ?_, hv⟩
  rcases q with q | q
  · exact hn q
  · have := (Array.getElem?_eq_some_iff.mp hv).1; omega
theorem own_wr (F : OA Z h a ty vs) {j : Int32} {i : Nat} (hj : j.toNatClampNeg = i) (hn : ¬ j < 0) (hi : i < vs.length) : ∃ c : Cell, Arr Z h a c ty ∧ ¬ (j < 0 ∨ c.slots.size ≤ j.toNatClampNeg) := by
  obtain ⟨c, A, r⟩ := F
  subst hj r
  rw [Array.length_toList] at hi
  refine ⟨c, A, fun q => ?_⟩
  rcases q with q | q
  · exact hn q
  · omega
theorem own_wrL (F : OL Z h a ty n) {j : Int32} (hj : ¬ j < 0 ∧ j.toNatClampNeg < n) : ∃ c : Cell, Arr Z h a c ty ∧ ¬ (j < 0 ∨ c.slots.size ≤ j.toNatClampNeg) := by
  obtain ⟨c, A, r⟩ := F
  subst r
  exact ⟨c, A, fun q => by rcases q with q | q; exact hj.1 q; omega⟩
theorem own_acN {x y : Addr} (h : x ≠ y) : if_acmp.holds .ne (some x) (some y) = true ∧ if_acmp.holds .eq (some x) (some y) = false := by simp [if_acmp.holds, h]
theorem own_plE {C : String} (E : Exa Z h a C) : ∀ cell : Cell, h[a]? = some cell → cell.vm.isStatics = false := fun cell q => by obtain ⟨c, k, h1, -, -, h4, -⟩ := E; cases h1.symm.trans q; exact h4
theorem own_plA (F : OA Z h a ty vs) : ∀ cell : Cell, h[a]? = some cell → cell.vm.isStatics = false := fun cell q => by obtain ⟨c, A, -⟩ := F; cases A.1.symm.trans q; exact A.plain
theorem own_plL (F : OL Z h a ty n) : ∀ cell : Cell, h[a]? = some cell → cell.vm.isStatics = false := fun cell q => by obtain ⟨c, A, -⟩ := F; cases A.1.symm.trans q; exact A.plain
theorem own_staK {C f d : String} {w : Value} (F : Sta Z h C f d w) (K : Keep h h' ws) (hp : ∀ x ∈ ws, ∀ cell : Cell, h[x]? = some cell → cell.vm.isStatics = false) : Sta Z h' C f d w := by
  obtain ⟨cf, i, k, g, st, cell, h1, h2, h3, h4, h5, h6, h7⟩ := F
  exact ⟨cf, i, k, g, st, cell, h1, h2, h3, h4, K.2.1 st cell h5 (fun q => by rw [hp st q cell h5] at h6; cases h6), h6, h7⟩
theorem own_selp {s : State} {y : MethodName} {a0 args : Array Value} {k : Nat} (hZ : Z.Warmed39 s.vm) (wi : (Jvm.Cond.instantiable y.cls k).before a0 Z = true) (wp : (Jvm.Cond.privateMethod y).before a0 Z = true) (wm : (Jvm.Cond.instanceMethod y).before a0 Z = true) (hy : y.cls ≠ "java/lang/invoke/MethodHandle" ∧ y.cls ≠ "java/lang/invoke/VarHandle") : (Jvm.Cond.selects y.cls y y).before args s = true := by
  have wi' : (Jvm.Cond.instantiable y.cls k).before args s = true := mv hZ wi
  obtain ⟨c, kc, i1, i2, -, i4, -⟩ := Cond.instantiable_spec wi'
  exact selects_self_of_private i1 i2 (Bool.or_eq_false_iff.mp i4).1 (Cond.privateMethod_at (mvP hZ wp (args := args))) (mvT hZ wm) hy
theorem own_all0 {P : Addr → Prop} : ∀ x ∈ ([] : List Addr), P x := fun x hx => by cases hx
theorem own_all1 {P : Addr → Prop} {a : Addr} (h : P a) : ∀ x ∈ [a], P x := fun x hx => by simp only [List.mem_cons, List.not_mem_nil, or_false] at hx; subst hx; exact h
theorem own_all2 {P : Addr → Prop} {a b : Addr} (h : P a) (h2 : P b) : ∀ x ∈ [a, b], P x := fun x hx => by
  simp only [List.mem_cons, List.not_mem_nil, or_false] at hx; rcases hx with rfl | rfl; exact h; exact h2
theorem own_all3 {P : Addr → Prop} {a b c : Addr} (h : P a) (h2 : P b) (h3 : P c) : ∀ x ∈ [a, b, c], P x := fun x hx => by
  simp only [List.mem_cons, List.not_mem_nil, or_false] at hx; rcases hx with rfl | rfl | rfl; exact h; exact h2; exact h3
theorem own_all4 {P : Addr → Prop} {a b c d : Addr} (h : P a) (h2 : P b) (h3 : P c) (h4 : P d) : ∀ x ∈ [a, b, c, d], P x := fun x hx => by
  simp only [List.mem_cons, List.not_mem_nil, or_false] at hx; rcases hx with rfl | rfl | rfl | rfl; exact h; exact h2; exact h3; exact h4
theorem own_nin0 {x : Addr} : x ∉ ([] : List Addr) := List.not_mem_nil
theorem own_nin1 {x a : Addr} (h : x ≠ a) : x ∉ [a] := by simp [h]
theorem own_nin2 {x a b : Addr} (h : x ≠ a) (h2 : x ≠ b) : x ∉ [a, b] := by simp [h, h2]
theorem own_nin3 {x a b c : Addr} (h : x ≠ a) (h2 : x ≠ b) (h3 : x ≠ c) : x ∉ [a, b, c] := by simp [h, h2, h3]
theorem own_nin4 {x a b c d : Addr} (h : x ≠ a) (h2 : x ≠ b) (h3 : x ≠ c) (h4 : x ≠ d) : x ∉ [a, b, c, d] := by simp [h, h2, h3, h4]
end OwnH
section OwnS
variable {p : Program} {l : Launch} {e : Env} {R : Room} {s : State} {m : MethodId} {args : Array Value} {below : List Frame} {meth : Method} {c : Code} {T T' Z : State} {locs : List Loc} {cells slots : Nat} {Q Q' : Option Value → Heap → List Loc → Prop} {EL : List (String × Nat)} {vm : Vm} {k0 : Nat} {h h0 : Heap}
abbrev OMetS (l : Launch) (Z : State) (EL : List (String × Nat)) (y : MethodName) (bytes : ByteArray) (maxL : Nat) (ret : Option FieldType) (ws : List Jvm.Cond) (rm : Room) (as : Array Value) (h0 : Heap) (Q : Option Value → Heap → List Loc → Prop) : Prop :=
  MetFree l y (head1 (Jvm.Cond.code y bytes maxL ret :: ws) rm) (fun a U => a = as ∧ Z.Warmed39 U.vm ∧ U.heap = h0 ∧ CHv Z EL U.vm h0) (fun _ _ _ _ _ => True) (fun _ U o U' => ∃ v L, o = .returned v ∧ Q v U'.heap L ∧ CHr Z EL U.vm U.heap U'.vm U'.heap ∧ ReturnedEndW U o U' L rm.cells rm.slots)
def OGS (Z : State) (EL : List (String × Nat)) (p : Program) (e : Env) (R : Room) (s : State) (below : List Frame) (Q : Option Value → Heap → List Loc → Prop) (T : State) (g : JFrame) : Prop :=
  ∃ s₂ o, Steps p.tables e below (T.setTop g) s₂ ∧ s₂.status = .running ∧ Ended s₂ below o ∧ ∃ v L, o = .returned v ∧ Q v s₂.heap L ∧ CHr Z EL s.vm s.heap s₂.vm s₂.heap ∧ ReturnedEndW s o s₂ L R.cells R.slots
theorem own_stS {g g' : JFrame} (h : ∀ t, Steps p.tables e below (T'.setTop g') t → Steps p.tables e below (T.setTop g) t) (k : OGS Z EL p e R s below Q T' g') : OGS Z EL p e R s below Q T g := by
  obtain ⟨s₂, o, h1, h2⟩ := k
  exact ⟨s₂, o, h _ h1, h2⟩
theorem own_castS {g g' : JFrame} (q : g = g') (k : OGS Z EL p e R s below Q T g') : OGS Z EL p e R s below Q T g := q ▸ k
theorem own_endS (X : Stand p l e R (s.setVm vm) m args below meth c T locs cells slots) (hlk : meth.locks = false) (hZ : Z.Warmed39 vm) (hEL : EW Z a0 EL) (eT : T.heap = h) (hs0 : s.heap = h0) (hS : s.Since vm k0) (hk : k0 ≤ h.size) (CH : CHv Z EL vm h) (CR : CHr Z EL s.vm h0 vm h) {v : Option Value} (hv : meth.sig.returnType = none → v = none) (hc : cells ≤ R.cells) (hs : slots ≤ R.slots) (hq : Q v h locs)
    {g : JFrame} (k : ∀ fs, (∀ (f : JFrame) (acts : List Action), f.method = m → f.locked = none → f.entered = [] → (doReturn e (T.setTop f) acts v).1 = T.setFrames fs) → Steps p.tables e below (T.setTop g) (T.setFrames fs)) : OGS Z EL p e R s below Q T g := by
  obtain ⟨fs, hr, hrun, hended, hW, hsame⟩ := X.leave (v := v) hv hlk
  subst eT
  have hC := CHr.trans CR (CHv.at X hZ hEL CH)
  rw [← hs0] at hC
  obtain ⟨r1, r2, r3⟩ := hS.ended (U := T.setFrames fs) hW hk hsame
  exact ⟨_, _, k fs hr, hrun, hended, _, _, rfl, hq, hC, ⟨_, rfl⟩, r1, r2, r3.mono hc hs⟩
theorem own_enterS {y : MethodName} {bytes : ByteArray} {maxL : Nat} {ret : Option FieldType} {ws : List Jvm.Cond} {rm : Room} {as : Array Value} (hp : plainFor y = true)
    (body : ∀ (p : Program) (e : Env) (s : State) (m : MethodId) (below : List Frame) (meth : Method) (c : Code) (s₁ : State), p.tables.exec = Jvm.exec → c.code = bytes → c.maxLocals = maxL → s.vm.findClass y.cls = some m.cls → meth.sig.returnType = ret → meth.locks = false → meth.name = y.name → Z.Warmed39 s.vm →
      Stand p l e rm (s.setVm s.vm) m as below meth c s₁ [] 0 0 → s₁.heap = h0 → s.heap = h0 → CHv Z EL s.vm h0 → OGS Z EL p e rm s below Q s₁ (entryFrame m as maxL)) : OMetS l Z EL y bytes maxL ret ws rm as h0 Q := by
  refine MetFree.of_bodySF hp hisR ?_
  intro p e s m args below meth c s₁ Bd hml0 hP hK
  obtain ⟨rfl, hZ, hh, hC⟩ := hP
  exact body p e s m below meth c s₁ Bd.exec Bd.bytes hml0 (findClass_of_methodNamed Bd.named) Bd.returns Bd.notSynchronized (name_of_methodNamed Bd.named Bd.method).1 hZ (Stand.of_body Bd) (by rw [← hh, Bd.state]; rfl) hh hC
theorem own_safeA {ty : FieldType} {x : Addr} {vs : List Value} (hal : Z.vm.Alike vm) (F : OA Z h x ty vs) (ht : ty ≠ .byte) : Safe Z EL vm h x := by obtain ⟨c, A, -⟩ := F; exact Safe.arr hal A ht
theorem own_oaV {b : Addr} {kc : ClassId} {z : Int32} {vs : List Value} {d : Value} (F : Arv Z h b kc .byte z vs d) (hl : z.toNatClampNeg = vs.length := by decide) : OA Z h b .byte vs := by
  obtain ⟨c, A, -, S, -, H, -⟩ := F
  refine ⟨c, A, List.ext_getElem? fun i => ?_⟩
  rw [Array.getElem?_toList]
  by_cases q : i < c.slots.size
  · rw [H i q, List.getD_eq_getElem?_getD, List.getElem?_eq_getElem (by omega)]; rfl
  · rw [Array.getElem?_eq_none (by omega), List.getElem?_eq_none (by omega)]
theorem own_raw {x : Addr} (hal : Z.vm.Alike vm) (E : Exa Z h x "java/lang/String") (F : Fld Z h x "java/lang/String" "value" "[B" .null) : Safe Z EL vm h x := fun B => by
  obtain ⟨p, hp, u, a, hb, q, hq, G, hx⟩ := B
  rcases hx with rfl | rfl
  · obtain ⟨cS, ⟨⟨s1, s2, s3, ⟨cv, kv, iv, s4, s4'⟩, -, s6, s7, s8, -⟩, -⟩, -⟩ := G
    obtain ⟨cell, cf, k, i, f, h1, h2, h3, h4, h5, h6, h7⟩ := F
    obtain ⟨k', z4⟩ := ff_back (U := Wst Z vm h) hal s4
    cases h1.symm.trans s1
    have e := h2.symm.trans z4
    simp only [Option.some.injEq, Prod.mk.injEq] at e
    rw [← e.2.2.2, h7] at s8
    cases s8
  · have hd := G.hd
    obtain ⟨cS, -, -, hB, -⟩ := G
    obtain ⟨cell, k, h1, h2, -⟩ := E
    cases h1.symm.trans hd
    have hB' : Z.vm.findClass "[B" = some q.SA.cls := by rw [← hal.findClass]; exact hB
    obtain ⟨k1, a1, a2⟩ := Vm.findClass_spec h2
    obtain ⟨k2, b1, b2⟩ := Vm.findClass_spec hB'
    cases a1.symm.trans b1
    exact absurd (a2.symm.trans b2) (by decide)
end OwnS
def EL0 : List (String × Nat) := [("java/lang/String", 7)]
theorem own_wS {Z : State} {a0 : Array Value} (hw : ∀ d ∈ tables_1, d.before a0 Z = true) : ∀ a ∈ Bundle.stringAtoms, a.before a0 Z = true := fun a ha => by
  simp only [Bundle.stringAtoms, List.mem_cons, List.not_mem_nil, or_false] at ha
  rcases ha with rfl | rfl | rfl | rfl | rfl | rfl | rfl
  · exact (hw _ (List.mem_of_getElem? (i := 9) rfl))
  · exact (hw _ (List.mem_of_getElem? (i := 8) rfl))
  · exact (hw _ (List.mem_of_getElem? (i := 22) rfl))
  · exact (hw _ (List.mem_of_getElem? (i := 23) rfl))
  · exact (hw _ (List.mem_of_getElem? (i := 24) rfl))
  · exact (hw _ (List.mem_of_getElem? (i := 25) rfl))
  · exact (hw _ (List.mem_of_getElem? (i := 26) rfl))
theorem own_EW {Z : State} {a0 : Array Value} (hw : ∀ d ∈ tables_1, d.before a0 Z = true) : EW Z a0 EL0 := EW.cons (hw _ (List.mem_of_getElem? (i := 21) rfl)) (by decide) EW.nil
theorem d2_0 : decode method_2_code 0 = .ok (.iload_n 0, 1) := by decide +kernel
theorem d2_1 : decode method_2_code 1 = .ok (.bipush 16, 2) := by decide +kernel
theorem d2_3 : decode method_2_code 3 = .ok (.iushr, 1) := by decide +kernel
theorem d2_4 : decode method_2_code 4 = .ok (.iconst 3, 1) := by decide +kernel
theorem d2_5 : decode method_2_code 5 = .ok (.iand, 1) := by decide +kernel
theorem d2_6 : decode method_2_code 6 = .ok (.iconst 3, 1) := by decide +kernel
theorem d2_7 : decode method_2_code 7 = .ok (.irem, 1) := by decide +kernel
theorem d2_8 : decode method_2_code 8 = .ok (.ireturn, 1) := by decide +kernel
theorem pn_2 : plainFor (⟨"com/example/vestbook/vestbook/OriginRepeatsPinLaw", "len", "(I)I"⟩ : MethodName) = true := by first | exact plainFor_of_name (by first | (simp [plainName, overriddenIn]; done) | decide +kernel) | decide +kernel
def f2 (p1 : Int32) : Int32 := ((((p1.toUInt32 >>> ((16 : Int32) &&& 31).toUInt32).toInt32) &&& (3 : Int32)) % (3 : Int32))
theorem ef_2 (m : MethodId) (p1 : Int32) : entryFrame m #[(.int p1)] 1 = (mkF m 0 #[.val (.int p1)] []) := by first | (simp [entryFrame, mkF, argsToLocals, Value.category]; done) | rfl
abbrev Q2 (Z : State) (p1 : Int32) (h0 : Heap)  : Option Value → Heap → List Loc → Prop := (fun v h L => v = some (.int (f2 p1)) ∧ L = [] ∧ h = h0)
set_option maxRecDepth 65536 in
set_option maxHeartbeats 40000000 in
theorem rm2 (l : Launch) (Z : State) (a0 : Array Value) (hw : ∀ d ∈ tables_1, d.before a0 Z = true) (ws : List Jvm.Cond) (p1 : Int32) (h0 : Heap)  :
    OMet l Z (⟨"com/example/vestbook/vestbook/OriginRepeatsPinLaw", "len", "(I)I"⟩ : MethodName) method_2_code 1 (some .int) ws ({ frames := 0, cells := 0, slots := 0, locals := 0 } : Room) #[(.int p1)] h0 (Q2 Z p1 h0) := by
  refine own_enter pn_2 ?_
  intro p e s m below meth c s₁ hx hby hml0 hown hret hlk hnm hZ X0 e0
  have hml : c.maxLocals = 1 := hml0
  refine own_cast (ef_2 m p1) ?_
  show OG p e ({ frames := 0, cells := 0, slots := 0, locals := 0 } : Room) s below (fun v h L => v = some (.int (f2 p1)) ∧ L = [] ∧ h = h0) s₁ (mkF m 0 #[.val (.int p1)] [])
  refine own_st (fun t k => XS.iloadN X0.here hx rfl (hb hby d2_0) rfl k) ?_
  show OG p e _ s below _ s₁ (mkF m 1 #[.val (.int p1)] [(.int p1)])
  refine own_st (fun t k => XS.bipush X0.here hx rfl (hb hby d2_1) k) ?_
  show OG p e _ s below _ s₁ (mkF m 3 #[.val (.int p1)] [(.int (16 : Int32)), (.int p1)])
  refine own_st (fun t k => XS.iushr X0.here hx rfl (hb hby d2_3) rfl k) ?_
  show OG p e _ s below _ s₁ (mkF m 4 #[.val (.int p1)] [(.int ((p1.toUInt32 >>> ((16 : Int32) &&& 31).toUInt32).toInt32))])
  refine own_st (fun t k => XS.iconst X0.here hx rfl (hb hby d2_4) k) ?_
  show OG p e _ s below _ s₁ (mkF m 5 #[.val (.int p1)] [(.int (3 : Int32)), (.int ((p1.toUInt32 >>> ((16 : Int32) &&& 31).toUInt32).toInt32))])
  refine own_st (fun t k => XS.iand X0.here hx rfl (hb hby d2_5) rfl k) ?_
  show OG p e _ s below _ s₁ (mkF m 6 #[.val (.int p1)] [(.int (((p1.toUInt32 >>> ((16 : Int32) &&& 31).toUInt32).toInt32) &&& (3 : Int32)))])
  refine own_st (fun t k => XS.iconst X0.here hx rfl (hb hby d2_6) k) ?_
  show OG p e _ s below _ s₁ (mkF m 7 #[.val (.int p1)] [(.int (3 : Int32)), (.int (((p1.toUInt32 >>> ((16 : Int32) &&& 31).toUInt32).toInt32) &&& (3 : Int32)))])
  refine own_st (fun t k => iremM X0 hx rfl (hb hby d2_7) rfl (by decide) k) ?_
  show OG p e _ s below _ s₁ (mkF m 8 #[.val (.int p1)] [(.int ((((p1.toUInt32 >>> ((16 : Int32) &&& 31).toUInt32).toInt32) &&& (3 : Int32)) % (3 : Int32)))])
  exact own_retI X0 hx hret hlk (hb hby d2_8) (by decide) (by decide) ⟨congrArg (fun z => some (Value.int z)) (show f2 p1 = ((((p1.toUInt32 >>> ((16 : Int32) &&& 31).toUInt32).toInt32) &&& (3 : Int32)) % (3 : Int32)) from (by rw [f2])).symm, rfl, e0⟩
theorem d12_0 : decode method_3_code 0 = .ok (.iload_n 0, 1) := by decide +kernel
theorem d12_1 : decode method_3_code 1 = .ok (.sipush 255, 3) := by decide +kernel
theorem d12_4 : decode method_3_code 4 = .ok (.iand, 1) := by decide +kernel
theorem d12_5 : decode method_3_code 5 = .ok (.i2c, 1) := by decide +kernel
theorem d12_6 : decode method_3_code 6 = .ok (.ireturn, 1) := by decide +kernel
theorem pn_12 : plainFor (⟨"com/example/vestbook/vestbook/OriginRepeatsPinLaw", "c0", "(I)C"⟩ : MethodName) = true := by first | exact plainFor_of_name (by first | (simp [plainName, overriddenIn]; done) | decide +kernel) | decide +kernel
def f12 (p1 : Int32) : Int32 := (nar .char ((p1 &&& (255 : Int32)).toUInt32.toUInt16.toUInt32.toInt32))
theorem ef_12 (m : MethodId) (p1 : Int32) : entryFrame m #[(.int p1)] 1 = (mkF m 0 #[.val (.int p1)] []) := by first | (simp [entryFrame, mkF, argsToLocals, Value.category]; done) | rfl
abbrev Q12 (Z : State) (p1 : Int32) (h0 : Heap)  : Option Value → Heap → List Loc → Prop := (fun v h L => v = some (.int (f12 p1)) ∧ L = [] ∧ h = h0)
set_option maxRecDepth 65536 in
set_option maxHeartbeats 40000000 in
theorem rm12 (l : Launch) (Z : State) (a0 : Array Value) (hw : ∀ d ∈ tables_1, d.before a0 Z = true) (ws : List Jvm.Cond) (p1 : Int32) (h0 : Heap)  :
    OMet l Z (⟨"com/example/vestbook/vestbook/OriginRepeatsPinLaw", "c0", "(I)C"⟩ : MethodName) method_3_code 1 (some .char) ws ({ frames := 0, cells := 0, slots := 0, locals := 0 } : Room) #[(.int p1)] h0 (Q12 Z p1 h0) := by
  refine own_enter pn_12 ?_
  intro p e s m below meth c s₁ hx hby hml0 hown hret hlk hnm hZ X0 e0
  have hml : c.maxLocals = 1 := hml0
  refine own_cast (ef_12 m p1) ?_
  show OG p e ({ frames := 0, cells := 0, slots := 0, locals := 0 } : Room) s below (fun v h L => v = some (.int (f12 p1)) ∧ L = [] ∧ h = h0) s₁ (mkF m 0 #[.val (.int p1)] [])
  refine own_st (fun t k => XS.iloadN X0.here hx rfl (hb hby d12_0) rfl k) ?_
  show OG p e _ s below _ s₁ (mkF m 1 #[.val (.int p1)] [(.int p1)])
  refine own_st (fun t k => XS.sipush X0.here hx rfl (hb hby d12_1) k) ?_
  show OG p e _ s below _ s₁ (mkF m 4 #[.val (.int p1)] [(.int (255 : Int32)), (.int p1)])
  refine own_st (fun t k => XS.iand X0.here hx rfl (hb hby d12_4) rfl k) ?_
  show OG p e _ s below _ s₁ (mkF m 5 #[.val (.int p1)] [(.int (p1 &&& (255 : Int32)))])
  refine own_st (fun t k => XS.i2c X0.here hx rfl (hb hby d12_5) rfl k) ?_
  show OG p e _ s below _ s₁ (mkF m 6 #[.val (.int p1)] [(.int ((p1 &&& (255 : Int32)).toUInt32.toUInt16.toUInt32.toInt32))])
  exact own_retZ X0 hx (t := .char) hret (by simp) hlk (hb hby d12_6) (by decide) (by decide) (w := (nar .char ((p1 &&& (255 : Int32)).toUInt32.toUInt16.toUInt32.toInt32))) rfl ⟨congrArg (fun z => some (Value.int z)) (show f12 p1 = (nar .char ((p1 &&& (255 : Int32)).toUInt32.toUInt16.toUInt32.toInt32)) from (by rw [f12])).symm, rfl, e0⟩
theorem d13_0 : decode method_4_code 0 = .ok (.iload_n 0, 1) := by decide +kernel
theorem d13_1 : decode method_4_code 1 = .ok (.bipush 8, 2) := by decide +kernel
theorem d13_3 : decode method_4_code 3 = .ok (.iushr, 1) := by decide +kernel
theorem d13_4 : decode method_4_code 4 = .ok (.sipush 255, 3) := by decide +kernel
theorem d13_7 : decode method_4_code 7 = .ok (.iand, 1) := by decide +kernel
theorem d13_8 : decode method_4_code 8 = .ok (.i2c, 1) := by decide +kernel
theorem d13_9 : decode method_4_code 9 = .ok (.ireturn, 1) := by decide +kernel
theorem pn_13 : plainFor (⟨"com/example/vestbook/vestbook/OriginRepeatsPinLaw", "c1", "(I)C"⟩ : MethodName) = true := by first | exact plainFor_of_name (by first | (simp [plainName, overriddenIn]; done) | decide +kernel) | decide +kernel
def f13 (p1 : Int32) : Int32 := (nar .char ((((p1.toUInt32 >>> ((8 : Int32) &&& 31).toUInt32).toInt32) &&& (255 : Int32)).toUInt32.toUInt16.toUInt32.toInt32))
theorem ef_13 (m : MethodId) (p1 : Int32) : entryFrame m #[(.int p1)] 1 = (mkF m 0 #[.val (.int p1)] []) := by first | (simp [entryFrame, mkF, argsToLocals, Value.category]; done) | rfl
abbrev Q13 (Z : State) (p1 : Int32) (h0 : Heap)  : Option Value → Heap → List Loc → Prop := (fun v h L => v = some (.int (f13 p1)) ∧ L = [] ∧ h = h0)
set_option maxRecDepth 65536 in
set_option maxHeartbeats 40000000 in
theorem rm13 (l : Launch) (Z : State) (a0 : Array Value) (hw : ∀ d ∈ tables_1, d.before a0 Z = true) (ws : List Jvm.Cond) (p1 : Int32) (h0 : Heap)  :
    OMet l Z (⟨"com/example/vestbook/vestbook/OriginRepeatsPinLaw", "c1", "(I)C"⟩ : MethodName) method_4_code 1 (some .char) ws ({ frames := 0, cells := 0, slots := 0, locals := 0 } : Room) #[(.int p1)] h0 (Q13 Z p1 h0) := by
  refine own_enter pn_13 ?_
  intro p e s m below meth c s₁ hx hby hml0 hown hret hlk hnm hZ X0 e0
  have hml : c.maxLocals = 1 := hml0
  refine own_cast (ef_13 m p1) ?_
  show OG p e ({ frames := 0, cells := 0, slots := 0, locals := 0 } : Room) s below (fun v h L => v = some (.int (f13 p1)) ∧ L = [] ∧ h = h0) s₁ (mkF m 0 #[.val (.int p1)] [])
  refine own_st (fun t k => XS.iloadN X0.here hx rfl (hb hby d13_0) rfl k) ?_
  show OG p e _ s below _ s₁ (mkF m 1 #[.val (.int p1)] [(.int p1)])
  refine own_st (fun t k => XS.bipush X0.here hx rfl (hb hby d13_1) k) ?_
  show OG p e _ s below _ s₁ (mkF m 3 #[.val (.int p1)] [(.int (8 : Int32)), (.int p1)])
  refine own_st (fun t k => XS.iushr X0.here hx rfl (hb hby d13_3) rfl k) ?_
  show OG p e _ s below _ s₁ (mkF m 4 #[.val (.int p1)] [(.int ((p1.toUInt32 >>> ((8 : Int32) &&& 31).toUInt32).toInt32))])
  refine own_st (fun t k => XS.sipush X0.here hx rfl (hb hby d13_4) k) ?_
  show OG p e _ s below _ s₁ (mkF m 7 #[.val (.int p1)] [(.int (255 : Int32)), (.int ((p1.toUInt32 >>> ((8 : Int32) &&& 31).toUInt32).toInt32))])
  refine own_st (fun t k => XS.iand X0.here hx rfl (hb hby d13_7) rfl k) ?_
  show OG p e _ s below _ s₁ (mkF m 8 #[.val (.int p1)] [(.int (((p1.toUInt32 >>> ((8 : Int32) &&& 31).toUInt32).toInt32) &&& (255 : Int32)))])
  refine own_st (fun t k => XS.i2c X0.here hx rfl (hb hby d13_8) rfl k) ?_
  show OG p e _ s below _ s₁ (mkF m 9 #[.val (.int p1)] [(.int ((((p1.toUInt32 >>> ((8 : Int32) &&& 31).toUInt32).toInt32) &&& (255 : Int32)).toUInt32.toUInt16.toUInt32.toInt32))])
  exact own_retZ X0 hx (t := .char) hret (by simp) hlk (hb hby d13_9) (by decide) (by decide) (w := (nar .char ((((p1.toUInt32 >>> ((8 : Int32) &&& 31).toUInt32).toInt32) &&& (255 : Int32)).toUInt32.toUInt16.toUInt32.toInt32))) rfl ⟨congrArg (fun z => some (Value.int z)) (show f13 p1 = (nar .char ((((p1.toUInt32 >>> ((8 : Int32) &&& 31).toUInt32).toInt32) &&& (255 : Int32)).toUInt32.toUInt16.toUInt32.toInt32)) from (by rw [f13])).symm, rfl, e0⟩
theorem d8_0 : decode method_6_code 0 = .ok (.iload_n 0, 1) := by decide +kernel
theorem d8_1 : decode method_6_code 1 = .ok (.invokestatic 7, 3) := by decide +kernel
theorem d8_4 : decode method_6_code 4 = .ok (.istore_n 2, 1) := by decide +kernel
theorem d8_5 : decode method_6_code 5 = .ok (.iload_n 2, 1) := by decide +kernel
theorem d8_6 : decode method_6_code 6 = .ok (.iload_n 1, 1) := by decide +kernel
theorem d8_7 : decode method_6_code 7 = .ok (.invokestatic 7, 3) := by decide +kernel
theorem d8_10 : decode method_6_code 10 = .ok (.if_icmp .eq 5, 3) := by decide +kernel
theorem d8_13 : decode method_6_code 13 = .ok (.iconst 0, 1) := by decide +kernel
theorem d8_14 : decode method_6_code 14 = .ok (.ireturn, 1) := by decide +kernel
theorem d8_15 : decode method_6_code 15 = .ok (.iload_n 2, 1) := by decide +kernel
theorem d8_16 : decode method_6_code 16 = .ok (.iconst 1, 1) := by decide +kernel
theorem d8_17 : decode method_6_code 17 = .ok (.if_icmp .lt 16, 3) := by decide +kernel
theorem d8_20 : decode method_6_code 20 = .ok (.iload_n 0, 1) := by decide +kernel
theorem d8_21 : decode method_6_code 21 = .ok (.invokestatic 18, 3) := by decide +kernel
theorem d8_24 : decode method_6_code 24 = .ok (.iload_n 1, 1) := by decide +kernel
theorem d8_25 : decode method_6_code 25 = .ok (.invokestatic 18, 3) := by decide +kernel
theorem d8_28 : decode method_6_code 28 = .ok (.if_icmp .eq 5, 3) := by decide +kernel
theorem d8_31 : decode method_6_code 31 = .ok (.iconst 0, 1) := by decide +kernel
theorem d8_32 : decode method_6_code 32 = .ok (.ireturn, 1) := by decide +kernel
theorem d8_33 : decode method_6_code 33 = .ok (.iload_n 2, 1) := by decide +kernel
theorem d8_34 : decode method_6_code 34 = .ok (.iconst 2, 1) := by decide +kernel
theorem d8_35 : decode method_6_code 35 = .ok (.if_icmp .lt 16, 3) := by decide +kernel
theorem d8_38 : decode method_6_code 38 = .ok (.iload_n 0, 1) := by decide +kernel
theorem d8_39 : decode method_6_code 39 = .ok (.invokestatic 22, 3) := by decide +kernel
theorem d8_42 : decode method_6_code 42 = .ok (.iload_n 1, 1) := by decide +kernel
theorem d8_43 : decode method_6_code 43 = .ok (.invokestatic 22, 3) := by decide +kernel
theorem d8_46 : decode method_6_code 46 = .ok (.if_icmp .eq 5, 3) := by decide +kernel
theorem d8_49 : decode method_6_code 49 = .ok (.iconst 0, 1) := by decide +kernel
theorem d8_50 : decode method_6_code 50 = .ok (.ireturn, 1) := by decide +kernel
theorem d8_51 : decode method_6_code 51 = .ok (.iconst 1, 1) := by decide +kernel
theorem d8_52 : decode method_6_code 52 = .ok (.ireturn, 1) := by decide +kernel
theorem pd__I_C : parseMethodDescriptor "(I)C" = some ⟨[.int], some .char⟩ := by decide +kernel
theorem pd__I_I : parseMethodDescriptor "(I)I" = some ⟨[.int], some .int⟩ := by decide +kernel
theorem pn_8 : plainFor (⟨"com/example/vestbook/vestbook/OriginRepeatsPinLaw", "same", "(II)Z"⟩ : MethodName) = true := by first | exact plainFor_of_name (by first | (simp [plainName, overriddenIn]; done) | decide +kernel) | decide +kernel
def f8 (p1 : Int32) (p2 : Int32) : Int32 := (if (f2 p1) = (f2 p2) then (if (f2 p1) < (1 : Int32) then (if (f2 p1) < (2 : Int32) then (1 : Int32) else (if (f13 p1) = (f13 p2) then (1 : Int32) else (0 : Int32))) else (if (f12 p1) = (f12 p2) then (if (f2 p1) < (2 : Int32) then (1 : Int32) else (if (f13 p1) = (f13 p2) then (1 : Int32) else (0 : Int32))) else (0 : Int32))) else (0 : Int32))
theorem ef_8 (m : MethodId) (p1 : Int32) (p2 : Int32) : entryFrame m #[(.int p1), (.int p2)] 3 = (mkF m 0 #[.val (.int p1), .val (.int p2), .unset] []) := by first | (simp [entryFrame, mkF, argsToLocals, Value.category]; done) | rfl
abbrev Q8 (Z : State) (p1 : Int32) (p2 : Int32) (h0 : Heap)  : Option Value → Heap → List Loc → Prop := (fun v h L => v = some (.int (f8 p1 p2)) ∧ L = [] ∧ h = h0)
set_option maxRecDepth 65536 in
set_option maxHeartbeats 40000000 in
theorem rm8 (l : Launch) (Z : State) (a0 : Array Value) (hw : ∀ d ∈ tables_1, d.before a0 Z = true) (ws : List Jvm.Cond) (p1 : Int32) (p2 : Int32) (h0 : Heap)  :
    OMet l Z (⟨"com/example/vestbook/vestbook/OriginRepeatsPinLaw", "same", "(II)Z"⟩ : MethodName) method_6_code 3 (some .boolean) ws ({ frames := 1, cells := 0, slots := 0, locals := 13 } : Room) #[(.int p1), (.int p2)] h0 (Q8 Z p1 p2 h0) := by
  refine own_enter pn_8 ?_
  intro p e s m below meth c s₁ hx hby hml0 hown hret hlk hnm hZ X0 e0
  have hml : c.maxLocals = 3 := hml0
  refine own_cast (ef_8 m p1 p2) ?_
  show OG p e ({ frames := 1, cells := 0, slots := 0, locals := 13 } : Room) s below (fun v h L => v = some (.int (f8 p1 p2)) ∧ L = [] ∧ h = h0) s₁ (mkF m 0 #[.val (.int p1), .val (.int p2), .unset] [])
  refine own_st (fun t k => XS.iloadN X0.here hx rfl (hb hby d8_0) rfl k) ?_
  show OG p e _ s below _ s₁ (mkF m 1 #[.val (.int p1), .val (.int p2), .unset] [(.int p1)])
  obtain ⟨_, _, ⟨T1, L1, k1, n1⟩, -, X1, ⟨Lc1, hQ1, l1, y1, z1⟩, st1⟩ := Jvm.LawKit.callS X0 hx (y := (⟨"com/example/vestbook/vestbook/OriginRepeatsPinLaw", "len", "(I)I"⟩ : MethodName)) hown (mvT hZ (hw _ (List.mem_of_getElem? (i := 4) rfl))) (mvT hZ (hw _ (List.mem_of_getElem? (i := 5) rfl))) (mvT hZ (hw _ (List.mem_of_getElem? (i := 2) rfl))) (mvT hZ (hw _ (List.mem_of_getElem? (i := 6) rfl))) (by decide) (backOf (W := 0) (rm := ({ frames := 0, cells := 0, slots := 0, locals := 0 } : Room)) (rm2 l Z a0 hw [] p1 h0) hZ (hw _ (List.mem_of_getElem? (i := 6) rfl)) (hw _ (List.mem_of_getElem? (i := 2) rfl)) (by decide) (by decide)) (g := (mkF m 1 #[.val (.int p1), .val (.int p2), .unset] [(.int p1)])) rfl (by rw [hml]; rfl) (argsL := [(.int p1)]) (rest := []) (lenOf pd__I_I rfl) rfl (by show 2 * 0 + _ ≤ _; exact Nat.le_of_eq rfl) (hb hby d8_1) (fun _ _ => ⟨rfl, e0, (by decide : 0 + 0 ≤ _), (by decide : 0 + 0 ≤ _)⟩)
  dsimp only [Pt.U, Pt.locs, Pt.cells, Pt.slots] at X1 l1 y1 z1 st1 hQ1
  subst l1 y1 z1
  obtain ⟨rfl, rfl, e1⟩ := hQ1
  refine own_st st1 ?_
  show OG p e _ s below _ T1 (mkF m 4 #[.val (.int p1), .val (.int p2), .unset] [(.int (f2 p1))])
  refine own_st (fun t k => XS.istoreN X1.here hx rfl (hb hby d8_4) rfl (l' := #[.val (.int p1), .val (.int p2), .val (.int (f2 p1))]) rfl k) ?_
  show OG p e _ s below _ T1 (mkF m 5 #[.val (.int p1), .val (.int p2), .val (.int (f2 p1))] [])
  refine own_st (fun t k => XS.iloadN X1.here hx rfl (hb hby d8_5) rfl k) ?_
  show OG p e _ s below _ T1 (mkF m 6 #[.val (.int p1), .val (.int p2), .val (.int (f2 p1))] [(.int (f2 p1))])
  refine own_st (fun t k => XS.iloadN X1.here hx rfl (hb hby d8_6) rfl k) ?_
  show OG p e _ s below _ T1 (mkF m 7 #[.val (.int p1), .val (.int p2), .val (.int (f2 p1))] [(.int p2), (.int (f2 p1))])
  obtain ⟨_, _, ⟨T2, L2, k2, n2⟩, -, X2, ⟨Lc2, hQ2, l2, y2, z2⟩, st2⟩ := Jvm.LawKit.callS X1 hx (y := (⟨"com/example/vestbook/vestbook/OriginRepeatsPinLaw", "len", "(I)I"⟩ : MethodName)) hown (mvT hZ (hw _ (List.mem_of_getElem? (i := 4) rfl))) (mvT hZ (hw _ (List.mem_of_getElem? (i := 5) rfl))) (mvT hZ (hw _ (List.mem_of_getElem? (i := 2) rfl))) (mvT hZ (hw _ (List.mem_of_getElem? (i := 6) rfl))) (by decide) (backOf (W := 1) (rm := ({ frames := 0, cells := 0, slots := 0, locals := 0 } : Room)) (rm2 l Z a0 hw [] p2 h0) hZ (hw _ (List.mem_of_getElem? (i := 6) rfl)) (hw _ (List.mem_of_getElem? (i := 2) rfl)) (by decide) (by decide)) (g := (mkF m 7 #[.val (.int p1), .val (.int p2), .val (.int (f2 p1))] [(.int p2), (.int (f2 p1))])) rfl (by rw [hml]; rfl) (argsL := [(.int p2)]) (rest := [(.int (f2 p1))]) (lenOf pd__I_I rfl) rfl (by show 2 * 0 + _ ≤ _; exact Nat.le_of_eq rfl) (hb hby d8_7) (fun _ _ => ⟨rfl, e1, (by decide : 0 + 0 ≤ _), (by decide : 0 + 0 ≤ _)⟩)
  dsimp only [Pt.U, Pt.locs, Pt.cells, Pt.slots] at X2 l2 y2 z2 st2 hQ2
  subst l2 y2 z2
  obtain ⟨rfl, rfl, e2⟩ := hQ2
  refine own_st st2 ?_
  show OG p e _ s below _ T2 (mkF m 10 #[.val (.int p1), .val (.int p2), .val (.int (f2 p1))] [(.int (f2 p2)), (.int (f2 p1))])
  by_cases c3 : (f2 p1) = (f2 p2)
  · refine own_st (fun t k => XS.icmpYes X2.here hx rfl (pc0 := 10) (pc' := 15) rfl (hb hby d8_10) rfl (teq c3).1 (by decide) (by decide) k) ?_
    show OG p e _ s below _ T2 (mkF m 15 #[.val (.int p1), .val (.int p2), .val (.int (f2 p1))] [])
    refine own_st (fun t k => XS.iloadN X2.here hx rfl (hb hby d8_15) rfl k) ?_
    show OG p e _ s below _ T2 (mkF m 16 #[.val (.int p1), .val (.int p2), .val (.int (f2 p1))] [(.int (f2 p1))])
    refine own_st (fun t k => XS.iconst X2.here hx rfl (hb hby d8_16) k) ?_
    show OG p e _ s below _ T2 (mkF m 17 #[.val (.int p1), .val (.int p2), .val (.int (f2 p1))] [(.int (1 : Int32)), (.int (f2 p1))])
    by_cases c4 : (f2 p1) < (1 : Int32)
    · refine own_st (fun t k => XS.icmpYes X2.here hx rfl (pc0 := 17) (pc' := 33) rfl (hb hby d8_17) rfl (tlt c4).1 (by decide) (by decide) k) ?_
      show OG p e _ s below _ T2 (mkF m 33 #[.val (.int p1), .val (.int p2), .val (.int (f2 p1))] [])
      refine own_st (fun t k => XS.iloadN X2.here hx rfl (hb hby d8_33) rfl k) ?_
      show OG p e _ s below _ T2 (mkF m 34 #[.val (.int p1), .val (.int p2), .val (.int (f2 p1))] [(.int (f2 p1))])
      refine own_st (fun t k => XS.iconst X2.here hx rfl (hb hby d8_34) k) ?_
      show OG p e _ s below _ T2 (mkF m 35 #[.val (.int p1), .val (.int p2), .val (.int (f2 p1))] [(.int (2 : Int32)), (.int (f2 p1))])
      by_cases c5 : (f2 p1) < (2 : Int32)
      · refine own_st (fun t k => XS.icmpYes X2.here hx rfl (pc0 := 35) (pc' := 51) rfl (hb hby d8_35) rfl (tlt c5).1 (by decide) (by decide) k) ?_
        show OG p e _ s below _ T2 (mkF m 51 #[.val (.int p1), .val (.int p2), .val (.int (f2 p1))] [])
        refine own_st (fun t k => XS.iconst X2.here hx rfl (hb hby d8_51) k) ?_
        show OG p e _ s below _ T2 (mkF m 52 #[.val (.int p1), .val (.int p2), .val (.int (f2 p1))] [(.int (1 : Int32))])
        exact own_retZ X2 hx (t := .boolean) hret (by simp) hlk (hb hby d8_52) (by decide) (by decide) (w := (1 : Int32)) rfl ⟨congrArg (fun z => some (Value.int z)) (show f8 p1 p2 = (1 : Int32) from (by rw [f8, if_pos c3, if_pos c4, if_pos c5])).symm, rfl, e2⟩
      · refine own_st (fun t k => XS.icmpNo X2.here hx rfl (hb hby d8_35) rfl (flt c5).1 k) ?_
        show OG p e _ s below _ T2 (mkF m 38 #[.val (.int p1), .val (.int p2), .val (.int (f2 p1))] [])
        refine own_st (fun t k => XS.iloadN X2.here hx rfl (hb hby d8_38) rfl k) ?_
        show OG p e _ s below _ T2 (mkF m 39 #[.val (.int p1), .val (.int p2), .val (.int (f2 p1))] [(.int p1)])
        obtain ⟨_, _, ⟨T6, L6, k6, n6⟩, -, X6, ⟨Lc6, hQ6, l6, y6, z6⟩, st6⟩ := Jvm.LawKit.callS X2 hx (y := (⟨"com/example/vestbook/vestbook/OriginRepeatsPinLaw", "c1", "(I)C"⟩ : MethodName)) hown (mvT hZ (hw _ (List.mem_of_getElem? (i := 69) rfl))) (mvT hZ (hw _ (List.mem_of_getElem? (i := 70) rfl))) (mvT hZ (hw _ (List.mem_of_getElem? (i := 2) rfl))) (mvT hZ (hw _ (List.mem_of_getElem? (i := 71) rfl))) (by decide) (backOf (W := 0) (rm := ({ frames := 0, cells := 0, slots := 0, locals := 0 } : Room)) (rm13 l Z a0 hw [] p1 h0) hZ (hw _ (List.mem_of_getElem? (i := 71) rfl)) (hw _ (List.mem_of_getElem? (i := 2) rfl)) (by decide) (by decide)) (g := (mkF m 39 #[.val (.int p1), .val (.int p2), .val (.int (f2 p1))] [(.int p1)])) rfl (by rw [hml]; rfl) (argsL := [(.int p1)]) (rest := []) (lenOf pd__I_C rfl) rfl (by show 2 * 0 + _ ≤ _; exact Nat.le_of_eq rfl) (hb hby d8_39) (fun _ _ => ⟨rfl, e2, (by decide : 0 + 0 ≤ _), (by decide : 0 + 0 ≤ _)⟩)
        dsimp only [Pt.U, Pt.locs, Pt.cells, Pt.slots] at X6 l6 y6 z6 st6 hQ6
        subst l6 y6 z6
        obtain ⟨rfl, rfl, e6⟩ := hQ6
        refine own_st st6 ?_
        show OG p e _ s below _ T6 (mkF m 42 #[.val (.int p1), .val (.int p2), .val (.int (f2 p1))] [(.int (f13 p1))])
        refine own_st (fun t k => XS.iloadN X6.here hx rfl (hb hby d8_42) rfl k) ?_
        show OG p e _ s below _ T6 (mkF m 43 #[.val (.int p1), .val (.int p2), .val (.int (f2 p1))] [(.int p2), (.int (f13 p1))])
        obtain ⟨_, _, ⟨T7, L7, k7, n7⟩, -, X7, ⟨Lc7, hQ7, l7, y7, z7⟩, st7⟩ := Jvm.LawKit.callS X6 hx (y := (⟨"com/example/vestbook/vestbook/OriginRepeatsPinLaw", "c1", "(I)C"⟩ : MethodName)) hown (mvT hZ (hw _ (List.mem_of_getElem? (i := 69) rfl))) (mvT hZ (hw _ (List.mem_of_getElem? (i := 70) rfl))) (mvT hZ (hw _ (List.mem_of_getElem? (i := 2) rfl))) (mvT hZ (hw _ (List.mem_of_getElem? (i := 71) rfl))) (by decide) (backOf (W := 1) (rm := ({ frames := 0, cells := 0, slots := 0, locals := 0 } : Room)) (rm13 l Z a0 hw [] p2 h0) hZ (hw _ (List.mem_of_getElem? (i := 71) rfl)) (hw _ (List.mem_of_getElem? (i := 2) rfl)) (by decide) (by decide)) (g := (mkF m 43 #[.val (.int p1), .val (.int p2), .val (.int (f2 p1))] [(.int p2), (.int (f13 p1))])) rfl (by rw [hml]; rfl) (argsL := [(.int p2)]) (rest := [(.int (f13 p1))]) (lenOf pd__I_C rfl) rfl (by show 2 * 0 + _ ≤ _; exact Nat.le_of_eq rfl) (hb hby d8_43) (fun _ _ => ⟨rfl, e6, (by decide : 0 + 0 ≤ _), (by decide : 0 + 0 ≤ _)⟩)
        dsimp only [Pt.U, Pt.locs, Pt.cells, Pt.slots] at X7 l7 y7 z7 st7 hQ7
        subst l7 y7 z7
        obtain ⟨rfl, rfl, e7⟩ := hQ7
        refine own_st st7 ?_
        show OG p e _ s below _ T7 (mkF m 46 #[.val (.int p1), .val (.int p2), .val (.int (f2 p1))] [(.int (f13 p2)), (.int (f13 p1))])
        by_cases c8 : (f13 p1) = (f13 p2)
        · refine own_st (fun t k => XS.icmpYes X7.here hx rfl (pc0 := 46) (pc' := 51) rfl (hb hby d8_46) rfl (teq c8).1 (by decide) (by decide) k) ?_
          show OG p e _ s below _ T7 (mkF m 51 #[.val (.int p1), .val (.int p2), .val (.int (f2 p1))] [])
          refine own_st (fun t k => XS.iconst X7.here hx rfl (hb hby d8_51) k) ?_
          show OG p e _ s below _ T7 (mkF m 52 #[.val (.int p1), .val (.int p2), .val (.int (f2 p1))] [(.int (1 : Int32))])
          exact own_retZ X7 hx (t := .boolean) hret (by simp) hlk (hb hby d8_52) (by decide) (by decide) (w := (1 : Int32)) rfl ⟨congrArg (fun z => some (Value.int z)) (show f8 p1 p2 = (1 : Int32) from (by rw [f8, if_pos c3, if_pos c4, if_neg c5, if_pos c8])).symm, rfl, e7⟩
        · refine own_st (fun t k => XS.icmpNo X7.here hx rfl (hb hby d8_46) rfl (feq c8).1 k) ?_
          show OG p e _ s below _ T7 (mkF m 49 #[.val (.int p1), .val (.int p2), .val (.int (f2 p1))] [])
          refine own_st (fun t k => XS.iconst X7.here hx rfl (hb hby d8_49) k) ?_
          show OG p e _ s below _ T7 (mkF m 50 #[.val (.int p1), .val (.int p2), .val (.int (f2 p1))] [(.int (0 : Int32))])
          exact own_retZ X7 hx (t := .boolean) hret (by simp) hlk (hb hby d8_50) (by decide) (by decide) (w := (0 : Int32)) rfl ⟨congrArg (fun z => some (Value.int z)) (show f8 p1 p2 = (0 : Int32) from (by rw [f8, if_pos c3, if_pos c4, if_neg c5, if_neg c8])).symm, rfl, e7⟩
    · refine own_st (fun t k => XS.icmpNo X2.here hx rfl (hb hby d8_17) rfl (flt c4).1 k) ?_
      show OG p e _ s below _ T2 (mkF m 20 #[.val (.int p1), .val (.int p2), .val (.int (f2 p1))] [])
      refine own_st (fun t k => XS.iloadN X2.here hx rfl (hb hby d8_20) rfl k) ?_
      show OG p e _ s below _ T2 (mkF m 21 #[.val (.int p1), .val (.int p2), .val (.int (f2 p1))] [(.int p1)])
      obtain ⟨_, _, ⟨T9, L9, k9, n9⟩, -, X9, ⟨Lc9, hQ9, l9, y9, z9⟩, st9⟩ := Jvm.LawKit.callS X2 hx (y := (⟨"com/example/vestbook/vestbook/OriginRepeatsPinLaw", "c0", "(I)C"⟩ : MethodName)) hown (mvT hZ (hw _ (List.mem_of_getElem? (i := 66) rfl))) (mvT hZ (hw _ (List.mem_of_getElem? (i := 67) rfl))) (mvT hZ (hw _ (List.mem_of_getElem? (i := 2) rfl))) (mvT hZ (hw _ (List.mem_of_getElem? (i := 68) rfl))) (by decide) (backOf (W := 0) (rm := ({ frames := 0, cells := 0, slots := 0, locals := 0 } : Room)) (rm12 l Z a0 hw [] p1 h0) hZ (hw _ (List.mem_of_getElem? (i := 68) rfl)) (hw _ (List.mem_of_getElem? (i := 2) rfl)) (by decide) (by decide)) (g := (mkF m 21 #[.val (.int p1), .val (.int p2), .val (.int (f2 p1))] [(.int p1)])) rfl (by rw [hml]; rfl) (argsL := [(.int p1)]) (rest := []) (lenOf pd__I_C rfl) rfl (by show 2 * 0 + _ ≤ _; exact Nat.le_of_eq rfl) (hb hby d8_21) (fun _ _ => ⟨rfl, e2, (by decide : 0 + 0 ≤ _), (by decide : 0 + 0 ≤ _)⟩)
      dsimp only [Pt.U, Pt.locs, Pt.cells, Pt.slots] at X9 l9 y9 z9 st9 hQ9
      subst l9 y9 z9
      obtain ⟨rfl, rfl, e9⟩ := hQ9
      refine own_st st9 ?_
      show OG p e _ s below _ T9 (mkF m 24 #[.val (.int p1), .val (.int p2), .val (.int (f2 p1))] [(.int (f12 p1))])
      refine own_st (fun t k => XS.iloadN X9.here hx rfl (hb hby d8_24) rfl k) ?_
      show OG p e _ s below _ T9 (mkF m 25 #[.val (.int p1), .val (.int p2), .val (.int (f2 p1))] [(.int p2), (.int (f12 p1))])
      obtain ⟨_, _, ⟨T10, L10, k10, n10⟩, -, X10, ⟨Lc10, hQ10, l10, y10, z10⟩, st10⟩ := Jvm.LawKit.callS X9 hx (y := (⟨"com/example/vestbook/vestbook/OriginRepeatsPinLaw", "c0", "(I)C"⟩ : MethodName)) hown (mvT hZ (hw _ (List.mem_of_getElem? (i := 66) rfl))) (mvT hZ (hw _ (List.mem_of_getElem? (i := 67) rfl))) (mvT hZ (hw _ (List.mem_of_getElem? (i := 2) rfl))) (mvT hZ (hw _ (List.mem_of_getElem? (i := 68) rfl))) (by decide) (backOf (W := 1) (rm := ({ frames := 0, cells := 0, slots := 0, locals := 0 } : Room)) (rm12 l Z a0 hw [] p2 h0) hZ (hw _ (List.mem_of_getElem? (i := 68) rfl)) (hw _ (List.mem_of_getElem? (i := 2) rfl)) (by decide) (by decide)) (g := (mkF m 25 #[.val (.int p1), .val (.int p2), .val (.int (f2 p1))] [(.int p2), (.int (f12 p1))])) rfl (by rw [hml]; rfl) (argsL := [(.int p2)]) (rest := [(.int (f12 p1))]) (lenOf pd__I_C rfl) rfl (by show 2 * 0 + _ ≤ _; exact Nat.le_of_eq rfl) (hb hby d8_25) (fun _ _ => ⟨rfl, e9, (by decide : 0 + 0 ≤ _), (by decide : 0 + 0 ≤ _)⟩)
      dsimp only [Pt.U, Pt.locs, Pt.cells, Pt.slots] at X10 l10 y10 z10 st10 hQ10
      subst l10 y10 z10
      obtain ⟨rfl, rfl, e10⟩ := hQ10
      refine own_st st10 ?_
      show OG p e _ s below _ T10 (mkF m 28 #[.val (.int p1), .val (.int p2), .val (.int (f2 p1))] [(.int (f12 p2)), (.int (f12 p1))])
      by_cases c11 : (f12 p1) = (f12 p2)
      · refine own_st (fun t k => XS.icmpYes X10.here hx rfl (pc0 := 28) (pc' := 33) rfl (hb hby d8_28) rfl (teq c11).1 (by decide) (by decide) k) ?_
        show OG p e _ s below _ T10 (mkF m 33 #[.val (.int p1), .val (.int p2), .val (.int (f2 p1))] [])
        refine own_st (fun t k => XS.iloadN X10.here hx rfl (hb hby d8_33) rfl k) ?_
        show OG p e _ s below _ T10 (mkF m 34 #[.val (.int p1), .val (.int p2), .val (.int (f2 p1))] [(.int (f2 p1))])
        refine own_st (fun t k => XS.iconst X10.here hx rfl (hb hby d8_34) k) ?_
        show OG p e _ s below _ T10 (mkF m 35 #[.val (.int p1), .val (.int p2), .val (.int (f2 p1))] [(.int (2 : Int32)), (.int (f2 p1))])
        by_cases c12 : (f2 p1) < (2 : Int32)
        · refine own_st (fun t k => XS.icmpYes X10.here hx rfl (pc0 := 35) (pc' := 51) rfl (hb hby d8_35) rfl (tlt c12).1 (by decide) (by decide) k) ?_
          show OG p e _ s below _ T10 (mkF m 51 #[.val (.int p1), .val (.int p2), .val (.int (f2 p1))] [])
          refine own_st (fun t k => XS.iconst X10.here hx rfl (hb hby d8_51) k) ?_
          show OG p e _ s below _ T10 (mkF m 52 #[.val (.int p1), .val (.int p2), .val (.int (f2 p1))] [(.int (1 : Int32))])
          exact own_retZ X10 hx (t := .boolean) hret (by simp) hlk (hb hby d8_52) (by decide) (by decide) (w := (1 : Int32)) rfl ⟨congrArg (fun z => some (Value.int z)) (show f8 p1 p2 = (1 : Int32) from (by rw [f8, if_pos c3, if_neg c4, if_pos c11, if_pos c12])).symm, rfl, e10⟩
        · refine own_st (fun t k => XS.icmpNo X10.here hx rfl (hb hby d8_35) rfl (flt c12).1 k) ?_
          show OG p e _ s below _ T10 (mkF m 38 #[.val (.int p1), .val (.int p2), .val (.int (f2 p1))] [])
          refine own_st (fun t k => XS.iloadN X10.here hx rfl (hb hby d8_38) rfl k) ?_
          show OG p e _ s below _ T10 (mkF m 39 #[.val (.int p1), .val (.int p2), .val (.int (f2 p1))] [(.int p1)])
          obtain ⟨_, _, ⟨T13, L13, k13, n13⟩, -, X13, ⟨Lc13, hQ13, l13, y13, z13⟩, st13⟩ := Jvm.LawKit.callS X10 hx (y := (⟨"com/example/vestbook/vestbook/OriginRepeatsPinLaw", "c1", "(I)C"⟩ : MethodName)) hown (mvT hZ (hw _ (List.mem_of_getElem? (i := 69) rfl))) (mvT hZ (hw _ (List.mem_of_getElem? (i := 70) rfl))) (mvT hZ (hw _ (List.mem_of_getElem? (i := 2) rfl))) (mvT hZ (hw _ (List.mem_of_getElem? (i := 71) rfl))) (by decide) (backOf (W := 0) (rm := ({ frames := 0, cells := 0, slots := 0, locals := 0 } : Room)) (rm13 l Z a0 hw [] p1 h0) hZ (hw _ (List.mem_of_getElem? (i := 71) rfl)) (hw _ (List.mem_of_getElem? (i := 2) rfl)) (by decide) (by decide)) (g := (mkF m 39 #[.val (.int p1), .val (.int p2), .val (.int (f2 p1))] [(.int p1)])) rfl (by rw [hml]; rfl) (argsL := [(.int p1)]) (rest := []) (lenOf pd__I_C rfl) rfl (by show 2 * 0 + _ ≤ _; exact Nat.le_of_eq rfl) (hb hby d8_39) (fun _ _ => ⟨rfl, e10, (by decide : 0 + 0 ≤ _), (by decide : 0 + 0 ≤ _)⟩)
          dsimp only [Pt.U, Pt.locs, Pt.cells, Pt.slots] at X13 l13 y13 z13 st13 hQ13
          subst l13 y13 z13
          obtain ⟨rfl, rfl, e13⟩ := hQ13
          refine own_st st13 ?_
          show OG p e _ s below _ T13 (mkF m 42 #[.val (.int p1), .val (.int p2), .val (.int (f2 p1))] [(.int (f13 p1))])
          refine own_st (fun t k => XS.iloadN X13.here hx rfl (hb hby d8_42) rfl k) ?_
          show OG p e _ s below _ T13 (mkF m 43 #[.val (.int p1), .val (.int p2), .val (.int (f2 p1))] [(.int p2), (.int (f13 p1))])
          obtain ⟨_, _, ⟨T14, L14, k14, n14⟩, -, X14, ⟨Lc14, hQ14, l14, y14, z14⟩, st14⟩ := Jvm.LawKit.callS X13 hx (y := (⟨"com/example/vestbook/vestbook/OriginRepeatsPinLaw", "c1", "(I)C"⟩ : MethodName)) hown (mvT hZ (hw _ (List.mem_of_getElem? (i := 69) rfl))) (mvT hZ (hw _ (List.mem_of_getElem? (i := 70) rfl))) (mvT hZ (hw _ (List.mem_of_getElem? (i := 2) rfl))) (mvT hZ (hw _ (List.mem_of_getElem? (i := 71) rfl))) (by decide) (backOf (W := 1) (rm := ({ frames := 0, cells := 0, slots := 0, locals := 0 } : Room)) (rm13 l Z a0 hw [] p2 h0) hZ (hw _ (List.mem_of_getElem? (i := 71) rfl)) (hw _ (List.mem_of_getElem? (i := 2) rfl)) (by decide) (by decide)) (g := (mkF m 43 #[.val (.int p1), .val (.int p2), .val (.int (f2 p1))] [(.int p2), (.int (f13 p1))])) rfl (by rw [hml]; rfl) (argsL := [(.int p2)]) (rest := [(.int (f13 p1))]) (lenOf pd__I_C rfl) rfl (by show 2 * 0 + _ ≤ _; exact Nat.le_of_eq rfl) (hb hby d8_43) (fun _ _ => ⟨rfl, e13, (by decide : 0 + 0 ≤ _), (by decide : 0 + 0 ≤ _)⟩)
          dsimp only [Pt.U, Pt.locs, Pt.cells, Pt.slots] at X14 l14 y14 z14 st14 hQ14
          subst l14 y14 z14
          obtain ⟨rfl, rfl, e14⟩ := hQ14
          refine own_st st14 ?_
          show OG p e _ s below _ T14 (mkF m 46 #[.val (.int p1), .val (.int p2), .val (.int (f2 p1))] [(.int (f13 p2)), (.int (f13 p1))])
          by_cases c15 : (f13 p1) = (f13 p2)
          · refine own_st (fun t k => XS.icmpYes X14.here hx rfl (pc0 := 46) (pc' := 51) rfl (hb hby d8_46) rfl (teq c15).1 (by decide) (by decide) k) ?_
            show OG p e _ s below _ T14 (mkF m 51 #[.val (.int p1), .val (.int p2), .val (.int (f2 p1))] [])
            refine own_st (fun t k => XS.iconst X14.here hx rfl (hb hby d8_51) k) ?_
            show OG p e _ s below _ T14 (mkF m 52 #[.val (.int p1), .val (.int p2), .val (.int (f2 p1))] [(.int (1 : Int32))])
            exact own_retZ X14 hx (t := .boolean) hret (by simp) hlk (hb hby d8_52) (by decide) (by decide) (w := (1 : Int32)) rfl ⟨congrArg (fun z => some (Value.int z)) (show f8 p1 p2 = (1 : Int32) from (by rw [f8, if_pos c3, if_neg c4, if_pos c11, if_neg c12, if_pos c15])).symm, rfl, e14⟩
          · refine own_st (fun t k => XS.icmpNo X14.here hx rfl (hb hby d8_46) rfl (feq c15).1 k) ?_
            show OG p e _ s below _ T14 (mkF m 49 #[.val (.int p1), .val (.int p2), .val (.int (f2 p1))] [])
            refine own_st (fun t k => XS.iconst X14.here hx rfl (hb hby d8_49) k) ?_
            show OG p e _ s below _ T14 (mkF m 50 #[.val (.int p1), .val (.int p2), .val (.int (f2 p1))] [(.int (0 : Int32))])
            exact own_retZ X14 hx (t := .boolean) hret (by simp) hlk (hb hby d8_50) (by decide) (by decide) (w := (0 : Int32)) rfl ⟨congrArg (fun z => some (Value.int z)) (show f8 p1 p2 = (0 : Int32) from (by rw [f8, if_pos c3, if_neg c4, if_pos c11, if_neg c12, if_neg c15])).symm, rfl, e14⟩
      · refine own_st (fun t k => XS.icmpNo X10.here hx rfl (hb hby d8_28) rfl (feq c11).1 k) ?_
        show OG p e _ s below _ T10 (mkF m 31 #[.val (.int p1), .val (.int p2), .val (.int (f2 p1))] [])
        refine own_st (fun t k => XS.iconst X10.here hx rfl (hb hby d8_31) k) ?_
        show OG p e _ s below _ T10 (mkF m 32 #[.val (.int p1), .val (.int p2), .val (.int (f2 p1))] [(.int (0 : Int32))])
        exact own_retZ X10 hx (t := .boolean) hret (by simp) hlk (hb hby d8_32) (by decide) (by decide) (w := (0 : Int32)) rfl ⟨congrArg (fun z => some (Value.int z)) (show f8 p1 p2 = (0 : Int32) from (by rw [f8, if_pos c3, if_neg c4, if_neg c11])).symm, rfl, e10⟩
  · refine own_st (fun t k => XS.icmpNo X2.here hx rfl (hb hby d8_10) rfl (feq c3).1 k) ?_
    show OG p e _ s below _ T2 (mkF m 13 #[.val (.int p1), .val (.int p2), .val (.int (f2 p1))] [])
    refine own_st (fun t k => XS.iconst X2.here hx rfl (hb hby d8_13) k) ?_
    show OG p e _ s below _ T2 (mkF m 14 #[.val (.int p1), .val (.int p2), .val (.int (f2 p1))] [(.int (0 : Int32))])
    exact own_retZ X2 hx (t := .boolean) hret (by simp) hlk (hb hby d8_14) (by decide) (by decide) (w := (0 : Int32)) rfl ⟨congrArg (fun z => some (Value.int z)) (show f8 p1 p2 = (0 : Int32) from (by rw [f8, if_neg c3])).symm, rfl, e2⟩
theorem d15_0 : decode jdk_52_method_21_code 0 = .ok (.iconst 0, 1) := by decide +kernel
theorem d15_1 : decode jdk_52_method_21_code 1 = .ok (.istore 5, 2) := by decide +kernel
theorem d15_3 : decode jdk_52_method_21_code 3 = .ok (.iload 5, 2) := by decide +kernel
theorem d15_5 : decode jdk_52_method_21_code 5 = .ok (.iload 4, 2) := by decide +kernel
theorem d15_7 : decode jdk_52_method_21_code 7 = .ok (.if_icmp .ge 37, 3) := by decide +kernel
theorem d15_10 : decode jdk_52_method_21_code 10 = .ok (.aload_n 0, 1) := by decide +kernel
theorem d15_11 : decode jdk_52_method_21_code 11 = .ok (.iload_n 1, 1) := by decide +kernel
theorem d15_12 : decode jdk_52_method_21_code 12 = .ok (.caload, 1) := by decide +kernel
theorem d15_13 : decode jdk_52_method_21_code 13 = .ok (.istore 6, 2) := by decide +kernel
theorem d15_15 : decode jdk_52_method_21_code 15 = .ok (.iload 6, 2) := by decide +kernel
theorem d15_17 : decode jdk_52_method_21_code 17 = .ok (.sipush 255, 3) := by decide +kernel
theorem d15_20 : decode jdk_52_method_21_code 20 = .ok (.if_icmp .le 6, 3) := by decide +kernel
theorem d15_26 : decode jdk_52_method_21_code 26 = .ok (.aload_n 2, 1) := by decide +kernel
theorem d15_27 : decode jdk_52_method_21_code 27 = .ok (.iload_n 3, 1) := by decide +kernel
theorem d15_28 : decode jdk_52_method_21_code 28 = .ok (.iload 6, 2) := by decide +kernel
theorem d15_30 : decode jdk_52_method_21_code 30 = .ok (.i2b, 1) := by decide +kernel
theorem d15_31 : decode jdk_52_method_21_code 31 = .ok (.bastore, 1) := by decide +kernel
theorem d15_32 : decode jdk_52_method_21_code 32 = .ok (.iinc 1 1, 3) := by decide +kernel
theorem d15_35 : decode jdk_52_method_21_code 35 = .ok (.iinc 3 1, 3) := by decide +kernel
theorem d15_38 : decode jdk_52_method_21_code 38 = .ok (.iinc 5 1, 3) := by decide +kernel
theorem d15_41 : decode jdk_52_method_21_code 41 = .ok (.goto (-38), 3) := by decide +kernel
theorem d15_44 : decode jdk_52_method_21_code 44 = .ok (.iload 4, 2) := by decide +kernel
theorem d15_46 : decode jdk_52_method_21_code 46 = .ok (.ireturn, 1) := by decide +kernel
theorem pn_15 : plainFor (⟨"java/lang/StringUTF16", "compress", "([CI[BII)I"⟩ : MethodName) = true := by first | exact plainFor_of_name (by first | (simp [plainName, overriddenIn]; done) | decide +kernel) | decide +kernel
theorem ef_15_1 (m : MethodId) (a1 : Addr) (a3 : Addr) : entryFrame m #[(.ref a1), (.int (0 : Int32)), (.ref a3), (.int (0 : Int32)), (.int (1 : Int32))] 7 = (mkF m 0 #[.val (.ref a1), .val (.int (0 : Int32)), .val (.ref a3), .val (.int (0 : Int32)), .val (.int (1 : Int32)), .unset, .unset] []) := by first | (simp [entryFrame, mkF, argsToLocals, Value.category]; done) | rfl
abbrev Q15_1 (Z : State) (a1 : Addr) (a3 : Addr) (c0 : Int32) (h0 : Heap) (n0 : Nat) : Option Value → Heap → List Loc → Prop := (fun v h L => v = some (.int (1 : Int32)) ∧ Fr n0 L ∧ Keep h0 h [a3] ∧ OA Z h a3 .byte [(.int (nar .byte (c0.toInt8.toInt32)))])
set_option maxRecDepth 65536 in
set_option maxHeartbeats 40000000 in
theorem rm15_1 (l : Launch) (Z : State) (a0 : Array Value) (hw : ∀ d ∈ tables_1, d.before a0 Z = true) (ws : List Jvm.Cond) (a1 : Addr) (a3 : Addr) (c0 : Int32) (h0 : Heap) (n0 : Nat) (R0 : OA Z h0 a1 .char [(.int c0)]) (R1 : OA Z h0 a3 .byte [(.int (0 : Int32))]) (g_a3 : n0 ≤ a3) (ne_a1_a3 : a1 ≠ a3) (hc0 : ¬ (255 : Int32) < c0) :
    OMet l Z (⟨"java/lang/StringUTF16", "compress", "([CI[BII)I"⟩ : MethodName) jdk_52_method_21_code 7 (some .int) ws ({ frames := 0, cells := 0, slots := 0, locals := 0 } : Room) #[(.ref a1), (.int (0 : Int32)), (.ref a3), (.int (0 : Int32)), (.int (1 : Int32))] h0 (Q15_1 Z a1 a3 c0 h0 n0) := by
  refine own_enter pn_15 ?_
  intro p e s m below meth c s₁ hx hby hml0 hown hret hlk hnm hZ X0 e0
  have hml : c.maxLocals = 7 := hml0
  have N0 := Fr.nil n0
  refine own_cast (ef_15_1 m a1 a3) ?_
  show OG p e ({ frames := 0, cells := 0, slots := 0, locals := 0 } : Room) s below (fun v h L => v = some (.int (1 : Int32)) ∧ Fr n0 L ∧ Keep h0 h [a3] ∧ OA Z h a3 .byte [(.int (nar .byte (c0.toInt8.toInt32)))]) s₁ (mkF m 0 #[.val (.ref a1), .val (.int (0 : Int32)), .val (.ref a3), .val (.int (0 : Int32)), .val (.int (1 : Int32)), .unset, .unset] [])
  refine own_st (fun t k => XS.iconst X0.here hx rfl (hb hby d15_0) k) ?_
  show OG p e _ s below _ s₁ (mkF m 1 #[.val (.ref a1), .val (.int (0 : Int32)), .val (.ref a3), .val (.int (0 : Int32)), .val (.int (1 : Int32)), .unset, .unset] [(.int (0 : Int32))])
  refine own_st (fun t k => XS.istore X0.here hx rfl (hb hby d15_1) rfl (l' := #[.val (.ref a1), .val (.int (0 : Int32)), .val (.ref a3), .val (.int (0 : Int32)), .val (.int (1 : Int32)), .val (.int (0 : Int32)), .unset]) rfl k) ?_
  show OG p e _ s below _ s₁ (mkF m 3 #[.val (.ref a1), .val (.int (0 : Int32)), .val (.ref a3), .val (.int (0 : Int32)), .val (.int (1 : Int32)), .val (.int (0 : Int32)), .unset] [])
  refine own_st (fun t k => XS.iload X0.here hx rfl (hb hby d15_3) rfl k) ?_
  show OG p e _ s below _ s₁ (mkF m 5 #[.val (.ref a1), .val (.int (0 : Int32)), .val (.ref a3), .val (.int (0 : Int32)), .val (.int (1 : Int32)), .val (.int (0 : Int32)), .unset] [(.int (0 : Int32))])
  refine own_st (fun t k => XS.iload X0.here hx rfl (hb hby d15_5) rfl k) ?_
  show OG p e _ s below _ s₁ (mkF m 7 #[.val (.ref a1), .val (.int (0 : Int32)), .val (.ref a3), .val (.int (0 : Int32)), .val (.int (1 : Int32)), .val (.int (0 : Int32)), .unset] [(.int (1 : Int32)), (.int (0 : Int32))])
  refine own_st (fun t k => XS.icmpNo X0.here hx rfl (hb hby d15_7) rfl (by decide) k) ?_
  show OG p e _ s below _ s₁ (mkF m 10 #[.val (.ref a1), .val (.int (0 : Int32)), .val (.ref a3), .val (.int (0 : Int32)), .val (.int (1 : Int32)), .val (.int (0 : Int32)), .unset] [])
  refine own_st (fun t k => XS.aloadN X0.here hx rfl (hb hby d15_10) rfl rfl k) ?_
  show OG p e _ s below _ s₁ (mkF m 11 #[.val (.ref a1), .val (.int (0 : Int32)), .val (.ref a3), .val (.int (0 : Int32)), .val (.int (1 : Int32)), .val (.int (0 : Int32)), .unset] [(.ref a1)])
  refine own_st (fun t k => XS.iloadN X0.here hx rfl (hb hby d15_11) rfl k) ?_
  show OG p e _ s below _ s₁ (mkF m 12 #[.val (.ref a1), .val (.int (0 : Int32)), .val (.ref a3), .val (.int (0 : Int32)), .val (.int (1 : Int32)), .val (.int (0 : Int32)), .unset] [(.int (0 : Int32)), (.ref a1)])
  obtain ⟨cl1, Ar1, hi1, ha1⟩ := own_rd R0 (j := (0 : Int32)) (i := 0) (by decide) (by decide) (v := (.int c0)) rfl
  refine own_st (fun t k => X0.caload hx (j := (0 : Int32)) (v := (.int c0)) (by rw [e0]; exact Ar1.1) (State.isArrayOf_alike hZ.alike Ar1.2.1) Ar1.2.2 hi1 ha1 (g := (mkF m 12 #[.val (.ref a1), .val (.int (0 : Int32)), .val (.ref a3), .val (.int (0 : Int32)), .val (.int (1 : Int32)), .val (.int (0 : Int32)), .unset] [(.int (0 : Int32)), (.ref a1)])) rfl rfl (hb hby d15_12) t k) ?_
  show OG p e _ s below _ s₁ (mkF m 13 #[.val (.ref a1), .val (.int (0 : Int32)), .val (.ref a3), .val (.int (0 : Int32)), .val (.int (1 : Int32)), .val (.int (0 : Int32)), .unset] [(.int c0)])
  refine own_st (fun t k => XS.istore X0.here hx rfl (hb hby d15_13) rfl (l' := #[.val (.ref a1), .val (.int (0 : Int32)), .val (.ref a3), .val (.int (0 : Int32)), .val (.int (1 : Int32)), .val (.int (0 : Int32)), .val (.int c0)]) rfl k) ?_
  show OG p e _ s below _ s₁ (mkF m 15 #[.val (.ref a1), .val (.int (0 : Int32)), .val (.ref a3), .val (.int (0 : Int32)), .val (.int (1 : Int32)), .val (.int (0 : Int32)), .val (.int c0)] [])
  refine own_st (fun t k => XS.iload X0.here hx rfl (hb hby d15_15) rfl k) ?_
  show OG p e _ s below _ s₁ (mkF m 17 #[.val (.ref a1), .val (.int (0 : Int32)), .val (.ref a3), .val (.int (0 : Int32)), .val (.int (1 : Int32)), .val (.int (0 : Int32)), .val (.int c0)] [(.int c0)])
  refine own_st (fun t k => XS.sipush X0.here hx rfl (hb hby d15_17) k) ?_
  show OG p e _ s below _ s₁ (mkF m 20 #[.val (.ref a1), .val (.int (0 : Int32)), .val (.ref a3), .val (.int (0 : Int32)), .val (.int (1 : Int32)), .val (.int (0 : Int32)), .val (.int c0)] [(.int (255 : Int32)), (.int c0)])
  refine own_st (fun t k => XS.icmpYes X0.here hx rfl (pc0 := 20) (pc' := 26) rfl (hb hby d15_20) rfl (flt hc0).2.2.2 (by decide) (by decide) k) ?_
  show OG p e _ s below _ s₁ (mkF m 26 #[.val (.ref a1), .val (.int (0 : Int32)), .val (.ref a3), .val (.int (0 : Int32)), .val (.int (1 : Int32)), .val (.int (0 : Int32)), .val (.int c0)] [])
  refine own_st (fun t k => XS.aloadN X0.here hx rfl (hb hby d15_26) rfl rfl k) ?_
  show OG p e _ s below _ s₁ (mkF m 27 #[.val (.ref a1), .val (.int (0 : Int32)), .val (.ref a3), .val (.int (0 : Int32)), .val (.int (1 : Int32)), .val (.int (0 : Int32)), .val (.int c0)] [(.ref a3)])
  refine own_st (fun t k => XS.iloadN X0.here hx rfl (hb hby d15_27) rfl k) ?_
  show OG p e _ s below _ s₁ (mkF m 28 #[.val (.ref a1), .val (.int (0 : Int32)), .val (.ref a3), .val (.int (0 : Int32)), .val (.int (1 : Int32)), .val (.int (0 : Int32)), .val (.int c0)] [(.int (0 : Int32)), (.ref a3)])
  refine own_st (fun t k => XS.iload X0.here hx rfl (hb hby d15_28) rfl k) ?_
  show OG p e _ s below _ s₁ (mkF m 30 #[.val (.ref a1), .val (.int (0 : Int32)), .val (.ref a3), .val (.int (0 : Int32)), .val (.int (1 : Int32)), .val (.int (0 : Int32)), .val (.int c0)] [(.int c0), (.int (0 : Int32)), (.ref a3)])
  refine own_st (fun t k => XS.i2b X0.here hx rfl (hb hby d15_30) rfl k) ?_
  show OG p e _ s below _ s₁ (mkF m 31 #[.val (.ref a1), .val (.int (0 : Int32)), .val (.ref a3), .val (.int (0 : Int32)), .val (.int (1 : Int32)), .val (.int (0 : Int32)), .val (.int c0)] [(.int (c0.toInt8.toInt32)), (.int (0 : Int32)), (.ref a3)])
  obtain ⟨cl2, Ar2, hi2⟩ := own_wr R1 (j := (0 : Int32)) (i := 0) (by decide) (by decide) (by decide : 0 < 1)
  obtain ⟨T2, h2, X2, e2, W2, st2⟩ := stB X0 hx hZ e0 Ar2 hi2 (g := (mkF m 31 #[.val (.ref a1), .val (.int (0 : Int32)), .val (.ref a3), .val (.int (0 : Int32)), .val (.int (1 : Int32)), .val (.int (0 : Int32)), .val (.int c0)] [(.int (c0.toInt8.toInt32)), (.int (0 : Int32)), (.ref a3)])) rfl rfl (hb hby d15_31)
  refine own_st st2 ?_
  have N2 := Fr.snoc X2 N0 g_a3
  have K3 : Keep h0 h2 [a3] := (Keep.refl h0 [a3]).wr W2 (Or.inl (List.mem_of_getElem? (i := 0) rfl))
  have F4 : OA Z h2 a1 .char [(.int c0)] := (R0.other W2 ne_a1_a3)
  have F5 : OA Z h2 a3 .byte [(.int (nar .byte (c0.toInt8.toInt32)))] := (R1.set W2 (i := 0) (by decide))
  show OG p e _ s below _ T2 (mkF m 32 #[.val (.ref a1), .val (.int (0 : Int32)), .val (.ref a3), .val (.int (0 : Int32)), .val (.int (1 : Int32)), .val (.int (0 : Int32)), .val (.int c0)] [])
  refine own_st (fun t k => XS.iinc X2.here hx rfl (hb hby d15_32) rfl (l' := #[.val (.ref a1), .val (.int ((0 : Int32) + (1 : Int32))), .val (.ref a3), .val (.int (0 : Int32)), .val (.int (1 : Int32)), .val (.int (0 : Int32)), .val (.int c0)]) rfl k) ?_
  show OG p e _ s below _ T2 (mkF m 35 #[.val (.ref a1), .val (.int (1 : Int32)), .val (.ref a3), .val (.int (0 : Int32)), .val (.int (1 : Int32)), .val (.int (0 : Int32)), .val (.int c0)] [])
  refine own_st (fun t k => XS.iinc X2.here hx rfl (hb hby d15_35) rfl (l' := #[.val (.ref a1), .val (.int (1 : Int32)), .val (.ref a3), .val (.int ((0 : Int32) + (1 : Int32))), .val (.int (1 : Int32)), .val (.int (0 : Int32)), .val (.int c0)]) rfl k) ?_
  show OG p e _ s below _ T2 (mkF m 38 #[.val (.ref a1), .val (.int (1 : Int32)), .val (.ref a3), .val (.int (1 : Int32)), .val (.int (1 : Int32)), .val (.int (0 : Int32)), .val (.int c0)] [])
  refine own_st (fun t k => XS.iinc X2.here hx rfl (hb hby d15_38) rfl (l' := #[.val (.ref a1), .val (.int (1 : Int32)), .val (.ref a3), .val (.int (1 : Int32)), .val (.int (1 : Int32)), .val (.int ((0 : Int32) + (1 : Int32))), .val (.int c0)]) rfl k) ?_
  show OG p e _ s below _ T2 (mkF m 41 #[.val (.ref a1), .val (.int (1 : Int32)), .val (.ref a3), .val (.int (1 : Int32)), .val (.int (1 : Int32)), .val (.int (1 : Int32)), .val (.int c0)] [])
  refine own_st (fun t k => XS.goto X2.here hx rfl (pc0 := 41) (pc' := 3) rfl (hb hby d15_41) (by decide) (by decide) k) ?_
  show OG p e _ s below _ T2 (mkF m 3 #[.val (.ref a1), .val (.int (1 : Int32)), .val (.ref a3), .val (.int (1 : Int32)), .val (.int (1 : Int32)), .val (.int (1 : Int32)), .val (.int c0)] [])
  refine own_st (fun t k => XS.iload X2.here hx rfl (hb hby d15_3) rfl k) ?_
  show OG p e _ s below _ T2 (mkF m 5 #[.val (.ref a1), .val (.int (1 : Int32)), .val (.ref a3), .val (.int (1 : Int32)), .val (.int (1 : Int32)), .val (.int (1 : Int32)), .val (.int c0)] [(.int (1 : Int32))])
  refine own_st (fun t k => XS.iload X2.here hx rfl (hb hby d15_5) rfl k) ?_
  show OG p e _ s below _ T2 (mkF m 7 #[.val (.ref a1), .val (.int (1 : Int32)), .val (.ref a3), .val (.int (1 : Int32)), .val (.int (1 : Int32)), .val (.int (1 : Int32)), .val (.int c0)] [(.int (1 : Int32)), (.int (1 : Int32))])
  refine own_st (fun t k => XS.icmpYes X2.here hx rfl (pc0 := 7) (pc' := 44) rfl (hb hby d15_7) rfl (by decide) (by decide) (by decide) k) ?_
  show OG p e _ s below _ T2 (mkF m 44 #[.val (.ref a1), .val (.int (1 : Int32)), .val (.ref a3), .val (.int (1 : Int32)), .val (.int (1 : Int32)), .val (.int (1 : Int32)), .val (.int c0)] [])
  refine own_st (fun t k => XS.iload X2.here hx rfl (hb hby d15_44) rfl k) ?_
  show OG p e _ s below _ T2 (mkF m 46 #[.val (.ref a1), .val (.int (1 : Int32)), .val (.ref a3), .val (.int (1 : Int32)), .val (.int (1 : Int32)), .val (.int (1 : Int32)), .val (.int c0)] [(.int (1 : Int32))])
  refine own_retI X2 hx hret hlk (hb hby d15_46) (by decide) (by decide) ?_
  rw [e2]
  exact ⟨rfl, N2, K3, F5⟩
theorem d14_0 : decode jdk_52_method_16_code 0 = .ok (.iload_n 2, 1) := by decide +kernel
theorem d14_1 : decode jdk_52_method_16_code 1 = .ok (.newarray .byte, 2) := by decide +kernel
theorem d14_3 : decode jdk_52_method_16_code 3 = .ok (.astore_n 3, 1) := by decide +kernel
theorem d14_4 : decode jdk_52_method_16_code 4 = .ok (.aload_n 0, 1) := by decide +kernel
theorem d14_5 : decode jdk_52_method_16_code 5 = .ok (.iload_n 1, 1) := by decide +kernel
theorem d14_6 : decode jdk_52_method_16_code 6 = .ok (.aload_n 3, 1) := by decide +kernel
theorem d14_7 : decode jdk_52_method_16_code 7 = .ok (.iconst 0, 1) := by decide +kernel
theorem d14_8 : decode jdk_52_method_16_code 8 = .ok (.iload_n 2, 1) := by decide +kernel
theorem d14_9 : decode jdk_52_method_16_code 9 = .ok (.invokestatic 115, 3) := by decide +kernel
theorem d14_12 : decode jdk_52_method_16_code 12 = .ok (.istore 4, 2) := by decide +kernel
theorem d14_14 : decode jdk_52_method_16_code 14 = .ok (.iload 4, 2) := by decide +kernel
theorem d14_16 : decode jdk_52_method_16_code 16 = .ok (.iload_n 2, 1) := by decide +kernel
theorem d14_17 : decode jdk_52_method_16_code 17 = .ok (.if_icmp .eq 40, 3) := by decide +kernel
theorem d14_57 : decode jdk_52_method_16_code 57 = .ok (.aload_n 3, 1) := by decide +kernel
theorem d14_58 : decode jdk_52_method_16_code 58 = .ok (.areturn, 1) := by decide +kernel
theorem pd___CI_BII_I : parseMethodDescriptor "([CI[BII)I" = some ⟨[(.array .char), .int, (.array .byte), .int, .int], some .int⟩ := by decide +kernel
theorem pn_14 : plainFor (⟨"java/lang/StringUTF16", "compress", "([CII)[B"⟩ : MethodName) = true := by first | exact plainFor_of_name (by first | (simp [plainName, overriddenIn]; done) | decide +kernel) | decide +kernel
theorem ef_14_1 (m : MethodId) (a1 : Addr) : entryFrame m #[(.ref a1), (.int (0 : Int32)), (.int (1 : Int32))] 6 = (mkF m 0 #[.val (.ref a1), .val (.int (0 : Int32)), .val (.int (1 : Int32)), .unset, .unset, .unset] []) := by first | (simp [entryFrame, mkF, argsToLocals, Value.category]; done) | rfl
abbrev Q14_1 (Z : State) (a1 : Addr) (c0 : Int32) (h0 : Heap) (n0 : Nat) : Option Value → Heap → List Loc → Prop := (fun v h L => Fr n0 L ∧ Keep h0 h [] ∧ ∃ b : Addr, h0.size ≤ b ∧ v = some (.ref b) ∧ OA Z h b .byte [(.int (nar .byte (c0.toInt8.toInt32)))])
set_option maxRecDepth 65536 in
set_option maxHeartbeats 40000000 in
theorem rm14_1 (l : Launch) (Z : State) (a0 : Array Value) (hw : ∀ d ∈ tables_1, d.before a0 Z = true) (ws : List Jvm.Cond) (a1 : Addr) (c0 : Int32) (h0 : Heap) (n0 : Nat) (Z0 : n0 ≤ h0.size) (R0 : OA Z h0 a1 .char [(.int c0)]) (hc0 : ¬ (255 : Int32) < c0) :
    OMet l Z (⟨"java/lang/StringUTF16", "compress", "([CII)[B"⟩ : MethodName) jdk_52_method_16_code 6 (some (.array .byte)) ws ({ frames := 1, cells := 1, slots := 1, locals := 18 } : Room) #[(.ref a1), (.int (0 : Int32)), (.int (1 : Int32))] h0 (Q14_1 Z a1 c0 h0 n0) := by
  refine own_enter pn_14 ?_
  intro p e s m below meth c s₁ hx hby hml0 hown hret hlk hnm hZ X0 e0
  have hml : c.maxLocals = 6 := hml0
  have N0 := Fr.nil n0
  refine own_cast (ef_14_1 m a1) ?_
  show OG p e ({ frames := 1, cells := 1, slots := 1, locals := 18 } : Room) s below (fun v h L => Fr n0 L ∧ Keep h0 h [] ∧ ∃ b : Addr, h0.size ≤ b ∧ v = some (.ref b) ∧ OA Z h b .byte [(.int (nar .byte (c0.toInt8.toInt32)))]) s₁ (mkF m 0 #[.val (.ref a1), .val (.int (0 : Int32)), .val (.int (1 : Int32)), .unset, .unset, .unset] [])
  refine own_st (fun t k => XS.iloadN X0.here hx rfl (hb hby d14_0) rfl k) ?_
  show OG p e _ s below _ s₁ (mkF m 1 #[.val (.ref a1), .val (.int (0 : Int32)), .val (.int (1 : Int32)), .unset, .unset, .unset] [(.int (1 : Int32))])
  obtain ⟨T1, h1, k1, X1, e1, E1, A1, st1⟩ := newP X0 hx hZ (hw _ (List.mem_of_getElem? (i := 22) rfl)) e0 (g := (mkF m 1 #[.val (.ref a1), .val (.int (0 : Int32)), .val (.int (1 : Int32)), .unset, .unset, .unset] [(.int (1 : Int32))])) rfl (hb hby d14_1) rfl (by decide) (cap := 1) (by decide) (by decide) (by decide) (by decide)
  obtain ⟨b1, gb1⟩ : ∃ z, z = h0.size := ⟨_, rfl⟩
  rw [← gb1] at A1 st1
  refine own_st st1 ?_
  have ge_b1 : n0 ≤ b1 := by rw [gb1]; exact Nat.le_trans Z0 (Keep.refl h0 []).1
  have sz_b1 : h0.size ≤ b1 := by rw [gb1]; exact (Keep.refl h0 []).1
  have ne_a1_b1 : a1 ≠ b1 := Nat.ne_of_lt (Nat.lt_of_lt_of_eq R0.lt gb1.symm)
  have F2 : OA Z h1 a1 .char [(.int c0)] := (R0.ext E1)
  have K3 : Keep h0 h1 [] := (Keep.refl h0 []).ext E1
  have F4 : OA Z h1 b1 .byte [(.int (0 : Int32))] := OA.new A1
  show OG p e _ s below _ T1 (mkF m 3 #[.val (.ref a1), .val (.int (0 : Int32)), .val (.int (1 : Int32)), .unset, .unset, .unset] [(.ref b1)])
  refine own_st (fun t k => XS.astoreN X1.here hx rfl (hb hby d14_3) rfl rfl (l' := #[.val (.ref a1), .val (.int (0 : Int32)), .val (.int (1 : Int32)), .val (.ref b1), .unset, .unset]) rfl k) ?_
  show OG p e _ s below _ T1 (mkF m 4 #[.val (.ref a1), .val (.int (0 : Int32)), .val (.int (1 : Int32)), .val (.ref b1), .unset, .unset] [])
  refine own_st (fun t k => XS.aloadN X1.here hx rfl (hb hby d14_4) rfl rfl k) ?_
  show OG p e _ s below _ T1 (mkF m 5 #[.val (.ref a1), .val (.int (0 : Int32)), .val (.int (1 : Int32)), .val (.ref b1), .unset, .unset] [(.ref a1)])
  refine own_st (fun t k => XS.iloadN X1.here hx rfl (hb hby d14_5) rfl k) ?_
  show OG p e _ s below _ T1 (mkF m 6 #[.val (.ref a1), .val (.int (0 : Int32)), .val (.int (1 : Int32)), .val (.ref b1), .unset, .unset] [(.int (0 : Int32)), (.ref a1)])
  refine own_st (fun t k => XS.aloadN X1.here hx rfl (hb hby d14_6) rfl rfl k) ?_
  show OG p e _ s below _ T1 (mkF m 7 #[.val (.ref a1), .val (.int (0 : Int32)), .val (.int (1 : Int32)), .val (.ref b1), .unset, .unset] [(.ref b1), (.int (0 : Int32)), (.ref a1)])
  refine own_st (fun t k => XS.iconst X1.here hx rfl (hb hby d14_7) k) ?_
  show OG p e _ s below _ T1 (mkF m 8 #[.val (.ref a1), .val (.int (0 : Int32)), .val (.int (1 : Int32)), .val (.ref b1), .unset, .unset] [(.int (0 : Int32)), (.ref b1), (.int (0 : Int32)), (.ref a1)])
  refine own_st (fun t k => XS.iloadN X1.here hx rfl (hb hby d14_8) rfl k) ?_
  show OG p e _ s below _ T1 (mkF m 9 #[.val (.ref a1), .val (.int (0 : Int32)), .val (.int (1 : Int32)), .val (.ref b1), .unset, .unset] [(.int (1 : Int32)), (.int (0 : Int32)), (.ref b1), (.int (0 : Int32)), (.ref a1)])
  obtain ⟨_, _, ⟨T5, L5, k5, n5⟩, -, X5, ⟨Lc5, hQ5, l5, y5, z5⟩, st5⟩ := Jvm.LawKit.callS X1 hx (y := (⟨"java/lang/StringUTF16", "compress", "([CI[BII)I"⟩ : MethodName)) hown (mvT hZ (hw _ (List.mem_of_getElem? (i := 76) rfl))) (mvT hZ (hw _ (List.mem_of_getElem? (i := 77) rfl))) (mvT hZ (hw _ (List.mem_of_getElem? (i := 74) rfl))) (mvT hZ (hw _ (List.mem_of_getElem? (i := 78) rfl))) (by decide) (backOf (W := 0) (rm := ({ frames := 0, cells := 0, slots := 0, locals := 0 } : Room)) (rm15_1 l Z a0 hw [] a1 b1 c0 h1 n0 F2 F4 ge_b1 ne_a1_b1 hc0) hZ (hw _ (List.mem_of_getElem? (i := 78) rfl)) (hw _ (List.mem_of_getElem? (i := 74) rfl)) (by decide) (by decide)) (g := (mkF m 9 #[.val (.ref a1), .val (.int (0 : Int32)), .val (.int (1 : Int32)), .val (.ref b1), .unset, .unset] [(.int (1 : Int32)), (.int (0 : Int32)), (.ref b1), (.int (0 : Int32)), (.ref a1)])) rfl (by rw [hml]; rfl) (argsL := [(.ref a1), (.int (0 : Int32)), (.ref b1), (.int (0 : Int32)), (.int (1 : Int32))]) (rest := []) (lenOf pd___CI_BII_I rfl) rfl (by show 2 * 0 + _ ≤ _; exact Nat.le_of_eq rfl) (hb hby d14_9) (fun _ _ => ⟨rfl, e1, (by decide : 1 + 0 ≤ _), (by decide : 1 + 0 ≤ _)⟩)
  dsimp only [Pt.U, Pt.locs, Pt.cells, Pt.slots] at X5 l5 y5 z5 st5 hQ5
  subst l5 y5 z5
  obtain ⟨rfl, N5q, K5q, P5_0⟩ := hQ5
  refine own_st st5 ?_
  have N5 := Fr.app N0 N5q
  have K5 : Keep h0 T5.heap [] := K3.trans K5q (own_all1 (Or.inr sz_b1))
  have F6 : OA Z T5.heap a1 .char [(.int c0)] := (F2.keep K5q (own_nin1 ne_a1_b1))
  show OG p e _ s below _ T5 (mkF m 12 #[.val (.ref a1), .val (.int (0 : Int32)), .val (.int (1 : Int32)), .val (.ref b1), .unset, .unset] [(.int (1 : Int32))])
  refine own_st (fun t k => XS.istore X5.here hx rfl (hb hby d14_12) rfl (l' := #[.val (.ref a1), .val (.int (0 : Int32)), .val (.int (1 : Int32)), .val (.ref b1), .val (.int (1 : Int32)), .unset]) rfl k) ?_
  show OG p e _ s below _ T5 (mkF m 14 #[.val (.ref a1), .val (.int (0 : Int32)), .val (.int (1 : Int32)), .val (.ref b1), .val (.int (1 : Int32)), .unset] [])
  refine own_st (fun t k => XS.iload X5.here hx rfl (hb hby d14_14) rfl k) ?_
  show OG p e _ s below _ T5 (mkF m 16 #[.val (.ref a1), .val (.int (0 : Int32)), .val (.int (1 : Int32)), .val (.ref b1), .val (.int (1 : Int32)), .unset] [(.int (1 : Int32))])
  refine own_st (fun t k => XS.iloadN X5.here hx rfl (hb hby d14_16) rfl k) ?_
  show OG p e _ s below _ T5 (mkF m 17 #[.val (.ref a1), .val (.int (0 : Int32)), .val (.int (1 : Int32)), .val (.ref b1), .val (.int (1 : Int32)), .unset] [(.int (1 : Int32)), (.int (1 : Int32))])
  refine own_st (fun t k => XS.icmpYes X5.here hx rfl (pc0 := 17) (pc' := 57) rfl (hb hby d14_17) rfl (by decide) (by decide) (by decide) k) ?_
  show OG p e _ s below _ T5 (mkF m 57 #[.val (.ref a1), .val (.int (0 : Int32)), .val (.int (1 : Int32)), .val (.ref b1), .val (.int (1 : Int32)), .unset] [])
  refine own_st (fun t k => XS.aloadN X5.here hx rfl (hb hby d14_57) rfl rfl k) ?_
  show OG p e _ s below _ T5 (mkF m 58 #[.val (.ref a1), .val (.int (0 : Int32)), .val (.int (1 : Int32)), .val (.ref b1), .val (.int (1 : Int32)), .unset] [(.ref b1)])
  refine own_retV X5 hx hret rfl (Or.inr (Or.inr (Or.inr (Or.inr ⟨rfl, rfl, rfl⟩)))) hlk (hb hby d14_58) (by decide) (by decide) ?_
  exact ⟨N5, K5, b1, sz_b1, rfl, P5_0⟩
theorem d16_0 : decode jdk_52_method_15_code 0 = .ok (.iload_n 1, 1) := by decide +kernel
theorem d16_1 : decode jdk_52_method_15_code 1 = .ok (.aload_n 0, 1) := by decide +kernel
theorem d16_2 : decode jdk_52_method_15_code 2 = .ok (.arraylength, 1) := by decide +kernel
theorem d16_3 : decode jdk_52_method_15_code 3 = .ok (.isub, 1) := by decide +kernel
theorem d16_4 : decode jdk_52_method_15_code 4 = .ok (.bipush 31, 2) := by decide +kernel
theorem d16_6 : decode jdk_52_method_15_code 6 = .ok (.iushr, 1) := by decide +kernel
theorem d16_7 : decode jdk_52_method_15_code 7 = .ok (.i2b, 1) := by decide +kernel
theorem d16_8 : decode jdk_52_method_15_code 8 = .ok (.ireturn, 1) := by decide +kernel
theorem pn_16 : plainFor (⟨"java/lang/StringUTF16", "coderFromArrayLen", "([BI)B"⟩ : MethodName) = true := by first | exact plainFor_of_name (by first | (simp [plainName, overriddenIn]; done) | decide +kernel) | decide +kernel
theorem ef_16_1 (m : MethodId) (a1 : Addr) : entryFrame m #[(.ref a1), (.int (1 : Int32))] 2 = (mkF m 0 #[.val (.ref a1), .val (.int (1 : Int32))] []) := by first | (simp [entryFrame, mkF, argsToLocals, Value.category]; done) | rfl
abbrev Q16_1 (Z : State) (a1 : Addr) (c0 : Int32) (h0 : Heap) (n0 : Nat) : Option Value → Heap → List Loc → Prop := (fun v h L => v = some (.int (0 : Int32)) ∧ Fr n0 L ∧ Keep h0 h [])
set_option maxRecDepth 65536 in
set_option maxHeartbeats 40000000 in
theorem rm16_1 (l : Launch) (Z : State) (a0 : Array Value) (hw : ∀ d ∈ tables_1, d.before a0 Z = true) (ws : List Jvm.Cond) (a1 : Addr) (c0 : Int32) (h0 : Heap) (n0 : Nat) (R0 : OA Z h0 a1 .byte [(.int c0)]) :
    OMet l Z (⟨"java/lang/StringUTF16", "coderFromArrayLen", "([BI)B"⟩ : MethodName) jdk_52_method_15_code 2 (some .byte) ws ({ frames := 0, cells := 0, slots := 0, locals := 0 } : Room) #[(.ref a1), (.int (1 : Int32))] h0 (Q16_1 Z a1 c0 h0 n0) := by
  refine own_enter pn_16 ?_
  intro p e s m below meth c s₁ hx hby hml0 hown hret hlk hnm hZ X0 e0
  have hml : c.maxLocals = 2 := hml0
  have N0 := Fr.nil n0
  refine own_cast (ef_16_1 m a1) ?_
  show OG p e ({ frames := 0, cells := 0, slots := 0, locals := 0 } : Room) s below (fun v h L => v = some (.int (0 : Int32)) ∧ Fr n0 L ∧ Keep h0 h []) s₁ (mkF m 0 #[.val (.ref a1), .val (.int (1 : Int32))] [])
  refine own_st (fun t k => XS.iloadN X0.here hx rfl (hb hby d16_0) rfl k) ?_
  show OG p e _ s below _ s₁ (mkF m 1 #[.val (.ref a1), .val (.int (1 : Int32))] [(.int (1 : Int32))])
  refine own_st (fun t k => XS.aloadN X0.here hx rfl (hb hby d16_1) rfl rfl k) ?_
  show OG p e _ s below _ s₁ (mkF m 2 #[.val (.ref a1), .val (.int (1 : Int32))] [(.ref a1), (.int (1 : Int32))])
  obtain ⟨cl1, Ar1, hz1⟩ := R0.len
  refine own_st (fun t k => X0.arraylength hx (by rw [e0]; exact Ar1.1) (State.isArrayOf_alike hZ.alike Ar1.2.1) (g := (mkF m 2 #[.val (.ref a1), .val (.int (1 : Int32))] [(.ref a1), (.int (1 : Int32))])) rfl rfl (hb hby d16_2) t k) ?_
  rw [hz1]
  show OG p e _ s below _ s₁ (mkF m 3 #[.val (.ref a1), .val (.int (1 : Int32))] [(.int (1 : Int32)), (.int (1 : Int32))])
  refine own_st (fun t k => XS.isub X0.here hx rfl (hb hby d16_3) rfl k) ?_
  show OG p e _ s below _ s₁ (mkF m 4 #[.val (.ref a1), .val (.int (1 : Int32))] [(.int (0 : Int32))])
  refine own_st (fun t k => XS.bipush X0.here hx rfl (hb hby d16_4) k) ?_
  show OG p e _ s below _ s₁ (mkF m 6 #[.val (.ref a1), .val (.int (1 : Int32))] [(.int (31 : Int32)), (.int (0 : Int32))])
  refine own_st (fun t k => XS.iushr X0.here hx rfl (hb hby d16_6) rfl k) ?_
  show OG p e _ s below _ s₁ (mkF m 7 #[.val (.ref a1), .val (.int (1 : Int32))] [(.int (0 : Int32))])
  refine own_st (fun t k => XS.i2b X0.here hx rfl (hb hby d16_7) rfl k) ?_
  show OG p e _ s below _ s₁ (mkF m 8 #[.val (.ref a1), .val (.int (1 : Int32))] [(.int ((0 : Int32).toInt8.toInt32))])
  refine own_retZ X0 hx (t := .byte) hret (by simp) hlk (hb hby d16_8) (by decide) (by decide) (w := (0 : Int32)) rfl ?_
  rw [e0]
  exact ⟨rfl, N0, (Keep.refl h0 [])⟩
theorem d4_0 : decode jdk_42_method_149_code 0 = .ok (.aload_n 0, 1) := by decide +kernel
theorem d4_1 : decode jdk_42_method_149_code 1 = .ok (.invokespecial 1, 3) := by decide +kernel
theorem d4_4 : decode jdk_42_method_149_code 4 = .ok (.iload_n 3, 1) := by decide +kernel
theorem d4_5 : decode jdk_42_method_149_code 5 = .ok (.ifCond .ne 22, 3) := by decide +kernel
theorem d4_27 : decode jdk_42_method_149_code 27 = .ok (.getstatic 38, 3) := by decide +kernel
theorem d4_30 : decode jdk_42_method_149_code 30 = .ok (.ifCond .eq 28, 3) := by decide +kernel
theorem d4_33 : decode jdk_42_method_149_code 33 = .ok (.aload_n 1, 1) := by decide +kernel
theorem d4_34 : decode jdk_42_method_149_code 34 = .ok (.iload_n 2, 1) := by decide +kernel
theorem d4_35 : decode jdk_42_method_149_code 35 = .ok (.iload_n 3, 1) := by decide +kernel
theorem d4_36 : decode jdk_42_method_149_code 36 = .ok (.invokestatic 177, 3) := by decide +kernel
theorem d4_39 : decode jdk_42_method_149_code 39 = .ok (.astore 5, 2) := by decide +kernel
theorem d4_41 : decode jdk_42_method_149_code 41 = .ok (.aload_n 0, 1) := by decide +kernel
theorem d4_42 : decode jdk_42_method_149_code 42 = .ok (.aload 5, 2) := by decide +kernel
theorem d4_44 : decode jdk_42_method_149_code 44 = .ok (.iload_n 3, 1) := by decide +kernel
theorem d4_45 : decode jdk_42_method_149_code 45 = .ok (.invokestatic 47, 3) := by decide +kernel
theorem d4_48 : decode jdk_42_method_149_code 48 = .ok (.putfield 15, 3) := by decide +kernel
theorem d4_51 : decode jdk_42_method_149_code 51 = .ok (.aload_n 0, 1) := by decide +kernel
theorem d4_52 : decode jdk_42_method_149_code 52 = .ok (.aload 5, 2) := by decide +kernel
theorem d4_54 : decode jdk_42_method_149_code 54 = .ok (.putfield 9, 3) := by decide +kernel
theorem d4_57 : decode jdk_42_method_149_code 57 = .ok (.return_, 1) := by decide +kernel
theorem pd___BI_B : parseMethodDescriptor "([BI)B" = some ⟨[(.array .byte), .int], some .byte⟩ := by decide +kernel
theorem pd___CII__B : parseMethodDescriptor "([CII)[B" = some ⟨[(.array .char), .int, .int], some (.array .byte)⟩ := by decide +kernel
theorem pn_4 : plainFor (⟨"java/lang/String", "<init>", "([CIILjava/lang/Void;)V"⟩ : MethodName) = true := by first | exact plainFor_of_name (by first | (simp [plainName, overriddenIn]; done) | decide +kernel) | decide +kernel
theorem ef_4_1 (m : MethodId) (a1 : Addr) (a2 : Addr) : entryFrame m #[(.ref a1), (.ref a2), (.int (0 : Int32)), (.int (1 : Int32)), .null] 6 = (mkF m 0 #[.val (.ref a1), .val (.ref a2), .val (.int (0 : Int32)), .val (.int (1 : Int32)), .val .null, .unset] []) := by first | (simp [entryFrame, mkF, argsToLocals, Value.category]; done) | rfl
abbrev Q4_1 (Z : State) (a1 : Addr) (a2 : Addr) (c0 : Int32) (w : Int32) (h0 : Heap) (n0 : Nat) : Option Value → Heap → List Loc → Prop := (fun v h L => v = none ∧ Fr n0 L ∧ Keep h0 h [a1] ∧ ∃ b : Addr, h0.size ≤ b ∧ Exa Z h a1 "java/lang/String" ∧ Fld Z h a1 "java/lang/String" "value" "[B" (.ref b) ∧ Fld Z h a1 "java/lang/String" "coder" "B" (.int (0 : Int32)) ∧ OA Z h b .byte [(.int (nar .byte (c0.toInt8.toInt32)))])
set_option maxRecDepth 65536 in
set_option maxHeartbeats 40000000 in
theorem rm4_1 (l : Launch) (Z : State) (a0 : Array Value) (hw : ∀ d ∈ tables_1, d.before a0 Z = true) (ws : List Jvm.Cond) (a1 : Addr) (a2 : Addr) (c0 : Int32) (w : Int32) (h0 : Heap) (n0 : Nat) (Z0 : n0 ≤ h0.size) (R0 : Exa Z h0 a1 "java/lang/String") (R1 : Fld Z h0 a1 "java/lang/String" "value" "[B" .null) (R2 : Fld Z h0 a1 "java/lang/String" "coder" "B" (.int (0 : Int32))) (R3 : OA Z h0 a2 .char [(.int c0)]) (R4 : Sta Z h0 "java/lang/String" "COMPACT_STRINGS" "Z" (.int w)) (g_a1 : n0 ≤ a1) (ne_a2_a1 : a2 ≠ a1) (hc0 : ¬ (255 : Int32) < c0) (hw0 : ¬ w = (0 : Int32)) :
    OMet l Z (⟨"java/lang/String", "<init>", "([CIILjava/lang/Void;)V"⟩ : MethodName) jdk_42_method_149_code 6 none ws ({ frames := 2, cells := 1, slots := 1, locals := 35 } : Room) #[(.ref a1), (.ref a2), (.int (0 : Int32)), (.int (1 : Int32)), .null] h0 (Q4_1 Z a1 a2 c0 w h0 n0) := by
  refine own_enter pn_4 ?_
  intro p e s m below meth c s₁ hx hby hml0 hown hret hlk hnm hZ X0 e0
  have hml : c.maxLocals = 6 := hml0
  have N0 := Fr.nil n0
  refine own_cast (ef_4_1 m a1 a2) ?_
  show OG p e ({ frames := 2, cells := 1, slots := 1, locals := 35 } : Room) s below (fun v h L => v = none ∧ Fr n0 L ∧ Keep h0 h [a1] ∧ ∃ b : Addr, h0.size ≤ b ∧ Exa Z h a1 "java/lang/String" ∧ Fld Z h a1 "java/lang/String" "value" "[B" (.ref b) ∧ Fld Z h a1 "java/lang/String" "coder" "B" (.int (0 : Int32)) ∧ OA Z h b .byte [(.int (nar .byte (c0.toInt8.toInt32)))]) s₁ (mkF m 0 #[.val (.ref a1), .val (.ref a2), .val (.int (0 : Int32)), .val (.int (1 : Int32)), .val .null, .unset] [])
  refine own_st (fun t k => XS.aloadN X0.here hx rfl (hb hby d4_0) rfl rfl k) ?_
  show OG p e _ s below _ s₁ (mkF m 1 #[.val (.ref a1), .val (.ref a2), .val (.int (0 : Int32)), .val (.int (1 : Int32)), .val .null, .unset] [(.ref a1)])
  obtain ⟨T1, X1, e1, st1⟩ := initO X0 hx hZ hown (hw _ (List.mem_of_getElem? (i := 18) rfl)) (hw _ (List.mem_of_getElem? (i := 19) rfl)) (hw _ (List.mem_of_getElem? (i := 20) rfl)) e0 (g := (mkF m 1 #[.val (.ref a1), .val (.ref a2), .val (.int (0 : Int32)), .val (.int (1 : Int32)), .val .null, .unset] [(.ref a1)])) rfl (by rw [hml]; rfl) rfl (hb hby d4_1) (by decide) (W := 0) (by show 2 * 0 + _ ≤ _; exact Nat.le_of_eq rfl) (by decide)
  refine own_st st1 ?_
  show OG p e _ s below _ T1 (mkF m 4 #[.val (.ref a1), .val (.ref a2), .val (.int (0 : Int32)), .val (.int (1 : Int32)), .val .null, .unset] [])
  refine own_st (fun t k => XS.iloadN X1.here hx rfl (hb hby d4_4) rfl k) ?_
  show OG p e _ s below _ T1 (mkF m 5 #[.val (.ref a1), .val (.ref a2), .val (.int (0 : Int32)), .val (.int (1 : Int32)), .val .null, .unset] [(.int (1 : Int32))])
  refine own_st (fun t k => XS.ifYes X1.here hx rfl (pc0 := 5) (pc' := 27) rfl (hb hby d4_5) rfl (by decide) (by decide) (by decide) k) ?_
  show OG p e _ s below _ T1 (mkF m 27 #[.val (.ref a1), .val (.ref a2), .val (.int (0 : Int32)), .val (.int (1 : Int32)), .val .null, .unset] [])
  obtain ⟨T2, X2, e2, st2⟩ := getS X1 hx hZ (host := "") hown (hw _ (List.mem_of_getElem? (i := 61) rfl)) Via.refl e1 R4 (g := (mkF m 27 #[.val (.ref a1), .val (.ref a2), .val (.int (0 : Int32)), .val (.int (1 : Int32)), .val .null, .unset] [])) rfl (hb hby d4_27)
  refine own_st st2 ?_
  show OG p e _ s below _ T2 (mkF m 30 #[.val (.ref a1), .val (.ref a2), .val (.int (0 : Int32)), .val (.int (1 : Int32)), .val .null, .unset] [(.int w)])
  refine own_st (fun t k => XS.ifNo X2.here hx rfl (hb hby d4_30) rfl (own_if0 (feq hw0).1) k) ?_
  show OG p e _ s below _ T2 (mkF m 33 #[.val (.ref a1), .val (.ref a2), .val (.int (0 : Int32)), .val (.int (1 : Int32)), .val .null, .unset] [])
  refine own_st (fun t k => XS.aloadN X2.here hx rfl (hb hby d4_33) rfl rfl k) ?_
  show OG p e _ s below _ T2 (mkF m 34 #[.val (.ref a1), .val (.ref a2), .val (.int (0 : Int32)), .val (.int (1 : Int32)), .val .null, .unset] [(.ref a2)])
  refine own_st (fun t k => XS.iloadN X2.here hx rfl (hb hby d4_34) rfl k) ?_
  show OG p e _ s below _ T2 (mkF m 35 #[.val (.ref a1), .val (.ref a2), .val (.int (0 : Int32)), .val (.int (1 : Int32)), .val .null, .unset] [(.int (0 : Int32)), (.ref a2)])
  refine own_st (fun t k => XS.iloadN X2.here hx rfl (hb hby d4_35) rfl k) ?_
  show OG p e _ s below _ T2 (mkF m 36 #[.val (.ref a1), .val (.ref a2), .val (.int (0 : Int32)), .val (.int (1 : Int32)), .val .null, .unset] [(.int (1 : Int32)), (.int (0 : Int32)), (.ref a2)])
  obtain ⟨_, _, ⟨T3, L3, k3, n3⟩, -, X3, ⟨Lc3, hQ3, l3, y3, z3⟩, st3⟩ := Jvm.LawKit.callS X2 hx (y := (⟨"java/lang/StringUTF16", "compress", "([CII)[B"⟩ : MethodName)) hown (mvT hZ (hw _ (List.mem_of_getElem? (i := 72) rfl))) (mvT hZ (hw _ (List.mem_of_getElem? (i := 73) rfl))) (mvT hZ (hw _ (List.mem_of_getElem? (i := 74) rfl))) (mvT hZ (hw _ (List.mem_of_getElem? (i := 75) rfl))) (by decide) (backOf (W := 0) (rm := ({ frames := 1, cells := 1, slots := 1, locals := 18 } : Room)) (rm14_1 l Z a0 hw [] a2 c0 h0 n0 (Nat.le_trans Z0 (Keep.refl h0 [a1]).1) R3 hc0) hZ (hw _ (List.mem_of_getElem? (i := 75) rfl)) (hw _ (List.mem_of_getElem? (i := 74) rfl)) (by decide) (by decide)) (g := (mkF m 36 #[.val (.ref a1), .val (.ref a2), .val (.int (0 : Int32)), .val (.int (1 : Int32)), .val .null, .unset] [(.int (1 : Int32)), (.int (0 : Int32)), (.ref a2)])) rfl (by rw [hml]; rfl) (argsL := [(.ref a2), (.int (0 : Int32)), (.int (1 : Int32))]) (rest := []) (lenOf pd___CII__B rfl) rfl (by show 2 * 0 + _ ≤ _; exact Nat.le_of_eq rfl) (hb hby d4_36) (fun _ _ => ⟨rfl, e2, (by decide : 0 + 1 ≤ _), (by decide : 0 + 1 ≤ _)⟩)
  dsimp only [Pt.U, Pt.locs, Pt.cells, Pt.slots] at X3 l3 y3 z3 st3 hQ3
  subst l3 y3 z3
  obtain ⟨N3q, K3q, b_3, sz_b_3, rfl, P3_0⟩ := hQ3
  refine own_st st3 ?_
  have N3 := Fr.app N0 N3q
  have ge_b_3 : n0 ≤ b_3 := Nat.le_trans (Nat.le_trans Z0 (Keep.refl h0 [a1]).1) sz_b_3
  have sy_b_3 : h0.size ≤ b_3 := Nat.le_trans (Keep.refl h0 [a1]).1 sz_b_3
  have ne_a1_b_3 : a1 ≠ b_3 := Nat.ne_of_lt (Nat.lt_of_lt_of_le R0.lt sz_b_3)
  have ne_a2_b_3 : a2 ≠ b_3 := Nat.ne_of_lt (Nat.lt_of_lt_of_le R3.lt sz_b_3)
  have K3 : Keep h0 T3.heap [a1] := (Keep.refl h0 [a1]).trans K3q (own_all0 )
  have F4 : Exa Z T3.heap a1 "java/lang/String" := (R0.keep K3q)
  have F5 : Fld Z T3.heap a1 "java/lang/String" "value" "[B" .null := (R1.keep K3q (own_nin0 ))
  have F6 : Fld Z T3.heap a1 "java/lang/String" "coder" "B" (.int (0 : Int32)) := (R2.keep K3q (own_nin0 ))
  have F7 : OA Z T3.heap a2 .char [(.int c0)] := (R3.keep K3q (own_nin0 ))
  have F8 : Sta Z T3.heap "java/lang/String" "COMPACT_STRINGS" "Z" (.int w) := (own_staK R4 K3q (own_all0 ))
  show OG p e _ s below _ T3 (mkF m 39 #[.val (.ref a1), .val (.ref a2), .val (.int (0 : Int32)), .val (.int (1 : Int32)), .val .null, .unset] [(.ref b_3)])
  refine own_st (fun t k => XS.astore X3.here hx rfl (hb hby d4_39) rfl rfl (l' := #[.val (.ref a1), .val (.ref a2), .val (.int (0 : Int32)), .val (.int (1 : Int32)), .val .null, .val (.ref b_3)]) rfl k) ?_
  show OG p e _ s below _ T3 (mkF m 41 #[.val (.ref a1), .val (.ref a2), .val (.int (0 : Int32)), .val (.int (1 : Int32)), .val .null, .val (.ref b_3)] [])
  refine own_st (fun t k => XS.aloadN X3.here hx rfl (hb hby d4_41) rfl rfl k) ?_
  show OG p e _ s below _ T3 (mkF m 42 #[.val (.ref a1), .val (.ref a2), .val (.int (0 : Int32)), .val (.int (1 : Int32)), .val .null, .val (.ref b_3)] [(.ref a1)])
  refine own_st (fun t k => XS.aload X3.here hx rfl (hb hby d4_42) rfl rfl k) ?_
  show OG p e _ s below _ T3 (mkF m 44 #[.val (.ref a1), .val (.ref a2), .val (.int (0 : Int32)), .val (.int (1 : Int32)), .val .null, .val (.ref b_3)] [(.ref b_3), (.ref a1)])
  refine own_st (fun t k => XS.iloadN X3.here hx rfl (hb hby d4_44) rfl k) ?_
  show OG p e _ s below _ T3 (mkF m 45 #[.val (.ref a1), .val (.ref a2), .val (.int (0 : Int32)), .val (.int (1 : Int32)), .val .null, .val (.ref b_3)] [(.int (1 : Int32)), (.ref b_3), (.ref a1)])
  obtain ⟨_, _, ⟨T9, L9, k9, n9⟩, -, X9, ⟨Lc9, hQ9, l9, y9, z9⟩, st9⟩ := Jvm.LawKit.callS X3 hx (y := (⟨"java/lang/StringUTF16", "coderFromArrayLen", "([BI)B"⟩ : MethodName)) hown (mvT hZ (hw _ (List.mem_of_getElem? (i := 79) rfl))) (mvT hZ (hw _ (List.mem_of_getElem? (i := 80) rfl))) (mvT hZ (hw _ (List.mem_of_getElem? (i := 74) rfl))) (mvT hZ (hw _ (List.mem_of_getElem? (i := 81) rfl))) (by decide) (backOf (W := 1) (rm := ({ frames := 0, cells := 0, slots := 0, locals := 0 } : Room)) (rm16_1 l Z a0 hw [] b_3 (nar .byte (c0.toInt8.toInt32)) T3.heap n0 P3_0) hZ (hw _ (List.mem_of_getElem? (i := 81) rfl)) (hw _ (List.mem_of_getElem? (i := 74) rfl)) (by decide) (by decide)) (g := (mkF m 45 #[.val (.ref a1), .val (.ref a2), .val (.int (0 : Int32)), .val (.int (1 : Int32)), .val .null, .val (.ref b_3)] [(.int (1 : Int32)), (.ref b_3), (.ref a1)])) rfl (by rw [hml]; rfl) (argsL := [(.ref b_3), (.int (1 : Int32))]) (rest := [(.ref a1)]) (lenOf pd___BI_B rfl) rfl (by show 2 * 0 + _ ≤ _; exact Nat.le_of_eq rfl) (hb hby d4_45) (fun _ _ => ⟨rfl, rfl, (by decide : 1 + 0 ≤ _), (by decide : 1 + 0 ≤ _)⟩)
  dsimp only [Pt.U, Pt.locs, Pt.cells, Pt.slots] at X9 l9 y9 z9 st9 hQ9
  subst l9 y9 z9
  obtain ⟨rfl, N9q, K9q⟩ := hQ9
  refine own_st st9 ?_
  have N9 := Fr.app N3 N9q
  have K9 : Keep h0 T9.heap [a1] := K3.trans K9q (own_all0 )
  have F10 : Exa Z T9.heap a1 "java/lang/String" := (F4.keep K9q)
  have F11 : Fld Z T9.heap a1 "java/lang/String" "value" "[B" .null := (F5.keep K9q (own_nin0 ))
  have F12 : Fld Z T9.heap a1 "java/lang/String" "coder" "B" (.int (0 : Int32)) := (F6.keep K9q (own_nin0 ))
  have F13 : OA Z T9.heap a2 .char [(.int c0)] := (F7.keep K9q (own_nin0 ))
  have F14 : Sta Z T9.heap "java/lang/String" "COMPACT_STRINGS" "Z" (.int w) := (own_staK F8 K9q (own_all0 ))
  have F15 : OA Z T9.heap b_3 .byte [(.int (nar .byte (c0.toInt8.toInt32)))] := (P3_0.keep K9q (own_nin0 ))
  show OG p e _ s below _ T9 (mkF m 48 #[.val (.ref a1), .val (.ref a2), .val (.int (0 : Int32)), .val (.int (1 : Int32)), .val .null, .val (.ref b_3)] [(.int (0 : Int32)), (.ref a1)])
  obtain ⟨T16, h16, X16, e16, W16, st16⟩ := putF X9 hx hZ hown (host := "") (Or.inl (hw _ (List.mem_of_getElem? (i := 28) rfl))) Via.refl rfl F12 F10 (Or.inr ⟨(hw _ (List.mem_of_getElem? (i := 24) rfl)), rfl, hnm⟩) (hw _ (List.mem_of_getElem? (i := 8) rfl)) (ty := .byte) (by decide) rfl rfl (g := (mkF m 48 #[.val (.ref a1), .val (.ref a2), .val (.int (0 : Int32)), .val (.int (1 : Int32)), .val .null, .val (.ref b_3)] [(.int (0 : Int32)), (.ref a1)])) rfl rfl (hb hby d4_48)
  refine own_st st16 ?_
  have N16 := Fr.snoc X16 N9 g_a1
  have K17 : Keep h0 h16 [a1] := K9.wr W16 (Or.inl (List.mem_of_getElem? (i := 0) rfl))
  have F18 : Exa Z h16 a1 "java/lang/String" := (F10.wr W16)
  have F19 : Fld Z h16 a1 "java/lang/String" "value" "[B" .null := (F11.other W16 (Or.inr (slot_ne (Or.inr (hw _ (List.mem_of_getElem? (i := 23) rfl))) (Or.inr (hw _ (List.mem_of_getElem? (i := 24) rfl))) (by decide) (t := (.array .byte)) (t' := .byte) (by decide) (by decide))))
  have F20 : Fld Z h16 a1 "java/lang/String" "coder" "B" (.int (0 : Int32)) := (F12.same W16)
  have F21 : OA Z h16 a2 .char [(.int c0)] := (F13.other W16 ne_a2_a1)
  have F22 : Sta Z h16 "java/lang/String" "COMPACT_STRINGS" "Z" (.int w) := (F14.wr W16)
  have F23 : OA Z h16 b_3 .byte [(.int (nar .byte (c0.toInt8.toInt32)))] := (F15.other W16 (Ne.symm ne_a1_b_3))
  show OG p e _ s below _ T16 (mkF m 51 #[.val (.ref a1), .val (.ref a2), .val (.int (0 : Int32)), .val (.int (1 : Int32)), .val .null, .val (.ref b_3)] [])
  refine own_st (fun t k => XS.aloadN X16.here hx rfl (hb hby d4_51) rfl rfl k) ?_
  show OG p e _ s below _ T16 (mkF m 52 #[.val (.ref a1), .val (.ref a2), .val (.int (0 : Int32)), .val (.int (1 : Int32)), .val .null, .val (.ref b_3)] [(.ref a1)])
  refine own_st (fun t k => XS.aload X16.here hx rfl (hb hby d4_52) rfl rfl k) ?_
  show OG p e _ s below _ T16 (mkF m 54 #[.val (.ref a1), .val (.ref a2), .val (.int (0 : Int32)), .val (.int (1 : Int32)), .val .null, .val (.ref b_3)] [(.ref b_3), (.ref a1)])
  obtain ⟨T24, h24, X24, e24, W24, st24⟩ := putF X16 hx hZ hown (host := "") (Or.inl (hw _ (List.mem_of_getElem? (i := 27) rfl))) Via.refl e16 F19 F18 (Or.inr ⟨(hw _ (List.mem_of_getElem? (i := 23) rfl)), rfl, hnm⟩) (hw _ (List.mem_of_getElem? (i := 8) rfl)) (ty := (.array .byte)) (by decide) rfl rfl (g := (mkF m 54 #[.val (.ref a1), .val (.ref a2), .val (.int (0 : Int32)), .val (.int (1 : Int32)), .val .null, .val (.ref b_3)] [(.ref b_3), (.ref a1)])) rfl rfl (hb hby d4_54)
  refine own_st st24 ?_
  have N24 := Fr.snoc X24 N16 g_a1
  have K25 : Keep h0 h24 [a1] := K17.wr W24 (Or.inl (List.mem_of_getElem? (i := 0) rfl))
  have F26 : Exa Z h24 a1 "java/lang/String" := (F18.wr W24)
  have F27 : Fld Z h24 a1 "java/lang/String" "value" "[B" (.ref b_3) := (F19.same W24)
  have F28 : Fld Z h24 a1 "java/lang/String" "coder" "B" (.int (0 : Int32)) := (F20.other W24 (Or.inr (slot_ne (Or.inr (hw _ (List.mem_of_getElem? (i := 24) rfl))) (Or.inr (hw _ (List.mem_of_getElem? (i := 23) rfl))) (by decide) (t := .byte) (t' := (.array .byte)) (by decide) (by decide))))
  have F29 : OA Z h24 a2 .char [(.int c0)] := (F21.other W24 ne_a2_a1)
  have F30 : Sta Z h24 "java/lang/String" "COMPACT_STRINGS" "Z" (.int w) := (F22.wr W24)
  have F31 : OA Z h24 b_3 .byte [(.int (nar .byte (c0.toInt8.toInt32)))] := (F23.other W24 (Ne.symm ne_a1_b_3))
  show OG p e _ s below _ T24 (mkF m 57 #[.val (.ref a1), .val (.ref a2), .val (.int (0 : Int32)), .val (.int (1 : Int32)), .val .null, .val (.ref b_3)] [])
  refine own_ret0 X24 hx hret hlk (hb hby d4_57) (by decide) (by decide) ?_
  rw [e24]
  exact ⟨rfl, N24, K25, b_3, sy_b_3, F26, F27, F28, F31⟩
theorem d3_0 : decode jdk_42_method_3_code 0 = .ok (.aload_n 0, 1) := by decide +kernel
theorem d3_1 : decode jdk_42_method_3_code 1 = .ok (.aload_n 1, 1) := by decide +kernel
theorem d3_2 : decode jdk_42_method_3_code 2 = .ok (.iconst 0, 1) := by decide +kernel
theorem d3_3 : decode jdk_42_method_3_code 3 = .ok (.aload_n 1, 1) := by decide +kernel
theorem d3_4 : decode jdk_42_method_3_code 4 = .ok (.arraylength, 1) := by decide +kernel
theorem d3_5 : decode jdk_42_method_3_code 5 = .ok (.aconst_null, 1) := by decide +kernel
theorem d3_6 : decode jdk_42_method_3_code 6 = .ok (.invokespecial 27, 3) := by decide +kernel
theorem d3_9 : decode jdk_42_method_3_code 9 = .ok (.return_, 1) := by decide +kernel
theorem pd___CIILjava_lang_Void__V : parseMethodDescriptor "([CIILjava/lang/Void;)V" = some ⟨[(.array .char), .int, .int, (.object "java/lang/Void")], none⟩ := by decide +kernel
theorem pn_3 : plainFor (⟨"java/lang/String", "<init>", "([C)V"⟩ : MethodName) = true := by first | exact plainFor_of_name (by first | (simp [plainName, overriddenIn]; done) | decide +kernel) | decide +kernel
theorem ef_3 (m : MethodId) (a1 : Addr) (a2 : Addr) : entryFrame m #[(.ref a1), (.ref a2)] 2 = (mkF m 0 #[.val (.ref a1), .val (.ref a2)] []) := by first | (simp [entryFrame, mkF, argsToLocals, Value.category]; done) | rfl
abbrev Q3_1 (Z : State) (a1 : Addr) (a2 : Addr) (c0 : Int32) (w : Int32) (h0 : Heap) (n0 : Nat) : Option Value → Heap → List Loc → Prop := (fun v h L => v = none ∧ Fr n0 L ∧ Keep h0 h [a1] ∧ ∃ b : Addr, h0.size ≤ b ∧ Exa Z h a1 "java/lang/String" ∧ Fld Z h a1 "java/lang/String" "value" "[B" (.ref b) ∧ Fld Z h a1 "java/lang/String" "coder" "B" (.int (0 : Int32)) ∧ OA Z h b .byte [(.int (nar .byte (c0.toInt8.toInt32)))])
set_option maxRecDepth 65536 in
set_option maxHeartbeats 40000000 in
theorem rm3_1 (l : Launch) (Z : State) (a0 : Array Value) (hw : ∀ d ∈ tables_1, d.before a0 Z = true) (ws : List Jvm.Cond) (a1 : Addr) (a2 : Addr) (c0 : Int32) (w : Int32) (h0 : Heap) (n0 : Nat) (Z0 : n0 ≤ h0.size) (R0 : Exa Z h0 a1 "java/lang/String") (R1 : Fld Z h0 a1 "java/lang/String" "value" "[B" .null) (R2 : Fld Z h0 a1 "java/lang/String" "coder" "B" (.int (0 : Int32))) (R3 : OA Z h0 a2 .char [(.int c0)]) (R4 : Sta Z h0 "java/lang/String" "COMPACT_STRINGS" "Z" (.int w)) (g_a1 : n0 ≤ a1) (ne_a2_a1 : a2 ≠ a1) (hc0 : ¬ (255 : Int32) < c0) (hw0 : ¬ w = (0 : Int32)) :
    OMet l Z (⟨"java/lang/String", "<init>", "([C)V"⟩ : MethodName) jdk_42_method_3_code 2 none ws ({ frames := 3, cells := 1, slots := 1, locals := 52 } : Room) #[(.ref a1), (.ref a2)] h0 (Q3_1 Z a1 a2 c0 w h0 n0) := by
  refine own_enter pn_3 ?_
  intro p e s m below meth c s₁ hx hby hml0 hown hret hlk hnm hZ X0 e0
  have hml : c.maxLocals = 2 := hml0
  have N0 := Fr.nil n0
  refine own_cast (ef_3 m a1 a2) ?_
  show OG p e ({ frames := 3, cells := 1, slots := 1, locals := 52 } : Room) s below (fun v h L => v = none ∧ Fr n0 L ∧ Keep h0 h [a1] ∧ ∃ b : Addr, h0.size ≤ b ∧ Exa Z h a1 "java/lang/String" ∧ Fld Z h a1 "java/lang/String" "value" "[B" (.ref b) ∧ Fld Z h a1 "java/lang/String" "coder" "B" (.int (0 : Int32)) ∧ OA Z h b .byte [(.int (nar .byte (c0.toInt8.toInt32)))]) s₁ (mkF m 0 #[.val (.ref a1), .val (.ref a2)] [])
  refine own_st (fun t k => XS.aloadN X0.here hx rfl (hb hby d3_0) rfl rfl k) ?_
  show OG p e _ s below _ s₁ (mkF m 1 #[.val (.ref a1), .val (.ref a2)] [(.ref a1)])
  refine own_st (fun t k => XS.aloadN X0.here hx rfl (hb hby d3_1) rfl rfl k) ?_
  show OG p e _ s below _ s₁ (mkF m 2 #[.val (.ref a1), .val (.ref a2)] [(.ref a2), (.ref a1)])
  refine own_st (fun t k => XS.iconst X0.here hx rfl (hb hby d3_2) k) ?_
  show OG p e _ s below _ s₁ (mkF m 3 #[.val (.ref a1), .val (.ref a2)] [(.int (0 : Int32)), (.ref a2), (.ref a1)])
  refine own_st (fun t k => XS.aloadN X0.here hx rfl (hb hby d3_3) rfl rfl k) ?_
  show OG p e _ s below _ s₁ (mkF m 4 #[.val (.ref a1), .val (.ref a2)] [(.ref a2), (.int (0 : Int32)), (.ref a2), (.ref a1)])
  obtain ⟨cl1, Ar1, hz1⟩ := R3.len
  refine own_st (fun t k => X0.arraylength hx (by rw [e0]; exact Ar1.1) (State.isArrayOf_alike hZ.alike Ar1.2.1) (g := (mkF m 4 #[.val (.ref a1), .val (.ref a2)] [(.ref a2), (.int (0 : Int32)), (.ref a2), (.ref a1)])) rfl rfl (hb hby d3_4) t k) ?_
  rw [hz1]
  show OG p e _ s below _ s₁ (mkF m 5 #[.val (.ref a1), .val (.ref a2)] [(.int (1 : Int32)), (.int (0 : Int32)), (.ref a2), (.ref a1)])
  refine own_st (fun t k => XS.aconstNull X0.here hx rfl (hb hby d3_5) k) ?_
  show OG p e _ s below _ s₁ (mkF m 6 #[.val (.ref a1), .val (.ref a2)] [.null, (.int (1 : Int32)), (.int (0 : Int32)), (.ref a2), (.ref a1)])
  obtain ⟨_, _, ⟨T2, L2, k2, n2⟩, -, X2, ⟨Lc2, hQ2, l2, y2, z2⟩, st2⟩ := X0.specialBack hx (y := (⟨"java/lang/String", "<init>", "([CIILjava/lang/Void;)V"⟩ : MethodName)) rfl hown (mvT hZ (hw _ (List.mem_of_getElem? (i := 14) rfl))) (mvT hZ (hw _ (List.mem_of_getElem? (i := 15) rfl))) (mvT hZ (hw _ (List.mem_of_getElem? (i := 17) rfl))) (by decide) (backOf (W := 0) (rm := ({ frames := 2, cells := 1, slots := 1, locals := 35 } : Room)) (rm4_1 l Z a0 hw [] a1 a2 c0 w h0 n0 (Nat.le_trans Z0 (Keep.refl h0 [a1]).1) R0 R1 R2 R3 R4 g_a1 ne_a2_a1 hc0 hw0) hZ (hw _ (List.mem_of_getElem? (i := 17) rfl)) (hw _ (List.mem_of_getElem? (i := 9) rfl)) (by decide) (by decide)) (g := (mkF m 6 #[.val (.ref a1), .val (.ref a2)] [.null, (.int (1 : Int32)), (.int (0 : Int32)), (.ref a2), (.ref a1)])) rfl (by rw [hml]; rfl) (Steps.refl _) (a := a1) (argsL := [(.ref a2), (.int (0 : Int32)), (.int (1 : Int32)), .null]) (rest := []) (lenOf pd___CIILjava_lang_Void__V rfl) rfl (by show 2 * 0 + _ ≤ _; exact Nat.le_of_eq rfl) (hb hby d3_6) (fun _ _ => ⟨rfl, e0, (by decide : 0 + 1 ≤ _), (by decide : 0 + 1 ≤ _)⟩)
  dsimp only [Pt.U, Pt.locs, Pt.cells, Pt.slots] at X2 l2 y2 z2 st2 hQ2
  subst l2 y2 z2
  obtain ⟨rfl, N2q, K2q, b_2, sz_b_2, P2_0, P2_1, P2_2, P2_3⟩ := hQ2
  refine own_st (fun t k => st2.trans k) ?_
  have N2 := Fr.app N0 N2q
  have ge_b_2 : n0 ≤ b_2 := Nat.le_trans (Nat.le_trans Z0 (Keep.refl h0 [a1]).1) sz_b_2
  have sy_b_2 : h0.size ≤ b_2 := Nat.le_trans (Keep.refl h0 [a1]).1 sz_b_2
  have ne_a1_b_2 : a1 ≠ b_2 := Nat.ne_of_lt (Nat.lt_of_lt_of_le R0.lt sz_b_2)
  have ne_a2_b_2 : a2 ≠ b_2 := Nat.ne_of_lt (Nat.lt_of_lt_of_le R3.lt sz_b_2)
  have K2 : Keep h0 T2.heap [a1] := (Keep.refl h0 [a1]).trans K2q (own_all1 (Or.inl (List.mem_of_getElem? (i := 0) rfl)))
  have F3 : OA Z T2.heap a2 .char [(.int c0)] := (R3.keep K2q (own_nin1 ne_a2_a1))
  have F4 : Sta Z T2.heap "java/lang/String" "COMPACT_STRINGS" "Z" (.int w) := (own_staK R4 K2q (own_all1 (own_plE R0)))
  show OG p e _ s below _ T2 (mkF m 9 #[.val (.ref a1), .val (.ref a2)] [])
  refine own_ret0 X2 hx hret hlk (hb hby d3_9) (by decide) (by decide) ?_
  exact ⟨rfl, N2, K2, b_2, sy_b_2, P2_0, P2_1, P2_2, P2_3⟩
theorem ef_15_2 (m : MethodId) (a1 : Addr) (a3 : Addr) : entryFrame m #[(.ref a1), (.int (0 : Int32)), (.ref a3), (.int (0 : Int32)), (.int (2 : Int32))] 7 = (mkF m 0 #[.val (.ref a1), .val (.int (0 : Int32)), .val (.ref a3), .val (.int (0 : Int32)), .val (.int (2 : Int32)), .unset, .unset] []) := by first | (simp [entryFrame, mkF, argsToLocals, Value.category]; done) | rfl
abbrev Q15_2 (Z : State) (a1 : Addr) (a3 : Addr) (c0 : Int32) (c1 : Int32) (h0 : Heap) (n0 : Nat) : Option Value → Heap → List Loc → Prop := (fun v h L => v = some (.int (2 : Int32)) ∧ Fr n0 L ∧ Keep h0 h [a3] ∧ OA Z h a3 .byte [(.int (nar .byte (c0.toInt8.toInt32))), (.int (nar .byte (c1.toInt8.toInt32)))])
set_option maxRecDepth 65536 in
set_option maxHeartbeats 40000000 in
theorem rm15_2 (l : Launch) (Z : State) (a0 : Array Value) (hw : ∀ d ∈ tables_1, d.before a0 Z = true) (ws : List Jvm.Cond) (a1 : Addr) (a3 : Addr) (c0 : Int32) (c1 : Int32) (h0 : Heap) (n0 : Nat) (R0 : OA Z h0 a1 .char [(.int c0), (.int c1)]) (R1 : OA Z h0 a3 .byte [(.int (0 : Int32)), (.int (0 : Int32))]) (g_a3 : n0 ≤ a3) (ne_a1_a3 : a1 ≠ a3) (hc0 : ¬ (255 : Int32) < c0) (hc1 : ¬ (255 : Int32) < c1) :
    OMet l Z (⟨"java/lang/StringUTF16", "compress", "([CI[BII)I"⟩ : MethodName) jdk_52_method_21_code 7 (some .int) ws ({ frames := 0, cells := 0, slots := 0, locals := 0 } : Room) #[(.ref a1), (.int (0 : Int32)), (.ref a3), (.int (0 : Int32)), (.int (2 : Int32))] h0 (Q15_2 Z a1 a3 c0 c1 h0 n0) := by
  refine own_enter pn_15 ?_
  intro p e s m below meth c s₁ hx hby hml0 hown hret hlk hnm hZ X0 e0
  have hml : c.maxLocals = 7 := hml0
  have N0 := Fr.nil n0
  refine own_cast (ef_15_2 m a1 a3) ?_
  show OG p e ({ frames := 0, cells := 0, slots := 0, locals := 0 } : Room) s below (fun v h L => v = some (.int (2 : Int32)) ∧ Fr n0 L ∧ Keep h0 h [a3] ∧ OA Z h a3 .byte [(.int (nar .byte (c0.toInt8.toInt32))), (.int (nar .byte (c1.toInt8.toInt32)))]) s₁ (mkF m 0 #[.val (.ref a1), .val (.int (0 : Int32)), .val (.ref a3), .val (.int (0 : Int32)), .val (.int (2 : Int32)), .unset, .unset] [])
  refine own_st (fun t k => XS.iconst X0.here hx rfl (hb hby d15_0) k) ?_
  show OG p e _ s below _ s₁ (mkF m 1 #[.val (.ref a1), .val (.int (0 : Int32)), .val (.ref a3), .val (.int (0 : Int32)), .val (.int (2 : Int32)), .unset, .unset] [(.int (0 : Int32))])
  refine own_st (fun t k => XS.istore X0.here hx rfl (hb hby d15_1) rfl (l' := #[.val (.ref a1), .val (.int (0 : Int32)), .val (.ref a3), .val (.int (0 : Int32)), .val (.int (2 : Int32)), .val (.int (0 : Int32)), .unset]) rfl k) ?_
  show OG p e _ s below _ s₁ (mkF m 3 #[.val (.ref a1), .val (.int (0 : Int32)), .val (.ref a3), .val (.int (0 : Int32)), .val (.int (2 : Int32)), .val (.int (0 : Int32)), .unset] [])
  refine own_st (fun t k => XS.iload X0.here hx rfl (hb hby d15_3) rfl k) ?_
  show OG p e _ s below _ s₁ (mkF m 5 #[.val (.ref a1), .val (.int (0 : Int32)), .val (.ref a3), .val (.int (0 : Int32)), .val (.int (2 : Int32)), .val (.int (0 : Int32)), .unset] [(.int (0 : Int32))])
  refine own_st (fun t k => XS.iload X0.here hx rfl (hb hby d15_5) rfl k) ?_
  show OG p e _ s below _ s₁ (mkF m 7 #[.val (.ref a1), .val (.int (0 : Int32)), .val (.ref a3), .val (.int (0 : Int32)), .val (.int (2 : Int32)), .val (.int (0 : Int32)), .unset] [(.int (2 : Int32)), (.int (0 : Int32))])
  refine own_st (fun t k => XS.icmpNo X0.here hx rfl (hb hby d15_7) rfl (by decide) k) ?_
  show OG p e _ s below _ s₁ (mkF m 10 #[.val (.ref a1), .val (.int (0 : Int32)), .val (.ref a3), .val (.int (0 : Int32)), .val (.int (2 : Int32)), .val (.int (0 : Int32)), .unset] [])
  refine own_st (fun t k => XS.aloadN X0.here hx rfl (hb hby d15_10) rfl rfl k) ?_
  show OG p e _ s below _ s₁ (mkF m 11 #[.val (.ref a1), .val (.int (0 : Int32)), .val (.ref a3), .val (.int (0 : Int32)), .val (.int (2 : Int32)), .val (.int (0 : Int32)), .unset] [(.ref a1)])
  refine own_st (fun t k => XS.iloadN X0.here hx rfl (hb hby d15_11) rfl k) ?_
  show OG p e _ s below _ s₁ (mkF m 12 #[.val (.ref a1), .val (.int (0 : Int32)), .val (.ref a3), .val (.int (0 : Int32)), .val (.int (2 : Int32)), .val (.int (0 : Int32)), .unset] [(.int (0 : Int32)), (.ref a1)])
  obtain ⟨cl1, Ar1, hi1, ha1⟩ := own_rd R0 (j := (0 : Int32)) (i := 0) (by decide) (by decide) (v := (.int c0)) rfl
  refine own_st (fun t k => X0.caload hx (j := (0 : Int32)) (v := (.int c0)) (by rw [e0]; exact Ar1.1) (State.isArrayOf_alike hZ.alike Ar1.2.1) Ar1.2.2 hi1 ha1 (g := (mkF m 12 #[.val (.ref a1), .val (.int (0 : Int32)), .val (.ref a3), .val (.int (0 : Int32)), .val (.int (2 : Int32)), .val (.int (0 : Int32)), .unset] [(.int (0 : Int32)), (.ref a1)])) rfl rfl (hb hby d15_12) t k) ?_
  show OG p e _ s below _ s₁ (mkF m 13 #[.val (.ref a1), .val (.int (0 : Int32)), .val (.ref a3), .val (.int (0 : Int32)), .val (.int (2 : Int32)), .val (.int (0 : Int32)), .unset] [(.int c0)])
  refine own_st (fun t k => XS.istore X0.here hx rfl (hb hby d15_13) rfl (l' := #[.val (.ref a1), .val (.int (0 : Int32)), .val (.ref a3), .val (.int (0 : Int32)), .val (.int (2 : Int32)), .val (.int (0 : Int32)), .val (.int c0)]) rfl k) ?_
  show OG p e _ s below _ s₁ (mkF m 15 #[.val (.ref a1), .val (.int (0 : Int32)), .val (.ref a3), .val (.int (0 : Int32)), .val (.int (2 : Int32)), .val (.int (0 : Int32)), .val (.int c0)] [])
  refine own_st (fun t k => XS.iload X0.here hx rfl (hb hby d15_15) rfl k) ?_
  show OG p e _ s below _ s₁ (mkF m 17 #[.val (.ref a1), .val (.int (0 : Int32)), .val (.ref a3), .val (.int (0 : Int32)), .val (.int (2 : Int32)), .val (.int (0 : Int32)), .val (.int c0)] [(.int c0)])
  refine own_st (fun t k => XS.sipush X0.here hx rfl (hb hby d15_17) k) ?_
  show OG p e _ s below _ s₁ (mkF m 20 #[.val (.ref a1), .val (.int (0 : Int32)), .val (.ref a3), .val (.int (0 : Int32)), .val (.int (2 : Int32)), .val (.int (0 : Int32)), .val (.int c0)] [(.int (255 : Int32)), (.int c0)])
  refine own_st (fun t k => XS.icmpYes X0.here hx rfl (pc0 := 20) (pc' := 26) rfl (hb hby d15_20) rfl (flt hc0).2.2.2 (by decide) (by decide) k) ?_
  show OG p e _ s below _ s₁ (mkF m 26 #[.val (.ref a1), .val (.int (0 : Int32)), .val (.ref a3), .val (.int (0 : Int32)), .val (.int (2 : Int32)), .val (.int (0 : Int32)), .val (.int c0)] [])
  refine own_st (fun t k => XS.aloadN X0.here hx rfl (hb hby d15_26) rfl rfl k) ?_
  show OG p e _ s below _ s₁ (mkF m 27 #[.val (.ref a1), .val (.int (0 : Int32)), .val (.ref a3), .val (.int (0 : Int32)), .val (.int (2 : Int32)), .val (.int (0 : Int32)), .val (.int c0)] [(.ref a3)])
  refine own_st (fun t k => XS.iloadN X0.here hx rfl (hb hby d15_27) rfl k) ?_
  show OG p e _ s below _ s₁ (mkF m 28 #[.val (.ref a1), .val (.int (0 : Int32)), .val (.ref a3), .val (.int (0 : Int32)), .val (.int (2 : Int32)), .val (.int (0 : Int32)), .val (.int c0)] [(.int (0 : Int32)), (.ref a3)])
  refine own_st (fun t k => XS.iload X0.here hx rfl (hb hby d15_28) rfl k) ?_
  show OG p e _ s below _ s₁ (mkF m 30 #[.val (.ref a1), .val (.int (0 : Int32)), .val (.ref a3), .val (.int (0 : Int32)), .val (.int (2 : Int32)), .val (.int (0 : Int32)), .val (.int c0)] [(.int c0), (.int (0 : Int32)), (.ref a3)])
  refine own_st (fun t k => XS.i2b X0.here hx rfl (hb hby d15_30) rfl k) ?_
  show OG p e _ s below _ s₁ (mkF m 31 #[.val (.ref a1), .val (.int (0 : Int32)), .val (.ref a3), .val (.int (0 : Int32)), .val (.int (2 : Int32)), .val (.int (0 : Int32)), .val (.int c0)] [(.int (c0.toInt8.toInt32)), (.int (0 : Int32)), (.ref a3)])
  obtain ⟨cl2, Ar2, hi2⟩ := own_wr R1 (j := (0 : Int32)) (i := 0) (by decide) (by decide) (by decide : 0 < 2)
  obtain ⟨T2, h2, X2, e2, W2, st2⟩ := stB X0 hx hZ e0 Ar2 hi2 (g := (mkF m 31 #[.val (.ref a1), .val (.int (0 : Int32)), .val (.ref a3), .val (.int (0 : Int32)), .val (.int (2 : Int32)), .val (.int (0 : Int32)), .val (.int c0)] [(.int (c0.toInt8.toInt32)), (.int (0 : Int32)), (.ref a3)])) rfl rfl (hb hby d15_31)
  refine own_st st2 ?_
  have N2 := Fr.snoc X2 N0 g_a3
  have K3 : Keep h0 h2 [a3] := (Keep.refl h0 [a3]).wr W2 (Or.inl (List.mem_of_getElem? (i := 0) rfl))
  have F4 : OA Z h2 a1 .char [(.int c0), (.int c1)] := (R0.other W2 ne_a1_a3)
  have F5 : OA Z h2 a3 .byte [(.int (nar .byte (c0.toInt8.toInt32))), (.int (0 : Int32))] := (R1.set W2 (i := 0) (by decide))
  show OG p e _ s below _ T2 (mkF m 32 #[.val (.ref a1), .val (.int (0 : Int32)), .val (.ref a3), .val (.int (0 : Int32)), .val (.int (2 : Int32)), .val (.int (0 : Int32)), .val (.int c0)] [])
  refine own_st (fun t k => XS.iinc X2.here hx rfl (hb hby d15_32) rfl (l' := #[.val (.ref a1), .val (.int ((0 : Int32) + (1 : Int32))), .val (.ref a3), .val (.int (0 : Int32)), .val (.int (2 : Int32)), .val (.int (0 : Int32)), .val (.int c0)]) rfl k) ?_
  show OG p e _ s below _ T2 (mkF m 35 #[.val (.ref a1), .val (.int (1 : Int32)), .val (.ref a3), .val (.int (0 : Int32)), .val (.int (2 : Int32)), .val (.int (0 : Int32)), .val (.int c0)] [])
  refine own_st (fun t k => XS.iinc X2.here hx rfl (hb hby d15_35) rfl (l' := #[.val (.ref a1), .val (.int (1 : Int32)), .val (.ref a3), .val (.int ((0 : Int32) + (1 : Int32))), .val (.int (2 : Int32)), .val (.int (0 : Int32)), .val (.int c0)]) rfl k) ?_
  show OG p e _ s below _ T2 (mkF m 38 #[.val (.ref a1), .val (.int (1 : Int32)), .val (.ref a3), .val (.int (1 : Int32)), .val (.int (2 : Int32)), .val (.int (0 : Int32)), .val (.int c0)] [])
  refine own_st (fun t k => XS.iinc X2.here hx rfl (hb hby d15_38) rfl (l' := #[.val (.ref a1), .val (.int (1 : Int32)), .val (.ref a3), .val (.int (1 : Int32)), .val (.int (2 : Int32)), .val (.int ((0 : Int32) + (1 : Int32))), .val (.int c0)]) rfl k) ?_
  show OG p e _ s below _ T2 (mkF m 41 #[.val (.ref a1), .val (.int (1 : Int32)), .val (.ref a3), .val (.int (1 : Int32)), .val (.int (2 : Int32)), .val (.int (1 : Int32)), .val (.int c0)] [])
  refine own_st (fun t k => XS.goto X2.here hx rfl (pc0 := 41) (pc' := 3) rfl (hb hby d15_41) (by decide) (by decide) k) ?_
  show OG p e _ s below _ T2 (mkF m 3 #[.val (.ref a1), .val (.int (1 : Int32)), .val (.ref a3), .val (.int (1 : Int32)), .val (.int (2 : Int32)), .val (.int (1 : Int32)), .val (.int c0)] [])
  refine own_st (fun t k => XS.iload X2.here hx rfl (hb hby d15_3) rfl k) ?_
  show OG p e _ s below _ T2 (mkF m 5 #[.val (.ref a1), .val (.int (1 : Int32)), .val (.ref a3), .val (.int (1 : Int32)), .val (.int (2 : Int32)), .val (.int (1 : Int32)), .val (.int c0)] [(.int (1 : Int32))])
  refine own_st (fun t k => XS.iload X2.here hx rfl (hb hby d15_5) rfl k) ?_
  show OG p e _ s below _ T2 (mkF m 7 #[.val (.ref a1), .val (.int (1 : Int32)), .val (.ref a3), .val (.int (1 : Int32)), .val (.int (2 : Int32)), .val (.int (1 : Int32)), .val (.int c0)] [(.int (2 : Int32)), (.int (1 : Int32))])
  refine own_st (fun t k => XS.icmpNo X2.here hx rfl (hb hby d15_7) rfl (by decide) k) ?_
  show OG p e _ s below _ T2 (mkF m 10 #[.val (.ref a1), .val (.int (1 : Int32)), .val (.ref a3), .val (.int (1 : Int32)), .val (.int (2 : Int32)), .val (.int (1 : Int32)), .val (.int c0)] [])
  refine own_st (fun t k => XS.aloadN X2.here hx rfl (hb hby d15_10) rfl rfl k) ?_
  show OG p e _ s below _ T2 (mkF m 11 #[.val (.ref a1), .val (.int (1 : Int32)), .val (.ref a3), .val (.int (1 : Int32)), .val (.int (2 : Int32)), .val (.int (1 : Int32)), .val (.int c0)] [(.ref a1)])
  refine own_st (fun t k => XS.iloadN X2.here hx rfl (hb hby d15_11) rfl k) ?_
  show OG p e _ s below _ T2 (mkF m 12 #[.val (.ref a1), .val (.int (1 : Int32)), .val (.ref a3), .val (.int (1 : Int32)), .val (.int (2 : Int32)), .val (.int (1 : Int32)), .val (.int c0)] [(.int (1 : Int32)), (.ref a1)])
  obtain ⟨cl6, Ar6, hi6, ha6⟩ := own_rd F4 (j := (1 : Int32)) (i := 1) (by decide) (by decide) (v := (.int c1)) rfl
  refine own_st (fun t k => X2.caload hx (j := (1 : Int32)) (v := (.int c1)) (by rw [e2]; exact Ar6.1) (State.isArrayOf_alike hZ.alike Ar6.2.1) Ar6.2.2 hi6 ha6 (g := (mkF m 12 #[.val (.ref a1), .val (.int (1 : Int32)), .val (.ref a3), .val (.int (1 : Int32)), .val (.int (2 : Int32)), .val (.int (1 : Int32)), .val (.int c0)] [(.int (1 : Int32)), (.ref a1)])) rfl rfl (hb hby d15_12) t k) ?_
  show OG p e _ s below _ T2 (mkF m 13 #[.val (.ref a1), .val (.int (1 : Int32)), .val (.ref a3), .val (.int (1 : Int32)), .val (.int (2 : Int32)), .val (.int (1 : Int32)), .val (.int c0)] [(.int c1)])
  refine own_st (fun t k => XS.istore X2.here hx rfl (hb hby d15_13) rfl (l' := #[.val (.ref a1), .val (.int (1 : Int32)), .val (.ref a3), .val (.int (1 : Int32)), .val (.int (2 : Int32)), .val (.int (1 : Int32)), .val (.int c1)]) rfl k) ?_
  show OG p e _ s below _ T2 (mkF m 15 #[.val (.ref a1), .val (.int (1 : Int32)), .val (.ref a3), .val (.int (1 : Int32)), .val (.int (2 : Int32)), .val (.int (1 : Int32)), .val (.int c1)] [])
  refine own_st (fun t k => XS.iload X2.here hx rfl (hb hby d15_15) rfl k) ?_
  show OG p e _ s below _ T2 (mkF m 17 #[.val (.ref a1), .val (.int (1 : Int32)), .val (.ref a3), .val (.int (1 : Int32)), .val (.int (2 : Int32)), .val (.int (1 : Int32)), .val (.int c1)] [(.int c1)])
  refine own_st (fun t k => XS.sipush X2.here hx rfl (hb hby d15_17) k) ?_
  show OG p e _ s below _ T2 (mkF m 20 #[.val (.ref a1), .val (.int (1 : Int32)), .val (.ref a3), .val (.int (1 : Int32)), .val (.int (2 : Int32)), .val (.int (1 : Int32)), .val (.int c1)] [(.int (255 : Int32)), (.int c1)])
  refine own_st (fun t k => XS.icmpYes X2.here hx rfl (pc0 := 20) (pc' := 26) rfl (hb hby d15_20) rfl (flt hc1).2.2.2 (by decide) (by decide) k) ?_
  show OG p e _ s below _ T2 (mkF m 26 #[.val (.ref a1), .val (.int (1 : Int32)), .val (.ref a3), .val (.int (1 : Int32)), .val (.int (2 : Int32)), .val (.int (1 : Int32)), .val (.int c1)] [])
  refine own_st (fun t k => XS.aloadN X2.here hx rfl (hb hby d15_26) rfl rfl k) ?_
  show OG p e _ s below _ T2 (mkF m 27 #[.val (.ref a1), .val (.int (1 : Int32)), .val (.ref a3), .val (.int (1 : Int32)), .val (.int (2 : Int32)), .val (.int (1 : Int32)), .val (.int c1)] [(.ref a3)])
  refine own_st (fun t k => XS.iloadN X2.here hx rfl (hb hby d15_27) rfl k) ?_
  show OG p e _ s below _ T2 (mkF m 28 #[.val (.ref a1), .val (.int (1 : Int32)), .val (.ref a3), .val (.int (1 : Int32)), .val (.int (2 : Int32)), .val (.int (1 : Int32)), .val (.int c1)] [(.int (1 : Int32)), (.ref a3)])
  refine own_st (fun t k => XS.iload X2.here hx rfl (hb hby d15_28) rfl k) ?_
  show OG p e _ s below _ T2 (mkF m 30 #[.val (.ref a1), .val (.int (1 : Int32)), .val (.ref a3), .val (.int (1 : Int32)), .val (.int (2 : Int32)), .val (.int (1 : Int32)), .val (.int c1)] [(.int c1), (.int (1 : Int32)), (.ref a3)])
  refine own_st (fun t k => XS.i2b X2.here hx rfl (hb hby d15_30) rfl k) ?_
  show OG p e _ s below _ T2 (mkF m 31 #[.val (.ref a1), .val (.int (1 : Int32)), .val (.ref a3), .val (.int (1 : Int32)), .val (.int (2 : Int32)), .val (.int (1 : Int32)), .val (.int c1)] [(.int (c1.toInt8.toInt32)), (.int (1 : Int32)), (.ref a3)])
  obtain ⟨cl7, Ar7, hi7⟩ := own_wr F5 (j := (1 : Int32)) (i := 1) (by decide) (by decide) (by decide : 1 < 2)
  obtain ⟨T7, h7, X7, e7, W7, st7⟩ := stB X2 hx hZ e2 Ar7 hi7 (g := (mkF m 31 #[.val (.ref a1), .val (.int (1 : Int32)), .val (.ref a3), .val (.int (1 : Int32)), .val (.int (2 : Int32)), .val (.int (1 : Int32)), .val (.int c1)] [(.int (c1.toInt8.toInt32)), (.int (1 : Int32)), (.ref a3)])) rfl rfl (hb hby d15_31)
  refine own_st st7 ?_
  have N7 := Fr.snoc X7 N2 g_a3
  have K8 : Keep h0 h7 [a3] := K3.wr W7 (Or.inl (List.mem_of_getElem? (i := 0) rfl))
  have F9 : OA Z h7 a1 .char [(.int c0), (.int c1)] := (F4.other W7 ne_a1_a3)
  have F10 : OA Z h7 a3 .byte [(.int (nar .byte (c0.toInt8.toInt32))), (.int (nar .byte (c1.toInt8.toInt32)))] := (F5.set W7 (i := 1) (by decide))
  show OG p e _ s below _ T7 (mkF m 32 #[.val (.ref a1), .val (.int (1 : Int32)), .val (.ref a3), .val (.int (1 : Int32)), .val (.int (2 : Int32)), .val (.int (1 : Int32)), .val (.int c1)] [])
  refine own_st (fun t k => XS.iinc X7.here hx rfl (hb hby d15_32) rfl (l' := #[.val (.ref a1), .val (.int ((1 : Int32) + (1 : Int32))), .val (.ref a3), .val (.int (1 : Int32)), .val (.int (2 : Int32)), .val (.int (1 : Int32)), .val (.int c1)]) rfl k) ?_
  show OG p e _ s below _ T7 (mkF m 35 #[.val (.ref a1), .val (.int (2 : Int32)), .val (.ref a3), .val (.int (1 : Int32)), .val (.int (2 : Int32)), .val (.int (1 : Int32)), .val (.int c1)] [])
  refine own_st (fun t k => XS.iinc X7.here hx rfl (hb hby d15_35) rfl (l' := #[.val (.ref a1), .val (.int (2 : Int32)), .val (.ref a3), .val (.int ((1 : Int32) + (1 : Int32))), .val (.int (2 : Int32)), .val (.int (1 : Int32)), .val (.int c1)]) rfl k) ?_
  show OG p e _ s below _ T7 (mkF m 38 #[.val (.ref a1), .val (.int (2 : Int32)), .val (.ref a3), .val (.int (2 : Int32)), .val (.int (2 : Int32)), .val (.int (1 : Int32)), .val (.int c1)] [])
  refine own_st (fun t k => XS.iinc X7.here hx rfl (hb hby d15_38) rfl (l' := #[.val (.ref a1), .val (.int (2 : Int32)), .val (.ref a3), .val (.int (2 : Int32)), .val (.int (2 : Int32)), .val (.int ((1 : Int32) + (1 : Int32))), .val (.int c1)]) rfl k) ?_
  show OG p e _ s below _ T7 (mkF m 41 #[.val (.ref a1), .val (.int (2 : Int32)), .val (.ref a3), .val (.int (2 : Int32)), .val (.int (2 : Int32)), .val (.int (2 : Int32)), .val (.int c1)] [])
  refine own_st (fun t k => XS.goto X7.here hx rfl (pc0 := 41) (pc' := 3) rfl (hb hby d15_41) (by decide) (by decide) k) ?_
  show OG p e _ s below _ T7 (mkF m 3 #[.val (.ref a1), .val (.int (2 : Int32)), .val (.ref a3), .val (.int (2 : Int32)), .val (.int (2 : Int32)), .val (.int (2 : Int32)), .val (.int c1)] [])
  refine own_st (fun t k => XS.iload X7.here hx rfl (hb hby d15_3) rfl k) ?_
  show OG p e _ s below _ T7 (mkF m 5 #[.val (.ref a1), .val (.int (2 : Int32)), .val (.ref a3), .val (.int (2 : Int32)), .val (.int (2 : Int32)), .val (.int (2 : Int32)), .val (.int c1)] [(.int (2 : Int32))])
  refine own_st (fun t k => XS.iload X7.here hx rfl (hb hby d15_5) rfl k) ?_
  show OG p e _ s below _ T7 (mkF m 7 #[.val (.ref a1), .val (.int (2 : Int32)), .val (.ref a3), .val (.int (2 : Int32)), .val (.int (2 : Int32)), .val (.int (2 : Int32)), .val (.int c1)] [(.int (2 : Int32)), (.int (2 : Int32))])
  refine own_st (fun t k => XS.icmpYes X7.here hx rfl (pc0 := 7) (pc' := 44) rfl (hb hby d15_7) rfl (by decide) (by decide) (by decide) k) ?_
  show OG p e _ s below _ T7 (mkF m 44 #[.val (.ref a1), .val (.int (2 : Int32)), .val (.ref a3), .val (.int (2 : Int32)), .val (.int (2 : Int32)), .val (.int (2 : Int32)), .val (.int c1)] [])
  refine own_st (fun t k => XS.iload X7.here hx rfl (hb hby d15_44) rfl k) ?_
  show OG p e _ s below _ T7 (mkF m 46 #[.val (.ref a1), .val (.int (2 : Int32)), .val (.ref a3), .val (.int (2 : Int32)), .val (.int (2 : Int32)), .val (.int (2 : Int32)), .val (.int c1)] [(.int (2 : Int32))])
  refine own_retI X7 hx hret hlk (hb hby d15_46) (by decide) (by decide) ?_
  rw [e7]
  exact ⟨rfl, N7, K8, F10⟩
theorem ef_14_2 (m : MethodId) (a1 : Addr) : entryFrame m #[(.ref a1), (.int (0 : Int32)), (.int (2 : Int32))] 6 = (mkF m 0 #[.val (.ref a1), .val (.int (0 : Int32)), .val (.int (2 : Int32)), .unset, .unset, .unset] []) := by first | (simp [entryFrame, mkF, argsToLocals, Value.category]; done) | rfl
abbrev Q14_2 (Z : State) (a1 : Addr) (c0 : Int32) (c1 : Int32) (h0 : Heap) (n0 : Nat) : Option Value → Heap → List Loc → Prop := (fun v h L => Fr n0 L ∧ Keep h0 h [] ∧ ∃ b : Addr, h0.size ≤ b ∧ v = some (.ref b) ∧ OA Z h b .byte [(.int (nar .byte (c0.toInt8.toInt32))), (.int (nar .byte (c1.toInt8.toInt32)))])
set_option maxRecDepth 65536 in
set_option maxHeartbeats 40000000 in
theorem rm14_2 (l : Launch) (Z : State) (a0 : Array Value) (hw : ∀ d ∈ tables_1, d.before a0 Z = true) (ws : List Jvm.Cond) (a1 : Addr) (c0 : Int32) (c1 : Int32) (h0 : Heap) (n0 : Nat) (Z0 : n0 ≤ h0.size) (R0 : OA Z h0 a1 .char [(.int c0), (.int c1)]) (hc0 : ¬ (255 : Int32) < c0) (hc1 : ¬ (255 : Int32) < c1) :
    OMet l Z (⟨"java/lang/StringUTF16", "compress", "([CII)[B"⟩ : MethodName) jdk_52_method_16_code 6 (some (.array .byte)) ws ({ frames := 1, cells := 1, slots := 2, locals := 18 } : Room) #[(.ref a1), (.int (0 : Int32)), (.int (2 : Int32))] h0 (Q14_2 Z a1 c0 c1 h0 n0) := by
  refine own_enter pn_14 ?_
  intro p e s m below meth c s₁ hx hby hml0 hown hret hlk hnm hZ X0 e0
  have hml : c.maxLocals = 6 := hml0
  have N0 := Fr.nil n0
  refine own_cast (ef_14_2 m a1) ?_
  show OG p e ({ frames := 1, cells := 1, slots := 2, locals := 18 } : Room) s below (fun v h L => Fr n0 L ∧ Keep h0 h [] ∧ ∃ b : Addr, h0.size ≤ b ∧ v = some (.ref b) ∧ OA Z h b .byte [(.int (nar .byte (c0.toInt8.toInt32))), (.int (nar .byte (c1.toInt8.toInt32)))]) s₁ (mkF m 0 #[.val (.ref a1), .val (.int (0 : Int32)), .val (.int (2 : Int32)), .unset, .unset, .unset] [])
  refine own_st (fun t k => XS.iloadN X0.here hx rfl (hb hby d14_0) rfl k) ?_
  show OG p e _ s below _ s₁ (mkF m 1 #[.val (.ref a1), .val (.int (0 : Int32)), .val (.int (2 : Int32)), .unset, .unset, .unset] [(.int (2 : Int32))])
  obtain ⟨T1, h1, k1, X1, e1, E1, A1, st1⟩ := newP X0 hx hZ (hw _ (List.mem_of_getElem? (i := 22) rfl)) e0 (g := (mkF m 1 #[.val (.ref a1), .val (.int (0 : Int32)), .val (.int (2 : Int32)), .unset, .unset, .unset] [(.int (2 : Int32))])) rfl (hb hby d14_1) rfl (by decide) (cap := 2) (by decide) (by decide) (by decide) (by decide)
  obtain ⟨b1, gb1⟩ : ∃ z, z = h0.size := ⟨_, rfl⟩
  rw [← gb1] at A1 st1
  refine own_st st1 ?_
  have ge_b1 : n0 ≤ b1 := by rw [gb1]; exact Nat.le_trans Z0 (Keep.refl h0 []).1
  have sz_b1 : h0.size ≤ b1 := by rw [gb1]; exact (Keep.refl h0 []).1
  have ne_a1_b1 : a1 ≠ b1 := Nat.ne_of_lt (Nat.lt_of_lt_of_eq R0.lt gb1.symm)
  have F2 : OA Z h1 a1 .char [(.int c0), (.int c1)] := (R0.ext E1)
  have K3 : Keep h0 h1 [] := (Keep.refl h0 []).ext E1
  have F4 : OA Z h1 b1 .byte [(.int (0 : Int32)), (.int (0 : Int32))] := OA.new A1
  show OG p e _ s below _ T1 (mkF m 3 #[.val (.ref a1), .val (.int (0 : Int32)), .val (.int (2 : Int32)), .unset, .unset, .unset] [(.ref b1)])
  refine own_st (fun t k => XS.astoreN X1.here hx rfl (hb hby d14_3) rfl rfl (l' := #[.val (.ref a1), .val (.int (0 : Int32)), .val (.int (2 : Int32)), .val (.ref b1), .unset, .unset]) rfl k) ?_
  show OG p e _ s below _ T1 (mkF m 4 #[.val (.ref a1), .val (.int (0 : Int32)), .val (.int (2 : Int32)), .val (.ref b1), .unset, .unset] [])
  refine own_st (fun t k => XS.aloadN X1.here hx rfl (hb hby d14_4) rfl rfl k) ?_
  show OG p e _ s below _ T1 (mkF m 5 #[.val (.ref a1), .val (.int (0 : Int32)), .val (.int (2 : Int32)), .val (.ref b1), .unset, .unset] [(.ref a1)])
  refine own_st (fun t k => XS.iloadN X1.here hx rfl (hb hby d14_5) rfl k) ?_
  show OG p e _ s below _ T1 (mkF m 6 #[.val (.ref a1), .val (.int (0 : Int32)), .val (.int (2 : Int32)), .val (.ref b1), .unset, .unset] [(.int (0 : Int32)), (.ref a1)])
  refine own_st (fun t k => XS.aloadN X1.here hx rfl (hb hby d14_6) rfl rfl k) ?_
  show OG p e _ s below _ T1 (mkF m 7 #[.val (.ref a1), .val (.int (0 : Int32)), .val (.int (2 : Int32)), .val (.ref b1), .unset, .unset] [(.ref b1), (.int (0 : Int32)), (.ref a1)])
  refine own_st (fun t k => XS.iconst X1.here hx rfl (hb hby d14_7) k) ?_
  show OG p e _ s below _ T1 (mkF m 8 #[.val (.ref a1), .val (.int (0 : Int32)), .val (.int (2 : Int32)), .val (.ref b1), .unset, .unset] [(.int (0 : Int32)), (.ref b1), (.int (0 : Int32)), (.ref a1)])
  refine own_st (fun t k => XS.iloadN X1.here hx rfl (hb hby d14_8) rfl k) ?_
  show OG p e _ s below _ T1 (mkF m 9 #[.val (.ref a1), .val (.int (0 : Int32)), .val (.int (2 : Int32)), .val (.ref b1), .unset, .unset] [(.int (2 : Int32)), (.int (0 : Int32)), (.ref b1), (.int (0 : Int32)), (.ref a1)])
  obtain ⟨_, _, ⟨T5, L5, k5, n5⟩, -, X5, ⟨Lc5, hQ5, l5, y5, z5⟩, st5⟩ := Jvm.LawKit.callS X1 hx (y := (⟨"java/lang/StringUTF16", "compress", "([CI[BII)I"⟩ : MethodName)) hown (mvT hZ (hw _ (List.mem_of_getElem? (i := 76) rfl))) (mvT hZ (hw _ (List.mem_of_getElem? (i := 77) rfl))) (mvT hZ (hw _ (List.mem_of_getElem? (i := 74) rfl))) (mvT hZ (hw _ (List.mem_of_getElem? (i := 78) rfl))) (by decide) (backOf (W := 0) (rm := ({ frames := 0, cells := 0, slots := 0, locals := 0 } : Room)) (rm15_2 l Z a0 hw [] a1 b1 c0 c1 h1 n0 F2 F4 ge_b1 ne_a1_b1 hc0 hc1) hZ (hw _ (List.mem_of_getElem? (i := 78) rfl)) (hw _ (List.mem_of_getElem? (i := 74) rfl)) (by decide) (by decide)) (g := (mkF m 9 #[.val (.ref a1), .val (.int (0 : Int32)), .val (.int (2 : Int32)), .val (.ref b1), .unset, .unset] [(.int (2 : Int32)), (.int (0 : Int32)), (.ref b1), (.int (0 : Int32)), (.ref a1)])) rfl (by rw [hml]; rfl) (argsL := [(.ref a1), (.int (0 : Int32)), (.ref b1), (.int (0 : Int32)), (.int (2 : Int32))]) (rest := []) (lenOf pd___CI_BII_I rfl) rfl (by show 2 * 0 + _ ≤ _; exact Nat.le_of_eq rfl) (hb hby d14_9) (fun _ _ => ⟨rfl, e1, (by decide : 1 + 0 ≤ _), (by decide : 2 + 0 ≤ _)⟩)
  dsimp only [Pt.U, Pt.locs, Pt.cells, Pt.slots] at X5 l5 y5 z5 st5 hQ5
  subst l5 y5 z5
  obtain ⟨rfl, N5q, K5q, P5_0⟩ := hQ5
  refine own_st st5 ?_
  have N5 := Fr.app N0 N5q
  have K5 : Keep h0 T5.heap [] := K3.trans K5q (own_all1 (Or.inr sz_b1))
  have F6 : OA Z T5.heap a1 .char [(.int c0), (.int c1)] := (F2.keep K5q (own_nin1 ne_a1_b1))
  show OG p e _ s below _ T5 (mkF m 12 #[.val (.ref a1), .val (.int (0 : Int32)), .val (.int (2 : Int32)), .val (.ref b1), .unset, .unset] [(.int (2 : Int32))])
  refine own_st (fun t k => XS.istore X5.here hx rfl (hb hby d14_12) rfl (l' := #[.val (.ref a1), .val (.int (0 : Int32)), .val (.int (2 : Int32)), .val (.ref b1), .val (.int (2 : Int32)), .unset]) rfl k) ?_
  show OG p e _ s below _ T5 (mkF m 14 #[.val (.ref a1), .val (.int (0 : Int32)), .val (.int (2 : Int32)), .val (.ref b1), .val (.int (2 : Int32)), .unset] [])
  refine own_st (fun t k => XS.iload X5.here hx rfl (hb hby d14_14) rfl k) ?_
  show OG p e _ s below _ T5 (mkF m 16 #[.val (.ref a1), .val (.int (0 : Int32)), .val (.int (2 : Int32)), .val (.ref b1), .val (.int (2 : Int32)), .unset] [(.int (2 : Int32))])
  refine own_st (fun t k => XS.iloadN X5.here hx rfl (hb hby d14_16) rfl k) ?_
  show OG p e _ s below _ T5 (mkF m 17 #[.val (.ref a1), .val (.int (0 : Int32)), .val (.int (2 : Int32)), .val (.ref b1), .val (.int (2 : Int32)), .unset] [(.int (2 : Int32)), (.int (2 : Int32))])
  refine own_st (fun t k => XS.icmpYes X5.here hx rfl (pc0 := 17) (pc' := 57) rfl (hb hby d14_17) rfl (by decide) (by decide) (by decide) k) ?_
  show OG p e _ s below _ T5 (mkF m 57 #[.val (.ref a1), .val (.int (0 : Int32)), .val (.int (2 : Int32)), .val (.ref b1), .val (.int (2 : Int32)), .unset] [])
  refine own_st (fun t k => XS.aloadN X5.here hx rfl (hb hby d14_57) rfl rfl k) ?_
  show OG p e _ s below _ T5 (mkF m 58 #[.val (.ref a1), .val (.int (0 : Int32)), .val (.int (2 : Int32)), .val (.ref b1), .val (.int (2 : Int32)), .unset] [(.ref b1)])
  refine own_retV X5 hx hret rfl (Or.inr (Or.inr (Or.inr (Or.inr ⟨rfl, rfl, rfl⟩)))) hlk (hb hby d14_58) (by decide) (by decide) ?_
  exact ⟨N5, K5, b1, sz_b1, rfl, P5_0⟩
theorem ef_16_2 (m : MethodId) (a1 : Addr) : entryFrame m #[(.ref a1), (.int (2 : Int32))] 2 = (mkF m 0 #[.val (.ref a1), .val (.int (2 : Int32))] []) := by first | (simp [entryFrame, mkF, argsToLocals, Value.category]; done) | rfl
abbrev Q16_2 (Z : State) (a1 : Addr) (c0 : Int32) (c1 : Int32) (h0 : Heap) (n0 : Nat) : Option Value → Heap → List Loc → Prop := (fun v h L => v = some (.int (0 : Int32)) ∧ Fr n0 L ∧ Keep h0 h [])
set_option maxRecDepth 65536 in
set_option maxHeartbeats 40000000 in
theorem rm16_2 (l : Launch) (Z : State) (a0 : Array Value) (hw : ∀ d ∈ tables_1, d.before a0 Z = true) (ws : List Jvm.Cond) (a1 : Addr) (c0 : Int32) (c1 : Int32) (h0 : Heap) (n0 : Nat) (R0 : OA Z h0 a1 .byte [(.int c0), (.int c1)]) :
    OMet l Z (⟨"java/lang/StringUTF16", "coderFromArrayLen", "([BI)B"⟩ : MethodName) jdk_52_method_15_code 2 (some .byte) ws ({ frames := 0, cells := 0, slots := 0, locals := 0 } : Room) #[(.ref a1), (.int (2 : Int32))] h0 (Q16_2 Z a1 c0 c1 h0 n0) := by
  refine own_enter pn_16 ?_
  intro p e s m below meth c s₁ hx hby hml0 hown hret hlk hnm hZ X0 e0
  have hml : c.maxLocals = 2 := hml0
  have N0 := Fr.nil n0
  refine own_cast (ef_16_2 m a1) ?_
  show OG p e ({ frames := 0, cells := 0, slots := 0, locals := 0 } : Room) s below (fun v h L => v = some (.int (0 : Int32)) ∧ Fr n0 L ∧ Keep h0 h []) s₁ (mkF m 0 #[.val (.ref a1), .val (.int (2 : Int32))] [])
  refine own_st (fun t k => XS.iloadN X0.here hx rfl (hb hby d16_0) rfl k) ?_
  show OG p e _ s below _ s₁ (mkF m 1 #[.val (.ref a1), .val (.int (2 : Int32))] [(.int (2 : Int32))])
  refine own_st (fun t k => XS.aloadN X0.here hx rfl (hb hby d16_1) rfl rfl k) ?_
  show OG p e _ s below _ s₁ (mkF m 2 #[.val (.ref a1), .val (.int (2 : Int32))] [(.ref a1), (.int (2 : Int32))])
  obtain ⟨cl1, Ar1, hz1⟩ := R0.len
  refine own_st (fun t k => X0.arraylength hx (by rw [e0]; exact Ar1.1) (State.isArrayOf_alike hZ.alike Ar1.2.1) (g := (mkF m 2 #[.val (.ref a1), .val (.int (2 : Int32))] [(.ref a1), (.int (2 : Int32))])) rfl rfl (hb hby d16_2) t k) ?_
  rw [hz1]
  show OG p e _ s below _ s₁ (mkF m 3 #[.val (.ref a1), .val (.int (2 : Int32))] [(.int (2 : Int32)), (.int (2 : Int32))])
  refine own_st (fun t k => XS.isub X0.here hx rfl (hb hby d16_3) rfl k) ?_
  show OG p e _ s below _ s₁ (mkF m 4 #[.val (.ref a1), .val (.int (2 : Int32))] [(.int (0 : Int32))])
  refine own_st (fun t k => XS.bipush X0.here hx rfl (hb hby d16_4) k) ?_
  show OG p e _ s below _ s₁ (mkF m 6 #[.val (.ref a1), .val (.int (2 : Int32))] [(.int (31 : Int32)), (.int (0 : Int32))])
  refine own_st (fun t k => XS.iushr X0.here hx rfl (hb hby d16_6) rfl k) ?_
  show OG p e _ s below _ s₁ (mkF m 7 #[.val (.ref a1), .val (.int (2 : Int32))] [(.int (0 : Int32))])
  refine own_st (fun t k => XS.i2b X0.here hx rfl (hb hby d16_7) rfl k) ?_
  show OG p e _ s below _ s₁ (mkF m 8 #[.val (.ref a1), .val (.int (2 : Int32))] [(.int ((0 : Int32).toInt8.toInt32))])
  refine own_retZ X0 hx (t := .byte) hret (by simp) hlk (hb hby d16_8) (by decide) (by decide) (w := (0 : Int32)) rfl ?_
  rw [e0]
  exact ⟨rfl, N0, (Keep.refl h0 [])⟩
theorem ef_4_2 (m : MethodId) (a1 : Addr) (a2 : Addr) : entryFrame m #[(.ref a1), (.ref a2), (.int (0 : Int32)), (.int (2 : Int32)), .null] 6 = (mkF m 0 #[.val (.ref a1), .val (.ref a2), .val (.int (0 : Int32)), .val (.int (2 : Int32)), .val .null, .unset] []) := by first | (simp [entryFrame, mkF, argsToLocals, Value.category]; done) | rfl
abbrev Q4_2 (Z : State) (a1 : Addr) (a2 : Addr) (c0 : Int32) (c1 : Int32) (w : Int32) (h0 : Heap) (n0 : Nat) : Option Value → Heap → List Loc → Prop := (fun v h L => v = none ∧ Fr n0 L ∧ Keep h0 h [a1] ∧ ∃ b : Addr, h0.size ≤ b ∧ Exa Z h a1 "java/lang/String" ∧ Fld Z h a1 "java/lang/String" "value" "[B" (.ref b) ∧ Fld Z h a1 "java/lang/String" "coder" "B" (.int (0 : Int32)) ∧ OA Z h b .byte [(.int (nar .byte (c0.toInt8.toInt32))), (.int (nar .byte (c1.toInt8.toInt32)))])
set_option maxRecDepth 65536 in
set_option maxHeartbeats 40000000 in
theorem rm4_2 (l : Launch) (Z : State) (a0 : Array Value) (hw : ∀ d ∈ tables_1, d.before a0 Z = true) (ws : List Jvm.Cond) (a1 : Addr) (a2 : Addr) (c0 : Int32) (c1 : Int32) (w : Int32) (h0 : Heap) (n0 : Nat) (Z0 : n0 ≤ h0.size) (R0 : Exa Z h0 a1 "java/lang/String") (R1 : Fld Z h0 a1 "java/lang/String" "value" "[B" .null) (R2 : Fld Z h0 a1 "java/lang/String" "coder" "B" (.int (0 : Int32))) (R3 : OA Z h0 a2 .char [(.int c0), (.int c1)]) (R4 : Sta Z h0 "java/lang/String" "COMPACT_STRINGS" "Z" (.int w)) (g_a1 : n0 ≤ a1) (ne_a2_a1 : a2 ≠ a1) (hc0 : ¬ (255 : Int32) < c0) (hc1 : ¬ (255 : Int32) < c1) (hw0 : ¬ w = (0 : Int32)) :
    OMet l Z (⟨"java/lang/String", "<init>", "([CIILjava/lang/Void;)V"⟩ : MethodName) jdk_42_method_149_code 6 none ws ({ frames := 2, cells := 1, slots := 2, locals := 35 } : Room) #[(.ref a1), (.ref a2), (.int (0 : Int32)), (.int (2 : Int32)), .null] h0 (Q4_2 Z a1 a2 c0 c1 w h0 n0) := by
  refine own_enter pn_4 ?_
  intro p e s m below meth c s₁ hx hby hml0 hown hret hlk hnm hZ X0 e0
  have hml : c.maxLocals = 6 := hml0
  have N0 := Fr.nil n0
  refine own_cast (ef_4_2 m a1 a2) ?_
  show OG p e ({ frames := 2, cells := 1, slots := 2, locals := 35 } : Room) s below (fun v h L => v = none ∧ Fr n0 L ∧ Keep h0 h [a1] ∧ ∃ b : Addr, h0.size ≤ b ∧ Exa Z h a1 "java/lang/String" ∧ Fld Z h a1 "java/lang/String" "value" "[B" (.ref b) ∧ Fld Z h a1 "java/lang/String" "coder" "B" (.int (0 : Int32)) ∧ OA Z h b .byte [(.int (nar .byte (c0.toInt8.toInt32))), (.int (nar .byte (c1.toInt8.toInt32)))]) s₁ (mkF m 0 #[.val (.ref a1), .val (.ref a2), .val (.int (0 : Int32)), .val (.int (2 : Int32)), .val .null, .unset] [])
  refine own_st (fun t k => XS.aloadN X0.here hx rfl (hb hby d4_0) rfl rfl k) ?_
  show OG p e _ s below _ s₁ (mkF m 1 #[.val (.ref a1), .val (.ref a2), .val (.int (0 : Int32)), .val (.int (2 : Int32)), .val .null, .unset] [(.ref a1)])
  obtain ⟨T1, X1, e1, st1⟩ := initO X0 hx hZ hown (hw _ (List.mem_of_getElem? (i := 18) rfl)) (hw _ (List.mem_of_getElem? (i := 19) rfl)) (hw _ (List.mem_of_getElem? (i := 20) rfl)) e0 (g := (mkF m 1 #[.val (.ref a1), .val (.ref a2), .val (.int (0 : Int32)), .val (.int (2 : Int32)), .val .null, .unset] [(.ref a1)])) rfl (by rw [hml]; rfl) rfl (hb hby d4_1) (by decide) (W := 0) (by show 2 * 0 + _ ≤ _; exact Nat.le_of_eq rfl) (by decide)
  refine own_st st1 ?_
  show OG p e _ s below _ T1 (mkF m 4 #[.val (.ref a1), .val (.ref a2), .val (.int (0 : Int32)), .val (.int (2 : Int32)), .val .null, .unset] [])
  refine own_st (fun t k => XS.iloadN X1.here hx rfl (hb hby d4_4) rfl k) ?_
  show OG p e _ s below _ T1 (mkF m 5 #[.val (.ref a1), .val (.ref a2), .val (.int (0 : Int32)), .val (.int (2 : Int32)), .val .null, .unset] [(.int (2 : Int32))])
  refine own_st (fun t k => XS.ifYes X1.here hx rfl (pc0 := 5) (pc' := 27) rfl (hb hby d4_5) rfl (by decide) (by decide) (by decide) k) ?_
  show OG p e _ s below _ T1 (mkF m 27 #[.val (.ref a1), .val (.ref a2), .val (.int (0 : Int32)), .val (.int (2 : Int32)), .val .null, .unset] [])
  obtain ⟨T2, X2, e2, st2⟩ := getS X1 hx hZ (host := "") hown (hw _ (List.mem_of_getElem? (i := 61) rfl)) Via.refl e1 R4 (g := (mkF m 27 #[.val (.ref a1), .val (.ref a2), .val (.int (0 : Int32)), .val (.int (2 : Int32)), .val .null, .unset] [])) rfl (hb hby d4_27)
  refine own_st st2 ?_
  show OG p e _ s below _ T2 (mkF m 30 #[.val (.ref a1), .val (.ref a2), .val (.int (0 : Int32)), .val (.int (2 : Int32)), .val .null, .unset] [(.int w)])
  refine own_st (fun t k => XS.ifNo X2.here hx rfl (hb hby d4_30) rfl (own_if0 (feq hw0).1) k) ?_
  show OG p e _ s below _ T2 (mkF m 33 #[.val (.ref a1), .val (.ref a2), .val (.int (0 : Int32)), .val (.int (2 : Int32)), .val .null, .unset] [])
  refine own_st (fun t k => XS.aloadN X2.here hx rfl (hb hby d4_33) rfl rfl k) ?_
  show OG p e _ s below _ T2 (mkF m 34 #[.val (.ref a1), .val (.ref a2), .val (.int (0 : Int32)), .val (.int (2 : Int32)), .val .null, .unset] [(.ref a2)])
  refine own_st (fun t k => XS.iloadN X2.here hx rfl (hb hby d4_34) rfl k) ?_
  show OG p e _ s below _ T2 (mkF m 35 #[.val (.ref a1), .val (.ref a2), .val (.int (0 : Int32)), .val (.int (2 : Int32)), .val .null, .unset] [(.int (0 : Int32)), (.ref a2)])
  refine own_st (fun t k => XS.iloadN X2.here hx rfl (hb hby d4_35) rfl k) ?_
  show OG p e _ s below _ T2 (mkF m 36 #[.val (.ref a1), .val (.ref a2), .val (.int (0 : Int32)), .val (.int (2 : Int32)), .val .null, .unset] [(.int (2 : Int32)), (.int (0 : Int32)), (.ref a2)])
  obtain ⟨_, _, ⟨T3, L3, k3, n3⟩, -, X3, ⟨Lc3, hQ3, l3, y3, z3⟩, st3⟩ := Jvm.LawKit.callS X2 hx (y := (⟨"java/lang/StringUTF16", "compress", "([CII)[B"⟩ : MethodName)) hown (mvT hZ (hw _ (List.mem_of_getElem? (i := 72) rfl))) (mvT hZ (hw _ (List.mem_of_getElem? (i := 73) rfl))) (mvT hZ (hw _ (List.mem_of_getElem? (i := 74) rfl))) (mvT hZ (hw _ (List.mem_of_getElem? (i := 75) rfl))) (by decide) (backOf (W := 0) (rm := ({ frames := 1, cells := 1, slots := 2, locals := 18 } : Room)) (rm14_2 l Z a0 hw [] a2 c0 c1 h0 n0 (Nat.le_trans Z0 (Keep.refl h0 [a1]).1) R3 hc0 hc1) hZ (hw _ (List.mem_of_getElem? (i := 75) rfl)) (hw _ (List.mem_of_getElem? (i := 74) rfl)) (by decide) (by decide)) (g := (mkF m 36 #[.val (.ref a1), .val (.ref a2), .val (.int (0 : Int32)), .val (.int (2 : Int32)), .val .null, .unset] [(.int (2 : Int32)), (.int (0 : Int32)), (.ref a2)])) rfl (by rw [hml]; rfl) (argsL := [(.ref a2), (.int (0 : Int32)), (.int (2 : Int32))]) (rest := []) (lenOf pd___CII__B rfl) rfl (by show 2 * 0 + _ ≤ _; exact Nat.le_of_eq rfl) (hb hby d4_36) (fun _ _ => ⟨rfl, e2, (by decide : 0 + 1 ≤ _), (by decide : 0 + 2 ≤ _)⟩)
  dsimp only [Pt.U, Pt.locs, Pt.cells, Pt.slots] at X3 l3 y3 z3 st3 hQ3
  subst l3 y3 z3
  obtain ⟨N3q, K3q, b_3, sz_b_3, rfl, P3_0⟩ := hQ3
  refine own_st st3 ?_
  have N3 := Fr.app N0 N3q
  have ge_b_3 : n0 ≤ b_3 := Nat.le_trans (Nat.le_trans Z0 (Keep.refl h0 [a1]).1) sz_b_3
  have sy_b_3 : h0.size ≤ b_3 := Nat.le_trans (Keep.refl h0 [a1]).1 sz_b_3
  have ne_a1_b_3 : a1 ≠ b_3 := Nat.ne_of_lt (Nat.lt_of_lt_of_le R0.lt sz_b_3)
  have ne_a2_b_3 : a2 ≠ b_3 := Nat.ne_of_lt (Nat.lt_of_lt_of_le R3.lt sz_b_3)
  have K3 : Keep h0 T3.heap [a1] := (Keep.refl h0 [a1]).trans K3q (own_all0 )
  have F4 : Exa Z T3.heap a1 "java/lang/String" := (R0.keep K3q)
  have F5 : Fld Z T3.heap a1 "java/lang/String" "value" "[B" .null := (R1.keep K3q (own_nin0 ))
  have F6 : Fld Z T3.heap a1 "java/lang/String" "coder" "B" (.int (0 : Int32)) := (R2.keep K3q (own_nin0 ))
  have F7 : OA Z T3.heap a2 .char [(.int c0), (.int c1)] := (R3.keep K3q (own_nin0 ))
  have F8 : Sta Z T3.heap "java/lang/String" "COMPACT_STRINGS" "Z" (.int w) := (own_staK R4 K3q (own_all0 ))
  show OG p e _ s below _ T3 (mkF m 39 #[.val (.ref a1), .val (.ref a2), .val (.int (0 : Int32)), .val (.int (2 : Int32)), .val .null, .unset] [(.ref b_3)])
  refine own_st (fun t k => XS.astore X3.here hx rfl (hb hby d4_39) rfl rfl (l' := #[.val (.ref a1), .val (.ref a2), .val (.int (0 : Int32)), .val (.int (2 : Int32)), .val .null, .val (.ref b_3)]) rfl k) ?_
  show OG p e _ s below _ T3 (mkF m 41 #[.val (.ref a1), .val (.ref a2), .val (.int (0 : Int32)), .val (.int (2 : Int32)), .val .null, .val (.ref b_3)] [])
  refine own_st (fun t k => XS.aloadN X3.here hx rfl (hb hby d4_41) rfl rfl k) ?_
  show OG p e _ s below _ T3 (mkF m 42 #[.val (.ref a1), .val (.ref a2), .val (.int (0 : Int32)), .val (.int (2 : Int32)), .val .null, .val (.ref b_3)] [(.ref a1)])
  refine own_st (fun t k => XS.aload X3.here hx rfl (hb hby d4_42) rfl rfl k) ?_
  show OG p e _ s below _ T3 (mkF m 44 #[.val (.ref a1), .val (.ref a2), .val (.int (0 : Int32)), .val (.int (2 : Int32)), .val .null, .val (.ref b_3)] [(.ref b_3), (.ref a1)])
  refine own_st (fun t k => XS.iloadN X3.here hx rfl (hb hby d4_44) rfl k) ?_
  show OG p e _ s below _ T3 (mkF m 45 #[.val (.ref a1), .val (.ref a2), .val (.int (0 : Int32)), .val (.int (2 : Int32)), .val .null, .val (.ref b_3)] [(.int (2 : Int32)), (.ref b_3), (.ref a1)])
  obtain ⟨_, _, ⟨T9, L9, k9, n9⟩, -, X9, ⟨Lc9, hQ9, l9, y9, z9⟩, st9⟩ := Jvm.LawKit.callS X3 hx (y := (⟨"java/lang/StringUTF16", "coderFromArrayLen", "([BI)B"⟩ : MethodName)) hown (mvT hZ (hw _ (List.mem_of_getElem? (i := 79) rfl))) (mvT hZ (hw _ (List.mem_of_getElem? (i := 80) rfl))) (mvT hZ (hw _ (List.mem_of_getElem? (i := 74) rfl))) (mvT hZ (hw _ (List.mem_of_getElem? (i := 81) rfl))) (by decide) (backOf (W := 1) (rm := ({ frames := 0, cells := 0, slots := 0, locals := 0 } : Room)) (rm16_2 l Z a0 hw [] b_3 (nar .byte (c0.toInt8.toInt32)) (nar .byte (c1.toInt8.toInt32)) T3.heap n0 P3_0) hZ (hw _ (List.mem_of_getElem? (i := 81) rfl)) (hw _ (List.mem_of_getElem? (i := 74) rfl)) (by decide) (by decide)) (g := (mkF m 45 #[.val (.ref a1), .val (.ref a2), .val (.int (0 : Int32)), .val (.int (2 : Int32)), .val .null, .val (.ref b_3)] [(.int (2 : Int32)), (.ref b_3), (.ref a1)])) rfl (by rw [hml]; rfl) (argsL := [(.ref b_3), (.int (2 : Int32))]) (rest := [(.ref a1)]) (lenOf pd___BI_B rfl) rfl (by show 2 * 0 + _ ≤ _; exact Nat.le_of_eq rfl) (hb hby d4_45) (fun _ _ => ⟨rfl, rfl, (by decide : 1 + 0 ≤ _), (by decide : 2 + 0 ≤ _)⟩)
  dsimp only [Pt.U, Pt.locs, Pt.cells, Pt.slots] at X9 l9 y9 z9 st9 hQ9
  subst l9 y9 z9
  obtain ⟨rfl, N9q, K9q⟩ := hQ9
  refine own_st st9 ?_
  have N9 := Fr.app N3 N9q
  have K9 : Keep h0 T9.heap [a1] := K3.trans K9q (own_all0 )
  have F10 : Exa Z T9.heap a1 "java/lang/String" := (F4.keep K9q)
  have F11 : Fld Z T9.heap a1 "java/lang/String" "value" "[B" .null := (F5.keep K9q (own_nin0 ))
  have F12 : Fld Z T9.heap a1 "java/lang/String" "coder" "B" (.int (0 : Int32)) := (F6.keep K9q (own_nin0 ))
  have F13 : OA Z T9.heap a2 .char [(.int c0), (.int c1)] := (F7.keep K9q (own_nin0 ))
  have F14 : Sta Z T9.heap "java/lang/String" "COMPACT_STRINGS" "Z" (.int w) := (own_staK F8 K9q (own_all0 ))
  have F15 : OA Z T9.heap b_3 .byte [(.int (nar .byte (c0.toInt8.toInt32))), (.int (nar .byte (c1.toInt8.toInt32)))] := (P3_0.keep K9q (own_nin0 ))
  show OG p e _ s below _ T9 (mkF m 48 #[.val (.ref a1), .val (.ref a2), .val (.int (0 : Int32)), .val (.int (2 : Int32)), .val .null, .val (.ref b_3)] [(.int (0 : Int32)), (.ref a1)])
  obtain ⟨T16, h16, X16, e16, W16, st16⟩ := putF X9 hx hZ hown (host := "") (Or.inl (hw _ (List.mem_of_getElem? (i := 28) rfl))) Via.refl rfl F12 F10 (Or.inr ⟨(hw _ (List.mem_of_getElem? (i := 24) rfl)), rfl, hnm⟩) (hw _ (List.mem_of_getElem? (i := 8) rfl)) (ty := .byte) (by decide) rfl rfl (g := (mkF m 48 #[.val (.ref a1), .val (.ref a2), .val (.int (0 : Int32)), .val (.int (2 : Int32)), .val .null, .val (.ref b_3)] [(.int (0 : Int32)), (.ref a1)])) rfl rfl (hb hby d4_48)
  refine own_st st16 ?_
  have N16 := Fr.snoc X16 N9 g_a1
  have K17 : Keep h0 h16 [a1] := K9.wr W16 (Or.inl (List.mem_of_getElem? (i := 0) rfl))
  have F18 : Exa Z h16 a1 "java/lang/String" := (F10.wr W16)
  have F19 : Fld Z h16 a1 "java/lang/String" "value" "[B" .null := (F11.other W16 (Or.inr (slot_ne (Or.inr (hw _ (List.mem_of_getElem? (i := 23) rfl))) (Or.inr (hw _ (List.mem_of_getElem? (i := 24) rfl))) (by decide) (t := (.array .byte)) (t' := .byte) (by decide) (by decide))))
  have F20 : Fld Z h16 a1 "java/lang/String" "coder" "B" (.int (0 : Int32)) := (F12.same W16)
  have F21 : OA Z h16 a2 .char [(.int c0), (.int c1)] := (F13.other W16 ne_a2_a1)
  have F22 : Sta Z h16 "java/lang/String" "COMPACT_STRINGS" "Z" (.int w) := (F14.wr W16)
  have F23 : OA Z h16 b_3 .byte [(.int (nar .byte (c0.toInt8.toInt32))), (.int (nar .byte (c1.toInt8.toInt32)))] := (F15.other W16 (Ne.symm ne_a1_b_3))
  show OG p e _ s below _ T16 (mkF m 51 #[.val (.ref a1), .val (.ref a2), .val (.int (0 : Int32)), .val (.int (2 : Int32)), .val .null, .val (.ref b_3)] [])
  refine own_st (fun t k => XS.aloadN X16.here hx rfl (hb hby d4_51) rfl rfl k) ?_
  show OG p e _ s below _ T16 (mkF m 52 #[.val (.ref a1), .val (.ref a2), .val (.int (0 : Int32)), .val (.int (2 : Int32)), .val .null, .val (.ref b_3)] [(.ref a1)])
  refine own_st (fun t k => XS.aload X16.here hx rfl (hb hby d4_52) rfl rfl k) ?_
  show OG p e _ s below _ T16 (mkF m 54 #[.val (.ref a1), .val (.ref a2), .val (.int (0 : Int32)), .val (.int (2 : Int32)), .val .null, .val (.ref b_3)] [(.ref b_3), (.ref a1)])
  obtain ⟨T24, h24, X24, e24, W24, st24⟩ := putF X16 hx hZ hown (host := "") (Or.inl (hw _ (List.mem_of_getElem? (i := 27) rfl))) Via.refl e16 F19 F18 (Or.inr ⟨(hw _ (List.mem_of_getElem? (i := 23) rfl)), rfl, hnm⟩) (hw _ (List.mem_of_getElem? (i := 8) rfl)) (ty := (.array .byte)) (by decide) rfl rfl (g := (mkF m 54 #[.val (.ref a1), .val (.ref a2), .val (.int (0 : Int32)), .val (.int (2 : Int32)), .val .null, .val (.ref b_3)] [(.ref b_3), (.ref a1)])) rfl rfl (hb hby d4_54)
  refine own_st st24 ?_
  have N24 := Fr.snoc X24 N16 g_a1
  have K25 : Keep h0 h24 [a1] := K17.wr W24 (Or.inl (List.mem_of_getElem? (i := 0) rfl))
  have F26 : Exa Z h24 a1 "java/lang/String" := (F18.wr W24)
  have F27 : Fld Z h24 a1 "java/lang/String" "value" "[B" (.ref b_3) := (F19.same W24)
  have F28 : Fld Z h24 a1 "java/lang/String" "coder" "B" (.int (0 : Int32)) := (F20.other W24 (Or.inr (slot_ne (Or.inr (hw _ (List.mem_of_getElem? (i := 24) rfl))) (Or.inr (hw _ (List.mem_of_getElem? (i := 23) rfl))) (by decide) (t := .byte) (t' := (.array .byte)) (by decide) (by decide))))
  have F29 : OA Z h24 a2 .char [(.int c0), (.int c1)] := (F21.other W24 ne_a2_a1)
  have F30 : Sta Z h24 "java/lang/String" "COMPACT_STRINGS" "Z" (.int w) := (F22.wr W24)
  have F31 : OA Z h24 b_3 .byte [(.int (nar .byte (c0.toInt8.toInt32))), (.int (nar .byte (c1.toInt8.toInt32)))] := (F23.other W24 (Ne.symm ne_a1_b_3))
  show OG p e _ s below _ T24 (mkF m 57 #[.val (.ref a1), .val (.ref a2), .val (.int (0 : Int32)), .val (.int (2 : Int32)), .val .null, .val (.ref b_3)] [])
  refine own_ret0 X24 hx hret hlk (hb hby d4_57) (by decide) (by decide) ?_
  rw [e24]
  exact ⟨rfl, N24, K25, b_3, sy_b_3, F26, F27, F28, F31⟩
abbrev Q3_2 (Z : State) (a1 : Addr) (a2 : Addr) (c0 : Int32) (c1 : Int32) (w : Int32) (h0 : Heap) (n0 : Nat) : Option Value → Heap → List Loc → Prop := (fun v h L => v = none ∧ Fr n0 L ∧ Keep h0 h [a1] ∧ ∃ b : Addr, h0.size ≤ b ∧ Exa Z h a1 "java/lang/String" ∧ Fld Z h a1 "java/lang/String" "value" "[B" (.ref b) ∧ Fld Z h a1 "java/lang/String" "coder" "B" (.int (0 : Int32)) ∧ OA Z h b .byte [(.int (nar .byte (c0.toInt8.toInt32))), (.int (nar .byte (c1.toInt8.toInt32)))])
set_option maxRecDepth 65536 in
set_option maxHeartbeats 40000000 in
theorem rm3_2 (l : Launch) (Z : State) (a0 : Array Value) (hw : ∀ d ∈ tables_1, d.before a0 Z = true) (ws : List Jvm.Cond) (a1 : Addr) (a2 : Addr) (c0 : Int32) (c1 : Int32) (w : Int32) (h0 : Heap) (n0 : Nat) (Z0 : n0 ≤ h0.size) (R0 : Exa Z h0 a1 "java/lang/String") (R1 : Fld Z h0 a1 "java/lang/String" "value" "[B" .null) (R2 : Fld Z h0 a1 "java/lang/String" "coder" "B" (.int (0 : Int32))) (R3 : OA Z h0 a2 .char [(.int c0), (.int c1)]) (R4 : Sta Z h0 "java/lang/String" "COMPACT_STRINGS" "Z" (.int w)) (g_a1 : n0 ≤ a1) (ne_a2_a1 : a2 ≠ a1) (hc0 : ¬ (255 : Int32) < c0) (hc1 : ¬ (255 : Int32) < c1) (hw0 : ¬ w = (0 : Int32)) :
    OMet l Z (⟨"java/lang/String", "<init>", "([C)V"⟩ : MethodName) jdk_42_method_3_code 2 none ws ({ frames := 3, cells := 1, slots := 2, locals := 52 } : Room) #[(.ref a1), (.ref a2)] h0 (Q3_2 Z a1 a2 c0 c1 w h0 n0) := by
  refine own_enter pn_3 ?_
  intro p e s m below meth c s₁ hx hby hml0 hown hret hlk hnm hZ X0 e0
  have hml : c.maxLocals = 2 := hml0
  have N0 := Fr.nil n0
  refine own_cast (ef_3 m a1 a2) ?_
  show OG p e ({ frames := 3, cells := 1, slots := 2, locals := 52 } : Room) s below (fun v h L => v = none ∧ Fr n0 L ∧ Keep h0 h [a1] ∧ ∃ b : Addr, h0.size ≤ b ∧ Exa Z h a1 "java/lang/String" ∧ Fld Z h a1 "java/lang/String" "value" "[B" (.ref b) ∧ Fld Z h a1 "java/lang/String" "coder" "B" (.int (0 : Int32)) ∧ OA Z h b .byte [(.int (nar .byte (c0.toInt8.toInt32))), (.int (nar .byte (c1.toInt8.toInt32)))]) s₁ (mkF m 0 #[.val (.ref a1), .val (.ref a2)] [])
  refine own_st (fun t k => XS.aloadN X0.here hx rfl (hb hby d3_0) rfl rfl k) ?_
  show OG p e _ s below _ s₁ (mkF m 1 #[.val (.ref a1), .val (.ref a2)] [(.ref a1)])
  refine own_st (fun t k => XS.aloadN X0.here hx rfl (hb hby d3_1) rfl rfl k) ?_
  show OG p e _ s below _ s₁ (mkF m 2 #[.val (.ref a1), .val (.ref a2)] [(.ref a2), (.ref a1)])
  refine own_st (fun t k => XS.iconst X0.here hx rfl (hb hby d3_2) k) ?_
  show OG p e _ s below _ s₁ (mkF m 3 #[.val (.ref a1), .val (.ref a2)] [(.int (0 : Int32)), (.ref a2), (.ref a1)])
  refine own_st (fun t k => XS.aloadN X0.here hx rfl (hb hby d3_3) rfl rfl k) ?_
  show OG p e _ s below _ s₁ (mkF m 4 #[.val (.ref a1), .val (.ref a2)] [(.ref a2), (.int (0 : Int32)), (.ref a2), (.ref a1)])
  obtain ⟨cl1, Ar1, hz1⟩ := R3.len
  refine own_st (fun t k => X0.arraylength hx (by rw [e0]; exact Ar1.1) (State.isArrayOf_alike hZ.alike Ar1.2.1) (g := (mkF m 4 #[.val (.ref a1), .val (.ref a2)] [(.ref a2), (.int (0 : Int32)), (.ref a2), (.ref a1)])) rfl rfl (hb hby d3_4) t k) ?_
  rw [hz1]
  show OG p e _ s below _ s₁ (mkF m 5 #[.val (.ref a1), .val (.ref a2)] [(.int (2 : Int32)), (.int (0 : Int32)), (.ref a2), (.ref a1)])
  refine own_st (fun t k => XS.aconstNull X0.here hx rfl (hb hby d3_5) k) ?_
  show OG p e _ s below _ s₁ (mkF m 6 #[.val (.ref a1), .val (.ref a2)] [.null, (.int (2 : Int32)), (.int (0 : Int32)), (.ref a2), (.ref a1)])
  obtain ⟨_, _, ⟨T2, L2, k2, n2⟩, -, X2, ⟨Lc2, hQ2, l2, y2, z2⟩, st2⟩ := X0.specialBack hx (y := (⟨"java/lang/String", "<init>", "([CIILjava/lang/Void;)V"⟩ : MethodName)) rfl hown (mvT hZ (hw _ (List.mem_of_getElem? (i := 14) rfl))) (mvT hZ (hw _ (List.mem_of_getElem? (i := 15) rfl))) (mvT hZ (hw _ (List.mem_of_getElem? (i := 17) rfl))) (by decide) (backOf (W := 0) (rm := ({ frames := 2, cells := 1, slots := 2, locals := 35 } : Room)) (rm4_2 l Z a0 hw [] a1 a2 c0 c1 w h0 n0 (Nat.le_trans Z0 (Keep.refl h0 [a1]).1) R0 R1 R2 R3 R4 g_a1 ne_a2_a1 hc0 hc1 hw0) hZ (hw _ (List.mem_of_getElem? (i := 17) rfl)) (hw _ (List.mem_of_getElem? (i := 9) rfl)) (by decide) (by decide)) (g := (mkF m 6 #[.val (.ref a1), .val (.ref a2)] [.null, (.int (2 : Int32)), (.int (0 : Int32)), (.ref a2), (.ref a1)])) rfl (by rw [hml]; rfl) (Steps.refl _) (a := a1) (argsL := [(.ref a2), (.int (0 : Int32)), (.int (2 : Int32)), .null]) (rest := []) (lenOf pd___CIILjava_lang_Void__V rfl) rfl (by show 2 * 0 + _ ≤ _; exact Nat.le_of_eq rfl) (hb hby d3_6) (fun _ _ => ⟨rfl, e0, (by decide : 0 + 1 ≤ _), (by decide : 0 + 2 ≤ _)⟩)
  dsimp only [Pt.U, Pt.locs, Pt.cells, Pt.slots] at X2 l2 y2 z2 st2 hQ2
  subst l2 y2 z2
  obtain ⟨rfl, N2q, K2q, b_2, sz_b_2, P2_0, P2_1, P2_2, P2_3⟩ := hQ2
  refine own_st (fun t k => st2.trans k) ?_
  have N2 := Fr.app N0 N2q
  have ge_b_2 : n0 ≤ b_2 := Nat.le_trans (Nat.le_trans Z0 (Keep.refl h0 [a1]).1) sz_b_2
  have sy_b_2 : h0.size ≤ b_2 := Nat.le_trans (Keep.refl h0 [a1]).1 sz_b_2
  have ne_a1_b_2 : a1 ≠ b_2 := Nat.ne_of_lt (Nat.lt_of_lt_of_le R0.lt sz_b_2)
  have ne_a2_b_2 : a2 ≠ b_2 := Nat.ne_of_lt (Nat.lt_of_lt_of_le R3.lt sz_b_2)
  have K2 : Keep h0 T2.heap [a1] := (Keep.refl h0 [a1]).trans K2q (own_all1 (Or.inl (List.mem_of_getElem? (i := 0) rfl)))
  have F3 : OA Z T2.heap a2 .char [(.int c0), (.int c1)] := (R3.keep K2q (own_nin1 ne_a2_a1))
  have F4 : Sta Z T2.heap "java/lang/String" "COMPACT_STRINGS" "Z" (.int w) := (own_staK R4 K2q (own_all1 (own_plE R0)))
  show OG p e _ s below _ T2 (mkF m 9 #[.val (.ref a1), .val (.ref a2)] [])
  refine own_ret0 X2 hx hret hlk (hb hby d3_9) (by decide) (by decide) ?_
  exact ⟨rfl, N2, K2, b_2, sy_b_2, P2_0, P2_1, P2_2, P2_3⟩
theorem d4_8 : decode jdk_42_method_149_code 8 = .ok (.aload_n 0, 1) := by decide +kernel
theorem d4_9 : decode jdk_42_method_149_code 9 = .ok (.ldc 7, 2) := by decide +kernel
theorem d4_11 : decode jdk_42_method_149_code 11 = .ok (.getfield 9, 3) := by decide +kernel
theorem d4_14 : decode jdk_42_method_149_code 14 = .ok (.putfield 9, 3) := by decide +kernel
theorem d4_17 : decode jdk_42_method_149_code 17 = .ok (.aload_n 0, 1) := by decide +kernel
theorem d4_18 : decode jdk_42_method_149_code 18 = .ok (.ldc 7, 2) := by decide +kernel
theorem d4_20 : decode jdk_42_method_149_code 20 = .ok (.getfield 15, 3) := by decide +kernel
theorem d4_23 : decode jdk_42_method_149_code 23 = .ok (.putfield 15, 3) := by decide +kernel
theorem d4_26 : decode jdk_42_method_149_code 26 = .ok (.return_, 1) := by decide +kernel
theorem ef_4_0 (m : MethodId) (a1 : Addr) (a2 : Addr) : entryFrame m #[(.ref a1), (.ref a2), (.int (0 : Int32)), (.int (0 : Int32)), .null] 6 = (mkF m 0 #[.val (.ref a1), .val (.ref a2), .val (.int (0 : Int32)), .val (.int (0 : Int32)), .val .null, .unset] []) := by first | (simp [entryFrame, mkF, argsToLocals, Value.category]; done) | rfl
abbrev Q4_0 (Z : State) (a1 : Addr) (a2 : Addr) (h0 : Heap) (n0 : Nat) : Option Value → Heap → List Loc → Prop := (fun v h L => v = none ∧ Fr n0 L ∧ Keep h0 h [a1] ∧ ∃ b : Addr, Exa Z h a1 "java/lang/String" ∧ Fld Z h a1 "java/lang/String" "value" "[B" (.ref b) ∧ Fld Z h a1 "java/lang/String" "coder" "B" (.int (0 : Int32)) ∧ OA Z h b .byte [])
set_option maxRecDepth 65536 in
set_option maxHeartbeats 40000000 in
theorem rm4_0 (l : Launch) (Z : State) (a0 : Array Value) (hw : ∀ d ∈ tables_1, d.before a0 Z = true) (ws : List Jvm.Cond) (a1 : Addr) (a2 : Addr) (h0 : Heap) (n0 : Nat) (R0 : Exa Z h0 a1 "java/lang/String") (R1 : Fld Z h0 a1 "java/lang/String" "value" "[B" .null) (R2 : Fld Z h0 a1 "java/lang/String" "coder" "B" (.int (0 : Int32))) (R3 : OA Z h0 a2 .char []) (g_a1 : n0 ≤ a1) (ne_a2_a1 : a2 ≠ a1) :
    OMetS l Z EL0 (⟨"java/lang/String", "<init>", "([CIILjava/lang/Void;)V"⟩ : MethodName) jdk_42_method_149_code 6 none ws ({ frames := 1, cells := 4, slots := 8, locals := 12 } : Room) #[(.ref a1), (.ref a2), (.int (0 : Int32)), (.int (0 : Int32)), .null] h0 (Q4_0 Z a1 a2 h0 n0) := by
  refine own_enterS pn_4 ?_
  intro p e s m below meth c s₁ hx hby hml0 hown hret hlk hnm hZ X0 e0 hs0 CH0
  have hEL := own_EW hw
  have hS0 : s.Since s.vm 0 := (State.WarmedH.refl s).since 0
  have hk0 : 0 ≤ h0.size := Nat.zero_le _
  have CR0 : CHr Z EL0 s.vm h0 s.vm h0 := CHr.refl CH0
  have sf_a1 : Safe Z EL0 s.vm h0 a1 := own_raw hZ.alike R0 R1
  have hml : c.maxLocals = 6 := hml0
  have N0 := Fr.nil n0
  refine own_castS (ef_4_0 m a1 a2) ?_
  show OGS Z EL0 p e ({ frames := 1, cells := 4, slots := 8, locals := 12 } : Room) s below (fun v h L => v = none ∧ Fr n0 L ∧ Keep h0 h [a1] ∧ ∃ b : Addr, Exa Z h a1 "java/lang/String" ∧ Fld Z h a1 "java/lang/String" "value" "[B" (.ref b) ∧ Fld Z h a1 "java/lang/String" "coder" "B" (.int (0 : Int32)) ∧ OA Z h b .byte []) s₁ (mkF m 0 #[.val (.ref a1), .val (.ref a2), .val (.int (0 : Int32)), .val (.int (0 : Int32)), .val .null, .unset] [])
  refine own_stS (fun t k => XS.aloadN X0.here hx rfl (hb hby d4_0) rfl rfl k) ?_
  show OGS _ _ p e _ s below _ s₁ (mkF m 1 #[.val (.ref a1), .val (.ref a2), .val (.int (0 : Int32)), .val (.int (0 : Int32)), .val .null, .unset] [(.ref a1)])
  obtain ⟨T1, X1, e1, st1⟩ := initO X0 hx hZ hown (hw _ (List.mem_of_getElem? (i := 18) rfl)) (hw _ (List.mem_of_getElem? (i := 19) rfl)) (hw _ (List.mem_of_getElem? (i := 20) rfl)) e0 (g := (mkF m 1 #[.val (.ref a1), .val (.ref a2), .val (.int (0 : Int32)), .val (.int (0 : Int32)), .val .null, .unset] [(.ref a1)])) rfl (by rw [hml]; rfl) rfl (hb hby d4_1) (by decide) (W := 0) (by show 2 * 0 + _ ≤ _; exact Nat.le_of_eq rfl) (by decide)
  refine own_stS st1 ?_
  show OGS _ _ p e _ s below _ T1 (mkF m 4 #[.val (.ref a1), .val (.ref a2), .val (.int (0 : Int32)), .val (.int (0 : Int32)), .val .null, .unset] [])
  refine own_stS (fun t k => XS.iloadN X1.here hx rfl (hb hby d4_4) rfl k) ?_
  show OGS _ _ p e _ s below _ T1 (mkF m 5 #[.val (.ref a1), .val (.ref a2), .val (.int (0 : Int32)), .val (.int (0 : Int32)), .val .null, .unset] [(.int (0 : Int32))])
  refine own_stS (fun t k => XS.ifNo X1.here hx rfl (hb hby d4_5) rfl (by decide) k) ?_
  show OGS _ _ p e _ s below _ T1 (mkF m 8 #[.val (.ref a1), .val (.ref a2), .val (.int (0 : Int32)), .val (.int (0 : Int32)), .val .null, .unset] [])
  refine own_stS (fun t k => XS.aloadN X1.here hx rfl (hb hby d4_8) rfl rfl k) ?_
  show OGS _ _ p e _ s below _ T1 (mkF m 9 #[.val (.ref a1), .val (.ref a2), .val (.int (0 : Int32)), .val (.int (0 : Int32)), .val .null, .unset] [(.ref a1)])
  obtain ⟨o2, T2, h2, k2, b2, kc2, X2, e2, E2, hS2, hk2, hZ2, hown2, A2, FC2, FV2, Av2, -, -, Cq2, -, nsf2, st2⟩ := ldcCH (EL := EL0) (n := 0) (z := (0 : Int32)) (vs := []) X1 hx hZ hown (hw _ (List.mem_of_getElem? (i := 21) rfl)) (own_wS hw) e1 hS0 hk0 hEL (by decide) CH0 (by decide) (by decide) (by decide) (g := (mkF m 9 #[.val (.ref a1), .val (.ref a2), .val (.int (0 : Int32)), .val (.int (0 : Int32)), .val .null, .unset] [(.ref a1)])) rfl (hb hby d4_9) (by decide) (by decide) (by decide) (by decide)
  refine own_stS st2 ?_
  have nq2_a1 := nsf2 a1 (CHr.safe Cq2 R0.lt sf_a1)
  have sf2_a1 : Safe Z EL0 T2.vm h2 a1 := CHr.safe Cq2 R0.lt sf_a1
  have CR2 := CHr.trans CR0 Cq2
  have F3 : Exa Z h2 a1 "java/lang/String" := (R0.ext E2)
  have F4 : Fld Z h2 a1 "java/lang/String" "value" "[B" .null := (R1.ext E2)
  have F5 : Fld Z h2 a1 "java/lang/String" "coder" "B" (.int (0 : Int32)) := (R2.ext E2)
  have F6 : OA Z h2 a2 .char [] := (R3.ext E2)
  have K7 : Keep h0 h2 [a1] := (Keep.refl h0 [a1]).ext E2
  have F8 : OA Z h2 b2 .byte [] := own_oaV Av2
  show OGS _ _ p e _ s below _ T2 (mkF m 11 #[.val (.ref a1), .val (.ref a2), .val (.int (0 : Int32)), .val (.int (0 : Int32)), .val .null, .unset] [(.ref o2), (.ref a1)])
  obtain ⟨T9, X9, e9, st9⟩ := getF X2 hx hZ2 hown2 (host := "") (Or.inl (hw _ (List.mem_of_getElem? (i := 27) rfl))) Via.refl e2 FV2 (g := (mkF m 11 #[.val (.ref a1), .val (.ref a2), .val (.int (0 : Int32)), .val (.int (0 : Int32)), .val .null, .unset] [(.ref o2), (.ref a1)])) rfl rfl (hb hby d4_11)
  refine own_stS st9 ?_
  show OGS _ _ p e _ s below _ T9 (mkF m 14 #[.val (.ref a1), .val (.ref a2), .val (.int (0 : Int32)), .val (.int (0 : Int32)), .val .null, .unset] [(.ref b2), (.ref a1)])
  obtain ⟨T10, h10, X10, e10, W10, st10⟩ := putF X9 hx hZ2 hown2 (host := "") (Or.inl (hw _ (List.mem_of_getElem? (i := 27) rfl))) Via.refl e9 F4 F3 (Or.inr ⟨(hw _ (List.mem_of_getElem? (i := 23) rfl)), rfl, hnm⟩) (hw _ (List.mem_of_getElem? (i := 8) rfl)) (ty := (.array .byte)) (by decide) rfl rfl (g := (mkF m 14 #[.val (.ref a1), .val (.ref a2), .val (.int (0 : Int32)), .val (.int (0 : Int32)), .val .null, .unset] [(.ref b2), (.ref a1)])) rfl rfl (hb hby d4_14)
  refine own_stS st10 ?_
  have N10 := Fr.snoc X10 N0 g_a1
  have K11 : Keep h0 h10 [a1] := K7.wr W10 (Or.inl (List.mem_of_getElem? (i := 0) rfl))
  have F12 : Exa Z h10 a1 "java/lang/String" := (F3.wr W10)
  have F13 : Fld Z h10 a1 "java/lang/String" "value" "[B" (.ref b2) := (F4.same W10)
  have F14 : Fld Z h10 a1 "java/lang/String" "coder" "B" (.int (0 : Int32)) := (F5.other W10 (Or.inr (slot_ne (Or.inr (hw _ (List.mem_of_getElem? (i := 24) rfl))) (Or.inr (hw _ (List.mem_of_getElem? (i := 23) rfl))) (by decide) (t := .byte) (t' := (.array .byte)) (by decide) (by decide))))
  have F15 : OA Z h10 a2 .char [] := (F6.other W10 ne_a2_a1)
  have F16 : Exa Z h10 o2 "java/lang/String" := (A2.wr W10)
  have F17 : Fld Z h10 o2 "java/lang/String" "coder" "B" (.int (0 : Int32)) := (FC2.other W10 (Or.inl (Ne.symm nq2_a1.1)))
  have F18 : Fld Z h10 o2 "java/lang/String" "value" "[B" (.ref b2) := (FV2.other W10 (Or.inl (Ne.symm nq2_a1.1)))
  have F19 : OA Z h10 b2 .byte [] := (F8.other W10 (Ne.symm nq2_a1.2))
  show OGS _ _ p e _ s below _ T10 (mkF m 17 #[.val (.ref a1), .val (.ref a2), .val (.int (0 : Int32)), .val (.int (0 : Int32)), .val .null, .unset] [])
  have sf20_a1 : Safe Z EL0 T2.vm h10 a1 := Safe.wr W10 sf2_a1 Cq2.1 sf2_a1
  have CR20 : CHr Z EL0 s.vm h0 T2.vm h10 := CHr.trans CR2 (CHr.wr W10 sf2_a1 Cq2.1)
  have CH20 : CHv Z EL0 T2.vm h10 := CHv.wr W10 sf2_a1 Cq2.1
  have hk20 := Nat.le_trans hk2 (Keep.of_wr W10).1
  refine own_stS (fun t k => XS.aloadN X10.here hx rfl (hb hby d4_17) rfl rfl k) ?_
  show OGS _ _ p e _ s below _ T10 (mkF m 18 #[.val (.ref a1), .val (.ref a2), .val (.int (0 : Int32)), .val (.int (0 : Int32)), .val .null, .unset] [(.ref a1)])
  obtain ⟨o21, T21, h21, k21, b21, kc21, X21, e21, E21, hS21, hk21, hZ21, hown21, A21, FC21, FV21, Av21, -, -, Cq21, -, nsf21, st21⟩ := ldcCH (EL := EL0) (n := 0) (z := (0 : Int32)) (vs := []) X10 hx hZ2 hown2 (hw _ (List.mem_of_getElem? (i := 21) rfl)) (own_wS hw) e10 hS2 hk20 hEL (by decide) CH20 (by decide) (by decide) (by decide) (g := (mkF m 18 #[.val (.ref a1), .val (.ref a2), .val (.int (0 : Int32)), .val (.int (0 : Int32)), .val .null, .unset] [(.ref a1)])) rfl (hb hby d4_18) (by decide) (by decide) (by decide) (by decide)
  refine own_stS st21 ?_
  have nq21_a1 := nsf21 a1 (CHr.safe Cq21 F12.lt sf20_a1)
  have sf21_a1 : Safe Z EL0 T21.vm h21 a1 := CHr.safe Cq21 F12.lt sf20_a1
  have CR21 := CHr.trans CR20 Cq21
  have F22 : Exa Z h21 a1 "java/lang/String" := (F12.ext E21)
  have F23 : Fld Z h21 a1 "java/lang/String" "value" "[B" (.ref b2) := (F13.ext E21)
  have F24 : Fld Z h21 a1 "java/lang/String" "coder" "B" (.int (0 : Int32)) := (F14.ext E21)
  have F25 : OA Z h21 a2 .char [] := (F15.ext E21)
  have F26 : Exa Z h21 o2 "java/lang/String" := (F16.ext E21)
  have F27 : Fld Z h21 o2 "java/lang/String" "coder" "B" (.int (0 : Int32)) := (F17.ext E21)
  have F28 : Fld Z h21 o2 "java/lang/String" "value" "[B" (.ref b2) := (F18.ext E21)
  have F29 : OA Z h21 b2 .byte [] := (F19.ext E21)
  have K30 : Keep h0 h21 [a1] := K11.ext E21
  have F31 : OA Z h21 b21 .byte [] := own_oaV Av21
  show OGS _ _ p e _ s below _ T21 (mkF m 20 #[.val (.ref a1), .val (.ref a2), .val (.int (0 : Int32)), .val (.int (0 : Int32)), .val .null, .unset] [(.ref o21), (.ref a1)])
  obtain ⟨T32, X32, e32, st32⟩ := getF X21 hx hZ21 hown21 (host := "") (Or.inl (hw _ (List.mem_of_getElem? (i := 28) rfl))) Via.refl e21 FC21 (g := (mkF m 20 #[.val (.ref a1), .val (.ref a2), .val (.int (0 : Int32)), .val (.int (0 : Int32)), .val .null, .unset] [(.ref o21), (.ref a1)])) rfl rfl (hb hby d4_20)
  refine own_stS st32 ?_
  show OGS _ _ p e _ s below _ T32 (mkF m 23 #[.val (.ref a1), .val (.ref a2), .val (.int (0 : Int32)), .val (.int (0 : Int32)), .val .null, .unset] [(.int (0 : Int32)), (.ref a1)])
  obtain ⟨T33, h33, X33, e33, W33, st33⟩ := putF X32 hx hZ21 hown21 (host := "") (Or.inl (hw _ (List.mem_of_getElem? (i := 28) rfl))) Via.refl e32 F24 F22 (Or.inr ⟨(hw _ (List.mem_of_getElem? (i := 24) rfl)), rfl, hnm⟩) (hw _ (List.mem_of_getElem? (i := 8) rfl)) (ty := .byte) (by decide) rfl rfl (g := (mkF m 23 #[.val (.ref a1), .val (.ref a2), .val (.int (0 : Int32)), .val (.int (0 : Int32)), .val .null, .unset] [(.int (0 : Int32)), (.ref a1)])) rfl rfl (hb hby d4_23)
  refine own_stS st33 ?_
  have N33 := Fr.snoc X33 N10 g_a1
  have K34 : Keep h0 h33 [a1] := K30.wr W33 (Or.inl (List.mem_of_getElem? (i := 0) rfl))
  have F35 : Exa Z h33 a1 "java/lang/String" := (F22.wr W33)
  have F36 : Fld Z h33 a1 "java/lang/String" "value" "[B" (.ref b2) := (F23.other W33 (Or.inr (slot_ne (Or.inr (hw _ (List.mem_of_getElem? (i := 23) rfl))) (Or.inr (hw _ (List.mem_of_getElem? (i := 24) rfl))) (by decide) (t := (.array .byte)) (t' := .byte) (by decide) (by decide))))
  have F37 : Fld Z h33 a1 "java/lang/String" "coder" "B" (.int (0 : Int32)) := (F24.same W33)
  have F38 : OA Z h33 a2 .char [] := (F25.other W33 ne_a2_a1)
  have F39 : Exa Z h33 o2 "java/lang/String" := (F26.wr W33)
  have F40 : Fld Z h33 o2 "java/lang/String" "coder" "B" (.int (0 : Int32)) := (F27.other W33 (Or.inl (Ne.symm nq2_a1.1)))
  have F41 : Fld Z h33 o2 "java/lang/String" "value" "[B" (.ref b2) := (F28.other W33 (Or.inl (Ne.symm nq2_a1.1)))
  have F42 : OA Z h33 b2 .byte [] := (F29.other W33 (Ne.symm nq2_a1.2))
  have F43 : Exa Z h33 o21 "java/lang/String" := (A21.wr W33)
  have F44 : Fld Z h33 o21 "java/lang/String" "coder" "B" (.int (0 : Int32)) := (FC21.other W33 (Or.inl (Ne.symm nq21_a1.1)))
  have F45 : Fld Z h33 o21 "java/lang/String" "value" "[B" (.ref b21) := (FV21.other W33 (Or.inl (Ne.symm nq21_a1.1)))
  have F46 : OA Z h33 b21 .byte [] := (F31.other W33 (Ne.symm nq21_a1.2))
  show OGS _ _ p e _ s below _ T33 (mkF m 26 #[.val (.ref a1), .val (.ref a2), .val (.int (0 : Int32)), .val (.int (0 : Int32)), .val .null, .unset] [])
  have sf47_a1 : Safe Z EL0 T21.vm h33 a1 := Safe.wr W33 sf21_a1 Cq21.1 sf21_a1
  have CR47 : CHr Z EL0 s.vm h0 T21.vm h33 := CHr.trans CR21 (CHr.wr W33 sf21_a1 Cq21.1)
  have CH47 : CHv Z EL0 T21.vm h33 := CHv.wr W33 sf21_a1 Cq21.1
  have hk47 := Nat.le_trans hk21 (Keep.of_wr W33).1
  refine own_endS X33 hlk hZ21 hEL e33 hs0 hS21 hk47 CH47 CR47 (v := none) (fun _ => rfl) (by decide) (by decide) ?_ (fun fs hr => X33.returnOut hx hret (hb hby d4_26) hr)
  exact ⟨rfl, N33, K34, b2, F35, F36, F37, F42⟩
abbrev Q3_0 (Z : State) (a1 : Addr) (a2 : Addr) (h0 : Heap) (n0 : Nat) : Option Value → Heap → List Loc → Prop := (fun v h L => v = none ∧ Fr n0 L ∧ Keep h0 h [a1] ∧ ∃ b : Addr, Exa Z h a1 "java/lang/String" ∧ Fld Z h a1 "java/lang/String" "value" "[B" (.ref b) ∧ Fld Z h a1 "java/lang/String" "coder" "B" (.int (0 : Int32)) ∧ OA Z h b .byte [])
set_option maxRecDepth 65536 in
set_option maxHeartbeats 40000000 in
theorem rm3_0 (l : Launch) (Z : State) (a0 : Array Value) (hw : ∀ d ∈ tables_1, d.before a0 Z = true) (ws : List Jvm.Cond) (a1 : Addr) (a2 : Addr) (h0 : Heap) (n0 : Nat) (R0 : Exa Z h0 a1 "java/lang/String") (R1 : Fld Z h0 a1 "java/lang/String" "value" "[B" .null) (R2 : Fld Z h0 a1 "java/lang/String" "coder" "B" (.int (0 : Int32))) (R3 : OA Z h0 a2 .char []) (g_a1 : n0 ≤ a1) (ne_a2_a1 : a2 ≠ a1) :
    OMetS l Z EL0 (⟨"java/lang/String", "<init>", "([C)V"⟩ : MethodName) jdk_42_method_3_code 2 none ws ({ frames := 2, cells := 4, slots := 8, locals := 29 } : Room) #[(.ref a1), (.ref a2)] h0 (Q3_0 Z a1 a2 h0 n0) := by
  refine own_enterS pn_3 ?_
  intro p e s m below meth c s₁ hx hby hml0 hown hret hlk hnm hZ X0 e0 hs0 CH0
  have hEL := own_EW hw
  have hS0 : s.Since s.vm 0 := (State.WarmedH.refl s).since 0
  have hk0 : 0 ≤ h0.size := Nat.zero_le _
  have CR0 : CHr Z EL0 s.vm h0 s.vm h0 := CHr.refl CH0
  have sf_a1 : Safe Z EL0 s.vm h0 a1 := own_raw hZ.alike R0 R1
  have hml : c.maxLocals = 2 := hml0
  have N0 := Fr.nil n0
  refine own_castS (ef_3 m a1 a2) ?_
  show OGS Z EL0 p e ({ frames := 2, cells := 4, slots := 8, locals := 29 } : Room) s below (fun v h L => v = none ∧ Fr n0 L ∧ Keep h0 h [a1] ∧ ∃ b : Addr, Exa Z h a1 "java/lang/String" ∧ Fld Z h a1 "java/lang/String" "value" "[B" (.ref b) ∧ Fld Z h a1 "java/lang/String" "coder" "B" (.int (0 : Int32)) ∧ OA Z h b .byte []) s₁ (mkF m 0 #[.val (.ref a1), .val (.ref a2)] [])
  refine own_stS (fun t k => XS.aloadN X0.here hx rfl (hb hby d3_0) rfl rfl k) ?_
  show OGS _ _ p e _ s below _ s₁ (mkF m 1 #[.val (.ref a1), .val (.ref a2)] [(.ref a1)])
  refine own_stS (fun t k => XS.aloadN X0.here hx rfl (hb hby d3_1) rfl rfl k) ?_
  show OGS _ _ p e _ s below _ s₁ (mkF m 2 #[.val (.ref a1), .val (.ref a2)] [(.ref a2), (.ref a1)])
  refine own_stS (fun t k => XS.iconst X0.here hx rfl (hb hby d3_2) k) ?_
  show OGS _ _ p e _ s below _ s₁ (mkF m 3 #[.val (.ref a1), .val (.ref a2)] [(.int (0 : Int32)), (.ref a2), (.ref a1)])
  refine own_stS (fun t k => XS.aloadN X0.here hx rfl (hb hby d3_3) rfl rfl k) ?_
  show OGS _ _ p e _ s below _ s₁ (mkF m 4 #[.val (.ref a1), .val (.ref a2)] [(.ref a2), (.int (0 : Int32)), (.ref a2), (.ref a1)])
  obtain ⟨cl1, Ar1, hz1⟩ := R3.len
  refine own_stS (fun t k => X0.arraylength hx (by rw [e0]; exact Ar1.1) (State.isArrayOf_alike hZ.alike Ar1.2.1) (g := (mkF m 4 #[.val (.ref a1), .val (.ref a2)] [(.ref a2), (.int (0 : Int32)), (.ref a2), (.ref a1)])) rfl rfl (hb hby d3_4) t k) ?_
  rw [hz1]
  show OGS _ _ p e _ s below _ s₁ (mkF m 5 #[.val (.ref a1), .val (.ref a2)] [(.int (0 : Int32)), (.int (0 : Int32)), (.ref a2), (.ref a1)])
  refine own_stS (fun t k => XS.aconstNull X0.here hx rfl (hb hby d3_5) k) ?_
  show OGS _ _ p e _ s below _ s₁ (mkF m 6 #[.val (.ref a1), .val (.ref a2)] [.null, (.int (0 : Int32)), (.int (0 : Int32)), (.ref a2), (.ref a1)])
  obtain ⟨_, _, ⟨T2, L2, k2, n2⟩, -, X2q, hS2q, hg2q, ⟨Lc2, hQ2, l2, y2, z2, Cq2⟩, st2⟩ := X0.specialBackS hx (y := (⟨"java/lang/String", "<init>", "([CIILjava/lang/Void;)V"⟩ : MethodName)) rfl hown (mvT hZ (hw _ (List.mem_of_getElem? (i := 14) rfl))) (mvT hZ (hw _ (List.mem_of_getElem? (i := 15) rfl))) (mvT hZ (hw _ (List.mem_of_getElem? (i := 17) rfl))) (by decide) (backOfSH (EL := EL0) (W := 0) (rm := ({ frames := 1, cells := 4, slots := 8, locals := 12 } : Room)) (rm4_0 l Z a0 hw [] a1 a2 h0 n0 R0 R1 R2 R3 g_a1 ne_a2_a1) hZ (hw _ (List.mem_of_getElem? (i := 17) rfl)) (hw _ (List.mem_of_getElem? (i := 9) rfl)) (by decide) (by decide) hEL CH0) (g := (mkF m 6 #[.val (.ref a1), .val (.ref a2)] [.null, (.int (0 : Int32)), (.int (0 : Int32)), (.ref a2), (.ref a1)])) rfl (by rw [hml]; rfl) (Steps.refl _) (a := a1) (argsL := [(.ref a2), (.int (0 : Int32)), (.int (0 : Int32)), .null]) (rest := []) (lenOf pd___CIILjava_lang_Void__V rfl) rfl (by show 2 * 0 + _ ≤ _; exact Nat.le_of_eq rfl) (hb hby d3_6) (fun _ _ => ⟨rfl, e0, (by decide : 0 + 4 ≤ _), (by decide : 0 + 8 ≤ _)⟩)
  dsimp only [Pt.U, Pt.locs, Pt.cells, Pt.slots] at X2q hS2q hg2q l2 y2 z2 st2 hQ2 Cq2
  subst l2 y2 z2
  obtain ⟨X2, hS2, hZ2, hown2⟩ := rebS hS0 (by rw [e0]; exact hk0) X2q hS2q hg2q hZ hown
  have sf2_a1 : Safe Z EL0 T2.vm T2.heap a1 := CHr.safe Cq2 R0.lt sf_a1
  have CR2 := CHr.trans CR0 Cq2
  have hk2 : T2.heap.size ≤ T2.heap.size := Nat.le_refl _
  obtain ⟨rfl, N2q, K2q, b_2, P2_0, P2_1, P2_2, P2_3⟩ := hQ2
  refine own_stS (fun t k => st2.trans k) ?_
  have N2 := Fr.app N0 N2q
  have K2 : Keep h0 T2.heap [a1] := (Keep.refl h0 [a1]).trans K2q (own_all1 (Or.inl (List.mem_of_getElem? (i := 0) rfl)))
  have F3 : OA Z T2.heap a2 .char [] := (R3.keep K2q (own_nin1 ne_a2_a1))
  show OGS _ _ p e _ s below _ T2 (mkF m 9 #[.val (.ref a1), .val (.ref a2)] [])
  refine own_endS X2 hlk hZ2 hEL rfl hs0 hS2 hk2 Cq2.1 CR2 (v := none) (fun _ => rfl) (by decide) (by decide) ?_ (fun fs hr => X2.returnOut hx hret (hb hby d3_9) hr)
  exact ⟨rfl, N2, K2, b_2, P2_0, P2_1, P2_2, P2_3⟩
theorem own_nc (y : Int32) (h0 : 0 ≤ y.toInt) (h1 : y.toInt ≤ 255) : y.toUInt32.toUInt16.toUInt32.toInt32 = y := by
  have q := c_i2c y
  apply Int32.toInt_inj.mp
  generalize y.toUInt32.toUInt16.toUInt32.toInt32.toInt = z at *
  omega
theorem own_m8 (x : Int32) : 0 ≤ (x &&& 255).toInt ∧ (x &&& 255).toInt ≤ 255 := by
  have m := c_mask x 255 8 (by decide) (by decide)
  rw [m]; omega
theorem own_f3 (x : Int32) : f12 x = x &&& 255 := by
  have h := own_m8 x
  show ((x &&& 255).toUInt32.toUInt16.toUInt32.toInt32).toUInt32.toUInt16.toUInt32.toInt32 = _
  rw [own_nc _ h.1 h.2, own_nc _ h.1 h.2]
theorem own_f4 (x : Int32) : f13 x = ((x.toUInt32 >>> ((8 : Int32) &&& 31).toUInt32).toInt32) &&& 255 := by
  have h := own_m8 ((x.toUInt32 >>> ((8 : Int32) &&& 31).toUInt32).toInt32)
  show (((((x.toUInt32 >>> ((8 : Int32) &&& 31).toUInt32).toInt32) &&& 255)).toUInt32.toUInt16.toUInt32.toInt32).toUInt32.toUInt16.toUInt32.toInt32 = _
  rw [own_nc _ h.1 h.2, own_nc _ h.1 h.2]
theorem own_n255 (y : Int32) (h0 : 0 ≤ y.toInt) (h1 : y.toInt ≤ 255) : ¬ (255 : Int32) < (nar .char y) := by
  show ¬ (255 : Int32) < y.toUInt32.toUInt16.toUInt32.toInt32
  have k : (255 : Int32).toInt = 255 := by decide
  rw [own_nc y h0 h1, Int32.lt_iff_toInt_lt, k]; omega
theorem own_c0 (x : Int32) : ¬ (255 : Int32) < (nar .char (f12 x)) := by rw [own_f3]; exact own_n255 _ (own_m8 _).1 (own_m8 _).2
theorem own_c1 (x : Int32) : ¬ (255 : Int32) < (nar .char (f13 x)) := by rw [own_f4]; exact own_n255 _ (own_m8 _).1 (own_m8 _).2
theorem d1_0 : decode method_5_code 0 = .ok (.iload_n 0, 1) := by decide +kernel
theorem d1_1 : decode method_5_code 1 = .ok (.invokestatic 7, 3) := by decide +kernel
theorem d1_4 : decode method_5_code 4 = .ok (.istore_n 1, 1) := by decide +kernel
theorem d1_5 : decode method_5_code 5 = .ok (.iload_n 1, 1) := by decide +kernel
theorem d1_6 : decode method_5_code 6 = .ok (.ifCond .ne 14, 3) := by decide +kernel
theorem d1_9 : decode method_5_code 9 = .ok (.new 13, 3) := by decide +kernel
theorem d1_12 : decode method_5_code 12 = .ok (.dup, 1) := by decide +kernel
theorem d1_13 : decode method_5_code 13 = .ok (.iconst 0, 1) := by decide +kernel
theorem d1_14 : decode method_5_code 14 = .ok (.newarray .char, 2) := by decide +kernel
theorem d1_16 : decode method_5_code 16 = .ok (.invokespecial 15, 3) := by decide +kernel
theorem d1_19 : decode method_5_code 19 = .ok (.areturn, 1) := by decide +kernel
theorem d1_20 : decode method_5_code 20 = .ok (.iload_n 1, 1) := by decide +kernel
theorem d1_21 : decode method_5_code 21 = .ok (.iconst 1, 1) := by decide +kernel
theorem d1_22 : decode method_5_code 22 = .ok (.if_icmp .ne 23, 3) := by decide +kernel
theorem d1_25 : decode method_5_code 25 = .ok (.iconst 1, 1) := by decide +kernel
theorem d1_26 : decode method_5_code 26 = .ok (.newarray .char, 2) := by decide +kernel
theorem d1_28 : decode method_5_code 28 = .ok (.dup, 1) := by decide +kernel
theorem d1_29 : decode method_5_code 29 = .ok (.iconst 0, 1) := by decide +kernel
theorem d1_30 : decode method_5_code 30 = .ok (.iload_n 0, 1) := by decide +kernel
theorem d1_31 : decode method_5_code 31 = .ok (.invokestatic 18, 3) := by decide +kernel
theorem d1_34 : decode method_5_code 34 = .ok (.castore, 1) := by decide +kernel
theorem d1_35 : decode method_5_code 35 = .ok (.astore_n 2, 1) := by decide +kernel
theorem d1_36 : decode method_5_code 36 = .ok (.new 13, 3) := by decide +kernel
theorem d1_39 : decode method_5_code 39 = .ok (.dup, 1) := by decide +kernel
theorem d1_40 : decode method_5_code 40 = .ok (.aload_n 2, 1) := by decide +kernel
theorem d1_41 : decode method_5_code 41 = .ok (.invokespecial 15, 3) := by decide +kernel
theorem d1_44 : decode method_5_code 44 = .ok (.areturn, 1) := by decide +kernel
theorem d1_45 : decode method_5_code 45 = .ok (.iconst 2, 1) := by decide +kernel
theorem d1_46 : decode method_5_code 46 = .ok (.newarray .char, 2) := by decide +kernel
theorem d1_48 : decode method_5_code 48 = .ok (.dup, 1) := by decide +kernel
theorem d1_49 : decode method_5_code 49 = .ok (.iconst 0, 1) := by decide +kernel
theorem d1_50 : decode method_5_code 50 = .ok (.iload_n 0, 1) := by decide +kernel
theorem d1_51 : decode method_5_code 51 = .ok (.invokestatic 18, 3) := by decide +kernel
theorem d1_54 : decode method_5_code 54 = .ok (.castore, 1) := by decide +kernel
theorem d1_55 : decode method_5_code 55 = .ok (.dup, 1) := by decide +kernel
theorem d1_56 : decode method_5_code 56 = .ok (.iconst 1, 1) := by decide +kernel
theorem d1_57 : decode method_5_code 57 = .ok (.iload_n 0, 1) := by decide +kernel
theorem d1_58 : decode method_5_code 58 = .ok (.invokestatic 22, 3) := by decide +kernel
theorem d1_61 : decode method_5_code 61 = .ok (.castore, 1) := by decide +kernel
theorem d1_62 : decode method_5_code 62 = .ok (.astore_n 2, 1) := by decide +kernel
theorem d1_63 : decode method_5_code 63 = .ok (.new 13, 3) := by decide +kernel
theorem d1_66 : decode method_5_code 66 = .ok (.dup, 1) := by decide +kernel
theorem d1_67 : decode method_5_code 67 = .ok (.aload_n 2, 1) := by decide +kernel
theorem d1_68 : decode method_5_code 68 = .ok (.invokespecial 15, 3) := by decide +kernel
theorem d1_71 : decode method_5_code 71 = .ok (.areturn, 1) := by decide +kernel
theorem pd___C_V : parseMethodDescriptor "([C)V" = some ⟨[(.array .char)], none⟩ := by decide +kernel
theorem pn_1 : plainFor (⟨"com/example/vestbook/vestbook/OriginRepeatsPinLaw", "mk", "(I)Ljava/lang/String;"⟩ : MethodName) = true := by first | exact plainFor_of_name (by first | (simp [plainName, overriddenIn]; done) | decide +kernel) | decide +kernel
def bs (p1 : Int32) (w : Int32) : List Int32 := (if (f2 p1) = (0 : Int32) then [] else (if (f2 p1) = (1 : Int32) then [(nar .byte ((nar .char (f12 p1)).toInt8.toInt32))] else [(nar .byte ((nar .char (f12 p1)).toInt8.toInt32)), (nar .byte ((nar .char (f13 p1)).toInt8.toInt32))]))
theorem ef_1 (m : MethodId) (p1 : Int32) : entryFrame m #[(.int p1)] 3 = (mkF m 0 #[.val (.int p1), .unset, .unset] []) := by first | (simp [entryFrame, mkF, argsToLocals, Value.category]; done) | rfl
abbrev Q1 (Z : State) (p1 : Int32) (w : Int32) (h0 : Heap) (n0 : Nat) : Option Value → Heap → List Loc → Prop := (fun v h L => Fr n0 L ∧ Keep h0 h [] ∧ ∃ s : Addr, ∃ b : Addr, h0.size ≤ s ∧ v = some (.ref s) ∧ Exa Z h s "java/lang/String" ∧ Fld Z h s "java/lang/String" "value" "[B" (.ref b) ∧ Fld Z h s "java/lang/String" "coder" "B" (.int (0 : Int32)) ∧ OA Z h b .byte ((bs p1 w).map Value.int))
set_option maxRecDepth 65536 in
set_option maxHeartbeats 40000000 in
theorem rm1 (l : Launch) (Z : State) (a0 : Array Value) (hw : ∀ d ∈ tables_1, d.before a0 Z = true) (ws : List Jvm.Cond) (p1 : Int32) (w : Int32) (h0 : Heap) (n0 : Nat) (Z0 : n0 ≤ h0.size) (R0 : Sta Z h0 "java/lang/String" "COMPACT_STRINGS" "Z" (.int w)) (hw0 : ¬ w = (0 : Int32)) :
    OMetS l Z EL0 (⟨"com/example/vestbook/vestbook/OriginRepeatsPinLaw", "mk", "(I)Ljava/lang/String;"⟩ : MethodName) method_5_code 3 (some (.object "java/lang/String")) ws ({ frames := 4, cells := 6, slots := 12, locals := 66 } : Room) #[(.int p1)] h0 (Q1 Z p1 w h0 n0) := by
  refine own_enterS pn_1 ?_
  intro p e s m below meth c s₁ hx hby hml0 hown hret hlk hnm hZ X0 e0 hs0 CH0
  have hEL := own_EW hw
  have hS0 : s.Since s.vm 0 := (State.WarmedH.refl s).since 0
  have hk0 : 0 ≤ h0.size := Nat.zero_le _
  have CR0 : CHr Z EL0 s.vm h0 s.vm h0 := CHr.refl CH0
  have hml : c.maxLocals = 3 := hml0
  have N0 := Fr.nil n0
  refine own_castS (ef_1 m p1) ?_
  show OGS Z EL0 p e ({ frames := 4, cells := 6, slots := 12, locals := 66 } : Room) s below (fun v h L => Fr n0 L ∧ Keep h0 h [] ∧ ∃ s : Addr, ∃ b : Addr, h0.size ≤ s ∧ v = some (.ref s) ∧ Exa Z h s "java/lang/String" ∧ Fld Z h s "java/lang/String" "value" "[B" (.ref b) ∧ Fld Z h s "java/lang/String" "coder" "B" (.int (0 : Int32)) ∧ OA Z h b .byte ((bs p1 w).map Value.int)) s₁ (mkF m 0 #[.val (.int p1), .unset, .unset] [])
  refine own_stS (fun t k => XS.iloadN X0.here hx rfl (hb hby d1_0) rfl k) ?_
  show OGS _ _ p e _ s below _ s₁ (mkF m 1 #[.val (.int p1), .unset, .unset] [(.int p1)])
  obtain ⟨_, _, ⟨T1, L1, k1, n1⟩, -, X1, ⟨Lc1, hQ1, l1, y1, z1⟩, st1⟩ := Jvm.LawKit.callS X0 hx (y := (⟨"com/example/vestbook/vestbook/OriginRepeatsPinLaw", "len", "(I)I"⟩ : MethodName)) hown (mvT hZ (hw _ (List.mem_of_getElem? (i := 4) rfl))) (mvT hZ (hw _ (List.mem_of_getElem? (i := 5) rfl))) (mvT hZ (hw _ (List.mem_of_getElem? (i := 2) rfl))) (mvT hZ (hw _ (List.mem_of_getElem? (i := 6) rfl))) (by decide) (backOf (W := 0) (rm := ({ frames := 0, cells := 0, slots := 0, locals := 0 } : Room)) (rm2 l Z a0 hw [] p1 h0) hZ (hw _ (List.mem_of_getElem? (i := 6) rfl)) (hw _ (List.mem_of_getElem? (i := 2) rfl)) (by decide) (by decide)) (g := (mkF m 1 #[.val (.int p1), .unset, .unset] [(.int p1)])) rfl (by rw [hml]; rfl) (argsL := [(.int p1)]) (rest := []) (lenOf pd__I_I rfl) rfl (by show 2 * 0 + _ ≤ _; exact Nat.le_of_eq rfl) (hb hby d1_1) (fun _ _ => ⟨rfl, e0, (by decide : 0 + 0 ≤ _), (by decide : 0 + 0 ≤ _)⟩)
  dsimp only [Pt.U, Pt.locs, Pt.cells, Pt.slots] at X1 l1 y1 z1 st1 hQ1
  subst l1 y1 z1
  obtain ⟨rfl, rfl, e1⟩ := hQ1
  refine own_stS st1 ?_
  have N1 := Fr.app N0 (Fr.nil n0)
  show OGS _ _ p e _ s below _ T1 (mkF m 4 #[.val (.int p1), .unset, .unset] [(.int (f2 p1))])
  refine own_stS (fun t k => XS.istoreN X1.here hx rfl (hb hby d1_4) rfl (l' := #[.val (.int p1), .val (.int (f2 p1)), .unset]) rfl k) ?_
  show OGS _ _ p e _ s below _ T1 (mkF m 5 #[.val (.int p1), .val (.int (f2 p1)), .unset] [])
  refine own_stS (fun t k => XS.iloadN X1.here hx rfl (hb hby d1_5) rfl k) ?_
  show OGS _ _ p e _ s below _ T1 (mkF m 6 #[.val (.int p1), .val (.int (f2 p1)), .unset] [(.int (f2 p1))])
  by_cases c2 : (f2 p1) = (0 : Int32)
  · refine own_stS (fun t k => XS.ifNo X1.here hx rfl (hb hby d1_6) rfl (own_if0 (teq c2).2) k) ?_
    show OGS _ _ p e _ s below _ T1 (mkF m 9 #[.val (.int p1), .val (.int (f2 p1)), .unset] [])
    obtain ⟨T3, h3, X3, e3, E3, A3, D3, -, st3⟩ := newO X1 hx hZ hown (hw _ (List.mem_of_getElem? (i := 7) rfl)) (hw _ (List.mem_of_getElem? (i := 8) rfl)) (hw _ (List.mem_of_getElem? (i := 9) rfl)) e1 (g := (mkF m 9 #[.val (.int p1), .val (.int (f2 p1)), .unset] [])) rfl (hb hby d1_9) (by decide) (by decide)
    obtain ⟨o3, gb3⟩ : ∃ z, z = h0.size := ⟨_, rfl⟩
    rw [← gb3] at A3 D3 st3
    refine own_stS st3 ?_
    have ge_o3 : n0 ≤ o3 := by rw [gb3]; exact Nat.le_trans Z0 (Keep.refl h0 []).1
    have sz_o3 : h0.size ≤ o3 := by rw [gb3]; exact (Keep.refl h0 []).1
    have F4 : Sta Z h3 "java/lang/String" "COMPACT_STRINGS" "Z" (.int w) := (R0.ext E3)
    have K5 : Keep h0 h3 [] := (Keep.refl h0 []).ext E3
    have F6 : Fld Z h3 o3 "java/lang/String" "value" "[B" .null := D3 (Or.inr (hw _ (List.mem_of_getElem? (i := 23) rfl))) (ty := (.array .byte)) (by decide)
    have F7 : Fld Z h3 o3 "java/lang/String" "coder" "B" (.int (0 : Int32)) := D3 (Or.inr (hw _ (List.mem_of_getElem? (i := 24) rfl))) (ty := .byte) (by decide)
    show OGS _ _ p e _ s below _ T3 (mkF m 12 #[.val (.int p1), .val (.int (f2 p1)), .unset] [(.ref o3)])
    have CR8 : CHr Z EL0 s.vm h0 s.vm h3 := CHr.trans CR0 (CHr.ext E3 CH0)
    have CH8 : CHv Z EL0 s.vm h3 := CHv.ext E3 CH0
    have hk8 := Nat.le_trans hk0 E3.1
    have sn_o3 : Safe Z EL0 s.vm h3 o3 := Safe.ext E3 CH0 (Safe.new (Nat.le_of_eq gb3.symm))
    refine own_stS (fun t k => XS.dup X3.here hx rfl (hb hby d1_12) rfl rfl k) ?_
    show OGS _ _ p e _ s below _ T3 (mkF m 13 #[.val (.int p1), .val (.int (f2 p1)), .unset] [(.ref o3), (.ref o3)])
    refine own_stS (fun t k => XS.iconst X3.here hx rfl (hb hby d1_13) k) ?_
    show OGS _ _ p e _ s below _ T3 (mkF m 14 #[.val (.int p1), .val (.int (f2 p1)), .unset] [(.int (0 : Int32)), (.ref o3), (.ref o3)])
    obtain ⟨T9, h9, k9, X9, e9, E9, A9, st9⟩ := newP X3 hx hZ (hw _ (List.mem_of_getElem? (i := 10) rfl)) e3 (g := (mkF m 14 #[.val (.int p1), .val (.int (f2 p1)), .unset] [(.int (0 : Int32)), (.ref o3), (.ref o3)])) rfl (hb hby d1_14) rfl (by decide) (cap := 0) (by decide) (by decide) (by decide) (by decide)
    obtain ⟨b9, gb9⟩ : ∃ z, z = h3.size := ⟨_, rfl⟩
    rw [← gb9] at A9 st9
    refine own_stS st9 ?_
    have ge_b9 : n0 ≤ b9 := by rw [gb9]; exact Nat.le_trans Z0 K5.1
    have sz_b9 : h0.size ≤ b9 := by rw [gb9]; exact K5.1
    have ne_o3_b9 : o3 ≠ b9 := Nat.ne_of_lt (Nat.lt_of_lt_of_eq A3.lt gb9.symm)
    have F10 : Sta Z h9 "java/lang/String" "COMPACT_STRINGS" "Z" (.int w) := (F4.ext E9)
    have F11 : Exa Z h9 o3 "java/lang/String" := (A3.ext E9)
    have F12 : Fld Z h9 o3 "java/lang/String" "value" "[B" .null := (F6.ext E9)
    have F13 : Fld Z h9 o3 "java/lang/String" "coder" "B" (.int (0 : Int32)) := (F7.ext E9)
    have K14 : Keep h0 h9 [] := K5.ext E9
    have F15 : OA Z h9 b9 .char [] := OA.new A9
    show OGS _ _ p e _ s below _ T9 (mkF m 16 #[.val (.int p1), .val (.int (f2 p1)), .unset] [(.ref b9), (.ref o3), (.ref o3)])
    have sf16_o3 : Safe Z EL0 s.vm h9 o3 := Safe.ext E9 CH8 sn_o3
    have CR16 : CHr Z EL0 s.vm h0 s.vm h9 := CHr.trans CR8 (CHr.ext E9 CH8)
    have CH16 : CHv Z EL0 s.vm h9 := CHv.ext E9 CH8
    have hk16 := Nat.le_trans hk8 E9.1
    obtain ⟨_, _, ⟨T17, L17, k17, n17⟩, -, X17q, hS17q, hg17q, ⟨Lc17, hQ17, l17, y17, z17, Cq17⟩, st17⟩ := X9.specialBackS hx (y := (⟨"java/lang/String", "<init>", "([C)V"⟩ : MethodName)) rfl hown (mvT hZ (hw _ (List.mem_of_getElem? (i := 11) rfl))) (mvT hZ (hw _ (List.mem_of_getElem? (i := 12) rfl))) (mvT hZ (hw _ (List.mem_of_getElem? (i := 13) rfl))) (by decide) (backOfSH (EL := EL0) (W := 1) (rm := ({ frames := 2, cells := 4, slots := 8, locals := 29 } : Room)) (rm3_0 l Z a0 hw [] o3 b9 h9 n0 F11 F12 F13 F15 ge_o3 (Ne.symm ne_o3_b9)) hZ (hw _ (List.mem_of_getElem? (i := 13) rfl)) (hw _ (List.mem_of_getElem? (i := 9) rfl)) (by decide) (by decide) hEL CH16) (g := (mkF m 16 #[.val (.int p1), .val (.int (f2 p1)), .unset] [(.ref b9), (.ref o3), (.ref o3)])) rfl (by rw [hml]; rfl) (Steps.refl _) (a := o3) (argsL := [(.ref b9)]) (rest := [(.ref o3)]) (lenOf pd___C_V rfl) rfl (by show 2 * 0 + _ ≤ _; exact Nat.le_of_eq rfl) (hb hby d1_16) (fun _ _ => ⟨rfl, e9, (by decide : 2 + 4 ≤ _), (by decide : 4 + 8 ≤ _)⟩)
    dsimp only [Pt.U, Pt.locs, Pt.cells, Pt.slots] at X17q hS17q hg17q l17 y17 z17 st17 hQ17 Cq17
    subst l17 y17 z17
    obtain ⟨X17, hS17, hZ17, hown17⟩ := rebS hS0 (by rw [e9]; exact hk16) X17q hS17q hg17q hZ hown
    have sf17_o3 : Safe Z EL0 T17.vm T17.heap o3 := CHr.safe Cq17 F11.lt sf16_o3
    have CR17 := CHr.trans CR16 Cq17
    have hk17 : T17.heap.size ≤ T17.heap.size := Nat.le_refl _
    obtain ⟨rfl, N17q, K17q, b_17, P17_0, P17_1, P17_2, P17_3⟩ := hQ17
    refine own_stS (fun t k => st17.trans k) ?_
    have N17 := Fr.app N1 N17q
    have K17 : Keep h0 T17.heap [] := K14.trans K17q (own_all1 (Or.inr sz_o3))
    have F18 : Sta Z T17.heap "java/lang/String" "COMPACT_STRINGS" "Z" (.int w) := (own_staK F10 K17q (own_all1 (own_plE F11)))
    have F19 : OA Z T17.heap b9 .char [] := (F15.keep K17q (own_nin1 (Ne.symm ne_o3_b9)))
    show OGS _ _ p e _ s below _ T17 (mkF m 19 #[.val (.int p1), .val (.int (f2 p1)), .unset] [(.ref o3)])
    refine own_endS X17 hlk hZ17 hEL rfl hs0 hS17 hk17 Cq17.1 CR17 (v := some (.ref o3)) (fun h => by rw [hret] at h; cases h) (by decide) (by decide) ?_ (fun fs hr => retOut X17 hx hret rfl (Or.inr (Or.inr (Or.inr (Or.inr ⟨rfl, rfl, rfl⟩)))) (hb hby d1_19) hr)
    exact ⟨N17, K17, o3, b_17, sz_o3, rfl, P17_0, P17_1, P17_2, (by rw [show bs p1 w = [] from (by rw [bs, if_pos c2])]; exact P17_3)⟩
  · refine own_stS (fun t k => XS.ifYes X1.here hx rfl (pc0 := 6) (pc' := 20) rfl (hb hby d1_6) rfl (own_if0 (feq c2).2) (by decide) (by decide) k) ?_
    show OGS _ _ p e _ s below _ T1 (mkF m 20 #[.val (.int p1), .val (.int (f2 p1)), .unset] [])
    refine own_stS (fun t k => XS.iloadN X1.here hx rfl (hb hby d1_20) rfl k) ?_
    show OGS _ _ p e _ s below _ T1 (mkF m 21 #[.val (.int p1), .val (.int (f2 p1)), .unset] [(.int (f2 p1))])
    refine own_stS (fun t k => XS.iconst X1.here hx rfl (hb hby d1_21) k) ?_
    show OGS _ _ p e _ s below _ T1 (mkF m 22 #[.val (.int p1), .val (.int (f2 p1)), .unset] [(.int (1 : Int32)), (.int (f2 p1))])
    by_cases c20 : (f2 p1) = (1 : Int32)
    · refine own_stS (fun t k => XS.icmpNo X1.here hx rfl (hb hby d1_22) rfl (teq c20).2 k) ?_
      show OGS _ _ p e _ s below _ T1 (mkF m 25 #[.val (.int p1), .val (.int (f2 p1)), .unset] [])
      refine own_stS (fun t k => XS.iconst X1.here hx rfl (hb hby d1_25) k) ?_
      show OGS _ _ p e _ s below _ T1 (mkF m 26 #[.val (.int p1), .val (.int (f2 p1)), .unset] [(.int (1 : Int32))])
      obtain ⟨T21, h21, k21, X21, e21, E21, A21, st21⟩ := newP X1 hx hZ (hw _ (List.mem_of_getElem? (i := 10) rfl)) e1 (g := (mkF m 26 #[.val (.int p1), .val (.int (f2 p1)), .unset] [(.int (1 : Int32))])) rfl (hb hby d1_26) rfl (by decide) (cap := 1) (by decide) (by decide) (by decide) (by decide)
      obtain ⟨b21, gb21⟩ : ∃ z, z = h0.size := ⟨_, rfl⟩
      rw [← gb21] at A21 st21
      refine own_stS st21 ?_
      have ge_b21 : n0 ≤ b21 := by rw [gb21]; exact Nat.le_trans Z0 (Keep.refl h0 []).1
      have sz_b21 : h0.size ≤ b21 := by rw [gb21]; exact (Keep.refl h0 []).1
      have F22 : Sta Z h21 "java/lang/String" "COMPACT_STRINGS" "Z" (.int w) := (R0.ext E21)
      have K23 : Keep h0 h21 [] := (Keep.refl h0 []).ext E21
      have F24 : OA Z h21 b21 .char [(.int (0 : Int32))] := OA.new A21
      show OGS _ _ p e _ s below _ T21 (mkF m 28 #[.val (.int p1), .val (.int (f2 p1)), .unset] [(.ref b21)])
      have CR25 : CHr Z EL0 s.vm h0 s.vm h21 := CHr.trans CR0 (CHr.ext E21 CH0)
      have CH25 : CHv Z EL0 s.vm h21 := CHv.ext E21 CH0
      have hk25 := Nat.le_trans hk0 E21.1
      refine own_stS (fun t k => XS.dup X21.here hx rfl (hb hby d1_28) rfl rfl k) ?_
      show OGS _ _ p e _ s below _ T21 (mkF m 29 #[.val (.int p1), .val (.int (f2 p1)), .unset] [(.ref b21), (.ref b21)])
      refine own_stS (fun t k => XS.iconst X21.here hx rfl (hb hby d1_29) k) ?_
      show OGS _ _ p e _ s below _ T21 (mkF m 30 #[.val (.int p1), .val (.int (f2 p1)), .unset] [(.int (0 : Int32)), (.ref b21), (.ref b21)])
      refine own_stS (fun t k => XS.iloadN X21.here hx rfl (hb hby d1_30) rfl k) ?_
      show OGS _ _ p e _ s below _ T21 (mkF m 31 #[.val (.int p1), .val (.int (f2 p1)), .unset] [(.int p1), (.int (0 : Int32)), (.ref b21), (.ref b21)])
      obtain ⟨_, _, ⟨T26, L26, k26, n26⟩, -, X26, ⟨Lc26, hQ26, l26, y26, z26⟩, st26⟩ := Jvm.LawKit.callS X21 hx (y := (⟨"com/example/vestbook/vestbook/OriginRepeatsPinLaw", "c0", "(I)C"⟩ : MethodName)) hown (mvT hZ (hw _ (List.mem_of_getElem? (i := 66) rfl))) (mvT hZ (hw _ (List.mem_of_getElem? (i := 67) rfl))) (mvT hZ (hw _ (List.mem_of_getElem? (i := 2) rfl))) (mvT hZ (hw _ (List.mem_of_getElem? (i := 68) rfl))) (by decide) (backOf (W := 3) (rm := ({ frames := 0, cells := 0, slots := 0, locals := 0 } : Room)) (rm12 l Z a0 hw [] p1 h21) hZ (hw _ (List.mem_of_getElem? (i := 68) rfl)) (hw _ (List.mem_of_getElem? (i := 2) rfl)) (by decide) (by decide)) (g := (mkF m 31 #[.val (.int p1), .val (.int (f2 p1)), .unset] [(.int p1), (.int (0 : Int32)), (.ref b21), (.ref b21)])) rfl (by rw [hml]; rfl) (argsL := [(.int p1)]) (rest := [(.int (0 : Int32)), (.ref b21), (.ref b21)]) (lenOf pd__I_C rfl) rfl (by show 2 * 0 + _ ≤ _; exact Nat.le_of_eq rfl) (hb hby d1_31) (fun _ _ => ⟨rfl, e21, (by decide : 1 + 0 ≤ _), (by decide : 1 + 0 ≤ _)⟩)
      dsimp only [Pt.U, Pt.locs, Pt.cells, Pt.slots] at X26 l26 y26 z26 st26 hQ26
      subst l26 y26 z26
      obtain ⟨rfl, rfl, e26⟩ := hQ26
      refine own_stS st26 ?_
      have N26 := Fr.app N1 (Fr.nil n0)
      show OGS _ _ p e _ s below _ T26 (mkF m 34 #[.val (.int p1), .val (.int (f2 p1)), .unset] [(.int (f12 p1)), (.int (0 : Int32)), (.ref b21), (.ref b21)])
      obtain ⟨cl27, Ar27, hi27⟩ := own_wr F24 (j := (0 : Int32)) (i := 0) (by decide) (by decide) (by decide : 0 < 1)
      obtain ⟨T27, h27, X27, e27, W27, st27⟩ := stC X26 hx hZ e26 Ar27 hi27 (g := (mkF m 34 #[.val (.int p1), .val (.int (f2 p1)), .unset] [(.int (f12 p1)), (.int (0 : Int32)), (.ref b21), (.ref b21)])) rfl rfl (hb hby d1_34)
      refine own_stS st27 ?_
      have N27 := Fr.snoc X27 N26 ge_b21
      have K28 : Keep h0 h27 [] := K23.wr W27 (Or.inr sz_b21)
      have F29 : Sta Z h27 "java/lang/String" "COMPACT_STRINGS" "Z" (.int w) := (F22.wr W27)
      have F30 : OA Z h27 b21 .char [(.int (nar .char (f12 p1)))] := (F24.set W27 (i := 0) (by decide))
      show OGS _ _ p e _ s below _ T27 (mkF m 35 #[.val (.int p1), .val (.int (f2 p1)), .unset] [(.ref b21)])
      have CR31 : CHr Z EL0 s.vm h0 s.vm h27 := CHr.trans CR25 (CHr.wr W27 (own_safeA hZ.alike F24 (by decide)) CH25)
      have CH31 : CHv Z EL0 s.vm h27 := CHv.wr W27 (own_safeA hZ.alike F24 (by decide)) CH25
      have hk31 := Nat.le_trans hk25 (Keep.of_wr W27).1
      refine own_stS (fun t k => XS.astoreN X27.here hx rfl (hb hby d1_35) rfl rfl (l' := #[.val (.int p1), .val (.int (f2 p1)), .val (.ref b21)]) rfl k) ?_
      show OGS _ _ p e _ s below _ T27 (mkF m 36 #[.val (.int p1), .val (.int (f2 p1)), .val (.ref b21)] [])
      obtain ⟨T32, h32, X32, e32, E32, A32, D32, -, st32⟩ := newO X27 hx hZ hown (hw _ (List.mem_of_getElem? (i := 7) rfl)) (hw _ (List.mem_of_getElem? (i := 8) rfl)) (hw _ (List.mem_of_getElem? (i := 9) rfl)) e27 (g := (mkF m 36 #[.val (.int p1), .val (.int (f2 p1)), .val (.ref b21)] [])) rfl (hb hby d1_36) (by decide) (by decide)
      obtain ⟨o32, gb32⟩ : ∃ z, z = h27.size := ⟨_, rfl⟩
      rw [← gb32] at A32 D32 st32
      refine own_stS st32 ?_
      have ge_o32 : n0 ≤ o32 := by rw [gb32]; exact Nat.le_trans Z0 K28.1
      have sz_o32 : h0.size ≤ o32 := by rw [gb32]; exact K28.1
      have ne_b21_o32 : b21 ≠ o32 := Nat.ne_of_lt (Nat.lt_of_lt_of_eq F30.lt gb32.symm)
      have F33 : Sta Z h32 "java/lang/String" "COMPACT_STRINGS" "Z" (.int w) := (F29.ext E32)
      have F34 : OA Z h32 b21 .char [(.int (nar .char (f12 p1)))] := (F30.ext E32)
      have K35 : Keep h0 h32 [] := K28.ext E32
      have F36 : Fld Z h32 o32 "java/lang/String" "value" "[B" .null := D32 (Or.inr (hw _ (List.mem_of_getElem? (i := 23) rfl))) (ty := (.array .byte)) (by decide)
      have F37 : Fld Z h32 o32 "java/lang/String" "coder" "B" (.int (0 : Int32)) := D32 (Or.inr (hw _ (List.mem_of_getElem? (i := 24) rfl))) (ty := .byte) (by decide)
      show OGS _ _ p e _ s below _ T32 (mkF m 39 #[.val (.int p1), .val (.int (f2 p1)), .val (.ref b21)] [(.ref o32)])
      have CR38 : CHr Z EL0 s.vm h0 s.vm h32 := CHr.trans CR31 (CHr.ext E32 CH31)
      have CH38 : CHv Z EL0 s.vm h32 := CHv.ext E32 CH31
      have hk38 := Nat.le_trans hk31 E32.1
      have sn_o32 : Safe Z EL0 s.vm h32 o32 := Safe.ext E32 CH31 (Safe.new (Nat.le_of_eq gb32.symm))
      refine own_stS (fun t k => XS.dup X32.here hx rfl (hb hby d1_39) rfl rfl k) ?_
      show OGS _ _ p e _ s below _ T32 (mkF m 40 #[.val (.int p1), .val (.int (f2 p1)), .val (.ref b21)] [(.ref o32), (.ref o32)])
      refine own_stS (fun t k => XS.aloadN X32.here hx rfl (hb hby d1_40) rfl rfl k) ?_
      show OGS _ _ p e _ s below _ T32 (mkF m 41 #[.val (.int p1), .val (.int (f2 p1)), .val (.ref b21)] [(.ref b21), (.ref o32), (.ref o32)])
      obtain ⟨_, _, ⟨T39, L39, k39, n39⟩, -, X39, ⟨Lc39, hQ39, l39, y39, z39⟩, st39⟩ := X32.specialBack hx (y := (⟨"java/lang/String", "<init>", "([C)V"⟩ : MethodName)) rfl hown (mvT hZ (hw _ (List.mem_of_getElem? (i := 11) rfl))) (mvT hZ (hw _ (List.mem_of_getElem? (i := 12) rfl))) (mvT hZ (hw _ (List.mem_of_getElem? (i := 13) rfl))) (by decide) (backOf (W := 1) (rm := ({ frames := 3, cells := 1, slots := 1, locals := 52 } : Room)) (rm3_1 l Z a0 hw [] o32 b21 (nar .char (f12 p1)) w h32 n0 (Nat.le_trans Z0 K35.1) A32 F36 F37 F34 F33 ge_o32 ne_b21_o32 (own_c0 p1) hw0) hZ (hw _ (List.mem_of_getElem? (i := 13) rfl)) (hw _ (List.mem_of_getElem? (i := 9) rfl)) (by decide) (by decide)) (g := (mkF m 41 #[.val (.int p1), .val (.int (f2 p1)), .val (.ref b21)] [(.ref b21), (.ref o32), (.ref o32)])) rfl (by rw [hml]; rfl) (Steps.refl _) (a := o32) (argsL := [(.ref b21)]) (rest := [(.ref o32)]) (lenOf pd___C_V rfl) rfl (by show 2 * 0 + _ ≤ _; exact Nat.le_of_eq rfl) (hb hby d1_41) (fun _ _ => ⟨rfl, e32, (by decide : 2 + 1 ≤ _), (by decide : 5 + 1 ≤ _)⟩)
      dsimp only [Pt.U, Pt.locs, Pt.cells, Pt.slots] at X39 l39 y39 z39 st39 hQ39
      subst l39 y39 z39
      obtain ⟨rfl, N39q, K39q, b_39, sz_b_39, P39_0, P39_1, P39_2, P39_3⟩ := hQ39
      refine own_stS (fun t k => st39.trans k) ?_
      have N39 := Fr.app N27 N39q
      have ge_b_39 : n0 ≤ b_39 := Nat.le_trans (Nat.le_trans Z0 K35.1) sz_b_39
      have sy_b_39 : h0.size ≤ b_39 := Nat.le_trans K35.1 sz_b_39
      have ne_b21_b_39 : b21 ≠ b_39 := Nat.ne_of_lt (Nat.lt_of_lt_of_le F34.lt sz_b_39)
      have ne_o32_b_39 : o32 ≠ b_39 := Nat.ne_of_lt (Nat.lt_of_lt_of_le A32.lt sz_b_39)
      have K39 : Keep h0 T39.heap [] := K35.trans K39q (own_all1 (Or.inr sz_o32))
      have F40 : Sta Z T39.heap "java/lang/String" "COMPACT_STRINGS" "Z" (.int w) := (own_staK F33 K39q (own_all1 (own_plE A32)))
      have F41 : OA Z T39.heap b21 .char [(.int (nar .char (f12 p1)))] := (F34.keep K39q (own_nin1 ne_b21_o32))
      show OGS _ _ p e _ s below _ T39 (mkF m 44 #[.val (.int p1), .val (.int (f2 p1)), .val (.ref b21)] [(.ref o32)])
      have sf42_o32 : Safe Z EL0 s.vm T39.heap o32 := Safe.keep K39q (own_all1 sn_o32) CH38 sn_o32
      have CR42 : CHr Z EL0 s.vm h0 s.vm T39.heap := CHr.trans CR38 (CHr.keep K39q (own_all1 sn_o32) CH38)
      have CH42 : CHv Z EL0 s.vm T39.heap := CHv.keep K39q (own_all1 sn_o32) CH38
      have hk42 := Nat.le_trans hk38 K39q.1
      refine own_endS X39 hlk hZ hEL rfl hs0 hS0 hk42 CH42 CR42 (v := some (.ref o32)) (fun h => by rw [hret] at h; cases h) (by decide) (by decide) ?_ (fun fs hr => retOut X39 hx hret rfl (Or.inr (Or.inr (Or.inr (Or.inr ⟨rfl, rfl, rfl⟩)))) (hb hby d1_44) hr)
      exact ⟨N39, K39, o32, b_39, sz_o32, rfl, P39_0, P39_1, P39_2, (by rw [show bs p1 w = [(nar .byte ((nar .char (f12 p1)).toInt8.toInt32))] from (by rw [bs, if_neg c2, if_pos c20])]; exact P39_3)⟩
    · refine own_stS (fun t k => XS.icmpYes X1.here hx rfl (pc0 := 22) (pc' := 45) rfl (hb hby d1_22) rfl (feq c20).2 (by decide) (by decide) k) ?_
      show OGS _ _ p e _ s below _ T1 (mkF m 45 #[.val (.int p1), .val (.int (f2 p1)), .unset] [])
      refine own_stS (fun t k => XS.iconst X1.here hx rfl (hb hby d1_45) k) ?_
      show OGS _ _ p e _ s below _ T1 (mkF m 46 #[.val (.int p1), .val (.int (f2 p1)), .unset] [(.int (2 : Int32))])
      obtain ⟨T43, h43, k43, X43, e43, E43, A43, st43⟩ := newP X1 hx hZ (hw _ (List.mem_of_getElem? (i := 10) rfl)) e1 (g := (mkF m 46 #[.val (.int p1), .val (.int (f2 p1)), .unset] [(.int (2 : Int32))])) rfl (hb hby d1_46) rfl (by decide) (cap := 2) (by decide) (by decide) (by decide) (by decide)
      obtain ⟨b43, gb43⟩ : ∃ z, z = h0.size := ⟨_, rfl⟩
      rw [← gb43] at A43 st43
      refine own_stS st43 ?_
      have ge_b43 : n0 ≤ b43 := by rw [gb43]; exact Nat.le_trans Z0 (Keep.refl h0 []).1
      have sz_b43 : h0.size ≤ b43 := by rw [gb43]; exact (Keep.refl h0 []).1
      have F44 : Sta Z h43 "java/lang/String" "COMPACT_STRINGS" "Z" (.int w) := (R0.ext E43)
      have K45 : Keep h0 h43 [] := (Keep.refl h0 []).ext E43
      have F46 : OA Z h43 b43 .char [(.int (0 : Int32)), (.int (0 : Int32))] := OA.new A43
      show OGS _ _ p e _ s below _ T43 (mkF m 48 #[.val (.int p1), .val (.int (f2 p1)), .unset] [(.ref b43)])
      have CR47 : CHr Z EL0 s.vm h0 s.vm h43 := CHr.trans CR0 (CHr.ext E43 CH0)
      have CH47 : CHv Z EL0 s.vm h43 := CHv.ext E43 CH0
      have hk47 := Nat.le_trans hk0 E43.1
      refine own_stS (fun t k => XS.dup X43.here hx rfl (hb hby d1_48) rfl rfl k) ?_
      show OGS _ _ p e _ s below _ T43 (mkF m 49 #[.val (.int p1), .val (.int (f2 p1)), .unset] [(.ref b43), (.ref b43)])
      refine own_stS (fun t k => XS.iconst X43.here hx rfl (hb hby d1_49) k) ?_
      show OGS _ _ p e _ s below _ T43 (mkF m 50 #[.val (.int p1), .val (.int (f2 p1)), .unset] [(.int (0 : Int32)), (.ref b43), (.ref b43)])
      refine own_stS (fun t k => XS.iloadN X43.here hx rfl (hb hby d1_50) rfl k) ?_
      show OGS _ _ p e _ s below _ T43 (mkF m 51 #[.val (.int p1), .val (.int (f2 p1)), .unset] [(.int p1), (.int (0 : Int32)), (.ref b43), (.ref b43)])
      obtain ⟨_, _, ⟨T48, L48, k48, n48⟩, -, X48, ⟨Lc48, hQ48, l48, y48, z48⟩, st48⟩ := Jvm.LawKit.callS X43 hx (y := (⟨"com/example/vestbook/vestbook/OriginRepeatsPinLaw", "c0", "(I)C"⟩ : MethodName)) hown (mvT hZ (hw _ (List.mem_of_getElem? (i := 66) rfl))) (mvT hZ (hw _ (List.mem_of_getElem? (i := 67) rfl))) (mvT hZ (hw _ (List.mem_of_getElem? (i := 2) rfl))) (mvT hZ (hw _ (List.mem_of_getElem? (i := 68) rfl))) (by decide) (backOf (W := 3) (rm := ({ frames := 0, cells := 0, slots := 0, locals := 0 } : Room)) (rm12 l Z a0 hw [] p1 h43) hZ (hw _ (List.mem_of_getElem? (i := 68) rfl)) (hw _ (List.mem_of_getElem? (i := 2) rfl)) (by decide) (by decide)) (g := (mkF m 51 #[.val (.int p1), .val (.int (f2 p1)), .unset] [(.int p1), (.int (0 : Int32)), (.ref b43), (.ref b43)])) rfl (by rw [hml]; rfl) (argsL := [(.int p1)]) (rest := [(.int (0 : Int32)), (.ref b43), (.ref b43)]) (lenOf pd__I_C rfl) rfl (by show 2 * 0 + _ ≤ _; exact Nat.le_of_eq rfl) (hb hby d1_51) (fun _ _ => ⟨rfl, e43, (by decide : 1 + 0 ≤ _), (by decide : 2 + 0 ≤ _)⟩)
      dsimp only [Pt.U, Pt.locs, Pt.cells, Pt.slots] at X48 l48 y48 z48 st48 hQ48
      subst l48 y48 z48
      obtain ⟨rfl, rfl, e48⟩ := hQ48
      refine own_stS st48 ?_
      have N48 := Fr.app N1 (Fr.nil n0)
      show OGS _ _ p e _ s below _ T48 (mkF m 54 #[.val (.int p1), .val (.int (f2 p1)), .unset] [(.int (f12 p1)), (.int (0 : Int32)), (.ref b43), (.ref b43)])
      obtain ⟨cl49, Ar49, hi49⟩ := own_wr F46 (j := (0 : Int32)) (i := 0) (by decide) (by decide) (by decide : 0 < 2)
      obtain ⟨T49, h49, X49, e49, W49, st49⟩ := stC X48 hx hZ e48 Ar49 hi49 (g := (mkF m 54 #[.val (.int p1), .val (.int (f2 p1)), .unset] [(.int (f12 p1)), (.int (0 : Int32)), (.ref b43), (.ref b43)])) rfl rfl (hb hby d1_54)
      refine own_stS st49 ?_
      have N49 := Fr.snoc X49 N48 ge_b43
      have K50 : Keep h0 h49 [] := K45.wr W49 (Or.inr sz_b43)
      have F51 : Sta Z h49 "java/lang/String" "COMPACT_STRINGS" "Z" (.int w) := (F44.wr W49)
      have F52 : OA Z h49 b43 .char [(.int (nar .char (f12 p1))), (.int (0 : Int32))] := (F46.set W49 (i := 0) (by decide))
      show OGS _ _ p e _ s below _ T49 (mkF m 55 #[.val (.int p1), .val (.int (f2 p1)), .unset] [(.ref b43)])
      have CR53 : CHr Z EL0 s.vm h0 s.vm h49 := CHr.trans CR47 (CHr.wr W49 (own_safeA hZ.alike F46 (by decide)) CH47)
      have CH53 : CHv Z EL0 s.vm h49 := CHv.wr W49 (own_safeA hZ.alike F46 (by decide)) CH47
      have hk53 := Nat.le_trans hk47 (Keep.of_wr W49).1
      refine own_stS (fun t k => XS.dup X49.here hx rfl (hb hby d1_55) rfl rfl k) ?_
      show OGS _ _ p e _ s below _ T49 (mkF m 56 #[.val (.int p1), .val (.int (f2 p1)), .unset] [(.ref b43), (.ref b43)])
      refine own_stS (fun t k => XS.iconst X49.here hx rfl (hb hby d1_56) k) ?_
      show OGS _ _ p e _ s below _ T49 (mkF m 57 #[.val (.int p1), .val (.int (f2 p1)), .unset] [(.int (1 : Int32)), (.ref b43), (.ref b43)])
      refine own_stS (fun t k => XS.iloadN X49.here hx rfl (hb hby d1_57) rfl k) ?_
      show OGS _ _ p e _ s below _ T49 (mkF m 58 #[.val (.int p1), .val (.int (f2 p1)), .unset] [(.int p1), (.int (1 : Int32)), (.ref b43), (.ref b43)])
      obtain ⟨_, _, ⟨T54, L54, k54, n54⟩, -, X54, ⟨Lc54, hQ54, l54, y54, z54⟩, st54⟩ := Jvm.LawKit.callS X49 hx (y := (⟨"com/example/vestbook/vestbook/OriginRepeatsPinLaw", "c1", "(I)C"⟩ : MethodName)) hown (mvT hZ (hw _ (List.mem_of_getElem? (i := 69) rfl))) (mvT hZ (hw _ (List.mem_of_getElem? (i := 70) rfl))) (mvT hZ (hw _ (List.mem_of_getElem? (i := 2) rfl))) (mvT hZ (hw _ (List.mem_of_getElem? (i := 71) rfl))) (by decide) (backOf (W := 3) (rm := ({ frames := 0, cells := 0, slots := 0, locals := 0 } : Room)) (rm13 l Z a0 hw [] p1 h49) hZ (hw _ (List.mem_of_getElem? (i := 71) rfl)) (hw _ (List.mem_of_getElem? (i := 2) rfl)) (by decide) (by decide)) (g := (mkF m 58 #[.val (.int p1), .val (.int (f2 p1)), .unset] [(.int p1), (.int (1 : Int32)), (.ref b43), (.ref b43)])) rfl (by rw [hml]; rfl) (argsL := [(.int p1)]) (rest := [(.int (1 : Int32)), (.ref b43), (.ref b43)]) (lenOf pd__I_C rfl) rfl (by show 2 * 0 + _ ≤ _; exact Nat.le_of_eq rfl) (hb hby d1_58) (fun _ _ => ⟨rfl, e49, (by decide : 1 + 0 ≤ _), (by decide : 2 + 0 ≤ _)⟩)
      dsimp only [Pt.U, Pt.locs, Pt.cells, Pt.slots] at X54 l54 y54 z54 st54 hQ54
      subst l54 y54 z54
      obtain ⟨rfl, rfl, e54⟩ := hQ54
      refine own_stS st54 ?_
      have N54 := Fr.app N49 (Fr.nil n0)
      show OGS _ _ p e _ s below _ T54 (mkF m 61 #[.val (.int p1), .val (.int (f2 p1)), .unset] [(.int (f13 p1)), (.int (1 : Int32)), (.ref b43), (.ref b43)])
      obtain ⟨cl55, Ar55, hi55⟩ := own_wr F52 (j := (1 : Int32)) (i := 1) (by decide) (by decide) (by decide : 1 < 2)
      obtain ⟨T55, h55, X55, e55, W55, st55⟩ := stC X54 hx hZ e54 Ar55 hi55 (g := (mkF m 61 #[.val (.int p1), .val (.int (f2 p1)), .unset] [(.int (f13 p1)), (.int (1 : Int32)), (.ref b43), (.ref b43)])) rfl rfl (hb hby d1_61)
      refine own_stS st55 ?_
      have N55 := Fr.snoc X55 N54 ge_b43
      have K56 : Keep h0 h55 [] := K50.wr W55 (Or.inr sz_b43)
      have F57 : Sta Z h55 "java/lang/String" "COMPACT_STRINGS" "Z" (.int w) := (F51.wr W55)
      have F58 : OA Z h55 b43 .char [(.int (nar .char (f12 p1))), (.int (nar .char (f13 p1)))] := (F52.set W55 (i := 1) (by decide))
      show OGS _ _ p e _ s below _ T55 (mkF m 62 #[.val (.int p1), .val (.int (f2 p1)), .unset] [(.ref b43)])
      have CR59 : CHr Z EL0 s.vm h0 s.vm h55 := CHr.trans CR53 (CHr.wr W55 (own_safeA hZ.alike F52 (by decide)) CH53)
      have CH59 : CHv Z EL0 s.vm h55 := CHv.wr W55 (own_safeA hZ.alike F52 (by decide)) CH53
      have hk59 := Nat.le_trans hk53 (Keep.of_wr W55).1
      refine own_stS (fun t k => XS.astoreN X55.here hx rfl (hb hby d1_62) rfl rfl (l' := #[.val (.int p1), .val (.int (f2 p1)), .val (.ref b43)]) rfl k) ?_
      show OGS _ _ p e _ s below _ T55 (mkF m 63 #[.val (.int p1), .val (.int (f2 p1)), .val (.ref b43)] [])
      obtain ⟨T60, h60, X60, e60, E60, A60, D60, -, st60⟩ := newO X55 hx hZ hown (hw _ (List.mem_of_getElem? (i := 7) rfl)) (hw _ (List.mem_of_getElem? (i := 8) rfl)) (hw _ (List.mem_of_getElem? (i := 9) rfl)) e55 (g := (mkF m 63 #[.val (.int p1), .val (.int (f2 p1)), .val (.ref b43)] [])) rfl (hb hby d1_63) (by decide) (by decide)
      obtain ⟨o60, gb60⟩ : ∃ z, z = h55.size := ⟨_, rfl⟩
      rw [← gb60] at A60 D60 st60
      refine own_stS st60 ?_
      have ge_o60 : n0 ≤ o60 := by rw [gb60]; exact Nat.le_trans Z0 K56.1
      have sz_o60 : h0.size ≤ o60 := by rw [gb60]; exact K56.1
      have ne_b43_o60 : b43 ≠ o60 := Nat.ne_of_lt (Nat.lt_of_lt_of_eq F58.lt gb60.symm)
      have F61 : Sta Z h60 "java/lang/String" "COMPACT_STRINGS" "Z" (.int w) := (F57.ext E60)
      have F62 : OA Z h60 b43 .char [(.int (nar .char (f12 p1))), (.int (nar .char (f13 p1)))] := (F58.ext E60)
      have K63 : Keep h0 h60 [] := K56.ext E60
      have F64 : Fld Z h60 o60 "java/lang/String" "value" "[B" .null := D60 (Or.inr (hw _ (List.mem_of_getElem? (i := 23) rfl))) (ty := (.array .byte)) (by decide)
      have F65 : Fld Z h60 o60 "java/lang/String" "coder" "B" (.int (0 : Int32)) := D60 (Or.inr (hw _ (List.mem_of_getElem? (i := 24) rfl))) (ty := .byte) (by decide)
      show OGS _ _ p e _ s below _ T60 (mkF m 66 #[.val (.int p1), .val (.int (f2 p1)), .val (.ref b43)] [(.ref o60)])
      have CR66 : CHr Z EL0 s.vm h0 s.vm h60 := CHr.trans CR59 (CHr.ext E60 CH59)
      have CH66 : CHv Z EL0 s.vm h60 := CHv.ext E60 CH59
      have hk66 := Nat.le_trans hk59 E60.1
      have sn_o60 : Safe Z EL0 s.vm h60 o60 := Safe.ext E60 CH59 (Safe.new (Nat.le_of_eq gb60.symm))
      refine own_stS (fun t k => XS.dup X60.here hx rfl (hb hby d1_66) rfl rfl k) ?_
      show OGS _ _ p e _ s below _ T60 (mkF m 67 #[.val (.int p1), .val (.int (f2 p1)), .val (.ref b43)] [(.ref o60), (.ref o60)])
      refine own_stS (fun t k => XS.aloadN X60.here hx rfl (hb hby d1_67) rfl rfl k) ?_
      show OGS _ _ p e _ s below _ T60 (mkF m 68 #[.val (.int p1), .val (.int (f2 p1)), .val (.ref b43)] [(.ref b43), (.ref o60), (.ref o60)])
      obtain ⟨_, _, ⟨T67, L67, k67, n67⟩, -, X67, ⟨Lc67, hQ67, l67, y67, z67⟩, st67⟩ := X60.specialBack hx (y := (⟨"java/lang/String", "<init>", "([C)V"⟩ : MethodName)) rfl hown (mvT hZ (hw _ (List.mem_of_getElem? (i := 11) rfl))) (mvT hZ (hw _ (List.mem_of_getElem? (i := 12) rfl))) (mvT hZ (hw _ (List.mem_of_getElem? (i := 13) rfl))) (by decide) (backOf (W := 1) (rm := ({ frames := 3, cells := 1, slots := 2, locals := 52 } : Room)) (rm3_2 l Z a0 hw [] o60 b43 (nar .char (f12 p1)) (nar .char (f13 p1)) w h60 n0 (Nat.le_trans Z0 K63.1) A60 F64 F65 F62 F61 ge_o60 ne_b43_o60 (own_c0 p1) (own_c1 p1) hw0) hZ (hw _ (List.mem_of_getElem? (i := 13) rfl)) (hw _ (List.mem_of_getElem? (i := 9) rfl)) (by decide) (by decide)) (g := (mkF m 68 #[.val (.int p1), .val (.int (f2 p1)), .val (.ref b43)] [(.ref b43), (.ref o60), (.ref o60)])) rfl (by rw [hml]; rfl) (Steps.refl _) (a := o60) (argsL := [(.ref b43)]) (rest := [(.ref o60)]) (lenOf pd___C_V rfl) rfl (by show 2 * 0 + _ ≤ _; exact Nat.le_of_eq rfl) (hb hby d1_68) (fun _ _ => ⟨rfl, e60, (by decide : 2 + 1 ≤ _), (by decide : 6 + 2 ≤ _)⟩)
      dsimp only [Pt.U, Pt.locs, Pt.cells, Pt.slots] at X67 l67 y67 z67 st67 hQ67
      subst l67 y67 z67
      obtain ⟨rfl, N67q, K67q, b_67, sz_b_67, P67_0, P67_1, P67_2, P67_3⟩ := hQ67
      refine own_stS (fun t k => st67.trans k) ?_
      have N67 := Fr.app N55 N67q
      have ge_b_67 : n0 ≤ b_67 := Nat.le_trans (Nat.le_trans Z0 K63.1) sz_b_67
      have sy_b_67 : h0.size ≤ b_67 := Nat.le_trans K63.1 sz_b_67
      have ne_b43_b_67 : b43 ≠ b_67 := Nat.ne_of_lt (Nat.lt_of_lt_of_le F62.lt sz_b_67)
      have ne_o60_b_67 : o60 ≠ b_67 := Nat.ne_of_lt (Nat.lt_of_lt_of_le A60.lt sz_b_67)
      have K67 : Keep h0 T67.heap [] := K63.trans K67q (own_all1 (Or.inr sz_o60))
      have F68 : Sta Z T67.heap "java/lang/String" "COMPACT_STRINGS" "Z" (.int w) := (own_staK F61 K67q (own_all1 (own_plE A60)))
      have F69 : OA Z T67.heap b43 .char [(.int (nar .char (f12 p1))), (.int (nar .char (f13 p1)))] := (F62.keep K67q (own_nin1 ne_b43_o60))
      show OGS _ _ p e _ s below _ T67 (mkF m 71 #[.val (.int p1), .val (.int (f2 p1)), .val (.ref b43)] [(.ref o60)])
      have sf70_o60 : Safe Z EL0 s.vm T67.heap o60 := Safe.keep K67q (own_all1 sn_o60) CH66 sn_o60
      have CR70 : CHr Z EL0 s.vm h0 s.vm T67.heap := CHr.trans CR66 (CHr.keep K67q (own_all1 sn_o60) CH66)
      have CH70 : CHv Z EL0 s.vm T67.heap := CHv.keep K67q (own_all1 sn_o60) CH66
      have hk70 := Nat.le_trans hk66 K67q.1
      refine own_endS X67 hlk hZ hEL rfl hs0 hS0 hk70 CH70 CR70 (v := some (.ref o60)) (fun h => by rw [hret] at h; cases h) (by decide) (by decide) ?_ (fun fs hr => retOut X67 hx hret rfl (Or.inr (Or.inr (Or.inr (Or.inr ⟨rfl, rfl, rfl⟩)))) (hb hby d1_71) hr)
      exact ⟨N67, K67, o60, b_67, sz_o60, rfl, P67_0, P67_1, P67_2, (by rw [show bs p1 w = [(nar .byte ((nar .char (f12 p1)).toInt8.toInt32)), (nar .byte ((nar .char (f13 p1)).toInt8.toInt32))] from (by rw [bs, if_neg c2, if_neg c20])]; exact P67_3)⟩
theorem own_bl (p1 w : Int32) : (bs p1 w).length ≤ 2 := by
  rw [bs]
  split
  · exact Nat.zero_le _
  split
  · exact Nat.le_succ _
  · exact Nat.le_refl _
theorem d11_0 : decode jdk_43_method_13_code 0 = .ok (.aload_n 0, 1) := by decide +kernel
theorem d11_1 : decode jdk_43_method_13_code 1 = .ok (.arraylength, 1) := by decide +kernel
theorem d11_2 : decode jdk_43_method_13_code 2 = .ok (.aload_n 1, 1) := by decide +kernel
theorem d11_3 : decode jdk_43_method_13_code 3 = .ok (.arraylength, 1) := by decide +kernel
theorem d11_4 : decode jdk_43_method_13_code 4 = .ok (.if_icmp .ne 30, 3) := by decide +kernel
theorem d11_7 : decode jdk_43_method_13_code 7 = .ok (.iconst 0, 1) := by decide +kernel
theorem d11_8 : decode jdk_43_method_13_code 8 = .ok (.istore_n 2, 1) := by decide +kernel
theorem d11_9 : decode jdk_43_method_13_code 9 = .ok (.iload_n 2, 1) := by decide +kernel
theorem d11_10 : decode jdk_43_method_13_code 10 = .ok (.aload_n 0, 1) := by decide +kernel
theorem d11_11 : decode jdk_43_method_13_code 11 = .ok (.arraylength, 1) := by decide +kernel
theorem d11_12 : decode jdk_43_method_13_code 12 = .ok (.if_icmp .ge 20, 3) := by decide +kernel
theorem d11_32 : decode jdk_43_method_13_code 32 = .ok (.iconst 1, 1) := by decide +kernel
theorem d11_33 : decode jdk_43_method_13_code 33 = .ok (.ireturn, 1) := by decide +kernel
theorem pn_11 : plainFor (⟨"java/lang/StringLatin1", "equals", "([B[B)Z"⟩ : MethodName) = true := by first | exact plainFor_of_name (by first | (simp [plainName, overriddenIn]; done) | decide +kernel) | decide +kernel
def f11_0_0  : Int32 := (1 : Int32)
theorem ef_11 (m : MethodId) (a1 : Addr) (a2 : Addr) : entryFrame m #[(.ref a1), (.ref a2)] 3 = (mkF m 0 #[.val (.ref a1), .val (.ref a2), .unset] []) := by first | (simp [entryFrame, mkF, argsToLocals, Value.category]; done) | rfl
abbrev Q11_0_0 (Z : State) (a1 : Addr) (a2 : Addr) (h0 : Heap)  : Option Value → Heap → List Loc → Prop := (fun v h L => v = some (.int f11_0_0) ∧ L = [] ∧ h = h0)
set_option maxRecDepth 65536 in
set_option maxHeartbeats 40000000 in
theorem rm11_0_0 (l : Launch) (Z : State) (a0 : Array Value) (hw : ∀ d ∈ tables_1, d.before a0 Z = true) (ws : List Jvm.Cond) (a1 : Addr) (a2 : Addr) (h0 : Heap) (R0 : OA Z h0 a1 .byte []) (R1 : OA Z h0 a2 .byte []) :
    OMet l Z (⟨"java/lang/StringLatin1", "equals", "([B[B)Z"⟩ : MethodName) jdk_43_method_13_code 3 (some .boolean) ws ({ frames := 0, cells := 0, slots := 0, locals := 0 } : Room) #[(.ref a1), (.ref a2)] h0 (Q11_0_0 Z a1 a2 h0) := by
  refine own_enter pn_11 ?_
  intro p e s m below meth c s₁ hx hby hml0 hown hret hlk hnm hZ X0 e0
  have hml : c.maxLocals = 3 := hml0
  refine own_cast (ef_11 m a1 a2) ?_
  show OG p e ({ frames := 0, cells := 0, slots := 0, locals := 0 } : Room) s below (fun v h L => v = some (.int f11_0_0) ∧ L = [] ∧ h = h0) s₁ (mkF m 0 #[.val (.ref a1), .val (.ref a2), .unset] [])
  refine own_st (fun t k => XS.aloadN X0.here hx rfl (hb hby d11_0) rfl rfl k) ?_
  show OG p e _ s below _ s₁ (mkF m 1 #[.val (.ref a1), .val (.ref a2), .unset] [(.ref a1)])
  obtain ⟨cl1, Ar1, hz1⟩ := R0.len
  refine own_st (fun t k => X0.arraylength hx (by rw [e0]; exact Ar1.1) (State.isArrayOf_alike hZ.alike Ar1.2.1) (g := (mkF m 1 #[.val (.ref a1), .val (.ref a2), .unset] [(.ref a1)])) rfl rfl (hb hby d11_1) t k) ?_
  rw [hz1]
  show OG p e _ s below _ s₁ (mkF m 2 #[.val (.ref a1), .val (.ref a2), .unset] [(.int (0 : Int32))])
  refine own_st (fun t k => XS.aloadN X0.here hx rfl (hb hby d11_2) rfl rfl k) ?_
  show OG p e _ s below _ s₁ (mkF m 3 #[.val (.ref a1), .val (.ref a2), .unset] [(.ref a2), (.int (0 : Int32))])
  obtain ⟨cl2, Ar2, hz2⟩ := R1.len
  refine own_st (fun t k => X0.arraylength hx (by rw [e0]; exact Ar2.1) (State.isArrayOf_alike hZ.alike Ar2.2.1) (g := (mkF m 3 #[.val (.ref a1), .val (.ref a2), .unset] [(.ref a2), (.int (0 : Int32))])) rfl rfl (hb hby d11_3) t k) ?_
  rw [hz2]
  show OG p e _ s below _ s₁ (mkF m 4 #[.val (.ref a1), .val (.ref a2), .unset] [(.int (0 : Int32)), (.int (0 : Int32))])
  refine own_st (fun t k => XS.icmpNo X0.here hx rfl (hb hby d11_4) rfl (by decide) k) ?_
  show OG p e _ s below _ s₁ (mkF m 7 #[.val (.ref a1), .val (.ref a2), .unset] [])
  refine own_st (fun t k => XS.iconst X0.here hx rfl (hb hby d11_7) k) ?_
  show OG p e _ s below _ s₁ (mkF m 8 #[.val (.ref a1), .val (.ref a2), .unset] [(.int (0 : Int32))])
  refine own_st (fun t k => XS.istoreN X0.here hx rfl (hb hby d11_8) rfl (l' := #[.val (.ref a1), .val (.ref a2), .val (.int (0 : Int32))]) rfl k) ?_
  show OG p e _ s below _ s₁ (mkF m 9 #[.val (.ref a1), .val (.ref a2), .val (.int (0 : Int32))] [])
  refine own_st (fun t k => XS.iloadN X0.here hx rfl (hb hby d11_9) rfl k) ?_
  show OG p e _ s below _ s₁ (mkF m 10 #[.val (.ref a1), .val (.ref a2), .val (.int (0 : Int32))] [(.int (0 : Int32))])
  refine own_st (fun t k => XS.aloadN X0.here hx rfl (hb hby d11_10) rfl rfl k) ?_
  show OG p e _ s below _ s₁ (mkF m 11 #[.val (.ref a1), .val (.ref a2), .val (.int (0 : Int32))] [(.ref a1), (.int (0 : Int32))])
  obtain ⟨cl3, Ar3, hz3⟩ := R0.len
  refine own_st (fun t k => X0.arraylength hx (by rw [e0]; exact Ar3.1) (State.isArrayOf_alike hZ.alike Ar3.2.1) (g := (mkF m 11 #[.val (.ref a1), .val (.ref a2), .val (.int (0 : Int32))] [(.ref a1), (.int (0 : Int32))])) rfl rfl (hb hby d11_11) t k) ?_
  rw [hz3]
  show OG p e _ s below _ s₁ (mkF m 12 #[.val (.ref a1), .val (.ref a2), .val (.int (0 : Int32))] [(.int (0 : Int32)), (.int (0 : Int32))])
  refine own_st (fun t k => XS.icmpYes X0.here hx rfl (pc0 := 12) (pc' := 32) rfl (hb hby d11_12) rfl (by decide) (by decide) (by decide) k) ?_
  show OG p e _ s below _ s₁ (mkF m 32 #[.val (.ref a1), .val (.ref a2), .val (.int (0 : Int32))] [])
  refine own_st (fun t k => XS.iconst X0.here hx rfl (hb hby d11_32) k) ?_
  show OG p e _ s below _ s₁ (mkF m 33 #[.val (.ref a1), .val (.ref a2), .val (.int (0 : Int32))] [(.int (1 : Int32))])
  exact own_retZ X0 hx (t := .boolean) hret (by simp) hlk (hb hby d11_33) (by decide) (by decide) (w := (1 : Int32)) rfl ⟨congrArg (fun z => some (Value.int z)) (show f11_0_0  = (1 : Int32) from (by rw [f11_0_0])).symm, rfl, e0⟩
theorem d11_34 : decode jdk_43_method_13_code 34 = .ok (.iconst 0, 1) := by decide +kernel
theorem d11_35 : decode jdk_43_method_13_code 35 = .ok (.ireturn, 1) := by decide +kernel
def f11_0_1 (v0 : Int32) : Int32 := (0 : Int32)
abbrev Q11_0_1 (Z : State) (a1 : Addr) (a2 : Addr) (v0 : Int32) (h0 : Heap)  : Option Value → Heap → List Loc → Prop := (fun v h L => v = some (.int (f11_0_1 v0)) ∧ L = [] ∧ h = h0)
set_option maxRecDepth 65536 in
set_option maxHeartbeats 40000000 in
theorem rm11_0_1 (l : Launch) (Z : State) (a0 : Array Value) (hw : ∀ d ∈ tables_1, d.before a0 Z = true) (ws : List Jvm.Cond) (a1 : Addr) (a2 : Addr) (v0 : Int32) (h0 : Heap) (R0 : OA Z h0 a1 .byte []) (R1 : OA Z h0 a2 .byte [(.int v0)]) :
    OMet l Z (⟨"java/lang/StringLatin1", "equals", "([B[B)Z"⟩ : MethodName) jdk_43_method_13_code 3 (some .boolean) ws ({ frames := 0, cells := 0, slots := 0, locals := 0 } : Room) #[(.ref a1), (.ref a2)] h0 (Q11_0_1 Z a1 a2 v0 h0) := by
  refine own_enter pn_11 ?_
  intro p e s m below meth c s₁ hx hby hml0 hown hret hlk hnm hZ X0 e0
  have hml : c.maxLocals = 3 := hml0
  refine own_cast (ef_11 m a1 a2) ?_
  show OG p e ({ frames := 0, cells := 0, slots := 0, locals := 0 } : Room) s below (fun v h L => v = some (.int (f11_0_1 v0)) ∧ L = [] ∧ h = h0) s₁ (mkF m 0 #[.val (.ref a1), .val (.ref a2), .unset] [])
  refine own_st (fun t k => XS.aloadN X0.here hx rfl (hb hby d11_0) rfl rfl k) ?_
  show OG p e _ s below _ s₁ (mkF m 1 #[.val (.ref a1), .val (.ref a2), .unset] [(.ref a1)])
  obtain ⟨cl1, Ar1, hz1⟩ := R0.len
  refine own_st (fun t k => X0.arraylength hx (by rw [e0]; exact Ar1.1) (State.isArrayOf_alike hZ.alike Ar1.2.1) (g := (mkF m 1 #[.val (.ref a1), .val (.ref a2), .unset] [(.ref a1)])) rfl rfl (hb hby d11_1) t k) ?_
  rw [hz1]
  show OG p e _ s below _ s₁ (mkF m 2 #[.val (.ref a1), .val (.ref a2), .unset] [(.int (0 : Int32))])
  refine own_st (fun t k => XS.aloadN X0.here hx rfl (hb hby d11_2) rfl rfl k) ?_
  show OG p e _ s below _ s₁ (mkF m 3 #[.val (.ref a1), .val (.ref a2), .unset] [(.ref a2), (.int (0 : Int32))])
  obtain ⟨cl2, Ar2, hz2⟩ := R1.len
  refine own_st (fun t k => X0.arraylength hx (by rw [e0]; exact Ar2.1) (State.isArrayOf_alike hZ.alike Ar2.2.1) (g := (mkF m 3 #[.val (.ref a1), .val (.ref a2), .unset] [(.ref a2), (.int (0 : Int32))])) rfl rfl (hb hby d11_3) t k) ?_
  rw [hz2]
  show OG p e _ s below _ s₁ (mkF m 4 #[.val (.ref a1), .val (.ref a2), .unset] [(.int (1 : Int32)), (.int (0 : Int32))])
  refine own_st (fun t k => XS.icmpYes X0.here hx rfl (pc0 := 4) (pc' := 34) rfl (hb hby d11_4) rfl (by decide) (by decide) (by decide) k) ?_
  show OG p e _ s below _ s₁ (mkF m 34 #[.val (.ref a1), .val (.ref a2), .unset] [])
  refine own_st (fun t k => XS.iconst X0.here hx rfl (hb hby d11_34) k) ?_
  show OG p e _ s below _ s₁ (mkF m 35 #[.val (.ref a1), .val (.ref a2), .unset] [(.int (0 : Int32))])
  exact own_retZ X0 hx (t := .boolean) hret (by simp) hlk (hb hby d11_35) (by decide) (by decide) (w := (0 : Int32)) rfl ⟨congrArg (fun z => some (Value.int z)) (show f11_0_1 v0 = (0 : Int32) from (by rw [f11_0_1])).symm, rfl, e0⟩
def f11_0_2 (v0 : Int32) (v1 : Int32) : Int32 := (0 : Int32)
abbrev Q11_0_2 (Z : State) (a1 : Addr) (a2 : Addr) (v0 : Int32) (v1 : Int32) (h0 : Heap)  : Option Value → Heap → List Loc → Prop := (fun v h L => v = some (.int (f11_0_2 v0 v1)) ∧ L = [] ∧ h = h0)
set_option maxRecDepth 65536 in
set_option maxHeartbeats 40000000 in
theorem rm11_0_2 (l : Launch) (Z : State) (a0 : Array Value) (hw : ∀ d ∈ tables_1, d.before a0 Z = true) (ws : List Jvm.Cond) (a1 : Addr) (a2 : Addr) (v0 : Int32) (v1 : Int32) (h0 : Heap) (R0 : OA Z h0 a1 .byte []) (R1 : OA Z h0 a2 .byte [(.int v0), (.int v1)]) :
    OMet l Z (⟨"java/lang/StringLatin1", "equals", "([B[B)Z"⟩ : MethodName) jdk_43_method_13_code 3 (some .boolean) ws ({ frames := 0, cells := 0, slots := 0, locals := 0 } : Room) #[(.ref a1), (.ref a2)] h0 (Q11_0_2 Z a1 a2 v0 v1 h0) := by
  refine own_enter pn_11 ?_
  intro p e s m below meth c s₁ hx hby hml0 hown hret hlk hnm hZ X0 e0
  have hml : c.maxLocals = 3 := hml0
  refine own_cast (ef_11 m a1 a2) ?_
  show OG p e ({ frames := 0, cells := 0, slots := 0, locals := 0 } : Room) s below (fun v h L => v = some (.int (f11_0_2 v0 v1)) ∧ L = [] ∧ h = h0) s₁ (mkF m 0 #[.val (.ref a1), .val (.ref a2), .unset] [])
  refine own_st (fun t k => XS.aloadN X0.here hx rfl (hb hby d11_0) rfl rfl k) ?_
  show OG p e _ s below _ s₁ (mkF m 1 #[.val (.ref a1), .val (.ref a2), .unset] [(.ref a1)])
  obtain ⟨cl1, Ar1, hz1⟩ := R0.len
  refine own_st (fun t k => X0.arraylength hx (by rw [e0]; exact Ar1.1) (State.isArrayOf_alike hZ.alike Ar1.2.1) (g := (mkF m 1 #[.val (.ref a1), .val (.ref a2), .unset] [(.ref a1)])) rfl rfl (hb hby d11_1) t k) ?_
  rw [hz1]
  show OG p e _ s below _ s₁ (mkF m 2 #[.val (.ref a1), .val (.ref a2), .unset] [(.int (0 : Int32))])
  refine own_st (fun t k => XS.aloadN X0.here hx rfl (hb hby d11_2) rfl rfl k) ?_
  show OG p e _ s below _ s₁ (mkF m 3 #[.val (.ref a1), .val (.ref a2), .unset] [(.ref a2), (.int (0 : Int32))])
  obtain ⟨cl2, Ar2, hz2⟩ := R1.len
  refine own_st (fun t k => X0.arraylength hx (by rw [e0]; exact Ar2.1) (State.isArrayOf_alike hZ.alike Ar2.2.1) (g := (mkF m 3 #[.val (.ref a1), .val (.ref a2), .unset] [(.ref a2), (.int (0 : Int32))])) rfl rfl (hb hby d11_3) t k) ?_
  rw [hz2]
  show OG p e _ s below _ s₁ (mkF m 4 #[.val (.ref a1), .val (.ref a2), .unset] [(.int (2 : Int32)), (.int (0 : Int32))])
  refine own_st (fun t k => XS.icmpYes X0.here hx rfl (pc0 := 4) (pc' := 34) rfl (hb hby d11_4) rfl (by decide) (by decide) (by decide) k) ?_
  show OG p e _ s below _ s₁ (mkF m 34 #[.val (.ref a1), .val (.ref a2), .unset] [])
  refine own_st (fun t k => XS.iconst X0.here hx rfl (hb hby d11_34) k) ?_
  show OG p e _ s below _ s₁ (mkF m 35 #[.val (.ref a1), .val (.ref a2), .unset] [(.int (0 : Int32))])
  exact own_retZ X0 hx (t := .boolean) hret (by simp) hlk (hb hby d11_35) (by decide) (by decide) (w := (0 : Int32)) rfl ⟨congrArg (fun z => some (Value.int z)) (show f11_0_2 v0 v1 = (0 : Int32) from (by rw [f11_0_2])).symm, rfl, e0⟩
def f11_1_0 (u0 : Int32) : Int32 := (0 : Int32)
abbrev Q11_1_0 (Z : State) (a1 : Addr) (a2 : Addr) (u0 : Int32) (h0 : Heap)  : Option Value → Heap → List Loc → Prop := (fun v h L => v = some (.int (f11_1_0 u0)) ∧ L = [] ∧ h = h0)
set_option maxRecDepth 65536 in
set_option maxHeartbeats 40000000 in
theorem rm11_1_0 (l : Launch) (Z : State) (a0 : Array Value) (hw : ∀ d ∈ tables_1, d.before a0 Z = true) (ws : List Jvm.Cond) (a1 : Addr) (a2 : Addr) (u0 : Int32) (h0 : Heap) (R0 : OA Z h0 a1 .byte [(.int u0)]) (R1 : OA Z h0 a2 .byte []) :
    OMet l Z (⟨"java/lang/StringLatin1", "equals", "([B[B)Z"⟩ : MethodName) jdk_43_method_13_code 3 (some .boolean) ws ({ frames := 0, cells := 0, slots := 0, locals := 0 } : Room) #[(.ref a1), (.ref a2)] h0 (Q11_1_0 Z a1 a2 u0 h0) := by
  refine own_enter pn_11 ?_
  intro p e s m below meth c s₁ hx hby hml0 hown hret hlk hnm hZ X0 e0
  have hml : c.maxLocals = 3 := hml0
  refine own_cast (ef_11 m a1 a2) ?_
  show OG p e ({ frames := 0, cells := 0, slots := 0, locals := 0 } : Room) s below (fun v h L => v = some (.int (f11_1_0 u0)) ∧ L = [] ∧ h = h0) s₁ (mkF m 0 #[.val (.ref a1), .val (.ref a2), .unset] [])
  refine own_st (fun t k => XS.aloadN X0.here hx rfl (hb hby d11_0) rfl rfl k) ?_
  show OG p e _ s below _ s₁ (mkF m 1 #[.val (.ref a1), .val (.ref a2), .unset] [(.ref a1)])
  obtain ⟨cl1, Ar1, hz1⟩ := R0.len
  refine own_st (fun t k => X0.arraylength hx (by rw [e0]; exact Ar1.1) (State.isArrayOf_alike hZ.alike Ar1.2.1) (g := (mkF m 1 #[.val (.ref a1), .val (.ref a2), .unset] [(.ref a1)])) rfl rfl (hb hby d11_1) t k) ?_
  rw [hz1]
  show OG p e _ s below _ s₁ (mkF m 2 #[.val (.ref a1), .val (.ref a2), .unset] [(.int (1 : Int32))])
  refine own_st (fun t k => XS.aloadN X0.here hx rfl (hb hby d11_2) rfl rfl k) ?_
  show OG p e _ s below _ s₁ (mkF m 3 #[.val (.ref a1), .val (.ref a2), .unset] [(.ref a2), (.int (1 : Int32))])
  obtain ⟨cl2, Ar2, hz2⟩ := R1.len
  refine own_st (fun t k => X0.arraylength hx (by rw [e0]; exact Ar2.1) (State.isArrayOf_alike hZ.alike Ar2.2.1) (g := (mkF m 3 #[.val (.ref a1), .val (.ref a2), .unset] [(.ref a2), (.int (1 : Int32))])) rfl rfl (hb hby d11_3) t k) ?_
  rw [hz2]
  show OG p e _ s below _ s₁ (mkF m 4 #[.val (.ref a1), .val (.ref a2), .unset] [(.int (0 : Int32)), (.int (1 : Int32))])
  refine own_st (fun t k => XS.icmpYes X0.here hx rfl (pc0 := 4) (pc' := 34) rfl (hb hby d11_4) rfl (by decide) (by decide) (by decide) k) ?_
  show OG p e _ s below _ s₁ (mkF m 34 #[.val (.ref a1), .val (.ref a2), .unset] [])
  refine own_st (fun t k => XS.iconst X0.here hx rfl (hb hby d11_34) k) ?_
  show OG p e _ s below _ s₁ (mkF m 35 #[.val (.ref a1), .val (.ref a2), .unset] [(.int (0 : Int32))])
  exact own_retZ X0 hx (t := .boolean) hret (by simp) hlk (hb hby d11_35) (by decide) (by decide) (w := (0 : Int32)) rfl ⟨congrArg (fun z => some (Value.int z)) (show f11_1_0 u0 = (0 : Int32) from (by rw [f11_1_0])).symm, rfl, e0⟩
theorem d11_15 : decode jdk_43_method_13_code 15 = .ok (.aload_n 0, 1) := by decide +kernel
theorem d11_16 : decode jdk_43_method_13_code 16 = .ok (.iload_n 2, 1) := by decide +kernel
theorem d11_17 : decode jdk_43_method_13_code 17 = .ok (.baload, 1) := by decide +kernel
theorem d11_18 : decode jdk_43_method_13_code 18 = .ok (.aload_n 1, 1) := by decide +kernel
theorem d11_19 : decode jdk_43_method_13_code 19 = .ok (.iload_n 2, 1) := by decide +kernel
theorem d11_20 : decode jdk_43_method_13_code 20 = .ok (.baload, 1) := by decide +kernel
theorem d11_21 : decode jdk_43_method_13_code 21 = .ok (.if_icmp .eq 5, 3) := by decide +kernel
theorem d11_24 : decode jdk_43_method_13_code 24 = .ok (.iconst 0, 1) := by decide +kernel
theorem d11_25 : decode jdk_43_method_13_code 25 = .ok (.ireturn, 1) := by decide +kernel
theorem d11_26 : decode jdk_43_method_13_code 26 = .ok (.iinc 2 1, 3) := by decide +kernel
theorem d11_29 : decode jdk_43_method_13_code 29 = .ok (.goto (-20), 3) := by decide +kernel
def f11_1_1 (u0 : Int32) (v0 : Int32) : Int32 := (if u0 = v0 then (1 : Int32) else (0 : Int32))
abbrev Q11_1_1 (Z : State) (a1 : Addr) (a2 : Addr) (u0 : Int32) (v0 : Int32) (h0 : Heap)  : Option Value → Heap → List Loc → Prop := (fun v h L => v = some (.int (f11_1_1 u0 v0)) ∧ L = [] ∧ h = h0)
set_option maxRecDepth 65536 in
set_option maxHeartbeats 40000000 in
theorem rm11_1_1 (l : Launch) (Z : State) (a0 : Array Value) (hw : ∀ d ∈ tables_1, d.before a0 Z = true) (ws : List Jvm.Cond) (a1 : Addr) (a2 : Addr) (u0 : Int32) (v0 : Int32) (h0 : Heap) (R0 : OA Z h0 a1 .byte [(.int u0)]) (R1 : OA Z h0 a2 .byte [(.int v0)]) :
    OMet l Z (⟨"java/lang/StringLatin1", "equals", "([B[B)Z"⟩ : MethodName) jdk_43_method_13_code 3 (some .boolean) ws ({ frames := 0, cells := 0, slots := 0, locals := 0 } : Room) #[(.ref a1), (.ref a2)] h0 (Q11_1_1 Z a1 a2 u0 v0 h0) := by
  refine own_enter pn_11 ?_
  intro p e s m below meth c s₁ hx hby hml0 hown hret hlk hnm hZ X0 e0
  have hml : c.maxLocals = 3 := hml0
  refine own_cast (ef_11 m a1 a2) ?_
  show OG p e ({ frames := 0, cells := 0, slots := 0, locals := 0 } : Room) s below (fun v h L => v = some (.int (f11_1_1 u0 v0)) ∧ L = [] ∧ h = h0) s₁ (mkF m 0 #[.val (.ref a1), .val (.ref a2), .unset] [])
  refine own_st (fun t k => XS.aloadN X0.here hx rfl (hb hby d11_0) rfl rfl k) ?_
  show OG p e _ s below _ s₁ (mkF m 1 #[.val (.ref a1), .val (.ref a2), .unset] [(.ref a1)])
  obtain ⟨cl1, Ar1, hz1⟩ := R0.len
  refine own_st (fun t k => X0.arraylength hx (by rw [e0]; exact Ar1.1) (State.isArrayOf_alike hZ.alike Ar1.2.1) (g := (mkF m 1 #[.val (.ref a1), .val (.ref a2), .unset] [(.ref a1)])) rfl rfl (hb hby d11_1) t k) ?_
  rw [hz1]
  show OG p e _ s below _ s₁ (mkF m 2 #[.val (.ref a1), .val (.ref a2), .unset] [(.int (1 : Int32))])
  refine own_st (fun t k => XS.aloadN X0.here hx rfl (hb hby d11_2) rfl rfl k) ?_
  show OG p e _ s below _ s₁ (mkF m 3 #[.val (.ref a1), .val (.ref a2), .unset] [(.ref a2), (.int (1 : Int32))])
  obtain ⟨cl2, Ar2, hz2⟩ := R1.len
  refine own_st (fun t k => X0.arraylength hx (by rw [e0]; exact Ar2.1) (State.isArrayOf_alike hZ.alike Ar2.2.1) (g := (mkF m 3 #[.val (.ref a1), .val (.ref a2), .unset] [(.ref a2), (.int (1 : Int32))])) rfl rfl (hb hby d11_3) t k) ?_
  rw [hz2]
  show OG p e _ s below _ s₁ (mkF m 4 #[.val (.ref a1), .val (.ref a2), .unset] [(.int (1 : Int32)), (.int (1 : Int32))])
  refine own_st (fun t k => XS.icmpNo X0.here hx rfl (hb hby d11_4) rfl (by decide) k) ?_
  show OG p e _ s below _ s₁ (mkF m 7 #[.val (.ref a1), .val (.ref a2), .unset] [])
  refine own_st (fun t k => XS.iconst X0.here hx rfl (hb hby d11_7) k) ?_
  show OG p e _ s below _ s₁ (mkF m 8 #[.val (.ref a1), .val (.ref a2), .unset] [(.int (0 : Int32))])
  refine own_st (fun t k => XS.istoreN X0.here hx rfl (hb hby d11_8) rfl (l' := #[.val (.ref a1), .val (.ref a2), .val (.int (0 : Int32))]) rfl k) ?_
  show OG p e _ s below _ s₁ (mkF m 9 #[.val (.ref a1), .val (.ref a2), .val (.int (0 : Int32))] [])
  refine own_st (fun t k => XS.iloadN X0.here hx rfl (hb hby d11_9) rfl k) ?_
  show OG p e _ s below _ s₁ (mkF m 10 #[.val (.ref a1), .val (.ref a2), .val (.int (0 : Int32))] [(.int (0 : Int32))])
  refine own_st (fun t k => XS.aloadN X0.here hx rfl (hb hby d11_10) rfl rfl k) ?_
  show OG p e _ s below _ s₁ (mkF m 11 #[.val (.ref a1), .val (.ref a2), .val (.int (0 : Int32))] [(.ref a1), (.int (0 : Int32))])
  obtain ⟨cl3, Ar3, hz3⟩ := R0.len
  refine own_st (fun t k => X0.arraylength hx (by rw [e0]; exact Ar3.1) (State.isArrayOf_alike hZ.alike Ar3.2.1) (g := (mkF m 11 #[.val (.ref a1), .val (.ref a2), .val (.int (0 : Int32))] [(.ref a1), (.int (0 : Int32))])) rfl rfl (hb hby d11_11) t k) ?_
  rw [hz3]
  show OG p e _ s below _ s₁ (mkF m 12 #[.val (.ref a1), .val (.ref a2), .val (.int (0 : Int32))] [(.int (1 : Int32)), (.int (0 : Int32))])
  refine own_st (fun t k => XS.icmpNo X0.here hx rfl (hb hby d11_12) rfl (by decide) k) ?_
  show OG p e _ s below _ s₁ (mkF m 15 #[.val (.ref a1), .val (.ref a2), .val (.int (0 : Int32))] [])
  refine own_st (fun t k => XS.aloadN X0.here hx rfl (hb hby d11_15) rfl rfl k) ?_
  show OG p e _ s below _ s₁ (mkF m 16 #[.val (.ref a1), .val (.ref a2), .val (.int (0 : Int32))] [(.ref a1)])
  refine own_st (fun t k => XS.iloadN X0.here hx rfl (hb hby d11_16) rfl k) ?_
  show OG p e _ s below _ s₁ (mkF m 17 #[.val (.ref a1), .val (.ref a2), .val (.int (0 : Int32))] [(.int (0 : Int32)), (.ref a1)])
  obtain ⟨cl4, Ar4, hi4, ha4⟩ := own_rd R0 (j := (0 : Int32)) (i := 0) (by decide) (by decide) (v := (.int u0)) rfl
  refine own_st (fun t k => X0.baloadBytes hx (j := (0 : Int32)) (v := (.int u0)) (by rw [e0]; exact Ar4.1) (State.isArrayOf_alike hZ.alike Ar4.2.1) Ar4.2.2 hi4 ha4 (g := (mkF m 17 #[.val (.ref a1), .val (.ref a2), .val (.int (0 : Int32))] [(.int (0 : Int32)), (.ref a1)])) rfl rfl (hb hby d11_17) t k) ?_
  show OG p e _ s below _ s₁ (mkF m 18 #[.val (.ref a1), .val (.ref a2), .val (.int (0 : Int32))] [(.int u0)])
  refine own_st (fun t k => XS.aloadN X0.here hx rfl (hb hby d11_18) rfl rfl k) ?_
  show OG p e _ s below _ s₁ (mkF m 19 #[.val (.ref a1), .val (.ref a2), .val (.int (0 : Int32))] [(.ref a2), (.int u0)])
  refine own_st (fun t k => XS.iloadN X0.here hx rfl (hb hby d11_19) rfl k) ?_
  show OG p e _ s below _ s₁ (mkF m 20 #[.val (.ref a1), .val (.ref a2), .val (.int (0 : Int32))] [(.int (0 : Int32)), (.ref a2), (.int u0)])
  obtain ⟨cl5, Ar5, hi5, ha5⟩ := own_rd R1 (j := (0 : Int32)) (i := 0) (by decide) (by decide) (v := (.int v0)) rfl
  refine own_st (fun t k => X0.baloadBytes hx (j := (0 : Int32)) (v := (.int v0)) (by rw [e0]; exact Ar5.1) (State.isArrayOf_alike hZ.alike Ar5.2.1) Ar5.2.2 hi5 ha5 (g := (mkF m 20 #[.val (.ref a1), .val (.ref a2), .val (.int (0 : Int32))] [(.int (0 : Int32)), (.ref a2), (.int u0)])) rfl rfl (hb hby d11_20) t k) ?_
  show OG p e _ s below _ s₁ (mkF m 21 #[.val (.ref a1), .val (.ref a2), .val (.int (0 : Int32))] [(.int v0), (.int u0)])
  by_cases c6 : u0 = v0
  · refine own_st (fun t k => XS.icmpYes X0.here hx rfl (pc0 := 21) (pc' := 26) rfl (hb hby d11_21) rfl (teq c6).1 (by decide) (by decide) k) ?_
    show OG p e _ s below _ s₁ (mkF m 26 #[.val (.ref a1), .val (.ref a2), .val (.int (0 : Int32))] [])
    refine own_st (fun t k => XS.iinc X0.here hx rfl (hb hby d11_26) rfl (l' := #[.val (.ref a1), .val (.ref a2), .val (.int ((0 : Int32) + (1 : Int32)))]) rfl k) ?_
    show OG p e _ s below _ s₁ (mkF m 29 #[.val (.ref a1), .val (.ref a2), .val (.int (1 : Int32))] [])
    refine own_st (fun t k => XS.goto X0.here hx rfl (pc0 := 29) (pc' := 9) rfl (hb hby d11_29) (by decide) (by decide) k) ?_
    show OG p e _ s below _ s₁ (mkF m 9 #[.val (.ref a1), .val (.ref a2), .val (.int (1 : Int32))] [])
    refine own_st (fun t k => XS.iloadN X0.here hx rfl (hb hby d11_9) rfl k) ?_
    show OG p e _ s below _ s₁ (mkF m 10 #[.val (.ref a1), .val (.ref a2), .val (.int (1 : Int32))] [(.int (1 : Int32))])
    refine own_st (fun t k => XS.aloadN X0.here hx rfl (hb hby d11_10) rfl rfl k) ?_
    show OG p e _ s below _ s₁ (mkF m 11 #[.val (.ref a1), .val (.ref a2), .val (.int (1 : Int32))] [(.ref a1), (.int (1 : Int32))])
    obtain ⟨cl7, Ar7, hz7⟩ := R0.len
    refine own_st (fun t k => X0.arraylength hx (by rw [e0]; exact Ar7.1) (State.isArrayOf_alike hZ.alike Ar7.2.1) (g := (mkF m 11 #[.val (.ref a1), .val (.ref a2), .val (.int (1 : Int32))] [(.ref a1), (.int (1 : Int32))])) rfl rfl (hb hby d11_11) t k) ?_
    rw [hz7]
    show OG p e _ s below _ s₁ (mkF m 12 #[.val (.ref a1), .val (.ref a2), .val (.int (1 : Int32))] [(.int (1 : Int32)), (.int (1 : Int32))])
    refine own_st (fun t k => XS.icmpYes X0.here hx rfl (pc0 := 12) (pc' := 32) rfl (hb hby d11_12) rfl (by decide) (by decide) (by decide) k) ?_
    show OG p e _ s below _ s₁ (mkF m 32 #[.val (.ref a1), .val (.ref a2), .val (.int (1 : Int32))] [])
    refine own_st (fun t k => XS.iconst X0.here hx rfl (hb hby d11_32) k) ?_
    show OG p e _ s below _ s₁ (mkF m 33 #[.val (.ref a1), .val (.ref a2), .val (.int (1 : Int32))] [(.int (1 : Int32))])
    exact own_retZ X0 hx (t := .boolean) hret (by simp) hlk (hb hby d11_33) (by decide) (by decide) (w := (1 : Int32)) rfl ⟨congrArg (fun z => some (Value.int z)) (show f11_1_1 u0 v0 = (1 : Int32) from (by rw [f11_1_1, if_pos c6])).symm, rfl, e0⟩
  · refine own_st (fun t k => XS.icmpNo X0.here hx rfl (hb hby d11_21) rfl (feq c6).1 k) ?_
    show OG p e _ s below _ s₁ (mkF m 24 #[.val (.ref a1), .val (.ref a2), .val (.int (0 : Int32))] [])
    refine own_st (fun t k => XS.iconst X0.here hx rfl (hb hby d11_24) k) ?_
    show OG p e _ s below _ s₁ (mkF m 25 #[.val (.ref a1), .val (.ref a2), .val (.int (0 : Int32))] [(.int (0 : Int32))])
    exact own_retZ X0 hx (t := .boolean) hret (by simp) hlk (hb hby d11_25) (by decide) (by decide) (w := (0 : Int32)) rfl ⟨congrArg (fun z => some (Value.int z)) (show f11_1_1 u0 v0 = (0 : Int32) from (by rw [f11_1_1, if_neg c6])).symm, rfl, e0⟩
def f11_1_2 (u0 : Int32) (v0 : Int32) (v1 : Int32) : Int32 := (0 : Int32)
abbrev Q11_1_2 (Z : State) (a1 : Addr) (a2 : Addr) (u0 : Int32) (v0 : Int32) (v1 : Int32) (h0 : Heap)  : Option Value → Heap → List Loc → Prop := (fun v h L => v = some (.int (f11_1_2 u0 v0 v1)) ∧ L = [] ∧ h = h0)
set_option maxRecDepth 65536 in
set_option maxHeartbeats 40000000 in
theorem rm11_1_2 (l : Launch) (Z : State) (a0 : Array Value) (hw : ∀ d ∈ tables_1, d.before a0 Z = true) (ws : List Jvm.Cond) (a1 : Addr) (a2 : Addr) (u0 : Int32) (v0 : Int32) (v1 : Int32) (h0 : Heap) (R0 : OA Z h0 a1 .byte [(.int u0)]) (R1 : OA Z h0 a2 .byte [(.int v0), (.int v1)]) :
    OMet l Z (⟨"java/lang/StringLatin1", "equals", "([B[B)Z"⟩ : MethodName) jdk_43_method_13_code 3 (some .boolean) ws ({ frames := 0, cells := 0, slots := 0, locals := 0 } : Room) #[(.ref a1), (.ref a2)] h0 (Q11_1_2 Z a1 a2 u0 v0 v1 h0) := by
  refine own_enter pn_11 ?_
  intro p e s m below meth c s₁ hx hby hml0 hown hret hlk hnm hZ X0 e0
  have hml : c.maxLocals = 3 := hml0
  refine own_cast (ef_11 m a1 a2) ?_
  show OG p e ({ frames := 0, cells := 0, slots := 0, locals := 0 } : Room) s below (fun v h L => v = some (.int (f11_1_2 u0 v0 v1)) ∧ L = [] ∧ h = h0) s₁ (mkF m 0 #[.val (.ref a1), .val (.ref a2), .unset] [])
  refine own_st (fun t k => XS.aloadN X0.here hx rfl (hb hby d11_0) rfl rfl k) ?_
  show OG p e _ s below _ s₁ (mkF m 1 #[.val (.ref a1), .val (.ref a2), .unset] [(.ref a1)])
  obtain ⟨cl1, Ar1, hz1⟩ := R0.len
  refine own_st (fun t k => X0.arraylength hx (by rw [e0]; exact Ar1.1) (State.isArrayOf_alike hZ.alike Ar1.2.1) (g := (mkF m 1 #[.val (.ref a1), .val (.ref a2), .unset] [(.ref a1)])) rfl rfl (hb hby d11_1) t k) ?_
  rw [hz1]
  show OG p e _ s below _ s₁ (mkF m 2 #[.val (.ref a1), .val (.ref a2), .unset] [(.int (1 : Int32))])
  refine own_st (fun t k => XS.aloadN X0.here hx rfl (hb hby d11_2) rfl rfl k) ?_
  show OG p e _ s below _ s₁ (mkF m 3 #[.val (.ref a1), .val (.ref a2), .unset] [(.ref a2), (.int (1 : Int32))])
  obtain ⟨cl2, Ar2, hz2⟩ := R1.len
  refine own_st (fun t k => X0.arraylength hx (by rw [e0]; exact Ar2.1) (State.isArrayOf_alike hZ.alike Ar2.2.1) (g := (mkF m 3 #[.val (.ref a1), .val (.ref a2), .unset] [(.ref a2), (.int (1 : Int32))])) rfl rfl (hb hby d11_3) t k) ?_
  rw [hz2]
  show OG p e _ s below _ s₁ (mkF m 4 #[.val (.ref a1), .val (.ref a2), .unset] [(.int (2 : Int32)), (.int (1 : Int32))])
  refine own_st (fun t k => XS.icmpYes X0.here hx rfl (pc0 := 4) (pc' := 34) rfl (hb hby d11_4) rfl (by decide) (by decide) (by decide) k) ?_
  show OG p e _ s below _ s₁ (mkF m 34 #[.val (.ref a1), .val (.ref a2), .unset] [])
  refine own_st (fun t k => XS.iconst X0.here hx rfl (hb hby d11_34) k) ?_
  show OG p e _ s below _ s₁ (mkF m 35 #[.val (.ref a1), .val (.ref a2), .unset] [(.int (0 : Int32))])
  exact own_retZ X0 hx (t := .boolean) hret (by simp) hlk (hb hby d11_35) (by decide) (by decide) (w := (0 : Int32)) rfl ⟨congrArg (fun z => some (Value.int z)) (show f11_1_2 u0 v0 v1 = (0 : Int32) from (by rw [f11_1_2])).symm, rfl, e0⟩
def f11_2_0 (u0 : Int32) (u1 : Int32) : Int32 := (0 : Int32)
abbrev Q11_2_0 (Z : State) (a1 : Addr) (a2 : Addr) (u0 : Int32) (u1 : Int32) (h0 : Heap)  : Option Value → Heap → List Loc → Prop := (fun v h L => v = some (.int (f11_2_0 u0 u1)) ∧ L = [] ∧ h = h0)
set_option maxRecDepth 65536 in
set_option maxHeartbeats 40000000 in
theorem rm11_2_0 (l : Launch) (Z : State) (a0 : Array Value) (hw : ∀ d ∈ tables_1, d.before a0 Z = true) (ws : List Jvm.Cond) (a1 : Addr) (a2 : Addr) (u0 : Int32) (u1 : Int32) (h0 : Heap) (R0 : OA Z h0 a1 .byte [(.int u0), (.int u1)]) (R1 : OA Z h0 a2 .byte []) :
    OMet l Z (⟨"java/lang/StringLatin1", "equals", "([B[B)Z"⟩ : MethodName) jdk_43_method_13_code 3 (some .boolean) ws ({ frames := 0, cells := 0, slots := 0, locals := 0 } : Room) #[(.ref a1), (.ref a2)] h0 (Q11_2_0 Z a1 a2 u0 u1 h0) := by
  refine own_enter pn_11 ?_
  intro p e s m below meth c s₁ hx hby hml0 hown hret hlk hnm hZ X0 e0
  have hml : c.maxLocals = 3 := hml0
  refine own_cast (ef_11 m a1 a2) ?_
  show OG p e ({ frames := 0, cells := 0, slots := 0, locals := 0 } : Room) s below (fun v h L => v = some (.int (f11_2_0 u0 u1)) ∧ L = [] ∧ h = h0) s₁ (mkF m 0 #[.val (.ref a1), .val (.ref a2), .unset] [])
  refine own_st (fun t k => XS.aloadN X0.here hx rfl (hb hby d11_0) rfl rfl k) ?_
  show OG p e _ s below _ s₁ (mkF m 1 #[.val (.ref a1), .val (.ref a2), .unset] [(.ref a1)])
  obtain ⟨cl1, Ar1, hz1⟩ := R0.len
  refine own_st (fun t k => X0.arraylength hx (by rw [e0]; exact Ar1.1) (State.isArrayOf_alike hZ.alike Ar1.2.1) (g := (mkF m 1 #[.val (.ref a1), .val (.ref a2), .unset] [(.ref a1)])) rfl rfl (hb hby d11_1) t k) ?_
  rw [hz1]
  show OG p e _ s below _ s₁ (mkF m 2 #[.val (.ref a1), .val (.ref a2), .unset] [(.int (2 : Int32))])
  refine own_st (fun t k => XS.aloadN X0.here hx rfl (hb hby d11_2) rfl rfl k) ?_
  show OG p e _ s below _ s₁ (mkF m 3 #[.val (.ref a1), .val (.ref a2), .unset] [(.ref a2), (.int (2 : Int32))])
  obtain ⟨cl2, Ar2, hz2⟩ := R1.len
  refine own_st (fun t k => X0.arraylength hx (by rw [e0]; exact Ar2.1) (State.isArrayOf_alike hZ.alike Ar2.2.1) (g := (mkF m 3 #[.val (.ref a1), .val (.ref a2), .unset] [(.ref a2), (.int (2 : Int32))])) rfl rfl (hb hby d11_3) t k) ?_
  rw [hz2]
  show OG p e _ s below _ s₁ (mkF m 4 #[.val (.ref a1), .val (.ref a2), .unset] [(.int (0 : Int32)), (.int (2 : Int32))])
  refine own_st (fun t k => XS.icmpYes X0.here hx rfl (pc0 := 4) (pc' := 34) rfl (hb hby d11_4) rfl (by decide) (by decide) (by decide) k) ?_
  show OG p e _ s below _ s₁ (mkF m 34 #[.val (.ref a1), .val (.ref a2), .unset] [])
  refine own_st (fun t k => XS.iconst X0.here hx rfl (hb hby d11_34) k) ?_
  show OG p e _ s below _ s₁ (mkF m 35 #[.val (.ref a1), .val (.ref a2), .unset] [(.int (0 : Int32))])
  exact own_retZ X0 hx (t := .boolean) hret (by simp) hlk (hb hby d11_35) (by decide) (by decide) (w := (0 : Int32)) rfl ⟨congrArg (fun z => some (Value.int z)) (show f11_2_0 u0 u1 = (0 : Int32) from (by rw [f11_2_0])).symm, rfl, e0⟩
def f11_2_1 (u0 : Int32) (u1 : Int32) (v0 : Int32) : Int32 := (0 : Int32)
abbrev Q11_2_1 (Z : State) (a1 : Addr) (a2 : Addr) (u0 : Int32) (u1 : Int32) (v0 : Int32) (h0 : Heap)  : Option Value → Heap → List Loc → Prop := (fun v h L => v = some (.int (f11_2_1 u0 u1 v0)) ∧ L = [] ∧ h = h0)
set_option maxRecDepth 65536 in
set_option maxHeartbeats 40000000 in
theorem rm11_2_1 (l : Launch) (Z : State) (a0 : Array Value) (hw : ∀ d ∈ tables_1, d.before a0 Z = true) (ws : List Jvm.Cond) (a1 : Addr) (a2 : Addr) (u0 : Int32) (u1 : Int32) (v0 : Int32) (h0 : Heap) (R0 : OA Z h0 a1 .byte [(.int u0), (.int u1)]) (R1 : OA Z h0 a2 .byte [(.int v0)]) :
    OMet l Z (⟨"java/lang/StringLatin1", "equals", "([B[B)Z"⟩ : MethodName) jdk_43_method_13_code 3 (some .boolean) ws ({ frames := 0, cells := 0, slots := 0, locals := 0 } : Room) #[(.ref a1), (.ref a2)] h0 (Q11_2_1 Z a1 a2 u0 u1 v0 h0) := by
  refine own_enter pn_11 ?_
  intro p e s m below meth c s₁ hx hby hml0 hown hret hlk hnm hZ X0 e0
  have hml : c.maxLocals = 3 := hml0
  refine own_cast (ef_11 m a1 a2) ?_
  show OG p e ({ frames := 0, cells := 0, slots := 0, locals := 0 } : Room) s below (fun v h L => v = some (.int (f11_2_1 u0 u1 v0)) ∧ L = [] ∧ h = h0) s₁ (mkF m 0 #[.val (.ref a1), .val (.ref a2), .unset] [])
  refine own_st (fun t k => XS.aloadN X0.here hx rfl (hb hby d11_0) rfl rfl k) ?_
  show OG p e _ s below _ s₁ (mkF m 1 #[.val (.ref a1), .val (.ref a2), .unset] [(.ref a1)])
  obtain ⟨cl1, Ar1, hz1⟩ := R0.len
  refine own_st (fun t k => X0.arraylength hx (by rw [e0]; exact Ar1.1) (State.isArrayOf_alike hZ.alike Ar1.2.1) (g := (mkF m 1 #[.val (.ref a1), .val (.ref a2), .unset] [(.ref a1)])) rfl rfl (hb hby d11_1) t k) ?_
  rw [hz1]
  show OG p e _ s below _ s₁ (mkF m 2 #[.val (.ref a1), .val (.ref a2), .unset] [(.int (2 : Int32))])
  refine own_st (fun t k => XS.aloadN X0.here hx rfl (hb hby d11_2) rfl rfl k) ?_
  show OG p e _ s below _ s₁ (mkF m 3 #[.val (.ref a1), .val (.ref a2), .unset] [(.ref a2), (.int (2 : Int32))])
  obtain ⟨cl2, Ar2, hz2⟩ := R1.len
  refine own_st (fun t k => X0.arraylength hx (by rw [e0]; exact Ar2.1) (State.isArrayOf_alike hZ.alike Ar2.2.1) (g := (mkF m 3 #[.val (.ref a1), .val (.ref a2), .unset] [(.ref a2), (.int (2 : Int32))])) rfl rfl (hb hby d11_3) t k) ?_
  rw [hz2]
  show OG p e _ s below _ s₁ (mkF m 4 #[.val (.ref a1), .val (.ref a2), .unset] [(.int (1 : Int32)), (.int (2 : Int32))])
  refine own_st (fun t k => XS.icmpYes X0.here hx rfl (pc0 := 4) (pc' := 34) rfl (hb hby d11_4) rfl (by decide) (by decide) (by decide) k) ?_
  show OG p e _ s below _ s₁ (mkF m 34 #[.val (.ref a1), .val (.ref a2), .unset] [])
  refine own_st (fun t k => XS.iconst X0.here hx rfl (hb hby d11_34) k) ?_
  show OG p e _ s below _ s₁ (mkF m 35 #[.val (.ref a1), .val (.ref a2), .unset] [(.int (0 : Int32))])
  exact own_retZ X0 hx (t := .boolean) hret (by simp) hlk (hb hby d11_35) (by decide) (by decide) (w := (0 : Int32)) rfl ⟨congrArg (fun z => some (Value.int z)) (show f11_2_1 u0 u1 v0 = (0 : Int32) from (by rw [f11_2_1])).symm, rfl, e0⟩
def f11_2_2 (u0 : Int32) (u1 : Int32) (v0 : Int32) (v1 : Int32) : Int32 := (if u0 = v0 then (if u1 = v1 then (1 : Int32) else (0 : Int32)) else (0 : Int32))
abbrev Q11_2_2 (Z : State) (a1 : Addr) (a2 : Addr) (u0 : Int32) (u1 : Int32) (v0 : Int32) (v1 : Int32) (h0 : Heap)  : Option Value → Heap → List Loc → Prop := (fun v h L => v = some (.int (f11_2_2 u0 u1 v0 v1)) ∧ L = [] ∧ h = h0)
set_option maxRecDepth 65536 in
set_option maxHeartbeats 40000000 in
theorem rm11_2_2 (l : Launch) (Z : State) (a0 : Array Value) (hw : ∀ d ∈ tables_1, d.before a0 Z = true) (ws : List Jvm.Cond) (a1 : Addr) (a2 : Addr) (u0 : Int32) (u1 : Int32) (v0 : Int32) (v1 : Int32) (h0 : Heap) (R0 : OA Z h0 a1 .byte [(.int u0), (.int u1)]) (R1 : OA Z h0 a2 .byte [(.int v0), (.int v1)]) :
    OMet l Z (⟨"java/lang/StringLatin1", "equals", "([B[B)Z"⟩ : MethodName) jdk_43_method_13_code 3 (some .boolean) ws ({ frames := 0, cells := 0, slots := 0, locals := 0 } : Room) #[(.ref a1), (.ref a2)] h0 (Q11_2_2 Z a1 a2 u0 u1 v0 v1 h0) := by
  refine own_enter pn_11 ?_
  intro p e s m below meth c s₁ hx hby hml0 hown hret hlk hnm hZ X0 e0
  have hml : c.maxLocals = 3 := hml0
  refine own_cast (ef_11 m a1 a2) ?_
  show OG p e ({ frames := 0, cells := 0, slots := 0, locals := 0 } : Room) s below (fun v h L => v = some (.int (f11_2_2 u0 u1 v0 v1)) ∧ L = [] ∧ h = h0) s₁ (mkF m 0 #[.val (.ref a1), .val (.ref a2), .unset] [])
  refine own_st (fun t k => XS.aloadN X0.here hx rfl (hb hby d11_0) rfl rfl k) ?_
  show OG p e _ s below _ s₁ (mkF m 1 #[.val (.ref a1), .val (.ref a2), .unset] [(.ref a1)])
  obtain ⟨cl1, Ar1, hz1⟩ := R0.len
  refine own_st (fun t k => X0.arraylength hx (by rw [e0]; exact Ar1.1) (State.isArrayOf_alike hZ.alike Ar1.2.1) (g := (mkF m 1 #[.val (.ref a1), .val (.ref a2), .unset] [(.ref a1)])) rfl rfl (hb hby d11_1) t k) ?_
  rw [hz1]
  show OG p e _ s below _ s₁ (mkF m 2 #[.val (.ref a1), .val (.ref a2), .unset] [(.int (2 : Int32))])
  refine own_st (fun t k => XS.aloadN X0.here hx rfl (hb hby d11_2) rfl rfl k) ?_
  show OG p e _ s below _ s₁ (mkF m 3 #[.val (.ref a1), .val (.ref a2), .unset] [(.ref a2), (.int (2 : Int32))])
  obtain ⟨cl2, Ar2, hz2⟩ := R1.len
  refine own_st (fun t k => X0.arraylength hx (by rw [e0]; exact Ar2.1) (State.isArrayOf_alike hZ.alike Ar2.2.1) (g := (mkF m 3 #[.val (.ref a1), .val (.ref a2), .unset] [(.ref a2), (.int (2 : Int32))])) rfl rfl (hb hby d11_3) t k) ?_
  rw [hz2]
  show OG p e _ s below _ s₁ (mkF m 4 #[.val (.ref a1), .val (.ref a2), .unset] [(.int (2 : Int32)), (.int (2 : Int32))])
  refine own_st (fun t k => XS.icmpNo X0.here hx rfl (hb hby d11_4) rfl (by decide) k) ?_
  show OG p e _ s below _ s₁ (mkF m 7 #[.val (.ref a1), .val (.ref a2), .unset] [])
  refine own_st (fun t k => XS.iconst X0.here hx rfl (hb hby d11_7) k) ?_
  show OG p e _ s below _ s₁ (mkF m 8 #[.val (.ref a1), .val (.ref a2), .unset] [(.int (0 : Int32))])
  refine own_st (fun t k => XS.istoreN X0.here hx rfl (hb hby d11_8) rfl (l' := #[.val (.ref a1), .val (.ref a2), .val (.int (0 : Int32))]) rfl k) ?_
  show OG p e _ s below _ s₁ (mkF m 9 #[.val (.ref a1), .val (.ref a2), .val (.int (0 : Int32))] [])
  refine own_st (fun t k => XS.iloadN X0.here hx rfl (hb hby d11_9) rfl k) ?_
  show OG p e _ s below _ s₁ (mkF m 10 #[.val (.ref a1), .val (.ref a2), .val (.int (0 : Int32))] [(.int (0 : Int32))])
  refine own_st (fun t k => XS.aloadN X0.here hx rfl (hb hby d11_10) rfl rfl k) ?_
  show OG p e _ s below _ s₁ (mkF m 11 #[.val (.ref a1), .val (.ref a2), .val (.int (0 : Int32))] [(.ref a1), (.int (0 : Int32))])
  obtain ⟨cl3, Ar3, hz3⟩ := R0.len
  refine own_st (fun t k => X0.arraylength hx (by rw [e0]; exact Ar3.1) (State.isArrayOf_alike hZ.alike Ar3.2.1) (g := (mkF m 11 #[.val (.ref a1), .val (.ref a2), .val (.int (0 : Int32))] [(.ref a1), (.int (0 : Int32))])) rfl rfl (hb hby d11_11) t k) ?_
  rw [hz3]
  show OG p e _ s below _ s₁ (mkF m 12 #[.val (.ref a1), .val (.ref a2), .val (.int (0 : Int32))] [(.int (2 : Int32)), (.int (0 : Int32))])
  refine own_st (fun t k => XS.icmpNo X0.here hx rfl (hb hby d11_12) rfl (by decide) k) ?_
  show OG p e _ s below _ s₁ (mkF m 15 #[.val (.ref a1), .val (.ref a2), .val (.int (0 : Int32))] [])
  refine own_st (fun t k => XS.aloadN X0.here hx rfl (hb hby d11_15) rfl rfl k) ?_
  show OG p e _ s below _ s₁ (mkF m 16 #[.val (.ref a1), .val (.ref a2), .val (.int (0 : Int32))] [(.ref a1)])
  refine own_st (fun t k => XS.iloadN X0.here hx rfl (hb hby d11_16) rfl k) ?_
  show OG p e _ s below _ s₁ (mkF m 17 #[.val (.ref a1), .val (.ref a2), .val (.int (0 : Int32))] [(.int (0 : Int32)), (.ref a1)])
  obtain ⟨cl4, Ar4, hi4, ha4⟩ := own_rd R0 (j := (0 : Int32)) (i := 0) (by decide) (by decide) (v := (.int u0)) rfl
  refine own_st (fun t k => X0.baloadBytes hx (j := (0 : Int32)) (v := (.int u0)) (by rw [e0]; exact Ar4.1) (State.isArrayOf_alike hZ.alike Ar4.2.1) Ar4.2.2 hi4 ha4 (g := (mkF m 17 #[.val (.ref a1), .val (.ref a2), .val (.int (0 : Int32))] [(.int (0 : Int32)), (.ref a1)])) rfl rfl (hb hby d11_17) t k) ?_
  show OG p e _ s below _ s₁ (mkF m 18 #[.val (.ref a1), .val (.ref a2), .val (.int (0 : Int32))] [(.int u0)])
  refine own_st (fun t k => XS.aloadN X0.here hx rfl (hb hby d11_18) rfl rfl k) ?_
  show OG p e _ s below _ s₁ (mkF m 19 #[.val (.ref a1), .val (.ref a2), .val (.int (0 : Int32))] [(.ref a2), (.int u0)])
  refine own_st (fun t k => XS.iloadN X0.here hx rfl (hb hby d11_19) rfl k) ?_
  show OG p e _ s below _ s₁ (mkF m 20 #[.val (.ref a1), .val (.ref a2), .val (.int (0 : Int32))] [(.int (0 : Int32)), (.ref a2), (.int u0)])
  obtain ⟨cl5, Ar5, hi5, ha5⟩ := own_rd R1 (j := (0 : Int32)) (i := 0) (by decide) (by decide) (v := (.int v0)) rfl
  refine own_st (fun t k => X0.baloadBytes hx (j := (0 : Int32)) (v := (.int v0)) (by rw [e0]; exact Ar5.1) (State.isArrayOf_alike hZ.alike Ar5.2.1) Ar5.2.2 hi5 ha5 (g := (mkF m 20 #[.val (.ref a1), .val (.ref a2), .val (.int (0 : Int32))] [(.int (0 : Int32)), (.ref a2), (.int u0)])) rfl rfl (hb hby d11_20) t k) ?_
  show OG p e _ s below _ s₁ (mkF m 21 #[.val (.ref a1), .val (.ref a2), .val (.int (0 : Int32))] [(.int v0), (.int u0)])
  by_cases c6 : u0 = v0
  · refine own_st (fun t k => XS.icmpYes X0.here hx rfl (pc0 := 21) (pc' := 26) rfl (hb hby d11_21) rfl (teq c6).1 (by decide) (by decide) k) ?_
    show OG p e _ s below _ s₁ (mkF m 26 #[.val (.ref a1), .val (.ref a2), .val (.int (0 : Int32))] [])
    refine own_st (fun t k => XS.iinc X0.here hx rfl (hb hby d11_26) rfl (l' := #[.val (.ref a1), .val (.ref a2), .val (.int ((0 : Int32) + (1 : Int32)))]) rfl k) ?_
    show OG p e _ s below _ s₁ (mkF m 29 #[.val (.ref a1), .val (.ref a2), .val (.int (1 : Int32))] [])
    refine own_st (fun t k => XS.goto X0.here hx rfl (pc0 := 29) (pc' := 9) rfl (hb hby d11_29) (by decide) (by decide) k) ?_
    show OG p e _ s below _ s₁ (mkF m 9 #[.val (.ref a1), .val (.ref a2), .val (.int (1 : Int32))] [])
    refine own_st (fun t k => XS.iloadN X0.here hx rfl (hb hby d11_9) rfl k) ?_
    show OG p e _ s below _ s₁ (mkF m 10 #[.val (.ref a1), .val (.ref a2), .val (.int (1 : Int32))] [(.int (1 : Int32))])
    refine own_st (fun t k => XS.aloadN X0.here hx rfl (hb hby d11_10) rfl rfl k) ?_
    show OG p e _ s below _ s₁ (mkF m 11 #[.val (.ref a1), .val (.ref a2), .val (.int (1 : Int32))] [(.ref a1), (.int (1 : Int32))])
    obtain ⟨cl7, Ar7, hz7⟩ := R0.len
    refine own_st (fun t k => X0.arraylength hx (by rw [e0]; exact Ar7.1) (State.isArrayOf_alike hZ.alike Ar7.2.1) (g := (mkF m 11 #[.val (.ref a1), .val (.ref a2), .val (.int (1 : Int32))] [(.ref a1), (.int (1 : Int32))])) rfl rfl (hb hby d11_11) t k) ?_
    rw [hz7]
    show OG p e _ s below _ s₁ (mkF m 12 #[.val (.ref a1), .val (.ref a2), .val (.int (1 : Int32))] [(.int (2 : Int32)), (.int (1 : Int32))])
    refine own_st (fun t k => XS.icmpNo X0.here hx rfl (hb hby d11_12) rfl (by decide) k) ?_
    show OG p e _ s below _ s₁ (mkF m 15 #[.val (.ref a1), .val (.ref a2), .val (.int (1 : Int32))] [])
    refine own_st (fun t k => XS.aloadN X0.here hx rfl (hb hby d11_15) rfl rfl k) ?_
    show OG p e _ s below _ s₁ (mkF m 16 #[.val (.ref a1), .val (.ref a2), .val (.int (1 : Int32))] [(.ref a1)])
    refine own_st (fun t k => XS.iloadN X0.here hx rfl (hb hby d11_16) rfl k) ?_
    show OG p e _ s below _ s₁ (mkF m 17 #[.val (.ref a1), .val (.ref a2), .val (.int (1 : Int32))] [(.int (1 : Int32)), (.ref a1)])
    obtain ⟨cl8, Ar8, hi8, ha8⟩ := own_rd R0 (j := (1 : Int32)) (i := 1) (by decide) (by decide) (v := (.int u1)) rfl
    refine own_st (fun t k => X0.baloadBytes hx (j := (1 : Int32)) (v := (.int u1)) (by rw [e0]; exact Ar8.1) (State.isArrayOf_alike hZ.alike Ar8.2.1) Ar8.2.2 hi8 ha8 (g := (mkF m 17 #[.val (.ref a1), .val (.ref a2), .val (.int (1 : Int32))] [(.int (1 : Int32)), (.ref a1)])) rfl rfl (hb hby d11_17) t k) ?_
    show OG p e _ s below _ s₁ (mkF m 18 #[.val (.ref a1), .val (.ref a2), .val (.int (1 : Int32))] [(.int u1)])
    refine own_st (fun t k => XS.aloadN X0.here hx rfl (hb hby d11_18) rfl rfl k) ?_
    show OG p e _ s below _ s₁ (mkF m 19 #[.val (.ref a1), .val (.ref a2), .val (.int (1 : Int32))] [(.ref a2), (.int u1)])
    refine own_st (fun t k => XS.iloadN X0.here hx rfl (hb hby d11_19) rfl k) ?_
    show OG p e _ s below _ s₁ (mkF m 20 #[.val (.ref a1), .val (.ref a2), .val (.int (1 : Int32))] [(.int (1 : Int32)), (.ref a2), (.int u1)])
    obtain ⟨cl9, Ar9, hi9, ha9⟩ := own_rd R1 (j := (1 : Int32)) (i := 1) (by decide) (by decide) (v := (.int v1)) rfl
    refine own_st (fun t k => X0.baloadBytes hx (j := (1 : Int32)) (v := (.int v1)) (by rw [e0]; exact Ar9.1) (State.isArrayOf_alike hZ.alike Ar9.2.1) Ar9.2.2 hi9 ha9 (g := (mkF m 20 #[.val (.ref a1), .val (.ref a2), .val (.int (1 : Int32))] [(.int (1 : Int32)), (.ref a2), (.int u1)])) rfl rfl (hb hby d11_20) t k) ?_
    show OG p e _ s below _ s₁ (mkF m 21 #[.val (.ref a1), .val (.ref a2), .val (.int (1 : Int32))] [(.int v1), (.int u1)])
    by_cases c10 : u1 = v1
    · refine own_st (fun t k => XS.icmpYes X0.here hx rfl (pc0 := 21) (pc' := 26) rfl (hb hby d11_21) rfl (teq c10).1 (by decide) (by decide) k) ?_
      show OG p e _ s below _ s₁ (mkF m 26 #[.val (.ref a1), .val (.ref a2), .val (.int (1 : Int32))] [])
      refine own_st (fun t k => XS.iinc X0.here hx rfl (hb hby d11_26) rfl (l' := #[.val (.ref a1), .val (.ref a2), .val (.int ((1 : Int32) + (1 : Int32)))]) rfl k) ?_
      show OG p e _ s below _ s₁ (mkF m 29 #[.val (.ref a1), .val (.ref a2), .val (.int (2 : Int32))] [])
      refine own_st (fun t k => XS.goto X0.here hx rfl (pc0 := 29) (pc' := 9) rfl (hb hby d11_29) (by decide) (by decide) k) ?_
      show OG p e _ s below _ s₁ (mkF m 9 #[.val (.ref a1), .val (.ref a2), .val (.int (2 : Int32))] [])
      refine own_st (fun t k => XS.iloadN X0.here hx rfl (hb hby d11_9) rfl k) ?_
      show OG p e _ s below _ s₁ (mkF m 10 #[.val (.ref a1), .val (.ref a2), .val (.int (2 : Int32))] [(.int (2 : Int32))])
      refine own_st (fun t k => XS.aloadN X0.here hx rfl (hb hby d11_10) rfl rfl k) ?_
      show OG p e _ s below _ s₁ (mkF m 11 #[.val (.ref a1), .val (.ref a2), .val (.int (2 : Int32))] [(.ref a1), (.int (2 : Int32))])
      obtain ⟨cl11, Ar11, hz11⟩ := R0.len
      refine own_st (fun t k => X0.arraylength hx (by rw [e0]; exact Ar11.1) (State.isArrayOf_alike hZ.alike Ar11.2.1) (g := (mkF m 11 #[.val (.ref a1), .val (.ref a2), .val (.int (2 : Int32))] [(.ref a1), (.int (2 : Int32))])) rfl rfl (hb hby d11_11) t k) ?_
      rw [hz11]
      show OG p e _ s below _ s₁ (mkF m 12 #[.val (.ref a1), .val (.ref a2), .val (.int (2 : Int32))] [(.int (2 : Int32)), (.int (2 : Int32))])
      refine own_st (fun t k => XS.icmpYes X0.here hx rfl (pc0 := 12) (pc' := 32) rfl (hb hby d11_12) rfl (by decide) (by decide) (by decide) k) ?_
      show OG p e _ s below _ s₁ (mkF m 32 #[.val (.ref a1), .val (.ref a2), .val (.int (2 : Int32))] [])
      refine own_st (fun t k => XS.iconst X0.here hx rfl (hb hby d11_32) k) ?_
      show OG p e _ s below _ s₁ (mkF m 33 #[.val (.ref a1), .val (.ref a2), .val (.int (2 : Int32))] [(.int (1 : Int32))])
      exact own_retZ X0 hx (t := .boolean) hret (by simp) hlk (hb hby d11_33) (by decide) (by decide) (w := (1 : Int32)) rfl ⟨congrArg (fun z => some (Value.int z)) (show f11_2_2 u0 u1 v0 v1 = (1 : Int32) from (by rw [f11_2_2, if_pos c6, if_pos c10])).symm, rfl, e0⟩
    · refine own_st (fun t k => XS.icmpNo X0.here hx rfl (hb hby d11_21) rfl (feq c10).1 k) ?_
      show OG p e _ s below _ s₁ (mkF m 24 #[.val (.ref a1), .val (.ref a2), .val (.int (1 : Int32))] [])
      refine own_st (fun t k => XS.iconst X0.here hx rfl (hb hby d11_24) k) ?_
      show OG p e _ s below _ s₁ (mkF m 25 #[.val (.ref a1), .val (.ref a2), .val (.int (1 : Int32))] [(.int (0 : Int32))])
      exact own_retZ X0 hx (t := .boolean) hret (by simp) hlk (hb hby d11_25) (by decide) (by decide) (w := (0 : Int32)) rfl ⟨congrArg (fun z => some (Value.int z)) (show f11_2_2 u0 u1 v0 v1 = (0 : Int32) from (by rw [f11_2_2, if_pos c6, if_neg c10])).symm, rfl, e0⟩
  · refine own_st (fun t k => XS.icmpNo X0.here hx rfl (hb hby d11_21) rfl (feq c6).1 k) ?_
    show OG p e _ s below _ s₁ (mkF m 24 #[.val (.ref a1), .val (.ref a2), .val (.int (0 : Int32))] [])
    refine own_st (fun t k => XS.iconst X0.here hx rfl (hb hby d11_24) k) ?_
    show OG p e _ s below _ s₁ (mkF m 25 #[.val (.ref a1), .val (.ref a2), .val (.int (0 : Int32))] [(.int (0 : Int32))])
    exact own_retZ X0 hx (t := .boolean) hret (by simp) hlk (hb hby d11_25) (by decide) (by decide) (w := (0 : Int32)) rfl ⟨congrArg (fun z => some (Value.int z)) (show f11_2_2 u0 u1 v0 v1 = (0 : Int32) from (by rw [f11_2_2, if_neg c6])).symm, rfl, e0⟩
def own_eqb (l1 l2 : List Int32) : Int32 := if l1 = l2 then 1 else 0
abbrev Q11 (Z : State) (a1 a2 : Addr) (l1 l2 : List Int32) (h0 : Heap) : Option Value → Heap → List Loc → Prop := fun v h L => v = some (.int (own_eqb l1 l2)) ∧ L = [] ∧ h = h0
theorem rm11 (l : Launch) (Z : State) (a0 : Array Value) (hw : ∀ d ∈ tables_1, d.before a0 Z = true) (ws : List Jvm.Cond) (a1 a2 : Addr) (l1 l2 : List Int32) (h0 : Heap) (R0 : OA Z h0 a1 .byte (l1.map Value.int)) (R1 : OA Z h0 a2 .byte (l2.map Value.int)) (hl1 : l1.length ≤ 2) (hl2 : l2.length ≤ 2) :
    OMet l Z (⟨"java/lang/StringLatin1", "equals", "([B[B)Z"⟩ : MethodName) jdk_43_method_13_code 3 (some .boolean) ws ({ frames := 0, cells := 0, slots := 0, locals := 0 } : Room) #[(.ref a1), (.ref a2)] h0 (Q11 Z a1 a2 l1 l2 h0) :=
  match l1, l2, R0, R1, hl1, hl2 with
  | [], [], R0, R1, _, _ => by
    have e : own_eqb [] [] = f11_0_0 := by simp [own_eqb, f11_0_0]
    show OMet l Z _ _ _ _ ws _ _ h0 (fun v h L => v = some (.int (own_eqb [] [])) ∧ L = [] ∧ h = h0)
    rw [e]
    exact rm11_0_0 l Z a0 hw ws a1 a2   h0 R0 R1
  | [], [v0], R0, R1, _, _ => by
    have e : own_eqb [] [v0] = f11_0_1  v0 := by simp [own_eqb, f11_0_1]
    show OMet l Z _ _ _ _ ws _ _ h0 (fun v h L => v = some (.int (own_eqb [] [v0])) ∧ L = [] ∧ h = h0)
    rw [e]
    exact rm11_0_1 l Z a0 hw ws a1 a2  v0 h0 R0 R1
  | [], [v0, v1], R0, R1, _, _ => by
    have e : own_eqb [] [v0, v1] = f11_0_2  v0 v1 := by simp [own_eqb, f11_0_2]
    show OMet l Z _ _ _ _ ws _ _ h0 (fun v h L => v = some (.int (own_eqb [] [v0, v1])) ∧ L = [] ∧ h = h0)
    rw [e]
    exact rm11_0_2 l Z a0 hw ws a1 a2  v0 v1 h0 R0 R1
  | [u0], [], R0, R1, _, _ => by
    have e : own_eqb [u0] [] = f11_1_0 u0 := by simp [own_eqb, f11_1_0]
    show OMet l Z _ _ _ _ ws _ _ h0 (fun v h L => v = some (.int (own_eqb [u0] [])) ∧ L = [] ∧ h = h0)
    rw [e]
    exact rm11_1_0 l Z a0 hw ws a1 a2 u0  h0 R0 R1
  | [u0], [v0], R0, R1, _, _ => by
    have e : own_eqb [u0] [v0] = f11_1_1 u0 v0 := by simp [own_eqb, f11_1_1]
    show OMet l Z _ _ _ _ ws _ _ h0 (fun v h L => v = some (.int (own_eqb [u0] [v0])) ∧ L = [] ∧ h = h0)
    rw [e]
    exact rm11_1_1 l Z a0 hw ws a1 a2 u0 v0 h0 R0 R1
  | [u0], [v0, v1], R0, R1, _, _ => by
    have e : own_eqb [u0] [v0, v1] = f11_1_2 u0 v0 v1 := by simp [own_eqb, f11_1_2]
    show OMet l Z _ _ _ _ ws _ _ h0 (fun v h L => v = some (.int (own_eqb [u0] [v0, v1])) ∧ L = [] ∧ h = h0)
    rw [e]
    exact rm11_1_2 l Z a0 hw ws a1 a2 u0 v0 v1 h0 R0 R1
  | [u0, u1], [], R0, R1, _, _ => by
    have e : own_eqb [u0, u1] [] = f11_2_0 u0 u1 := by simp [own_eqb, f11_2_0]
    show OMet l Z _ _ _ _ ws _ _ h0 (fun v h L => v = some (.int (own_eqb [u0, u1] [])) ∧ L = [] ∧ h = h0)
    rw [e]
    exact rm11_2_0 l Z a0 hw ws a1 a2 u0 u1  h0 R0 R1
  | [u0, u1], [v0], R0, R1, _, _ => by
    have e : own_eqb [u0, u1] [v0] = f11_2_1 u0 u1 v0 := by simp [own_eqb, f11_2_1]
    show OMet l Z _ _ _ _ ws _ _ h0 (fun v h L => v = some (.int (own_eqb [u0, u1] [v0])) ∧ L = [] ∧ h = h0)
    rw [e]
    exact rm11_2_1 l Z a0 hw ws a1 a2 u0 u1 v0 h0 R0 R1
  | [u0, u1], [v0, v1], R0, R1, _, _ => by
    have e : own_eqb [u0, u1] [v0, v1] = f11_2_2 u0 u1 v0 v1 := by simp [own_eqb, f11_2_2]; (repeat' split) <;> simp_all
    show OMet l Z _ _ _ _ ws _ _ h0 (fun v h L => v = some (.int (own_eqb [u0, u1] [v0, v1])) ∧ L = [] ∧ h = h0)
    rw [e]
    exact rm11_2_2 l Z a0 hw ws a1 a2 u0 u1 v0 v1 h0 R0 R1
  | _ :: _ :: _ :: _, _, _, _, h, _ => absurd h (by simp)
  | [], _ :: _ :: _ :: _, _, _, _, h => absurd h (by simp)
  | [_], _ :: _ :: _ :: _, _, _, _, h => absurd h (by simp)
  | [_, _], _ :: _ :: _ :: _, _, _, _, h => absurd h (by simp)
theorem d10_0 : decode jdk_42_method_66_code 0 = .ok (.aload_n 0, 1) := by decide +kernel
theorem d10_1 : decode jdk_42_method_66_code 1 = .ok (.aload_n 1, 1) := by decide +kernel
theorem d10_2 : decode jdk_42_method_66_code 2 = .ok (.if_acmp .ne 5, 3) := by decide +kernel
theorem d10_7 : decode jdk_42_method_66_code 7 = .ok (.aload_n 1, 1) := by decide +kernel
theorem d10_8 : decode jdk_42_method_66_code 8 = .ok (.instanceof 10, 3) := by decide +kernel
theorem d10_11 : decode jdk_42_method_66_code 11 = .ok (.ifCond .eq 43, 3) := by decide +kernel
theorem d10_14 : decode jdk_42_method_66_code 14 = .ok (.aload_n 1, 1) := by decide +kernel
theorem d10_15 : decode jdk_42_method_66_code 15 = .ok (.checkcast 10, 3) := by decide +kernel
theorem d10_18 : decode jdk_42_method_66_code 18 = .ok (.astore_n 2, 1) := by decide +kernel
theorem d10_19 : decode jdk_42_method_66_code 19 = .ok (.getstatic 38, 3) := by decide +kernel
theorem d10_22 : decode jdk_42_method_66_code 22 = .ok (.ifCond .eq 14, 3) := by decide +kernel
theorem d10_25 : decode jdk_42_method_66_code 25 = .ok (.aload_n 0, 1) := by decide +kernel
theorem d10_26 : decode jdk_42_method_66_code 26 = .ok (.getfield 15, 3) := by decide +kernel
theorem d10_29 : decode jdk_42_method_66_code 29 = .ok (.aload_n 2, 1) := by decide +kernel
theorem d10_30 : decode jdk_42_method_66_code 30 = .ok (.getfield 15, 3) := by decide +kernel
theorem d10_33 : decode jdk_42_method_66_code 33 = .ok (.if_icmp .ne 21, 3) := by decide +kernel
theorem d10_36 : decode jdk_42_method_66_code 36 = .ok (.aload_n 0, 1) := by decide +kernel
theorem d10_37 : decode jdk_42_method_66_code 37 = .ok (.getfield 9, 3) := by decide +kernel
theorem d10_40 : decode jdk_42_method_66_code 40 = .ok (.aload_n 2, 1) := by decide +kernel
theorem d10_41 : decode jdk_42_method_66_code 41 = .ok (.getfield 9, 3) := by decide +kernel
theorem d10_44 : decode jdk_42_method_66_code 44 = .ok (.invokestatic 541, 3) := by decide +kernel
theorem d10_47 : decode jdk_42_method_66_code 47 = .ok (.ifCond .eq 7, 3) := by decide +kernel
theorem d10_50 : decode jdk_42_method_66_code 50 = .ok (.iconst 1, 1) := by decide +kernel
theorem d10_51 : decode jdk_42_method_66_code 51 = .ok (.goto 4, 3) := by decide +kernel
theorem d10_54 : decode jdk_42_method_66_code 54 = .ok (.iconst 0, 1) := by decide +kernel
theorem d10_55 : decode jdk_42_method_66_code 55 = .ok (.ireturn, 1) := by decide +kernel
theorem pd___B_B_Z : parseMethodDescriptor "([B[B)Z" = some ⟨[(.array .byte), (.array .byte)], some .boolean⟩ := by decide +kernel
theorem pn_10 : plainFor (⟨"java/lang/String", "equals", "(Ljava/lang/Object;)Z"⟩ : MethodName) = true := by first | exact plainFor_of_name (by first | (simp [plainName, overriddenIn]; done) | decide +kernel) | decide +kernel
def f10 (l1 : List Int32) (l2 : List Int32) (w : Int32) : Int32 := (if (own_eqb l1 l2) = (0 : Int32) then (0 : Int32) else (1 : Int32))
theorem ef_10 (m : MethodId) (a1 : Addr) (a2 : Addr) : entryFrame m #[(.ref a1), (.ref a2)] 3 = (mkF m 0 #[.val (.ref a1), .val (.ref a2), .unset] []) := by first | (simp [entryFrame, mkF, argsToLocals, Value.category]; done) | rfl
abbrev Q10 (Z : State) (a1 : Addr) (a2 : Addr) (b1 : Addr) (b2 : Addr) (l1 : List Int32) (l2 : List Int32) (w : Int32) (h0 : Heap)  : Option Value → Heap → List Loc → Prop := (fun v h L => v = some (.int (f10 l1 l2 w)) ∧ L = [] ∧ h = h0)
set_option maxRecDepth 65536 in
set_option maxHeartbeats 40000000 in
theorem rm10 (l : Launch) (Z : State) (a0 : Array Value) (hw : ∀ d ∈ tables_1, d.before a0 Z = true) (ws : List Jvm.Cond) (a1 : Addr) (a2 : Addr) (b1 : Addr) (b2 : Addr) (l1 : List Int32) (l2 : List Int32) (w : Int32) (h0 : Heap) (R0 : Exa Z h0 a1 "java/lang/String") (R1 : Fld Z h0 a1 "java/lang/String" "value" "[B" (.ref b1)) (R2 : Fld Z h0 a1 "java/lang/String" "coder" "B" (.int (0 : Int32))) (R3 : OA Z h0 b1 .byte (l1.map Value.int)) (R4 : Exa Z h0 a2 "java/lang/String") (R5 : Fld Z h0 a2 "java/lang/String" "value" "[B" (.ref b2)) (R6 : Fld Z h0 a2 "java/lang/String" "coder" "B" (.int (0 : Int32))) (R7 : OA Z h0 b2 .byte (l2.map Value.int)) (R8 : Sta Z h0 "java/lang/String" "COMPACT_STRINGS" "Z" (.int w)) (ne_a1_a2 : a1 ≠ a2) (hl1 : l1.length ≤ 2) (hl2 : l2.length ≤ 2) (hw0 : ¬ w = (0 : Int32)) :
    OMet l Z (⟨"java/lang/String", "equals", "(Ljava/lang/Object;)Z"⟩ : MethodName) jdk_42_method_66_code 3 (some .boolean) ws ({ frames := 1, cells := 0, slots := 0, locals := 14 } : Room) #[(.ref a1), (.ref a2)] h0 (Q10 Z a1 a2 b1 b2 l1 l2 w h0) := by
  refine own_enter pn_10 ?_
  intro p e s m below meth c s₁ hx hby hml0 hown hret hlk hnm hZ X0 e0
  have hml : c.maxLocals = 3 := hml0
  refine own_cast (ef_10 m a1 a2) ?_
  show OG p e ({ frames := 1, cells := 0, slots := 0, locals := 14 } : Room) s below (fun v h L => v = some (.int (f10 l1 l2 w)) ∧ L = [] ∧ h = h0) s₁ (mkF m 0 #[.val (.ref a1), .val (.ref a2), .unset] [])
  refine own_st (fun t k => XS.aloadN X0.here hx rfl (hb hby d10_0) rfl rfl k) ?_
  show OG p e _ s below _ s₁ (mkF m 1 #[.val (.ref a1), .val (.ref a2), .unset] [(.ref a1)])
  refine own_st (fun t k => XS.aloadN X0.here hx rfl (hb hby d10_1) rfl rfl k) ?_
  show OG p e _ s below _ s₁ (mkF m 2 #[.val (.ref a1), .val (.ref a2), .unset] [(.ref a2), (.ref a1)])
  refine own_st (fun t k => XS.acmpYes X0.here hx rfl (pc0 := 2) (pc' := 7) rfl (hb hby d10_2) rfl (own_acN ne_a1_a2).1 (by decide) (by decide) k) ?_
  show OG p e _ s below _ s₁ (mkF m 7 #[.val (.ref a1), .val (.ref a2), .unset] [])
  refine own_st (fun t k => XS.aloadN X0.here hx rfl (hb hby d10_7) rfl rfl k) ?_
  show OG p e _ s below _ s₁ (mkF m 8 #[.val (.ref a1), .val (.ref a2), .unset] [(.ref a2)])
  obtain ⟨T1, X1, e1, st1⟩ := instY X0 hx hZ hown (hw _ (List.mem_of_getElem? (i := 60) rfl)) e0 (Ins.self R4) (g := (mkF m 8 #[.val (.ref a1), .val (.ref a2), .unset] [(.ref a2)])) rfl rfl (hb hby d10_8)
  refine own_st st1 ?_
  show OG p e _ s below _ T1 (mkF m 11 #[.val (.ref a1), .val (.ref a2), .unset] [(.int (1 : Int32))])
  refine own_st (fun t k => XS.ifNo X1.here hx rfl (hb hby d10_11) rfl (by decide) k) ?_
  show OG p e _ s below _ T1 (mkF m 14 #[.val (.ref a1), .val (.ref a2), .unset] [])
  refine own_st (fun t k => XS.aloadN X1.here hx rfl (hb hby d10_14) rfl rfl k) ?_
  show OG p e _ s below _ T1 (mkF m 15 #[.val (.ref a1), .val (.ref a2), .unset] [(.ref a2)])
  obtain ⟨T2, X2, e2, st2⟩ := castY X1 hx hZ hown (hw _ (List.mem_of_getElem? (i := 60) rfl)) e1 (Ins.self R4) (g := (mkF m 15 #[.val (.ref a1), .val (.ref a2), .unset] [(.ref a2)])) rfl rfl (hb hby d10_15)
  refine own_st st2 ?_
  show OG p e _ s below _ T2 (mkF m 18 #[.val (.ref a1), .val (.ref a2), .unset] [(.ref a2)])
  refine own_st (fun t k => XS.astoreN X2.here hx rfl (hb hby d10_18) rfl rfl (l' := #[.val (.ref a1), .val (.ref a2), .val (.ref a2)]) rfl k) ?_
  show OG p e _ s below _ T2 (mkF m 19 #[.val (.ref a1), .val (.ref a2), .val (.ref a2)] [])
  obtain ⟨T3, X3, e3, st3⟩ := getS X2 hx hZ (host := "") hown (hw _ (List.mem_of_getElem? (i := 61) rfl)) Via.refl e2 R8 (g := (mkF m 19 #[.val (.ref a1), .val (.ref a2), .val (.ref a2)] [])) rfl (hb hby d10_19)
  refine own_st st3 ?_
  show OG p e _ s below _ T3 (mkF m 22 #[.val (.ref a1), .val (.ref a2), .val (.ref a2)] [(.int w)])
  refine own_st (fun t k => XS.ifNo X3.here hx rfl (hb hby d10_22) rfl (own_if0 (feq hw0).1) k) ?_
  show OG p e _ s below _ T3 (mkF m 25 #[.val (.ref a1), .val (.ref a2), .val (.ref a2)] [])
  refine own_st (fun t k => XS.aloadN X3.here hx rfl (hb hby d10_25) rfl rfl k) ?_
  show OG p e _ s below _ T3 (mkF m 26 #[.val (.ref a1), .val (.ref a2), .val (.ref a2)] [(.ref a1)])
  obtain ⟨T4, X4, e4, st4⟩ := getF X3 hx hZ hown (host := "") (Or.inl (hw _ (List.mem_of_getElem? (i := 28) rfl))) Via.refl e3 R2 (g := (mkF m 26 #[.val (.ref a1), .val (.ref a2), .val (.ref a2)] [(.ref a1)])) rfl rfl (hb hby d10_26)
  refine own_st st4 ?_
  show OG p e _ s below _ T4 (mkF m 29 #[.val (.ref a1), .val (.ref a2), .val (.ref a2)] [(.int (0 : Int32))])
  refine own_st (fun t k => XS.aloadN X4.here hx rfl (hb hby d10_29) rfl rfl k) ?_
  show OG p e _ s below _ T4 (mkF m 30 #[.val (.ref a1), .val (.ref a2), .val (.ref a2)] [(.ref a2), (.int (0 : Int32))])
  obtain ⟨T5, X5, e5, st5⟩ := getF X4 hx hZ hown (host := "") (Or.inl (hw _ (List.mem_of_getElem? (i := 28) rfl))) Via.refl e4 R6 (g := (mkF m 30 #[.val (.ref a1), .val (.ref a2), .val (.ref a2)] [(.ref a2), (.int (0 : Int32))])) rfl rfl (hb hby d10_30)
  refine own_st st5 ?_
  show OG p e _ s below _ T5 (mkF m 33 #[.val (.ref a1), .val (.ref a2), .val (.ref a2)] [(.int (0 : Int32)), (.int (0 : Int32))])
  refine own_st (fun t k => XS.icmpNo X5.here hx rfl (hb hby d10_33) rfl (by decide) k) ?_
  show OG p e _ s below _ T5 (mkF m 36 #[.val (.ref a1), .val (.ref a2), .val (.ref a2)] [])
  refine own_st (fun t k => XS.aloadN X5.here hx rfl (hb hby d10_36) rfl rfl k) ?_
  show OG p e _ s below _ T5 (mkF m 37 #[.val (.ref a1), .val (.ref a2), .val (.ref a2)] [(.ref a1)])
  obtain ⟨T6, X6, e6, st6⟩ := getF X5 hx hZ hown (host := "") (Or.inl (hw _ (List.mem_of_getElem? (i := 27) rfl))) Via.refl e5 R1 (g := (mkF m 37 #[.val (.ref a1), .val (.ref a2), .val (.ref a2)] [(.ref a1)])) rfl rfl (hb hby d10_37)
  refine own_st st6 ?_
  show OG p e _ s below _ T6 (mkF m 40 #[.val (.ref a1), .val (.ref a2), .val (.ref a2)] [(.ref b1)])
  refine own_st (fun t k => XS.aloadN X6.here hx rfl (hb hby d10_40) rfl rfl k) ?_
  show OG p e _ s below _ T6 (mkF m 41 #[.val (.ref a1), .val (.ref a2), .val (.ref a2)] [(.ref a2), (.ref b1)])
  obtain ⟨T7, X7, e7, st7⟩ := getF X6 hx hZ hown (host := "") (Or.inl (hw _ (List.mem_of_getElem? (i := 27) rfl))) Via.refl e6 R5 (g := (mkF m 41 #[.val (.ref a1), .val (.ref a2), .val (.ref a2)] [(.ref a2), (.ref b1)])) rfl rfl (hb hby d10_41)
  refine own_st st7 ?_
  show OG p e _ s below _ T7 (mkF m 44 #[.val (.ref a1), .val (.ref a2), .val (.ref a2)] [(.ref b2), (.ref b1)])
  obtain ⟨_, _, ⟨T8, L8, k8, n8⟩, -, X8, ⟨Lc8, hQ8, l8, y8, z8⟩, st8⟩ := Jvm.LawKit.callS X7 hx (y := (⟨"java/lang/StringLatin1", "equals", "([B[B)Z"⟩ : MethodName)) hown (mvT hZ (hw _ (List.mem_of_getElem? (i := 62) rfl))) (mvT hZ (hw _ (List.mem_of_getElem? (i := 63) rfl))) (mvT hZ (hw _ (List.mem_of_getElem? (i := 64) rfl))) (mvT hZ (hw _ (List.mem_of_getElem? (i := 65) rfl))) (by decide) (backOf (W := 0) (rm := ({ frames := 0, cells := 0, slots := 0, locals := 0 } : Room)) (rm11 l Z a0 hw [] b1 b2 l1 l2 h0 R3 R7 hl1 hl2) hZ (hw _ (List.mem_of_getElem? (i := 65) rfl)) (hw _ (List.mem_of_getElem? (i := 64) rfl)) (by decide) (by decide)) (g := (mkF m 44 #[.val (.ref a1), .val (.ref a2), .val (.ref a2)] [(.ref b2), (.ref b1)])) rfl (by rw [hml]; rfl) (argsL := [(.ref b1), (.ref b2)]) (rest := []) (lenOf pd___B_B_Z rfl) rfl (by show 2 * 0 + _ ≤ _; exact Nat.le_of_eq rfl) (hb hby d10_44) (fun _ _ => ⟨rfl, e7, (by decide : 0 + 0 ≤ _), (by decide : 0 + 0 ≤ _)⟩)
  dsimp only [Pt.U, Pt.locs, Pt.cells, Pt.slots] at X8 l8 y8 z8 st8 hQ8
  subst l8 y8 z8
  obtain ⟨rfl, rfl, e8⟩ := hQ8
  refine own_st st8 ?_
  show OG p e _ s below _ T8 (mkF m 47 #[.val (.ref a1), .val (.ref a2), .val (.ref a2)] [(.int (own_eqb l1 l2))])
  by_cases c9 : (own_eqb l1 l2) = (0 : Int32)
  · refine own_st (fun t k => XS.ifYes X8.here hx rfl (pc0 := 47) (pc' := 54) rfl (hb hby d10_47) rfl (own_if0 (teq c9).1) (by decide) (by decide) k) ?_
    show OG p e _ s below _ T8 (mkF m 54 #[.val (.ref a1), .val (.ref a2), .val (.ref a2)] [])
    refine own_st (fun t k => XS.iconst X8.here hx rfl (hb hby d10_54) k) ?_
    show OG p e _ s below _ T8 (mkF m 55 #[.val (.ref a1), .val (.ref a2), .val (.ref a2)] [(.int (0 : Int32))])
    exact own_retZ X8 hx (t := .boolean) hret (by simp) hlk (hb hby d10_55) (by decide) (by decide) (w := (0 : Int32)) rfl ⟨congrArg (fun z => some (Value.int z)) (show f10 l1 l2 w = (0 : Int32) from (by rw [f10, if_pos c9])).symm, rfl, e8⟩
  · refine own_st (fun t k => XS.ifNo X8.here hx rfl (hb hby d10_47) rfl (own_if0 (feq c9).1) k) ?_
    show OG p e _ s below _ T8 (mkF m 50 #[.val (.ref a1), .val (.ref a2), .val (.ref a2)] [])
    refine own_st (fun t k => XS.iconst X8.here hx rfl (hb hby d10_50) k) ?_
    show OG p e _ s below _ T8 (mkF m 51 #[.val (.ref a1), .val (.ref a2), .val (.ref a2)] [(.int (1 : Int32))])
    refine own_st (fun t k => XS.goto X8.here hx rfl (pc0 := 51) (pc' := 55) rfl (hb hby d10_51) (by decide) (by decide) k) ?_
    show OG p e _ s below _ T8 (mkF m 55 #[.val (.ref a1), .val (.ref a2), .val (.ref a2)] [(.int (1 : Int32))])
    exact own_retZ X8 hx (t := .boolean) hret (by simp) hlk (hb hby d10_55) (by decide) (by decide) (w := (1 : Int32)) rfl ⟨congrArg (fun z => some (Value.int z)) (show f10 l1 l2 w = (1 : Int32) from (by rw [f10, if_neg c9])).symm, rfl, e8⟩
theorem d7_0 : decode jdk_30_method_1_code 0 = .ok (.aload_n 0, 1) := by decide +kernel
theorem d7_1 : decode jdk_30_method_1_code 1 = .ok (.invokespecial 1, 3) := by decide +kernel
theorem d7_4 : decode jdk_30_method_1_code 4 = .ok (.return_, 1) := by decide +kernel
theorem pn_7 : plainFor (⟨"java/lang/Record", "<init>", "()V"⟩ : MethodName) = true := by first | exact plainFor_of_name (by first | (simp [plainName, overriddenIn]; done) | decide +kernel) | decide +kernel
theorem ef_7 (m : MethodId) (a1 : Addr) : entryFrame m #[(.ref a1)] 1 = (mkF m 0 #[.val (.ref a1)] []) := by first | (simp [entryFrame, mkF, argsToLocals, Value.category]; done) | rfl
abbrev Q7 (Z : State) (a1 : Addr) (h0 : Heap) (n0 : Nat) : Option Value → Heap → List Loc → Prop := (fun v h L => v = none ∧ Fr n0 L ∧ Keep h0 h [])
set_option maxRecDepth 65536 in
set_option maxHeartbeats 40000000 in
theorem rm7 (l : Launch) (Z : State) (a0 : Array Value) (hw : ∀ d ∈ tables_1, d.before a0 Z = true) (ws : List Jvm.Cond) (a1 : Addr) (h0 : Heap) (n0 : Nat) :
    OMet l Z (⟨"java/lang/Record", "<init>", "()V"⟩ : MethodName) jdk_30_method_1_code 1 none ws ({ frames := 1, cells := 0, slots := 0, locals := 12 } : Room) #[(.ref a1)] h0 (Q7 Z a1 h0 n0) := by
  refine own_enter pn_7 ?_
  intro p e s m below meth c s₁ hx hby hml0 hown hret hlk hnm hZ X0 e0
  have hml : c.maxLocals = 1 := hml0
  have N0 := Fr.nil n0
  refine own_cast (ef_7 m a1) ?_
  show OG p e ({ frames := 1, cells := 0, slots := 0, locals := 12 } : Room) s below (fun v h L => v = none ∧ Fr n0 L ∧ Keep h0 h []) s₁ (mkF m 0 #[.val (.ref a1)] [])
  refine own_st (fun t k => XS.aloadN X0.here hx rfl (hb hby d7_0) rfl rfl k) ?_
  show OG p e _ s below _ s₁ (mkF m 1 #[.val (.ref a1)] [(.ref a1)])
  obtain ⟨T1, X1, e1, st1⟩ := initO X0 hx hZ hown (hw _ (List.mem_of_getElem? (i := 40) rfl)) (hw _ (List.mem_of_getElem? (i := 19) rfl)) (hw _ (List.mem_of_getElem? (i := 20) rfl)) e0 (g := (mkF m 1 #[.val (.ref a1)] [(.ref a1)])) rfl (by rw [hml]; rfl) rfl (hb hby d7_1) (by decide) (W := 0) (by show 2 * 0 + _ ≤ _; exact Nat.le_of_eq rfl) (by decide)
  refine own_st st1 ?_
  show OG p e _ s below _ T1 (mkF m 4 #[.val (.ref a1)] [])
  refine own_ret0 X1 hx hret hlk (hb hby d7_4) (by decide) (by decide) ?_
  rw [e1]
  exact ⟨rfl, N0, (Keep.refl h0 [])⟩
theorem d6_0 : decode prog_34_method_1_code 0 = .ok (.aload_n 0, 1) := by decide +kernel
theorem d6_1 : decode prog_34_method_1_code 1 = .ok (.invokespecial 1, 3) := by decide +kernel
theorem d6_4 : decode prog_34_method_1_code 4 = .ok (.aload_n 0, 1) := by decide +kernel
theorem d6_5 : decode prog_34_method_1_code 5 = .ok (.aload_n 1, 1) := by decide +kernel
theorem d6_6 : decode prog_34_method_1_code 6 = .ok (.putfield 7, 3) := by decide +kernel
theorem d6_9 : decode prog_34_method_1_code 9 = .ok (.aload_n 0, 1) := by decide +kernel
theorem d6_10 : decode prog_34_method_1_code 10 = .ok (.aload_n 2, 1) := by decide +kernel
theorem d6_11 : decode prog_34_method_1_code 11 = .ok (.putfield 13, 3) := by decide +kernel
theorem d6_14 : decode prog_34_method_1_code 14 = .ok (.aload_n 0, 1) := by decide +kernel
theorem d6_15 : decode prog_34_method_1_code 15 = .ok (.aload_n 3, 1) := by decide +kernel
theorem d6_16 : decode prog_34_method_1_code 16 = .ok (.putfield 16, 3) := by decide +kernel
theorem d6_19 : decode prog_34_method_1_code 19 = .ok (.return_, 1) := by decide +kernel
theorem pd___V : parseMethodDescriptor "()V" = some ⟨[], none⟩ := by decide +kernel
theorem pn_6 : plainFor (⟨"com/example/vestbook/vestbook/Origin", "<init>", "(Ljava/lang/String;Ljava/lang/String;Ljava/lang/String;)V"⟩ : MethodName) = true := by first | exact plainFor_of_name (by first | (simp [plainName, overriddenIn]; done) | decide +kernel) | decide +kernel
theorem ef_6 (m : MethodId) (a1 : Addr) (a2 : Addr) (a3 : Addr) (a4 : Addr) : entryFrame m #[(.ref a1), (.ref a2), (.ref a3), (.ref a4)] 4 = (mkF m 0 #[.val (.ref a1), .val (.ref a2), .val (.ref a3), .val (.ref a4)] []) := by first | (simp [entryFrame, mkF, argsToLocals, Value.category]; done) | rfl
abbrev Q6 (Z : State) (a1 : Addr) (a2 : Addr) (a3 : Addr) (a4 : Addr) (h0 : Heap) (n0 : Nat) : Option Value → Heap → List Loc → Prop := (fun v h L => v = none ∧ Fr n0 L ∧ Keep h0 h [a1] ∧ Exa Z h a1 "com/example/vestbook/vestbook/Origin" ∧ Fld Z h a1 "com/example/vestbook/vestbook/Origin" "command" "Ljava/lang/String;" (.ref a2) ∧ Fld Z h a1 "com/example/vestbook/vestbook/Origin" "file" "Ljava/lang/String;" (.ref a3) ∧ Fld Z h a1 "com/example/vestbook/vestbook/Origin" "sha256" "Ljava/lang/String;" (.ref a4))
set_option maxRecDepth 65536 in
set_option maxHeartbeats 40000000 in
theorem rm6 (l : Launch) (Z : State) (a0 : Array Value) (hw : ∀ d ∈ tables_1, d.before a0 Z = true) (ws : List Jvm.Cond) (a1 : Addr) (a2 : Addr) (a3 : Addr) (a4 : Addr) (h0 : Heap) (n0 : Nat) (R0 : Exa Z h0 a1 "com/example/vestbook/vestbook/Origin") (R1 : Fld Z h0 a1 "com/example/vestbook/vestbook/Origin" "command" "Ljava/lang/String;" .null) (R2 : Fld Z h0 a1 "com/example/vestbook/vestbook/Origin" "file" "Ljava/lang/String;" .null) (R3 : Fld Z h0 a1 "com/example/vestbook/vestbook/Origin" "sha256" "Ljava/lang/String;" .null) (g_a1 : n0 ≤ a1) :
    OMet l Z (⟨"com/example/vestbook/vestbook/Origin", "<init>", "(Ljava/lang/String;Ljava/lang/String;Ljava/lang/String;)V"⟩ : MethodName) prog_34_method_1_code 4 none ws ({ frames := 2, cells := 0, slots := 0, locals := 24 } : Room) #[(.ref a1), (.ref a2), (.ref a3), (.ref a4)] h0 (Q6 Z a1 a2 a3 a4 h0 n0) := by
  refine own_enter pn_6 ?_
  intro p e s m below meth c s₁ hx hby hml0 hown hret hlk hnm hZ X0 e0
  have hml : c.maxLocals = 4 := hml0
  have N0 := Fr.nil n0
  refine own_cast (ef_6 m a1 a2 a3 a4) ?_
  show OG p e ({ frames := 2, cells := 0, slots := 0, locals := 24 } : Room) s below (fun v h L => v = none ∧ Fr n0 L ∧ Keep h0 h [a1] ∧ Exa Z h a1 "com/example/vestbook/vestbook/Origin" ∧ Fld Z h a1 "com/example/vestbook/vestbook/Origin" "command" "Ljava/lang/String;" (.ref a2) ∧ Fld Z h a1 "com/example/vestbook/vestbook/Origin" "file" "Ljava/lang/String;" (.ref a3) ∧ Fld Z h a1 "com/example/vestbook/vestbook/Origin" "sha256" "Ljava/lang/String;" (.ref a4)) s₁ (mkF m 0 #[.val (.ref a1), .val (.ref a2), .val (.ref a3), .val (.ref a4)] [])
  refine own_st (fun t k => XS.aloadN X0.here hx rfl (hb hby d6_0) rfl rfl k) ?_
  show OG p e _ s below _ s₁ (mkF m 1 #[.val (.ref a1), .val (.ref a2), .val (.ref a3), .val (.ref a4)] [(.ref a1)])
  obtain ⟨_, _, ⟨T1, L1, k1, n1⟩, -, X1, ⟨Lc1, hQ1, l1, y1, z1⟩, st1⟩ := X0.specialBack hx (y := (⟨"java/lang/Record", "<init>", "()V"⟩ : MethodName)) rfl hown (mvT hZ (hw _ (List.mem_of_getElem? (i := 35) rfl))) (mvT hZ (hw _ (List.mem_of_getElem? (i := 36) rfl))) (mvT hZ (hw _ (List.mem_of_getElem? (i := 39) rfl))) (by decide) (backOf (W := 0) (rm := ({ frames := 1, cells := 0, slots := 0, locals := 12 } : Room)) (rm7 l Z a0 hw [] a1 h0 n0) hZ (hw _ (List.mem_of_getElem? (i := 39) rfl)) (hw _ (List.mem_of_getElem? (i := 38) rfl)) (by decide) (by decide)) (g := (mkF m 1 #[.val (.ref a1), .val (.ref a2), .val (.ref a3), .val (.ref a4)] [(.ref a1)])) rfl (by rw [hml]; rfl) (Steps.refl _) (a := a1) (argsL := []) (rest := []) (lenOf pd___V rfl) rfl (by show 2 * 0 + _ ≤ _; exact Nat.le_of_eq rfl) (hb hby d6_1) (fun _ _ => ⟨rfl, e0, (by decide : 0 + 0 ≤ _), (by decide : 0 + 0 ≤ _)⟩)
  dsimp only [Pt.U, Pt.locs, Pt.cells, Pt.slots] at X1 l1 y1 z1 st1 hQ1
  subst l1 y1 z1
  obtain ⟨rfl, N1q, K1q⟩ := hQ1
  refine own_st (fun t k => st1.trans k) ?_
  have N1 := Fr.app N0 N1q
  have K1 : Keep h0 T1.heap [a1] := (Keep.refl h0 [a1]).trans K1q (own_all0 )
  have F2 : Exa Z T1.heap a1 "com/example/vestbook/vestbook/Origin" := (R0.keep K1q)
  have F3 : Fld Z T1.heap a1 "com/example/vestbook/vestbook/Origin" "command" "Ljava/lang/String;" .null := (R1.keep K1q (own_nin0 ))
  have F4 : Fld Z T1.heap a1 "com/example/vestbook/vestbook/Origin" "file" "Ljava/lang/String;" .null := (R2.keep K1q (own_nin0 ))
  have F5 : Fld Z T1.heap a1 "com/example/vestbook/vestbook/Origin" "sha256" "Ljava/lang/String;" .null := (R3.keep K1q (own_nin0 ))
  show OG p e _ s below _ T1 (mkF m 4 #[.val (.ref a1), .val (.ref a2), .val (.ref a3), .val (.ref a4)] [])
  refine own_st (fun t k => XS.aloadN X1.here hx rfl (hb hby d6_4) rfl rfl k) ?_
  show OG p e _ s below _ T1 (mkF m 5 #[.val (.ref a1), .val (.ref a2), .val (.ref a3), .val (.ref a4)] [(.ref a1)])
  refine own_st (fun t k => XS.aloadN X1.here hx rfl (hb hby d6_5) rfl rfl k) ?_
  show OG p e _ s below _ T1 (mkF m 6 #[.val (.ref a1), .val (.ref a2), .val (.ref a3), .val (.ref a4)] [(.ref a2), (.ref a1)])
  obtain ⟨T6, h6, X6, e6, W6, st6⟩ := putF X1 hx hZ hown (host := "") (Or.inl (hw _ (List.mem_of_getElem? (i := 41) rfl))) Via.refl rfl F3 F2 (Or.inr ⟨(hw _ (List.mem_of_getElem? (i := 42) rfl)), rfl, hnm⟩) (hw _ (List.mem_of_getElem? (i := 30) rfl)) (ty := (.object "java/lang/String")) (by decide) rfl rfl (g := (mkF m 6 #[.val (.ref a1), .val (.ref a2), .val (.ref a3), .val (.ref a4)] [(.ref a2), (.ref a1)])) rfl rfl (hb hby d6_6)
  refine own_st st6 ?_
  have N6 := Fr.snoc X6 N1 g_a1
  have K7 : Keep h0 h6 [a1] := K1.wr W6 (Or.inl (List.mem_of_getElem? (i := 0) rfl))
  have F8 : Exa Z h6 a1 "com/example/vestbook/vestbook/Origin" := (F2.wr W6)
  have F9 : Fld Z h6 a1 "com/example/vestbook/vestbook/Origin" "command" "Ljava/lang/String;" (.ref a2) := (F3.same W6)
  have F10 : Fld Z h6 a1 "com/example/vestbook/vestbook/Origin" "file" "Ljava/lang/String;" .null := (F4.other W6 (Or.inr (slot_ne (Or.inr (hw _ (List.mem_of_getElem? (i := 44) rfl))) (Or.inr (hw _ (List.mem_of_getElem? (i := 42) rfl))) (by decide) (t := (.object "java/lang/String")) (t' := (.object "java/lang/String")) (by decide) (by decide))))
  have F11 : Fld Z h6 a1 "com/example/vestbook/vestbook/Origin" "sha256" "Ljava/lang/String;" .null := (F5.other W6 (Or.inr (slot_ne (Or.inr (hw _ (List.mem_of_getElem? (i := 46) rfl))) (Or.inr (hw _ (List.mem_of_getElem? (i := 42) rfl))) (by decide) (t := (.object "java/lang/String")) (t' := (.object "java/lang/String")) (by decide) (by decide))))
  show OG p e _ s below _ T6 (mkF m 9 #[.val (.ref a1), .val (.ref a2), .val (.ref a3), .val (.ref a4)] [])
  refine own_st (fun t k => XS.aloadN X6.here hx rfl (hb hby d6_9) rfl rfl k) ?_
  show OG p e _ s below _ T6 (mkF m 10 #[.val (.ref a1), .val (.ref a2), .val (.ref a3), .val (.ref a4)] [(.ref a1)])
  refine own_st (fun t k => XS.aloadN X6.here hx rfl (hb hby d6_10) rfl rfl k) ?_
  show OG p e _ s below _ T6 (mkF m 11 #[.val (.ref a1), .val (.ref a2), .val (.ref a3), .val (.ref a4)] [(.ref a3), (.ref a1)])
  obtain ⟨T12, h12, X12, e12, W12, st12⟩ := putF X6 hx hZ hown (host := "") (Or.inl (hw _ (List.mem_of_getElem? (i := 43) rfl))) Via.refl e6 F10 F8 (Or.inr ⟨(hw _ (List.mem_of_getElem? (i := 44) rfl)), rfl, hnm⟩) (hw _ (List.mem_of_getElem? (i := 30) rfl)) (ty := (.object "java/lang/String")) (by decide) rfl rfl (g := (mkF m 11 #[.val (.ref a1), .val (.ref a2), .val (.ref a3), .val (.ref a4)] [(.ref a3), (.ref a1)])) rfl rfl (hb hby d6_11)
  refine own_st st12 ?_
  have N12 := Fr.snoc X12 N6 g_a1
  have K13 : Keep h0 h12 [a1] := K7.wr W12 (Or.inl (List.mem_of_getElem? (i := 0) rfl))
  have F14 : Exa Z h12 a1 "com/example/vestbook/vestbook/Origin" := (F8.wr W12)
  have F15 : Fld Z h12 a1 "com/example/vestbook/vestbook/Origin" "command" "Ljava/lang/String;" (.ref a2) := (F9.other W12 (Or.inr (slot_ne (Or.inr (hw _ (List.mem_of_getElem? (i := 42) rfl))) (Or.inr (hw _ (List.mem_of_getElem? (i := 44) rfl))) (by decide) (t := (.object "java/lang/String")) (t' := (.object "java/lang/String")) (by decide) (by decide))))
  have F16 : Fld Z h12 a1 "com/example/vestbook/vestbook/Origin" "file" "Ljava/lang/String;" (.ref a3) := (F10.same W12)
  have F17 : Fld Z h12 a1 "com/example/vestbook/vestbook/Origin" "sha256" "Ljava/lang/String;" .null := (F11.other W12 (Or.inr (slot_ne (Or.inr (hw _ (List.mem_of_getElem? (i := 46) rfl))) (Or.inr (hw _ (List.mem_of_getElem? (i := 44) rfl))) (by decide) (t := (.object "java/lang/String")) (t' := (.object "java/lang/String")) (by decide) (by decide))))
  show OG p e _ s below _ T12 (mkF m 14 #[.val (.ref a1), .val (.ref a2), .val (.ref a3), .val (.ref a4)] [])
  refine own_st (fun t k => XS.aloadN X12.here hx rfl (hb hby d6_14) rfl rfl k) ?_
  show OG p e _ s below _ T12 (mkF m 15 #[.val (.ref a1), .val (.ref a2), .val (.ref a3), .val (.ref a4)] [(.ref a1)])
  refine own_st (fun t k => XS.aloadN X12.here hx rfl (hb hby d6_15) rfl rfl k) ?_
  show OG p e _ s below _ T12 (mkF m 16 #[.val (.ref a1), .val (.ref a2), .val (.ref a3), .val (.ref a4)] [(.ref a4), (.ref a1)])
  obtain ⟨T18, h18, X18, e18, W18, st18⟩ := putF X12 hx hZ hown (host := "") (Or.inl (hw _ (List.mem_of_getElem? (i := 45) rfl))) Via.refl e12 F17 F14 (Or.inr ⟨(hw _ (List.mem_of_getElem? (i := 46) rfl)), rfl, hnm⟩) (hw _ (List.mem_of_getElem? (i := 30) rfl)) (ty := (.object "java/lang/String")) (by decide) rfl rfl (g := (mkF m 16 #[.val (.ref a1), .val (.ref a2), .val (.ref a3), .val (.ref a4)] [(.ref a4), (.ref a1)])) rfl rfl (hb hby d6_16)
  refine own_st st18 ?_
  have N18 := Fr.snoc X18 N12 g_a1
  have K19 : Keep h0 h18 [a1] := K13.wr W18 (Or.inl (List.mem_of_getElem? (i := 0) rfl))
  have F20 : Exa Z h18 a1 "com/example/vestbook/vestbook/Origin" := (F14.wr W18)
  have F21 : Fld Z h18 a1 "com/example/vestbook/vestbook/Origin" "command" "Ljava/lang/String;" (.ref a2) := (F15.other W18 (Or.inr (slot_ne (Or.inr (hw _ (List.mem_of_getElem? (i := 42) rfl))) (Or.inr (hw _ (List.mem_of_getElem? (i := 46) rfl))) (by decide) (t := (.object "java/lang/String")) (t' := (.object "java/lang/String")) (by decide) (by decide))))
  have F22 : Fld Z h18 a1 "com/example/vestbook/vestbook/Origin" "file" "Ljava/lang/String;" (.ref a3) := (F16.other W18 (Or.inr (slot_ne (Or.inr (hw _ (List.mem_of_getElem? (i := 44) rfl))) (Or.inr (hw _ (List.mem_of_getElem? (i := 46) rfl))) (by decide) (t := (.object "java/lang/String")) (t' := (.object "java/lang/String")) (by decide) (by decide))))
  have F23 : Fld Z h18 a1 "com/example/vestbook/vestbook/Origin" "sha256" "Ljava/lang/String;" (.ref a4) := (F17.same W18)
  show OG p e _ s below _ T18 (mkF m 19 #[.val (.ref a1), .val (.ref a2), .val (.ref a3), .val (.ref a4)] [])
  refine own_ret0 X18 hx hret hlk (hb hby d6_19) (by decide) (by decide) ?_
  rw [e18]
  exact ⟨rfl, N18, K19, F20, F21, F22, F23⟩
theorem d9_0 : decode prog_34_method_4_code 0 = .ok (.aload_n 0, 1) := by decide +kernel
theorem d9_1 : decode prog_34_method_4_code 1 = .ok (.getfield 7, 3) := by decide +kernel
theorem d9_4 : decode prog_34_method_4_code 4 = .ok (.aload_n 1, 1) := by decide +kernel
theorem d9_5 : decode prog_34_method_4_code 5 = .ok (.getfield 7, 3) := by decide +kernel
theorem d9_8 : decode prog_34_method_4_code 8 = .ok (.invokevirtual 63, 3) := by decide +kernel
theorem d9_11 : decode prog_34_method_4_code 11 = .ok (.ifCond .eq 21, 3) := by decide +kernel
theorem d9_14 : decode prog_34_method_4_code 14 = .ok (.aload_n 0, 1) := by decide +kernel
theorem d9_15 : decode prog_34_method_4_code 15 = .ok (.getfield 16, 3) := by decide +kernel
theorem d9_18 : decode prog_34_method_4_code 18 = .ok (.aload_n 1, 1) := by decide +kernel
theorem d9_19 : decode prog_34_method_4_code 19 = .ok (.getfield 16, 3) := by decide +kernel
theorem d9_22 : decode prog_34_method_4_code 22 = .ok (.invokevirtual 63, 3) := by decide +kernel
theorem d9_25 : decode prog_34_method_4_code 25 = .ok (.ifCond .eq 7, 3) := by decide +kernel
theorem d9_28 : decode prog_34_method_4_code 28 = .ok (.iconst 1, 1) := by decide +kernel
theorem d9_29 : decode prog_34_method_4_code 29 = .ok (.goto 4, 3) := by decide +kernel
theorem d9_32 : decode prog_34_method_4_code 32 = .ok (.iconst 0, 1) := by decide +kernel
theorem d9_33 : decode prog_34_method_4_code 33 = .ok (.ireturn, 1) := by decide +kernel
theorem pd__Ljava_lang_Object__Z : parseMethodDescriptor "(Ljava/lang/Object;)Z" = some ⟨[(.object "java/lang/Object")], some .boolean⟩ := by decide +kernel
theorem pn_9 : plainFor (⟨"com/example/vestbook/vestbook/Origin", "repeats", "(Lcom/example/vestbook/vestbook/Origin;)Z"⟩ : MethodName) = true := by first | exact plainFor_of_name (by first | (simp [plainName, overriddenIn]; done) | decide +kernel) | decide +kernel
def f9 (l1 : List Int32) (l2 : List Int32) (l3 : List Int32) (l4 : List Int32) (w : Int32) : Int32 := (if (f10 l1 l2 w) = (0 : Int32) then (0 : Int32) else (if (f10 l3 l4 w) = (0 : Int32) then (0 : Int32) else (1 : Int32)))
theorem ef_9 (m : MethodId) (a1 : Addr) (a2 : Addr) : entryFrame m #[(.ref a1), (.ref a2)] 2 = (mkF m 0 #[.val (.ref a1), .val (.ref a2)] []) := by first | (simp [entryFrame, mkF, argsToLocals, Value.category]; done) | rfl
abbrev Q9 (Z : State) (a1 : Addr) (a2 : Addr) (s1 : Addr) (s2 : Addr) (s3 : Addr) (s4 : Addr) (b1 : Addr) (b2 : Addr) (b3 : Addr) (b4 : Addr) (l1 : List Int32) (l2 : List Int32) (l3 : List Int32) (l4 : List Int32) (w : Int32) (h0 : Heap)  : Option Value → Heap → List Loc → Prop := (fun v h L => v = some (.int (f9 l1 l2 l3 l4 w)) ∧ L = [] ∧ h = h0)
set_option maxRecDepth 65536 in
set_option maxHeartbeats 40000000 in
theorem rm9 (l : Launch) (Z : State) (a0 : Array Value) (hw : ∀ d ∈ tables_1, d.before a0 Z = true) (ws : List Jvm.Cond) (a1 : Addr) (a2 : Addr) (s1 : Addr) (s2 : Addr) (s3 : Addr) (s4 : Addr) (b1 : Addr) (b2 : Addr) (b3 : Addr) (b4 : Addr) (l1 : List Int32) (l2 : List Int32) (l3 : List Int32) (l4 : List Int32) (w : Int32) (h0 : Heap) (R0 : Fld Z h0 a1 "com/example/vestbook/vestbook/Origin" "command" "Ljava/lang/String;" (.ref s1)) (R1 : Fld Z h0 a2 "com/example/vestbook/vestbook/Origin" "command" "Ljava/lang/String;" (.ref s2)) (R2 : Fld Z h0 a1 "com/example/vestbook/vestbook/Origin" "sha256" "Ljava/lang/String;" (.ref s3)) (R3 : Fld Z h0 a2 "com/example/vestbook/vestbook/Origin" "sha256" "Ljava/lang/String;" (.ref s4)) (R4 : Exa Z h0 s1 "java/lang/String") (R5 : Fld Z h0 s1 "java/lang/String" "value" "[B" (.ref b1)) (R6 : Fld Z h0 s1 "java/lang/String" "coder" "B" (.int (0 : Int32))) (R7 : OA Z h0 b1 .byte (l1.map Value.int)) (R8 : Exa Z h0 s2 "java/lang/String") (R9 : Fld Z h0 s2 "java/lang/String" "value" "[B" (.ref b2)) (R10 : Fld Z h0 s2 "java/lang/String" "coder" "B" (.int (0 : Int32))) (R11 : OA Z h0 b2 .byte (l2.map Value.int)) (R12 : Exa Z h0 s3 "java/lang/String") (R13 : Fld Z h0 s3 "java/lang/String" "value" "[B" (.ref b3)) (R14 : Fld Z h0 s3 "java/lang/String" "coder" "B" (.int (0 : Int32))) (R15 : OA Z h0 b3 .byte (l3.map Value.int)) (R16 : Exa Z h0 s4 "java/lang/String") (R17 : Fld Z h0 s4 "java/lang/String" "value" "[B" (.ref b4)) (R18 : Fld Z h0 s4 "java/lang/String" "coder" "B" (.int (0 : Int32))) (R19 : OA Z h0 b4 .byte (l4.map Value.int)) (R20 : Sta Z h0 "java/lang/String" "COMPACT_STRINGS" "Z" (.int w)) (ne_s1_s2 : s1 ≠ s2) (ne_s3_s4 : s3 ≠ s4) (hl1 : l1.length ≤ 2) (hl2 : l2.length ≤ 2) (hl3 : l3.length ≤ 2) (hl4 : l4.length ≤ 2) (hw0 : ¬ w = (0 : Int32)) :
    OMet l Z (⟨"com/example/vestbook/vestbook/Origin", "repeats", "(Lcom/example/vestbook/vestbook/Origin;)Z"⟩ : MethodName) prog_34_method_4_code 2 (some .boolean) ws ({ frames := 2, cells := 0, slots := 0, locals := 28 } : Room) #[(.ref a1), (.ref a2)] h0 (Q9 Z a1 a2 s1 s2 s3 s4 b1 b2 b3 b4 l1 l2 l3 l4 w h0) := by
  refine own_enter pn_9 ?_
  intro p e s m below meth c s₁ hx hby hml0 hown hret hlk hnm hZ X0 e0
  have hml : c.maxLocals = 2 := hml0
  refine own_cast (ef_9 m a1 a2) ?_
  show OG p e ({ frames := 2, cells := 0, slots := 0, locals := 28 } : Room) s below (fun v h L => v = some (.int (f9 l1 l2 l3 l4 w)) ∧ L = [] ∧ h = h0) s₁ (mkF m 0 #[.val (.ref a1), .val (.ref a2)] [])
  refine own_st (fun t k => XS.aloadN X0.here hx rfl (hb hby d9_0) rfl rfl k) ?_
  show OG p e _ s below _ s₁ (mkF m 1 #[.val (.ref a1), .val (.ref a2)] [(.ref a1)])
  obtain ⟨T1, X1, e1, st1⟩ := getF X0 hx hZ hown (host := "") (Or.inl (hw _ (List.mem_of_getElem? (i := 41) rfl))) Via.refl e0 R0 (g := (mkF m 1 #[.val (.ref a1), .val (.ref a2)] [(.ref a1)])) rfl rfl (hb hby d9_1)
  refine own_st st1 ?_
  show OG p e _ s below _ T1 (mkF m 4 #[.val (.ref a1), .val (.ref a2)] [(.ref s1)])
  refine own_st (fun t k => XS.aloadN X1.here hx rfl (hb hby d9_4) rfl rfl k) ?_
  show OG p e _ s below _ T1 (mkF m 5 #[.val (.ref a1), .val (.ref a2)] [(.ref a2), (.ref s1)])
  obtain ⟨T2, X2, e2, st2⟩ := getF X1 hx hZ hown (host := "") (Or.inl (hw _ (List.mem_of_getElem? (i := 41) rfl))) Via.refl e1 R1 (g := (mkF m 5 #[.val (.ref a1), .val (.ref a2)] [(.ref a2), (.ref s1)])) rfl rfl (hb hby d9_5)
  refine own_st st2 ?_
  show OG p e _ s below _ T2 (mkF m 8 #[.val (.ref a1), .val (.ref a2)] [(.ref s2), (.ref s1)])
  obtain ⟨cq3, kq3, q3a, q3b, q3c⟩ := isOf hZ e2 R4
  obtain ⟨_, _, ⟨T3, L3, k3, n3⟩, -, X3, ⟨Lc3, hQ3, l3, y3, z3⟩, st3⟩ := X2.virtualBack hx (y := (⟨"java/lang/String", "equals", "(Ljava/lang/Object;)Z"⟩ : MethodName)) (z := (⟨"java/lang/String", "equals", "(Ljava/lang/Object;)Z"⟩ : MethodName)) hown (mvT hZ (hw _ (List.mem_of_getElem? (i := 55) rfl))) (mvT hZ (hw _ (List.mem_of_getElem? (i := 56) rfl))) (notFace_of_selects (args := #[]) (mvT hZ (hw _ (List.mem_of_getElem? (i := 58) rfl)))) (mvT hZ (hw _ (List.mem_of_getElem? (i := 58) rfl))) (mvT hZ (hw _ (List.mem_of_getElem? (i := 57) rfl))) (by decide) (backOf (W := 0) (rm := ({ frames := 1, cells := 0, slots := 0, locals := 14 } : Room)) (rm10 l Z a0 hw [] s1 s2 b1 b2 l1 l2 w h0 R4 R5 R6 R7 R8 R9 R10 R11 R20 ne_s1_s2 hl1 hl2 hw0) hZ (hw _ (List.mem_of_getElem? (i := 59) rfl)) (hw _ (List.mem_of_getElem? (i := 9) rfl)) (by decide) (by decide)) q3a q3c (g := (mkF m 8 #[.val (.ref a1), .val (.ref a2)] [(.ref s2), (.ref s1)])) rfl (by rw [hml]; rfl) (Steps.refl _) (argsL := [(.ref s2)]) (rest := []) (lenOf pd__Ljava_lang_Object__Z rfl) rfl (by show 2 * 0 + _ ≤ _; exact Nat.le_of_eq rfl) (hb hby d9_8) (fun _ _ => ⟨rfl, e2, (by decide : 0 + 0 ≤ _), (by decide : 0 + 0 ≤ _)⟩)
  dsimp only [Pt.U, Pt.locs, Pt.cells, Pt.slots] at X3 l3 y3 z3 st3 hQ3
  subst l3 y3 z3
  obtain ⟨rfl, rfl, e3⟩ := hQ3
  refine own_st (fun t k => st3.trans k) ?_
  show OG p e _ s below _ T3 (mkF m 11 #[.val (.ref a1), .val (.ref a2)] [(.int (f10 l1 l2 w))])
  by_cases c4 : (f10 l1 l2 w) = (0 : Int32)
  · refine own_st (fun t k => XS.ifYes X3.here hx rfl (pc0 := 11) (pc' := 32) rfl (hb hby d9_11) rfl (own_if0 (teq c4).1) (by decide) (by decide) k) ?_
    show OG p e _ s below _ T3 (mkF m 32 #[.val (.ref a1), .val (.ref a2)] [])
    refine own_st (fun t k => XS.iconst X3.here hx rfl (hb hby d9_32) k) ?_
    show OG p e _ s below _ T3 (mkF m 33 #[.val (.ref a1), .val (.ref a2)] [(.int (0 : Int32))])
    exact own_retZ X3 hx (t := .boolean) hret (by simp) hlk (hb hby d9_33) (by decide) (by decide) (w := (0 : Int32)) rfl ⟨congrArg (fun z => some (Value.int z)) (show f9 l1 l2 l3 l4 w = (0 : Int32) from (by rw [f9, if_pos c4])).symm, rfl, e3⟩
  · refine own_st (fun t k => XS.ifNo X3.here hx rfl (hb hby d9_11) rfl (own_if0 (feq c4).1) k) ?_
    show OG p e _ s below _ T3 (mkF m 14 #[.val (.ref a1), .val (.ref a2)] [])
    refine own_st (fun t k => XS.aloadN X3.here hx rfl (hb hby d9_14) rfl rfl k) ?_
    show OG p e _ s below _ T3 (mkF m 15 #[.val (.ref a1), .val (.ref a2)] [(.ref a1)])
    obtain ⟨T5, X5, e5, st5⟩ := getF X3 hx hZ hown (host := "") (Or.inl (hw _ (List.mem_of_getElem? (i := 45) rfl))) Via.refl e3 R2 (g := (mkF m 15 #[.val (.ref a1), .val (.ref a2)] [(.ref a1)])) rfl rfl (hb hby d9_15)
    refine own_st st5 ?_
    show OG p e _ s below _ T5 (mkF m 18 #[.val (.ref a1), .val (.ref a2)] [(.ref s3)])
    refine own_st (fun t k => XS.aloadN X5.here hx rfl (hb hby d9_18) rfl rfl k) ?_
    show OG p e _ s below _ T5 (mkF m 19 #[.val (.ref a1), .val (.ref a2)] [(.ref a2), (.ref s3)])
    obtain ⟨T6, X6, e6, st6⟩ := getF X5 hx hZ hown (host := "") (Or.inl (hw _ (List.mem_of_getElem? (i := 45) rfl))) Via.refl e5 R3 (g := (mkF m 19 #[.val (.ref a1), .val (.ref a2)] [(.ref a2), (.ref s3)])) rfl rfl (hb hby d9_19)
    refine own_st st6 ?_
    show OG p e _ s below _ T6 (mkF m 22 #[.val (.ref a1), .val (.ref a2)] [(.ref s4), (.ref s3)])
    obtain ⟨cq7, kq7, q7a, q7b, q7c⟩ := isOf hZ e6 R12
    obtain ⟨_, _, ⟨T7, L7, k7, n7⟩, -, X7, ⟨Lc7, hQ7, l7, y7, z7⟩, st7⟩ := X6.virtualBack hx (y := (⟨"java/lang/String", "equals", "(Ljava/lang/Object;)Z"⟩ : MethodName)) (z := (⟨"java/lang/String", "equals", "(Ljava/lang/Object;)Z"⟩ : MethodName)) hown (mvT hZ (hw _ (List.mem_of_getElem? (i := 55) rfl))) (mvT hZ (hw _ (List.mem_of_getElem? (i := 56) rfl))) (notFace_of_selects (args := #[]) (mvT hZ (hw _ (List.mem_of_getElem? (i := 58) rfl)))) (mvT hZ (hw _ (List.mem_of_getElem? (i := 58) rfl))) (mvT hZ (hw _ (List.mem_of_getElem? (i := 57) rfl))) (by decide) (backOf (W := 0) (rm := ({ frames := 1, cells := 0, slots := 0, locals := 14 } : Room)) (rm10 l Z a0 hw [] s3 s4 b3 b4 l3 l4 w h0 R12 R13 R14 R15 R16 R17 R18 R19 R20 ne_s3_s4 hl3 hl4 hw0) hZ (hw _ (List.mem_of_getElem? (i := 59) rfl)) (hw _ (List.mem_of_getElem? (i := 9) rfl)) (by decide) (by decide)) q7a q7c (g := (mkF m 22 #[.val (.ref a1), .val (.ref a2)] [(.ref s4), (.ref s3)])) rfl (by rw [hml]; rfl) (Steps.refl _) (argsL := [(.ref s4)]) (rest := []) (lenOf pd__Ljava_lang_Object__Z rfl) rfl (by show 2 * 0 + _ ≤ _; exact Nat.le_of_eq rfl) (hb hby d9_22) (fun _ _ => ⟨rfl, e6, (by decide : 0 + 0 ≤ _), (by decide : 0 + 0 ≤ _)⟩)
    dsimp only [Pt.U, Pt.locs, Pt.cells, Pt.slots] at X7 l7 y7 z7 st7 hQ7
    subst l7 y7 z7
    obtain ⟨rfl, rfl, e7⟩ := hQ7
    refine own_st (fun t k => st7.trans k) ?_
    show OG p e _ s below _ T7 (mkF m 25 #[.val (.ref a1), .val (.ref a2)] [(.int (f10 l3 l4 w))])
    by_cases c8 : (f10 l3 l4 w) = (0 : Int32)
    · refine own_st (fun t k => XS.ifYes X7.here hx rfl (pc0 := 25) (pc' := 32) rfl (hb hby d9_25) rfl (own_if0 (teq c8).1) (by decide) (by decide) k) ?_
      show OG p e _ s below _ T7 (mkF m 32 #[.val (.ref a1), .val (.ref a2)] [])
      refine own_st (fun t k => XS.iconst X7.here hx rfl (hb hby d9_32) k) ?_
      show OG p e _ s below _ T7 (mkF m 33 #[.val (.ref a1), .val (.ref a2)] [(.int (0 : Int32))])
      exact own_retZ X7 hx (t := .boolean) hret (by simp) hlk (hb hby d9_33) (by decide) (by decide) (w := (0 : Int32)) rfl ⟨congrArg (fun z => some (Value.int z)) (show f9 l1 l2 l3 l4 w = (0 : Int32) from (by rw [f9, if_neg c4, if_pos c8])).symm, rfl, e7⟩
    · refine own_st (fun t k => XS.ifNo X7.here hx rfl (hb hby d9_25) rfl (own_if0 (feq c8).1) k) ?_
      show OG p e _ s below _ T7 (mkF m 28 #[.val (.ref a1), .val (.ref a2)] [])
      refine own_st (fun t k => XS.iconst X7.here hx rfl (hb hby d9_28) k) ?_
      show OG p e _ s below _ T7 (mkF m 29 #[.val (.ref a1), .val (.ref a2)] [(.int (1 : Int32))])
      refine own_st (fun t k => XS.goto X7.here hx rfl (pc0 := 29) (pc' := 33) rfl (hb hby d9_29) (by decide) (by decide) k) ?_
      show OG p e _ s below _ T7 (mkF m 33 #[.val (.ref a1), .val (.ref a2)] [(.int (1 : Int32))])
      exact own_retZ X7 hx (t := .boolean) hret (by simp) hlk (hb hby d9_33) (by decide) (by decide) (w := (1 : Int32)) rfl ⟨congrArg (fun z => some (Value.int z)) (show f9 l1 l2 l3 l4 w = (1 : Int32) from (by rw [f9, if_neg c4, if_neg c8])).symm, rfl, e7⟩
theorem pd__I_Ljava_lang_String_ : parseMethodDescriptor "(I)Ljava/lang/String;" = some ⟨[.int], some (.object "java/lang/String")⟩ := by decide +kernel
theorem pd__II_Z : parseMethodDescriptor "(II)Z" = some ⟨[.int, .int], some .boolean⟩ := by decide +kernel
theorem pd__Lcom_example_vestbook_vestbook_Origin__Z : parseMethodDescriptor "(Lcom/example/vestbook/vestbook/Origin;)Z" = some ⟨[(.object "com/example/vestbook/vestbook/Origin")], some .boolean⟩ := by decide +kernel
theorem pd__Ljava_lang_String_Ljava_lang_String_Ljava_lang_String__V : parseMethodDescriptor "(Ljava/lang/String;Ljava/lang/String;Ljava/lang/String;)V" = some ⟨[(.object "java/lang/String"), (.object "java/lang/String"), (.object "java/lang/String")], none⟩ := by decide +kernel
theorem pn_0 : plainFor (⟨"com/example/vestbook/vestbook/OriginRepeatsPinLaw", "law", "(IIIIII)Z"⟩ : MethodName) = true := by first | exact plainFor_of_name (by first | (simp [plainName, overriddenIn]; done) | decide +kernel) | decide +kernel
def g0_1 (p1 : Int32) (p2 : Int32) (p3 : Int32) (p4 : Int32) (p5 : Int32) (p6 : Int32) (w : Int32) : Int32 := (if (f8 p3 p4) = (0 : Int32) then (0 : Int32) else (1 : Int32))
def f0 (p1 : Int32) (p2 : Int32) (p3 : Int32) (p4 : Int32) (p5 : Int32) (p6 : Int32) (w : Int32) : Int32 := (if (f8 p1 p2) = (0 : Int32) then (if (f9 (bs p1 w) (bs p2 w) (bs p3 w) (bs p4 w) w) = (0 : Int32) then (1 : Int32) else (0 : Int32)) else (if (f9 (bs p1 w) (bs p2 w) (bs p3 w) (bs p4 w) w) = (g0_1 p1 p2 p3 p4 p5 p6 w) then (1 : Int32) else (0 : Int32)))
theorem ef_0 (m : MethodId) (p1 : Int32) (p2 : Int32) (p3 : Int32) (p4 : Int32) (p5 : Int32) (p6 : Int32) : entryFrame m #[(.int p1), (.int p2), (.int p3), (.int p4), (.int p5), (.int p6)] 15 = (mkF m 0 #[.val (.int p1), .val (.int p2), .val (.int p3), .val (.int p4), .val (.int p5), .val (.int p6), .unset, .unset, .unset, .unset, .unset, .unset, .unset, .unset, .unset] []) := by first | (simp [entryFrame, mkF, argsToLocals, Value.category]; done) | rfl
abbrev Q0 (Z : State) (p1 : Int32) (p2 : Int32) (p3 : Int32) (p4 : Int32) (p5 : Int32) (p6 : Int32) (w : Int32) (h0 : Heap) (n0 : Nat) : Option Value → Heap → List Loc → Prop := (fun v h L => v = some (.int (f0 p1 p2 p3 p4 p5 p6 w)) ∧ Fr n0 L)
set_option maxRecDepth 65536 in
set_option maxHeartbeats 40000000 in
theorem rm0 (l : Launch) (Z : State) (a0 : Array Value) (hw : ∀ d ∈ tables_1, d.before a0 Z = true) (ws : List Jvm.Cond) (p1 : Int32) (p2 : Int32) (p3 : Int32) (p4 : Int32) (p5 : Int32) (p6 : Int32) (w : Int32) (h0 : Heap) (n0 : Nat) (Z0 : n0 ≤ h0.size) (R0 : Sta Z h0 "java/lang/String" "COMPACT_STRINGS" "Z" (.int w)) (hw0 : ¬ w = (0 : Int32)) :
    OMetS l Z EL0 x code maxLocals ret ws room_1 #[(.int p1), (.int p2), (.int p3), (.int p4), (.int p5), (.int p6)] h0 (Q0 Z p1 p2 p3 p4 p5 p6 w h0 n0) := by
  refine own_enterS pn_0 ?_
  intro p e s m below meth c s₁ hx hby hml0 hown hret hlk hnm hZ X0 e0 hs0 CH0
  have hEL := own_EW hw
  have hS0 : s.Since s.vm 0 := (State.WarmedH.refl s).since 0
  have hk0 : 0 ≤ h0.size := Nat.zero_le _
  have CR0 : CHr Z EL0 s.vm h0 s.vm h0 := CHr.refl CH0
  have hml : c.maxLocals = 15 := hml0
  have N0 := Fr.nil n0
  refine own_castS (ef_0 m p1 p2 p3 p4 p5 p6) ?_
  show OGS Z EL0 p e room_1 s below (fun v h L => v = some (.int (f0 p1 p2 p3 p4 p5 p6 w)) ∧ Fr n0 L) s₁ (mkF m 0 #[.val (.int p1), .val (.int p2), .val (.int p3), .val (.int p4), .val (.int p5), .val (.int p6), .unset, .unset, .unset, .unset, .unset, .unset, .unset, .unset, .unset] [])
  refine own_stS (fun t k => XS.iloadN X0.here hx rfl (hb hby at_0) rfl k) ?_
  show OGS _ _ p e _ s below _ s₁ (mkF m 1 #[.val (.int p1), .val (.int p2), .val (.int p3), .val (.int p4), .val (.int p5), .val (.int p6), .unset, .unset, .unset, .unset, .unset, .unset, .unset, .unset, .unset] [(.int p1)])
  obtain ⟨_, _, ⟨T1, L1, k1, n1⟩, -, X1q, hS1q, hg1q, ⟨Lc1, hQ1, l1, y1, z1, Cq1⟩, st1⟩ := callSS X0 hx (y := (⟨"com/example/vestbook/vestbook/OriginRepeatsPinLaw", "mk", "(I)Ljava/lang/String;"⟩ : MethodName)) hown (mvT hZ (hw _ (List.mem_of_getElem? (i := 0) rfl))) (mvT hZ (hw _ (List.mem_of_getElem? (i := 1) rfl))) (mvT hZ (hw _ (List.mem_of_getElem? (i := 2) rfl))) (mvT hZ (hw _ (List.mem_of_getElem? (i := 3) rfl))) (by decide) (backOfSH (EL := EL0) (W := 0) (rm := ({ frames := 4, cells := 6, slots := 12, locals := 66 } : Room)) (rm1 l Z a0 hw [] p1 w h0 n0 (Nat.le_trans Z0 (Keep.refl h0 []).1) R0 hw0) hZ (hw _ (List.mem_of_getElem? (i := 3) rfl)) (hw _ (List.mem_of_getElem? (i := 2) rfl)) (by decide) (by decide) hEL CH0) (g := (mkF m 1 #[.val (.int p1), .val (.int p2), .val (.int p3), .val (.int p4), .val (.int p5), .val (.int p6), .unset, .unset, .unset, .unset, .unset, .unset, .unset, .unset, .unset] [(.int p1)])) rfl (by rw [hml]; rfl) (argsL := [(.int p1)]) (rest := []) (lenOf pd__I_Ljava_lang_String_ rfl) rfl (by show 2 * 0 + _ ≤ _; exact Nat.le_of_eq rfl) (hb hby at_1) (fun _ _ => ⟨rfl, e0, (by decide : 0 + 6 ≤ _), (by decide : 0 + 12 ≤ _)⟩)
  dsimp only [Pt.U, Pt.locs, Pt.cells, Pt.slots] at X1q hS1q hg1q l1 y1 z1 st1 hQ1 Cq1
  subst l1 y1 z1
  obtain ⟨X1, hS1, hZ1, hown1⟩ := rebS hS0 (by rw [e0]; exact hk0) X1q hS1q hg1q hZ hown
  have CR1 := CHr.trans CR0 Cq1
  have hk1 : T1.heap.size ≤ T1.heap.size := Nat.le_refl _
  obtain ⟨N1q, K1q, s_1, b_1, sz_s_1, rfl, P1_0, P1_1, P1_2, P1_3⟩ := hQ1
  refine own_stS (fun t k => st1.trans k) ?_
  have N1 := Fr.app N0 N1q
  have ge_s_1 : n0 ≤ s_1 := Nat.le_trans (Nat.le_trans Z0 (Keep.refl h0 []).1) sz_s_1
  have sy_s_1 : h0.size ≤ s_1 := Nat.le_trans (Keep.refl h0 []).1 sz_s_1
  have K1 : Keep h0 T1.heap [] := (Keep.refl h0 []).trans K1q (own_all0 )
  have F2 : Sta Z T1.heap "java/lang/String" "COMPACT_STRINGS" "Z" (.int w) := (own_staK R0 K1q (own_all0 ))
  show OGS _ _ p e _ s below _ T1 (mkF m 4 #[.val (.int p1), .val (.int p2), .val (.int p3), .val (.int p4), .val (.int p5), .val (.int p6), .unset, .unset, .unset, .unset, .unset, .unset, .unset, .unset, .unset] [(.ref s_1)])
  refine own_stS (fun t k => XS.astore X1.here hx rfl (hb hby at_4) rfl rfl (l' := #[.val (.int p1), .val (.int p2), .val (.int p3), .val (.int p4), .val (.int p5), .val (.int p6), .val (.ref s_1), .unset, .unset, .unset, .unset, .unset, .unset, .unset, .unset]) rfl k) ?_
  show OGS _ _ p e _ s below _ T1 (mkF m 6 #[.val (.int p1), .val (.int p2), .val (.int p3), .val (.int p4), .val (.int p5), .val (.int p6), .val (.ref s_1), .unset, .unset, .unset, .unset, .unset, .unset, .unset, .unset] [])
  refine own_stS (fun t k => XS.iloadN X1.here hx rfl (hb hby at_6) rfl k) ?_
  show OGS _ _ p e _ s below _ T1 (mkF m 7 #[.val (.int p1), .val (.int p2), .val (.int p3), .val (.int p4), .val (.int p5), .val (.int p6), .val (.ref s_1), .unset, .unset, .unset, .unset, .unset, .unset, .unset, .unset] [(.int p2)])
  obtain ⟨_, _, ⟨T3, L3, k3, n3⟩, -, X3q, hS3q, hg3q, ⟨Lc3, hQ3, l3, y3, z3, Cq3⟩, st3⟩ := callSS X1 hx (y := (⟨"com/example/vestbook/vestbook/OriginRepeatsPinLaw", "mk", "(I)Ljava/lang/String;"⟩ : MethodName)) hown1 (mvT hZ1 (hw _ (List.mem_of_getElem? (i := 0) rfl))) (mvT hZ1 (hw _ (List.mem_of_getElem? (i := 1) rfl))) (mvT hZ1 (hw _ (List.mem_of_getElem? (i := 2) rfl))) (mvT hZ1 (hw _ (List.mem_of_getElem? (i := 3) rfl))) (by decide) (backOfSH (EL := EL0) (W := 0) (rm := ({ frames := 4, cells := 6, slots := 12, locals := 66 } : Room)) (rm1 l Z a0 hw [] p2 w T1.heap n0 (Nat.le_trans Z0 K1.1) F2 hw0) hZ1 (hw _ (List.mem_of_getElem? (i := 3) rfl)) (hw _ (List.mem_of_getElem? (i := 2) rfl)) (by decide) (by decide) hEL Cq1.1) (g := (mkF m 7 #[.val (.int p1), .val (.int p2), .val (.int p3), .val (.int p4), .val (.int p5), .val (.int p6), .val (.ref s_1), .unset, .unset, .unset, .unset, .unset, .unset, .unset, .unset] [(.int p2)])) rfl (by rw [hml]; rfl) (argsL := [(.int p2)]) (rest := []) (lenOf pd__I_Ljava_lang_String_ rfl) rfl (by show 2 * 0 + _ ≤ _; exact Nat.le_of_eq rfl) (hb hby at_7) (fun _ _ => ⟨rfl, rfl, (by decide : 6 + 6 ≤ _), (by decide : 12 + 12 ≤ _)⟩)
  dsimp only [Pt.U, Pt.locs, Pt.cells, Pt.slots] at X3q hS3q hg3q l3 y3 z3 st3 hQ3 Cq3
  subst l3 y3 z3
  obtain ⟨X3, hS3, hZ3, hown3⟩ := rebS hS1 hk1 X3q hS3q hg3q hZ1 hown1
  have CR3 := CHr.trans CR1 Cq3
  have hk3 : T3.heap.size ≤ T3.heap.size := Nat.le_refl _
  obtain ⟨N3q, K3q, s_3, b_3, sz_s_3, rfl, P3_0, P3_1, P3_2, P3_3⟩ := hQ3
  refine own_stS (fun t k => st3.trans k) ?_
  have N3 := Fr.app N1 N3q
  have ge_s_3 : n0 ≤ s_3 := Nat.le_trans (Nat.le_trans Z0 K1.1) sz_s_3
  have sy_s_3 : h0.size ≤ s_3 := Nat.le_trans K1.1 sz_s_3
  have ne_b_1_s_3 : b_1 ≠ s_3 := Nat.ne_of_lt (Nat.lt_of_lt_of_le P1_3.lt sz_s_3)
  have ne_s_1_s_3 : s_1 ≠ s_3 := Nat.ne_of_lt (Nat.lt_of_lt_of_le P1_0.lt sz_s_3)
  have K3 : Keep h0 T3.heap [] := K1.trans K3q (own_all0 )
  have F4 : Sta Z T3.heap "java/lang/String" "COMPACT_STRINGS" "Z" (.int w) := (own_staK F2 K3q (own_all0 ))
  have F5 : Exa Z T3.heap s_1 "java/lang/String" := (P1_0.keep K3q)
  have F6 : Fld Z T3.heap s_1 "java/lang/String" "value" "[B" (.ref b_1) := (P1_1.keep K3q (own_nin0 ))
  have F7 : Fld Z T3.heap s_1 "java/lang/String" "coder" "B" (.int (0 : Int32)) := (P1_2.keep K3q (own_nin0 ))
  have F8 : OA Z T3.heap b_1 .byte ((bs p1 w).map Value.int) := (P1_3.keep K3q (own_nin0 ))
  show OGS _ _ p e _ s below _ T3 (mkF m 10 #[.val (.int p1), .val (.int p2), .val (.int p3), .val (.int p4), .val (.int p5), .val (.int p6), .val (.ref s_1), .unset, .unset, .unset, .unset, .unset, .unset, .unset, .unset] [(.ref s_3)])
  refine own_stS (fun t k => XS.astore X3.here hx rfl (hb hby at_10) rfl rfl (l' := #[.val (.int p1), .val (.int p2), .val (.int p3), .val (.int p4), .val (.int p5), .val (.int p6), .val (.ref s_1), .val (.ref s_3), .unset, .unset, .unset, .unset, .unset, .unset, .unset]) rfl k) ?_
  show OGS _ _ p e _ s below _ T3 (mkF m 12 #[.val (.int p1), .val (.int p2), .val (.int p3), .val (.int p4), .val (.int p5), .val (.int p6), .val (.ref s_1), .val (.ref s_3), .unset, .unset, .unset, .unset, .unset, .unset, .unset] [])
  refine own_stS (fun t k => XS.iloadN X3.here hx rfl (hb hby at_12) rfl k) ?_
  show OGS _ _ p e _ s below _ T3 (mkF m 13 #[.val (.int p1), .val (.int p2), .val (.int p3), .val (.int p4), .val (.int p5), .val (.int p6), .val (.ref s_1), .val (.ref s_3), .unset, .unset, .unset, .unset, .unset, .unset, .unset] [(.int p3)])
  obtain ⟨_, _, ⟨T9, L9, k9, n9⟩, -, X9q, hS9q, hg9q, ⟨Lc9, hQ9, l9, y9, z9, Cq9⟩, st9⟩ := callSS X3 hx (y := (⟨"com/example/vestbook/vestbook/OriginRepeatsPinLaw", "mk", "(I)Ljava/lang/String;"⟩ : MethodName)) hown3 (mvT hZ3 (hw _ (List.mem_of_getElem? (i := 0) rfl))) (mvT hZ3 (hw _ (List.mem_of_getElem? (i := 1) rfl))) (mvT hZ3 (hw _ (List.mem_of_getElem? (i := 2) rfl))) (mvT hZ3 (hw _ (List.mem_of_getElem? (i := 3) rfl))) (by decide) (backOfSH (EL := EL0) (W := 0) (rm := ({ frames := 4, cells := 6, slots := 12, locals := 66 } : Room)) (rm1 l Z a0 hw [] p3 w T3.heap n0 (Nat.le_trans Z0 K3.1) F4 hw0) hZ3 (hw _ (List.mem_of_getElem? (i := 3) rfl)) (hw _ (List.mem_of_getElem? (i := 2) rfl)) (by decide) (by decide) hEL Cq3.1) (g := (mkF m 13 #[.val (.int p1), .val (.int p2), .val (.int p3), .val (.int p4), .val (.int p5), .val (.int p6), .val (.ref s_1), .val (.ref s_3), .unset, .unset, .unset, .unset, .unset, .unset, .unset] [(.int p3)])) rfl (by rw [hml]; rfl) (argsL := [(.int p3)]) (rest := []) (lenOf pd__I_Ljava_lang_String_ rfl) rfl (by show 2 * 0 + _ ≤ _; exact Nat.le_of_eq rfl) (hb hby at_13) (fun _ _ => ⟨rfl, rfl, (by decide : 12 + 6 ≤ _), (by decide : 24 + 12 ≤ _)⟩)
  dsimp only [Pt.U, Pt.locs, Pt.cells, Pt.slots] at X9q hS9q hg9q l9 y9 z9 st9 hQ9 Cq9
  subst l9 y9 z9
  obtain ⟨X9, hS9, hZ9, hown9⟩ := rebS hS3 hk3 X9q hS9q hg9q hZ3 hown3
  have CR9 := CHr.trans CR3 Cq9
  have hk9 : T9.heap.size ≤ T9.heap.size := Nat.le_refl _
  obtain ⟨N9q, K9q, s_9, b_9, sz_s_9, rfl, P9_0, P9_1, P9_2, P9_3⟩ := hQ9
  refine own_stS (fun t k => st9.trans k) ?_
  have N9 := Fr.app N3 N9q
  have ge_s_9 : n0 ≤ s_9 := Nat.le_trans (Nat.le_trans Z0 K3.1) sz_s_9
  have sy_s_9 : h0.size ≤ s_9 := Nat.le_trans K3.1 sz_s_9
  have ne_b_1_s_9 : b_1 ≠ s_9 := Nat.ne_of_lt (Nat.lt_of_lt_of_le F8.lt sz_s_9)
  have ne_b_3_s_9 : b_3 ≠ s_9 := Nat.ne_of_lt (Nat.lt_of_lt_of_le P3_3.lt sz_s_9)
  have ne_s_1_s_9 : s_1 ≠ s_9 := Nat.ne_of_lt (Nat.lt_of_lt_of_le F5.lt sz_s_9)
  have ne_s_3_s_9 : s_3 ≠ s_9 := Nat.ne_of_lt (Nat.lt_of_lt_of_le P3_0.lt sz_s_9)
  have K9 : Keep h0 T9.heap [] := K3.trans K9q (own_all0 )
  have F10 : Sta Z T9.heap "java/lang/String" "COMPACT_STRINGS" "Z" (.int w) := (own_staK F4 K9q (own_all0 ))
  have F11 : Exa Z T9.heap s_1 "java/lang/String" := (F5.keep K9q)
  have F12 : Fld Z T9.heap s_1 "java/lang/String" "value" "[B" (.ref b_1) := (F6.keep K9q (own_nin0 ))
  have F13 : Fld Z T9.heap s_1 "java/lang/String" "coder" "B" (.int (0 : Int32)) := (F7.keep K9q (own_nin0 ))
  have F14 : OA Z T9.heap b_1 .byte ((bs p1 w).map Value.int) := (F8.keep K9q (own_nin0 ))
  have F15 : Exa Z T9.heap s_3 "java/lang/String" := (P3_0.keep K9q)
  have F16 : Fld Z T9.heap s_3 "java/lang/String" "value" "[B" (.ref b_3) := (P3_1.keep K9q (own_nin0 ))
  have F17 : Fld Z T9.heap s_3 "java/lang/String" "coder" "B" (.int (0 : Int32)) := (P3_2.keep K9q (own_nin0 ))
  have F18 : OA Z T9.heap b_3 .byte ((bs p2 w).map Value.int) := (P3_3.keep K9q (own_nin0 ))
  show OGS _ _ p e _ s below _ T9 (mkF m 16 #[.val (.int p1), .val (.int p2), .val (.int p3), .val (.int p4), .val (.int p5), .val (.int p6), .val (.ref s_1), .val (.ref s_3), .unset, .unset, .unset, .unset, .unset, .unset, .unset] [(.ref s_9)])
  refine own_stS (fun t k => XS.astore X9.here hx rfl (hb hby at_16) rfl rfl (l' := #[.val (.int p1), .val (.int p2), .val (.int p3), .val (.int p4), .val (.int p5), .val (.int p6), .val (.ref s_1), .val (.ref s_3), .val (.ref s_9), .unset, .unset, .unset, .unset, .unset, .unset]) rfl k) ?_
  show OGS _ _ p e _ s below _ T9 (mkF m 18 #[.val (.int p1), .val (.int p2), .val (.int p3), .val (.int p4), .val (.int p5), .val (.int p6), .val (.ref s_1), .val (.ref s_3), .val (.ref s_9), .unset, .unset, .unset, .unset, .unset, .unset] [])
  refine own_stS (fun t k => XS.iloadN X9.here hx rfl (hb hby at_18) rfl k) ?_
  show OGS _ _ p e _ s below _ T9 (mkF m 19 #[.val (.int p1), .val (.int p2), .val (.int p3), .val (.int p4), .val (.int p5), .val (.int p6), .val (.ref s_1), .val (.ref s_3), .val (.ref s_9), .unset, .unset, .unset, .unset, .unset, .unset] [(.int p4)])
  obtain ⟨_, _, ⟨T19, L19, k19, n19⟩, -, X19q, hS19q, hg19q, ⟨Lc19, hQ19, l19, y19, z19, Cq19⟩, st19⟩ := callSS X9 hx (y := (⟨"com/example/vestbook/vestbook/OriginRepeatsPinLaw", "mk", "(I)Ljava/lang/String;"⟩ : MethodName)) hown9 (mvT hZ9 (hw _ (List.mem_of_getElem? (i := 0) rfl))) (mvT hZ9 (hw _ (List.mem_of_getElem? (i := 1) rfl))) (mvT hZ9 (hw _ (List.mem_of_getElem? (i := 2) rfl))) (mvT hZ9 (hw _ (List.mem_of_getElem? (i := 3) rfl))) (by decide) (backOfSH (EL := EL0) (W := 0) (rm := ({ frames := 4, cells := 6, slots := 12, locals := 66 } : Room)) (rm1 l Z a0 hw [] p4 w T9.heap n0 (Nat.le_trans Z0 K9.1) F10 hw0) hZ9 (hw _ (List.mem_of_getElem? (i := 3) rfl)) (hw _ (List.mem_of_getElem? (i := 2) rfl)) (by decide) (by decide) hEL Cq9.1) (g := (mkF m 19 #[.val (.int p1), .val (.int p2), .val (.int p3), .val (.int p4), .val (.int p5), .val (.int p6), .val (.ref s_1), .val (.ref s_3), .val (.ref s_9), .unset, .unset, .unset, .unset, .unset, .unset] [(.int p4)])) rfl (by rw [hml]; rfl) (argsL := [(.int p4)]) (rest := []) (lenOf pd__I_Ljava_lang_String_ rfl) rfl (by show 2 * 0 + _ ≤ _; exact Nat.le_of_eq rfl) (hb hby at_19) (fun _ _ => ⟨rfl, rfl, (by decide : 18 + 6 ≤ _), (by decide : 36 + 12 ≤ _)⟩)
  dsimp only [Pt.U, Pt.locs, Pt.cells, Pt.slots] at X19q hS19q hg19q l19 y19 z19 st19 hQ19 Cq19
  subst l19 y19 z19
  obtain ⟨X19, hS19, hZ19, hown19⟩ := rebS hS9 hk9 X19q hS19q hg19q hZ9 hown9
  have CR19 := CHr.trans CR9 Cq19
  have hk19 : T19.heap.size ≤ T19.heap.size := Nat.le_refl _
  obtain ⟨N19q, K19q, s_19, b_19, sz_s_19, rfl, P19_0, P19_1, P19_2, P19_3⟩ := hQ19
  refine own_stS (fun t k => st19.trans k) ?_
  have N19 := Fr.app N9 N19q
  have ge_s_19 : n0 ≤ s_19 := Nat.le_trans (Nat.le_trans Z0 K9.1) sz_s_19
  have sy_s_19 : h0.size ≤ s_19 := Nat.le_trans K9.1 sz_s_19
  have ne_b_1_s_19 : b_1 ≠ s_19 := Nat.ne_of_lt (Nat.lt_of_lt_of_le F14.lt sz_s_19)
  have ne_b_3_s_19 : b_3 ≠ s_19 := Nat.ne_of_lt (Nat.lt_of_lt_of_le F18.lt sz_s_19)
  have ne_b_9_s_19 : b_9 ≠ s_19 := Nat.ne_of_lt (Nat.lt_of_lt_of_le P9_3.lt sz_s_19)
  have ne_s_1_s_19 : s_1 ≠ s_19 := Nat.ne_of_lt (Nat.lt_of_lt_of_le F11.lt sz_s_19)
  have ne_s_3_s_19 : s_3 ≠ s_19 := Nat.ne_of_lt (Nat.lt_of_lt_of_le F15.lt sz_s_19)
  have ne_s_9_s_19 : s_9 ≠ s_19 := Nat.ne_of_lt (Nat.lt_of_lt_of_le P9_0.lt sz_s_19)
  have K19 : Keep h0 T19.heap [] := K9.trans K19q (own_all0 )
  have F20 : Sta Z T19.heap "java/lang/String" "COMPACT_STRINGS" "Z" (.int w) := (own_staK F10 K19q (own_all0 ))
  have F21 : Exa Z T19.heap s_1 "java/lang/String" := (F11.keep K19q)
  have F22 : Fld Z T19.heap s_1 "java/lang/String" "value" "[B" (.ref b_1) := (F12.keep K19q (own_nin0 ))
  have F23 : Fld Z T19.heap s_1 "java/lang/String" "coder" "B" (.int (0 : Int32)) := (F13.keep K19q (own_nin0 ))
  have F24 : OA Z T19.heap b_1 .byte ((bs p1 w).map Value.int) := (F14.keep K19q (own_nin0 ))
  have F25 : Exa Z T19.heap s_3 "java/lang/String" := (F15.keep K19q)
  have F26 : Fld Z T19.heap s_3 "java/lang/String" "value" "[B" (.ref b_3) := (F16.keep K19q (own_nin0 ))
  have F27 : Fld Z T19.heap s_3 "java/lang/String" "coder" "B" (.int (0 : Int32)) := (F17.keep K19q (own_nin0 ))
  have F28 : OA Z T19.heap b_3 .byte ((bs p2 w).map Value.int) := (F18.keep K19q (own_nin0 ))
  have F29 : Exa Z T19.heap s_9 "java/lang/String" := (P9_0.keep K19q)
  have F30 : Fld Z T19.heap s_9 "java/lang/String" "value" "[B" (.ref b_9) := (P9_1.keep K19q (own_nin0 ))
  have F31 : Fld Z T19.heap s_9 "java/lang/String" "coder" "B" (.int (0 : Int32)) := (P9_2.keep K19q (own_nin0 ))
  have F32 : OA Z T19.heap b_9 .byte ((bs p3 w).map Value.int) := (P9_3.keep K19q (own_nin0 ))
  show OGS _ _ p e _ s below _ T19 (mkF m 22 #[.val (.int p1), .val (.int p2), .val (.int p3), .val (.int p4), .val (.int p5), .val (.int p6), .val (.ref s_1), .val (.ref s_3), .val (.ref s_9), .unset, .unset, .unset, .unset, .unset, .unset] [(.ref s_19)])
  refine own_stS (fun t k => XS.astore X19.here hx rfl (hb hby at_22) rfl rfl (l' := #[.val (.int p1), .val (.int p2), .val (.int p3), .val (.int p4), .val (.int p5), .val (.int p6), .val (.ref s_1), .val (.ref s_3), .val (.ref s_9), .val (.ref s_19), .unset, .unset, .unset, .unset, .unset]) rfl k) ?_
  show OGS _ _ p e _ s below _ T19 (mkF m 24 #[.val (.int p1), .val (.int p2), .val (.int p3), .val (.int p4), .val (.int p5), .val (.int p6), .val (.ref s_1), .val (.ref s_3), .val (.ref s_9), .val (.ref s_19), .unset, .unset, .unset, .unset, .unset] [])
  refine own_stS (fun t k => XS.iload X19.here hx rfl (hb hby at_24) rfl k) ?_
  show OGS _ _ p e _ s below _ T19 (mkF m 26 #[.val (.int p1), .val (.int p2), .val (.int p3), .val (.int p4), .val (.int p5), .val (.int p6), .val (.ref s_1), .val (.ref s_3), .val (.ref s_9), .val (.ref s_19), .unset, .unset, .unset, .unset, .unset] [(.int p5)])
  obtain ⟨_, _, ⟨T33, L33, k33, n33⟩, -, X33q, hS33q, hg33q, ⟨Lc33, hQ33, l33, y33, z33, Cq33⟩, st33⟩ := callSS X19 hx (y := (⟨"com/example/vestbook/vestbook/OriginRepeatsPinLaw", "mk", "(I)Ljava/lang/String;"⟩ : MethodName)) hown19 (mvT hZ19 (hw _ (List.mem_of_getElem? (i := 0) rfl))) (mvT hZ19 (hw _ (List.mem_of_getElem? (i := 1) rfl))) (mvT hZ19 (hw _ (List.mem_of_getElem? (i := 2) rfl))) (mvT hZ19 (hw _ (List.mem_of_getElem? (i := 3) rfl))) (by decide) (backOfSH (EL := EL0) (W := 0) (rm := ({ frames := 4, cells := 6, slots := 12, locals := 66 } : Room)) (rm1 l Z a0 hw [] p5 w T19.heap n0 (Nat.le_trans Z0 K19.1) F20 hw0) hZ19 (hw _ (List.mem_of_getElem? (i := 3) rfl)) (hw _ (List.mem_of_getElem? (i := 2) rfl)) (by decide) (by decide) hEL Cq19.1) (g := (mkF m 26 #[.val (.int p1), .val (.int p2), .val (.int p3), .val (.int p4), .val (.int p5), .val (.int p6), .val (.ref s_1), .val (.ref s_3), .val (.ref s_9), .val (.ref s_19), .unset, .unset, .unset, .unset, .unset] [(.int p5)])) rfl (by rw [hml]; rfl) (argsL := [(.int p5)]) (rest := []) (lenOf pd__I_Ljava_lang_String_ rfl) rfl (by show 2 * 0 + _ ≤ _; exact Nat.le_of_eq rfl) (hb hby at_26) (fun _ _ => ⟨rfl, rfl, (by decide : 24 + 6 ≤ _), (by decide : 48 + 12 ≤ _)⟩)
  dsimp only [Pt.U, Pt.locs, Pt.cells, Pt.slots] at X33q hS33q hg33q l33 y33 z33 st33 hQ33 Cq33
  subst l33 y33 z33
  obtain ⟨X33, hS33, hZ33, hown33⟩ := rebS hS19 hk19 X33q hS33q hg33q hZ19 hown19
  have CR33 := CHr.trans CR19 Cq33
  have hk33 : T33.heap.size ≤ T33.heap.size := Nat.le_refl _
  obtain ⟨N33q, K33q, s_33, b_33, sz_s_33, rfl, P33_0, P33_1, P33_2, P33_3⟩ := hQ33
  refine own_stS (fun t k => st33.trans k) ?_
  have N33 := Fr.app N19 N33q
  have ge_s_33 : n0 ≤ s_33 := Nat.le_trans (Nat.le_trans Z0 K19.1) sz_s_33
  have sy_s_33 : h0.size ≤ s_33 := Nat.le_trans K19.1 sz_s_33
  have ne_b_1_s_33 : b_1 ≠ s_33 := Nat.ne_of_lt (Nat.lt_of_lt_of_le F24.lt sz_s_33)
  have ne_b_19_s_33 : b_19 ≠ s_33 := Nat.ne_of_lt (Nat.lt_of_lt_of_le P19_3.lt sz_s_33)
  have ne_b_3_s_33 : b_3 ≠ s_33 := Nat.ne_of_lt (Nat.lt_of_lt_of_le F28.lt sz_s_33)
  have ne_b_9_s_33 : b_9 ≠ s_33 := Nat.ne_of_lt (Nat.lt_of_lt_of_le F32.lt sz_s_33)
  have ne_s_1_s_33 : s_1 ≠ s_33 := Nat.ne_of_lt (Nat.lt_of_lt_of_le F21.lt sz_s_33)
  have ne_s_19_s_33 : s_19 ≠ s_33 := Nat.ne_of_lt (Nat.lt_of_lt_of_le P19_0.lt sz_s_33)
  have ne_s_3_s_33 : s_3 ≠ s_33 := Nat.ne_of_lt (Nat.lt_of_lt_of_le F25.lt sz_s_33)
  have ne_s_9_s_33 : s_9 ≠ s_33 := Nat.ne_of_lt (Nat.lt_of_lt_of_le F29.lt sz_s_33)
  have K33 : Keep h0 T33.heap [] := K19.trans K33q (own_all0 )
  have F34 : Sta Z T33.heap "java/lang/String" "COMPACT_STRINGS" "Z" (.int w) := (own_staK F20 K33q (own_all0 ))
  have F35 : Exa Z T33.heap s_1 "java/lang/String" := (F21.keep K33q)
  have F36 : Fld Z T33.heap s_1 "java/lang/String" "value" "[B" (.ref b_1) := (F22.keep K33q (own_nin0 ))
  have F37 : Fld Z T33.heap s_1 "java/lang/String" "coder" "B" (.int (0 : Int32)) := (F23.keep K33q (own_nin0 ))
  have F38 : OA Z T33.heap b_1 .byte ((bs p1 w).map Value.int) := (F24.keep K33q (own_nin0 ))
  have F39 : Exa Z T33.heap s_3 "java/lang/String" := (F25.keep K33q)
  have F40 : Fld Z T33.heap s_3 "java/lang/String" "value" "[B" (.ref b_3) := (F26.keep K33q (own_nin0 ))
  have F41 : Fld Z T33.heap s_3 "java/lang/String" "coder" "B" (.int (0 : Int32)) := (F27.keep K33q (own_nin0 ))
  have F42 : OA Z T33.heap b_3 .byte ((bs p2 w).map Value.int) := (F28.keep K33q (own_nin0 ))
  have F43 : Exa Z T33.heap s_9 "java/lang/String" := (F29.keep K33q)
  have F44 : Fld Z T33.heap s_9 "java/lang/String" "value" "[B" (.ref b_9) := (F30.keep K33q (own_nin0 ))
  have F45 : Fld Z T33.heap s_9 "java/lang/String" "coder" "B" (.int (0 : Int32)) := (F31.keep K33q (own_nin0 ))
  have F46 : OA Z T33.heap b_9 .byte ((bs p3 w).map Value.int) := (F32.keep K33q (own_nin0 ))
  have F47 : Exa Z T33.heap s_19 "java/lang/String" := (P19_0.keep K33q)
  have F48 : Fld Z T33.heap s_19 "java/lang/String" "value" "[B" (.ref b_19) := (P19_1.keep K33q (own_nin0 ))
  have F49 : Fld Z T33.heap s_19 "java/lang/String" "coder" "B" (.int (0 : Int32)) := (P19_2.keep K33q (own_nin0 ))
  have F50 : OA Z T33.heap b_19 .byte ((bs p4 w).map Value.int) := (P19_3.keep K33q (own_nin0 ))
  show OGS _ _ p e _ s below _ T33 (mkF m 29 #[.val (.int p1), .val (.int p2), .val (.int p3), .val (.int p4), .val (.int p5), .val (.int p6), .val (.ref s_1), .val (.ref s_3), .val (.ref s_9), .val (.ref s_19), .unset, .unset, .unset, .unset, .unset] [(.ref s_33)])
  refine own_stS (fun t k => XS.astore X33.here hx rfl (hb hby at_29) rfl rfl (l' := #[.val (.int p1), .val (.int p2), .val (.int p3), .val (.int p4), .val (.int p5), .val (.int p6), .val (.ref s_1), .val (.ref s_3), .val (.ref s_9), .val (.ref s_19), .val (.ref s_33), .unset, .unset, .unset, .unset]) rfl k) ?_
  show OGS _ _ p e _ s below _ T33 (mkF m 31 #[.val (.int p1), .val (.int p2), .val (.int p3), .val (.int p4), .val (.int p5), .val (.int p6), .val (.ref s_1), .val (.ref s_3), .val (.ref s_9), .val (.ref s_19), .val (.ref s_33), .unset, .unset, .unset, .unset] [])
  refine own_stS (fun t k => XS.iload X33.here hx rfl (hb hby at_31) rfl k) ?_
  show OGS _ _ p e _ s below _ T33 (mkF m 33 #[.val (.int p1), .val (.int p2), .val (.int p3), .val (.int p4), .val (.int p5), .val (.int p6), .val (.ref s_1), .val (.ref s_3), .val (.ref s_9), .val (.ref s_19), .val (.ref s_33), .unset, .unset, .unset, .unset] [(.int p6)])
  obtain ⟨_, _, ⟨T51, L51, k51, n51⟩, -, X51q, hS51q, hg51q, ⟨Lc51, hQ51, l51, y51, z51, Cq51⟩, st51⟩ := callSS X33 hx (y := (⟨"com/example/vestbook/vestbook/OriginRepeatsPinLaw", "mk", "(I)Ljava/lang/String;"⟩ : MethodName)) hown33 (mvT hZ33 (hw _ (List.mem_of_getElem? (i := 0) rfl))) (mvT hZ33 (hw _ (List.mem_of_getElem? (i := 1) rfl))) (mvT hZ33 (hw _ (List.mem_of_getElem? (i := 2) rfl))) (mvT hZ33 (hw _ (List.mem_of_getElem? (i := 3) rfl))) (by decide) (backOfSH (EL := EL0) (W := 0) (rm := ({ frames := 4, cells := 6, slots := 12, locals := 66 } : Room)) (rm1 l Z a0 hw [] p6 w T33.heap n0 (Nat.le_trans Z0 K33.1) F34 hw0) hZ33 (hw _ (List.mem_of_getElem? (i := 3) rfl)) (hw _ (List.mem_of_getElem? (i := 2) rfl)) (by decide) (by decide) hEL Cq33.1) (g := (mkF m 33 #[.val (.int p1), .val (.int p2), .val (.int p3), .val (.int p4), .val (.int p5), .val (.int p6), .val (.ref s_1), .val (.ref s_3), .val (.ref s_9), .val (.ref s_19), .val (.ref s_33), .unset, .unset, .unset, .unset] [(.int p6)])) rfl (by rw [hml]; rfl) (argsL := [(.int p6)]) (rest := []) (lenOf pd__I_Ljava_lang_String_ rfl) rfl (by show 2 * 0 + _ ≤ _; exact Nat.le_of_eq rfl) (hb hby at_33) (fun _ _ => ⟨rfl, rfl, (by decide : 30 + 6 ≤ _), (by decide : 60 + 12 ≤ _)⟩)
  dsimp only [Pt.U, Pt.locs, Pt.cells, Pt.slots] at X51q hS51q hg51q l51 y51 z51 st51 hQ51 Cq51
  subst l51 y51 z51
  obtain ⟨X51, hS51, hZ51, hown51⟩ := rebS hS33 hk33 X51q hS51q hg51q hZ33 hown33
  have CR51 := CHr.trans CR33 Cq51
  have hk51 : T51.heap.size ≤ T51.heap.size := Nat.le_refl _
  obtain ⟨N51q, K51q, s_51, b_51, sz_s_51, rfl, P51_0, P51_1, P51_2, P51_3⟩ := hQ51
  refine own_stS (fun t k => st51.trans k) ?_
  have N51 := Fr.app N33 N51q
  have ge_s_51 : n0 ≤ s_51 := Nat.le_trans (Nat.le_trans Z0 K33.1) sz_s_51
  have sy_s_51 : h0.size ≤ s_51 := Nat.le_trans K33.1 sz_s_51
  have ne_b_1_s_51 : b_1 ≠ s_51 := Nat.ne_of_lt (Nat.lt_of_lt_of_le F38.lt sz_s_51)
  have ne_b_19_s_51 : b_19 ≠ s_51 := Nat.ne_of_lt (Nat.lt_of_lt_of_le F50.lt sz_s_51)
  have ne_b_3_s_51 : b_3 ≠ s_51 := Nat.ne_of_lt (Nat.lt_of_lt_of_le F42.lt sz_s_51)
  have ne_b_33_s_51 : b_33 ≠ s_51 := Nat.ne_of_lt (Nat.lt_of_lt_of_le P33_3.lt sz_s_51)
  have ne_b_9_s_51 : b_9 ≠ s_51 := Nat.ne_of_lt (Nat.lt_of_lt_of_le F46.lt sz_s_51)
  have ne_s_1_s_51 : s_1 ≠ s_51 := Nat.ne_of_lt (Nat.lt_of_lt_of_le F35.lt sz_s_51)
  have ne_s_19_s_51 : s_19 ≠ s_51 := Nat.ne_of_lt (Nat.lt_of_lt_of_le F47.lt sz_s_51)
  have ne_s_3_s_51 : s_3 ≠ s_51 := Nat.ne_of_lt (Nat.lt_of_lt_of_le F39.lt sz_s_51)
  have ne_s_33_s_51 : s_33 ≠ s_51 := Nat.ne_of_lt (Nat.lt_of_lt_of_le P33_0.lt sz_s_51)
  have ne_s_9_s_51 : s_9 ≠ s_51 := Nat.ne_of_lt (Nat.lt_of_lt_of_le F43.lt sz_s_51)
  have K51 : Keep h0 T51.heap [] := K33.trans K51q (own_all0 )
  have F52 : Sta Z T51.heap "java/lang/String" "COMPACT_STRINGS" "Z" (.int w) := (own_staK F34 K51q (own_all0 ))
  have F53 : Exa Z T51.heap s_1 "java/lang/String" := (F35.keep K51q)
  have F54 : Fld Z T51.heap s_1 "java/lang/String" "value" "[B" (.ref b_1) := (F36.keep K51q (own_nin0 ))
  have F55 : Fld Z T51.heap s_1 "java/lang/String" "coder" "B" (.int (0 : Int32)) := (F37.keep K51q (own_nin0 ))
  have F56 : OA Z T51.heap b_1 .byte ((bs p1 w).map Value.int) := (F38.keep K51q (own_nin0 ))
  have F57 : Exa Z T51.heap s_3 "java/lang/String" := (F39.keep K51q)
  have F58 : Fld Z T51.heap s_3 "java/lang/String" "value" "[B" (.ref b_3) := (F40.keep K51q (own_nin0 ))
  have F59 : Fld Z T51.heap s_3 "java/lang/String" "coder" "B" (.int (0 : Int32)) := (F41.keep K51q (own_nin0 ))
  have F60 : OA Z T51.heap b_3 .byte ((bs p2 w).map Value.int) := (F42.keep K51q (own_nin0 ))
  have F61 : Exa Z T51.heap s_9 "java/lang/String" := (F43.keep K51q)
  have F62 : Fld Z T51.heap s_9 "java/lang/String" "value" "[B" (.ref b_9) := (F44.keep K51q (own_nin0 ))
  have F63 : Fld Z T51.heap s_9 "java/lang/String" "coder" "B" (.int (0 : Int32)) := (F45.keep K51q (own_nin0 ))
  have F64 : OA Z T51.heap b_9 .byte ((bs p3 w).map Value.int) := (F46.keep K51q (own_nin0 ))
  have F65 : Exa Z T51.heap s_19 "java/lang/String" := (F47.keep K51q)
  have F66 : Fld Z T51.heap s_19 "java/lang/String" "value" "[B" (.ref b_19) := (F48.keep K51q (own_nin0 ))
  have F67 : Fld Z T51.heap s_19 "java/lang/String" "coder" "B" (.int (0 : Int32)) := (F49.keep K51q (own_nin0 ))
  have F68 : OA Z T51.heap b_19 .byte ((bs p4 w).map Value.int) := (F50.keep K51q (own_nin0 ))
  have F69 : Exa Z T51.heap s_33 "java/lang/String" := (P33_0.keep K51q)
  have F70 : Fld Z T51.heap s_33 "java/lang/String" "value" "[B" (.ref b_33) := (P33_1.keep K51q (own_nin0 ))
  have F71 : Fld Z T51.heap s_33 "java/lang/String" "coder" "B" (.int (0 : Int32)) := (P33_2.keep K51q (own_nin0 ))
  have F72 : OA Z T51.heap b_33 .byte ((bs p5 w).map Value.int) := (P33_3.keep K51q (own_nin0 ))
  show OGS _ _ p e _ s below _ T51 (mkF m 36 #[.val (.int p1), .val (.int p2), .val (.int p3), .val (.int p4), .val (.int p5), .val (.int p6), .val (.ref s_1), .val (.ref s_3), .val (.ref s_9), .val (.ref s_19), .val (.ref s_33), .unset, .unset, .unset, .unset] [(.ref s_51)])
  refine own_stS (fun t k => XS.astore X51.here hx rfl (hb hby at_36) rfl rfl (l' := #[.val (.int p1), .val (.int p2), .val (.int p3), .val (.int p4), .val (.int p5), .val (.int p6), .val (.ref s_1), .val (.ref s_3), .val (.ref s_9), .val (.ref s_19), .val (.ref s_33), .val (.ref s_51), .unset, .unset, .unset]) rfl k) ?_
  show OGS _ _ p e _ s below _ T51 (mkF m 38 #[.val (.int p1), .val (.int p2), .val (.int p3), .val (.int p4), .val (.int p5), .val (.int p6), .val (.ref s_1), .val (.ref s_3), .val (.ref s_9), .val (.ref s_19), .val (.ref s_33), .val (.ref s_51), .unset, .unset, .unset] [])
  obtain ⟨T73, h73, X73, e73, E73, A73, D73, -, st73⟩ := newO X51 hx hZ51 hown51 (hw _ (List.mem_of_getElem? (i := 29) rfl)) (hw _ (List.mem_of_getElem? (i := 30) rfl)) (hw _ (List.mem_of_getElem? (i := 31) rfl)) rfl (g := (mkF m 38 #[.val (.int p1), .val (.int p2), .val (.int p3), .val (.int p4), .val (.int p5), .val (.int p6), .val (.ref s_1), .val (.ref s_3), .val (.ref s_9), .val (.ref s_19), .val (.ref s_33), .val (.ref s_51), .unset, .unset, .unset] [])) rfl (hb hby at_38) (by decide) (by decide)
  obtain ⟨o73, gb73⟩ : ∃ z, z = T51.heap.size := ⟨_, rfl⟩
  rw [← gb73] at A73 D73 st73
  refine own_stS st73 ?_
  have ge_o73 : n0 ≤ o73 := by rw [gb73]; exact Nat.le_trans Z0 K51.1
  have sz_o73 : h0.size ≤ o73 := by rw [gb73]; exact K51.1
  have ne_b_1_o73 : b_1 ≠ o73 := Nat.ne_of_lt (Nat.lt_of_lt_of_eq F56.lt gb73.symm)
  have ne_b_19_o73 : b_19 ≠ o73 := Nat.ne_of_lt (Nat.lt_of_lt_of_eq F68.lt gb73.symm)
  have ne_b_3_o73 : b_3 ≠ o73 := Nat.ne_of_lt (Nat.lt_of_lt_of_eq F60.lt gb73.symm)
  have ne_b_33_o73 : b_33 ≠ o73 := Nat.ne_of_lt (Nat.lt_of_lt_of_eq F72.lt gb73.symm)
  have ne_b_51_o73 : b_51 ≠ o73 := Nat.ne_of_lt (Nat.lt_of_lt_of_eq P51_3.lt gb73.symm)
  have ne_b_9_o73 : b_9 ≠ o73 := Nat.ne_of_lt (Nat.lt_of_lt_of_eq F64.lt gb73.symm)
  have ne_s_1_o73 : s_1 ≠ o73 := Nat.ne_of_lt (Nat.lt_of_lt_of_eq F53.lt gb73.symm)
  have ne_s_19_o73 : s_19 ≠ o73 := Nat.ne_of_lt (Nat.lt_of_lt_of_eq F65.lt gb73.symm)
  have ne_s_3_o73 : s_3 ≠ o73 := Nat.ne_of_lt (Nat.lt_of_lt_of_eq F57.lt gb73.symm)
  have ne_s_33_o73 : s_33 ≠ o73 := Nat.ne_of_lt (Nat.lt_of_lt_of_eq F69.lt gb73.symm)
  have ne_s_51_o73 : s_51 ≠ o73 := Nat.ne_of_lt (Nat.lt_of_lt_of_eq P51_0.lt gb73.symm)
  have ne_s_9_o73 : s_9 ≠ o73 := Nat.ne_of_lt (Nat.lt_of_lt_of_eq F61.lt gb73.symm)
  have F74 : Sta Z h73 "java/lang/String" "COMPACT_STRINGS" "Z" (.int w) := (F52.ext E73)
  have F75 : Exa Z h73 s_1 "java/lang/String" := (F53.ext E73)
  have F76 : Fld Z h73 s_1 "java/lang/String" "value" "[B" (.ref b_1) := (F54.ext E73)
  have F77 : Fld Z h73 s_1 "java/lang/String" "coder" "B" (.int (0 : Int32)) := (F55.ext E73)
  have F78 : OA Z h73 b_1 .byte ((bs p1 w).map Value.int) := (F56.ext E73)
  have F79 : Exa Z h73 s_3 "java/lang/String" := (F57.ext E73)
  have F80 : Fld Z h73 s_3 "java/lang/String" "value" "[B" (.ref b_3) := (F58.ext E73)
  have F81 : Fld Z h73 s_3 "java/lang/String" "coder" "B" (.int (0 : Int32)) := (F59.ext E73)
  have F82 : OA Z h73 b_3 .byte ((bs p2 w).map Value.int) := (F60.ext E73)
  have F83 : Exa Z h73 s_9 "java/lang/String" := (F61.ext E73)
  have F84 : Fld Z h73 s_9 "java/lang/String" "value" "[B" (.ref b_9) := (F62.ext E73)
  have F85 : Fld Z h73 s_9 "java/lang/String" "coder" "B" (.int (0 : Int32)) := (F63.ext E73)
  have F86 : OA Z h73 b_9 .byte ((bs p3 w).map Value.int) := (F64.ext E73)
  have F87 : Exa Z h73 s_19 "java/lang/String" := (F65.ext E73)
  have F88 : Fld Z h73 s_19 "java/lang/String" "value" "[B" (.ref b_19) := (F66.ext E73)
  have F89 : Fld Z h73 s_19 "java/lang/String" "coder" "B" (.int (0 : Int32)) := (F67.ext E73)
  have F90 : OA Z h73 b_19 .byte ((bs p4 w).map Value.int) := (F68.ext E73)
  have F91 : Exa Z h73 s_33 "java/lang/String" := (F69.ext E73)
  have F92 : Fld Z h73 s_33 "java/lang/String" "value" "[B" (.ref b_33) := (F70.ext E73)
  have F93 : Fld Z h73 s_33 "java/lang/String" "coder" "B" (.int (0 : Int32)) := (F71.ext E73)
  have F94 : OA Z h73 b_33 .byte ((bs p5 w).map Value.int) := (F72.ext E73)
  have F95 : Exa Z h73 s_51 "java/lang/String" := (P51_0.ext E73)
  have F96 : Fld Z h73 s_51 "java/lang/String" "value" "[B" (.ref b_51) := (P51_1.ext E73)
  have F97 : Fld Z h73 s_51 "java/lang/String" "coder" "B" (.int (0 : Int32)) := (P51_2.ext E73)
  have F98 : OA Z h73 b_51 .byte ((bs p6 w).map Value.int) := (P51_3.ext E73)
  have K99 : Keep h0 h73 [] := K51.ext E73
  have F100 : Fld Z h73 o73 "com/example/vestbook/vestbook/Origin" "command" "Ljava/lang/String;" .null := D73 (Or.inr (hw _ (List.mem_of_getElem? (i := 42) rfl))) (ty := (.object "java/lang/String")) (by decide)
  have F101 : Fld Z h73 o73 "com/example/vestbook/vestbook/Origin" "file" "Ljava/lang/String;" .null := D73 (Or.inr (hw _ (List.mem_of_getElem? (i := 44) rfl))) (ty := (.object "java/lang/String")) (by decide)
  have F102 : Fld Z h73 o73 "com/example/vestbook/vestbook/Origin" "sha256" "Ljava/lang/String;" .null := D73 (Or.inr (hw _ (List.mem_of_getElem? (i := 46) rfl))) (ty := (.object "java/lang/String")) (by decide)
  show OGS _ _ p e _ s below _ T73 (mkF m 41 #[.val (.int p1), .val (.int p2), .val (.int p3), .val (.int p4), .val (.int p5), .val (.int p6), .val (.ref s_1), .val (.ref s_3), .val (.ref s_9), .val (.ref s_19), .val (.ref s_33), .val (.ref s_51), .unset, .unset, .unset] [(.ref o73)])
  have CR103 : CHr Z EL0 s.vm h0 T51.vm h73 := CHr.trans CR51 (CHr.ext E73 Cq51.1)
  have CH103 : CHv Z EL0 T51.vm h73 := CHv.ext E73 Cq51.1
  have hk103 := Nat.le_trans hk51 E73.1
  refine own_stS (fun t k => XS.dup X73.here hx rfl (hb hby at_41) rfl rfl k) ?_
  show OGS _ _ p e _ s below _ T73 (mkF m 42 #[.val (.int p1), .val (.int p2), .val (.int p3), .val (.int p4), .val (.int p5), .val (.int p6), .val (.ref s_1), .val (.ref s_3), .val (.ref s_9), .val (.ref s_19), .val (.ref s_33), .val (.ref s_51), .unset, .unset, .unset] [(.ref o73), (.ref o73)])
  refine own_stS (fun t k => XS.aload X73.here hx rfl (hb hby at_42) rfl rfl k) ?_
  show OGS _ _ p e _ s below _ T73 (mkF m 44 #[.val (.int p1), .val (.int p2), .val (.int p3), .val (.int p4), .val (.int p5), .val (.int p6), .val (.ref s_1), .val (.ref s_3), .val (.ref s_9), .val (.ref s_19), .val (.ref s_33), .val (.ref s_51), .unset, .unset, .unset] [(.ref s_1), (.ref o73), (.ref o73)])
  refine own_stS (fun t k => XS.aload X73.here hx rfl (hb hby at_44) rfl rfl k) ?_
  show OGS _ _ p e _ s below _ T73 (mkF m 46 #[.val (.int p1), .val (.int p2), .val (.int p3), .val (.int p4), .val (.int p5), .val (.int p6), .val (.ref s_1), .val (.ref s_3), .val (.ref s_9), .val (.ref s_19), .val (.ref s_33), .val (.ref s_51), .unset, .unset, .unset] [(.ref s_33), (.ref s_1), (.ref o73), (.ref o73)])
  refine own_stS (fun t k => XS.aload X73.here hx rfl (hb hby at_46) rfl rfl k) ?_
  show OGS _ _ p e _ s below _ T73 (mkF m 48 #[.val (.int p1), .val (.int p2), .val (.int p3), .val (.int p4), .val (.int p5), .val (.int p6), .val (.ref s_1), .val (.ref s_3), .val (.ref s_9), .val (.ref s_19), .val (.ref s_33), .val (.ref s_51), .unset, .unset, .unset] [(.ref s_9), (.ref s_33), (.ref s_1), (.ref o73), (.ref o73)])
  obtain ⟨_, _, ⟨T104, L104, k104, n104⟩, -, X104, ⟨Lc104, hQ104, l104, y104, z104⟩, st104⟩ := X73.specialBack hx (y := (⟨"com/example/vestbook/vestbook/Origin", "<init>", "(Ljava/lang/String;Ljava/lang/String;Ljava/lang/String;)V"⟩ : MethodName)) rfl hown51 (mvT hZ51 (hw _ (List.mem_of_getElem? (i := 32) rfl))) (mvT hZ51 (hw _ (List.mem_of_getElem? (i := 33) rfl))) (mvT hZ51 (hw _ (List.mem_of_getElem? (i := 34) rfl))) (by decide) (backOf (W := 1) (rm := ({ frames := 2, cells := 0, slots := 0, locals := 24 } : Room)) (rm6 l Z a0 hw [] o73 s_1 s_33 s_9 h73 n0 A73 F100 F101 F102 ge_o73) hZ51 (hw _ (List.mem_of_getElem? (i := 34) rfl)) (hw _ (List.mem_of_getElem? (i := 31) rfl)) (by decide) (by decide)) (g := (mkF m 48 #[.val (.int p1), .val (.int p2), .val (.int p3), .val (.int p4), .val (.int p5), .val (.int p6), .val (.ref s_1), .val (.ref s_3), .val (.ref s_9), .val (.ref s_19), .val (.ref s_33), .val (.ref s_51), .unset, .unset, .unset] [(.ref s_9), (.ref s_33), (.ref s_1), (.ref o73), (.ref o73)])) rfl (by rw [hml]; rfl) (Steps.refl _) (a := o73) (argsL := [(.ref s_1), (.ref s_33), (.ref s_9)]) (rest := [(.ref o73)]) (lenOf pd__Ljava_lang_String_Ljava_lang_String_Ljava_lang_String__V rfl) rfl (by show 2 * 0 + _ ≤ _; exact Nat.le_of_eq rfl) (hb hby at_48) (fun _ _ => ⟨rfl, e73, (by decide : 37 + 0 ≤ _), (by decide : 75 + 0 ≤ _)⟩)
  dsimp only [Pt.U, Pt.locs, Pt.cells, Pt.slots] at X104 l104 y104 z104 st104 hQ104
  subst l104 y104 z104
  obtain ⟨rfl, N104q, K104q, P104_0, P104_1, P104_2, P104_3⟩ := hQ104
  refine own_stS (fun t k => st104.trans k) ?_
  have N104 := Fr.app N51 N104q
  have K104 : Keep h0 T104.heap [] := K99.trans K104q (own_all1 (Or.inr sz_o73))
  have F105 : Sta Z T104.heap "java/lang/String" "COMPACT_STRINGS" "Z" (.int w) := (own_staK F74 K104q (own_all1 (own_plE A73)))
  have F106 : Exa Z T104.heap s_1 "java/lang/String" := (F75.keep K104q)
  have F107 : Fld Z T104.heap s_1 "java/lang/String" "value" "[B" (.ref b_1) := (F76.keep K104q (own_nin1 ne_s_1_o73))
  have F108 : Fld Z T104.heap s_1 "java/lang/String" "coder" "B" (.int (0 : Int32)) := (F77.keep K104q (own_nin1 ne_s_1_o73))
  have F109 : OA Z T104.heap b_1 .byte ((bs p1 w).map Value.int) := (F78.keep K104q (own_nin1 ne_b_1_o73))
  have F110 : Exa Z T104.heap s_3 "java/lang/String" := (F79.keep K104q)
  have F111 : Fld Z T104.heap s_3 "java/lang/String" "value" "[B" (.ref b_3) := (F80.keep K104q (own_nin1 ne_s_3_o73))
  have F112 : Fld Z T104.heap s_3 "java/lang/String" "coder" "B" (.int (0 : Int32)) := (F81.keep K104q (own_nin1 ne_s_3_o73))
  have F113 : OA Z T104.heap b_3 .byte ((bs p2 w).map Value.int) := (F82.keep K104q (own_nin1 ne_b_3_o73))
  have F114 : Exa Z T104.heap s_9 "java/lang/String" := (F83.keep K104q)
  have F115 : Fld Z T104.heap s_9 "java/lang/String" "value" "[B" (.ref b_9) := (F84.keep K104q (own_nin1 ne_s_9_o73))
  have F116 : Fld Z T104.heap s_9 "java/lang/String" "coder" "B" (.int (0 : Int32)) := (F85.keep K104q (own_nin1 ne_s_9_o73))
  have F117 : OA Z T104.heap b_9 .byte ((bs p3 w).map Value.int) := (F86.keep K104q (own_nin1 ne_b_9_o73))
  have F118 : Exa Z T104.heap s_19 "java/lang/String" := (F87.keep K104q)
  have F119 : Fld Z T104.heap s_19 "java/lang/String" "value" "[B" (.ref b_19) := (F88.keep K104q (own_nin1 ne_s_19_o73))
  have F120 : Fld Z T104.heap s_19 "java/lang/String" "coder" "B" (.int (0 : Int32)) := (F89.keep K104q (own_nin1 ne_s_19_o73))
  have F121 : OA Z T104.heap b_19 .byte ((bs p4 w).map Value.int) := (F90.keep K104q (own_nin1 ne_b_19_o73))
  have F122 : Exa Z T104.heap s_33 "java/lang/String" := (F91.keep K104q)
  have F123 : Fld Z T104.heap s_33 "java/lang/String" "value" "[B" (.ref b_33) := (F92.keep K104q (own_nin1 ne_s_33_o73))
  have F124 : Fld Z T104.heap s_33 "java/lang/String" "coder" "B" (.int (0 : Int32)) := (F93.keep K104q (own_nin1 ne_s_33_o73))
  have F125 : OA Z T104.heap b_33 .byte ((bs p5 w).map Value.int) := (F94.keep K104q (own_nin1 ne_b_33_o73))
  have F126 : Exa Z T104.heap s_51 "java/lang/String" := (F95.keep K104q)
  have F127 : Fld Z T104.heap s_51 "java/lang/String" "value" "[B" (.ref b_51) := (F96.keep K104q (own_nin1 ne_s_51_o73))
  have F128 : Fld Z T104.heap s_51 "java/lang/String" "coder" "B" (.int (0 : Int32)) := (F97.keep K104q (own_nin1 ne_s_51_o73))
  have F129 : OA Z T104.heap b_51 .byte ((bs p6 w).map Value.int) := (F98.keep K104q (own_nin1 ne_b_51_o73))
  show OGS _ _ p e _ s below _ T104 (mkF m 51 #[.val (.int p1), .val (.int p2), .val (.int p3), .val (.int p4), .val (.int p5), .val (.int p6), .val (.ref s_1), .val (.ref s_3), .val (.ref s_9), .val (.ref s_19), .val (.ref s_33), .val (.ref s_51), .unset, .unset, .unset] [(.ref o73)])
  have CR130 : CHr Z EL0 s.vm h0 T51.vm T104.heap := CHr.trans CR103 (CHr.keep K104q (own_all1 (Safe.exa hZ51.alike A73 (by decide) (by decide))) CH103)
  have CH130 : CHv Z EL0 T51.vm T104.heap := CHv.keep K104q (own_all1 (Safe.exa hZ51.alike A73 (by decide) (by decide))) CH103
  have hk130 := Nat.le_trans hk103 K104q.1
  refine own_stS (fun t k => XS.astore X104.here hx rfl (hb hby at_51) rfl rfl (l' := #[.val (.int p1), .val (.int p2), .val (.int p3), .val (.int p4), .val (.int p5), .val (.int p6), .val (.ref s_1), .val (.ref s_3), .val (.ref s_9), .val (.ref s_19), .val (.ref s_33), .val (.ref s_51), .val (.ref o73), .unset, .unset]) rfl k) ?_
  show OGS _ _ p e _ s below _ T104 (mkF m 53 #[.val (.int p1), .val (.int p2), .val (.int p3), .val (.int p4), .val (.int p5), .val (.int p6), .val (.ref s_1), .val (.ref s_3), .val (.ref s_9), .val (.ref s_19), .val (.ref s_33), .val (.ref s_51), .val (.ref o73), .unset, .unset] [])
  obtain ⟨T131, h131, X131, e131, E131, A131, D131, -, st131⟩ := newO X104 hx hZ51 hown51 (hw _ (List.mem_of_getElem? (i := 29) rfl)) (hw _ (List.mem_of_getElem? (i := 30) rfl)) (hw _ (List.mem_of_getElem? (i := 31) rfl)) rfl (g := (mkF m 53 #[.val (.int p1), .val (.int p2), .val (.int p3), .val (.int p4), .val (.int p5), .val (.int p6), .val (.ref s_1), .val (.ref s_3), .val (.ref s_9), .val (.ref s_19), .val (.ref s_33), .val (.ref s_51), .val (.ref o73), .unset, .unset] [])) rfl (hb hby at_53) (by decide) (by decide)
  obtain ⟨o131, gb131⟩ : ∃ z, z = T104.heap.size := ⟨_, rfl⟩
  rw [← gb131] at A131 D131 st131
  refine own_stS st131 ?_
  have ge_o131 : n0 ≤ o131 := by rw [gb131]; exact Nat.le_trans Z0 K104.1
  have sz_o131 : h0.size ≤ o131 := by rw [gb131]; exact K104.1
  have ne_b_1_o131 : b_1 ≠ o131 := Nat.ne_of_lt (Nat.lt_of_lt_of_eq F109.lt gb131.symm)
  have ne_b_19_o131 : b_19 ≠ o131 := Nat.ne_of_lt (Nat.lt_of_lt_of_eq F121.lt gb131.symm)
  have ne_b_3_o131 : b_3 ≠ o131 := Nat.ne_of_lt (Nat.lt_of_lt_of_eq F113.lt gb131.symm)
  have ne_b_33_o131 : b_33 ≠ o131 := Nat.ne_of_lt (Nat.lt_of_lt_of_eq F125.lt gb131.symm)
  have ne_b_51_o131 : b_51 ≠ o131 := Nat.ne_of_lt (Nat.lt_of_lt_of_eq F129.lt gb131.symm)
  have ne_b_9_o131 : b_9 ≠ o131 := Nat.ne_of_lt (Nat.lt_of_lt_of_eq F117.lt gb131.symm)
  have ne_o73_o131 : o73 ≠ o131 := Nat.ne_of_lt (Nat.lt_of_lt_of_eq P104_0.lt gb131.symm)
  have ne_s_1_o131 : s_1 ≠ o131 := Nat.ne_of_lt (Nat.lt_of_lt_of_eq F106.lt gb131.symm)
  have ne_s_19_o131 : s_19 ≠ o131 := Nat.ne_of_lt (Nat.lt_of_lt_of_eq F118.lt gb131.symm)
  have ne_s_3_o131 : s_3 ≠ o131 := Nat.ne_of_lt (Nat.lt_of_lt_of_eq F110.lt gb131.symm)
  have ne_s_33_o131 : s_33 ≠ o131 := Nat.ne_of_lt (Nat.lt_of_lt_of_eq F122.lt gb131.symm)
  have ne_s_51_o131 : s_51 ≠ o131 := Nat.ne_of_lt (Nat.lt_of_lt_of_eq F126.lt gb131.symm)
  have ne_s_9_o131 : s_9 ≠ o131 := Nat.ne_of_lt (Nat.lt_of_lt_of_eq F114.lt gb131.symm)
  have F132 : Sta Z h131 "java/lang/String" "COMPACT_STRINGS" "Z" (.int w) := (F105.ext E131)
  have F133 : Exa Z h131 s_1 "java/lang/String" := (F106.ext E131)
  have F134 : Fld Z h131 s_1 "java/lang/String" "value" "[B" (.ref b_1) := (F107.ext E131)
  have F135 : Fld Z h131 s_1 "java/lang/String" "coder" "B" (.int (0 : Int32)) := (F108.ext E131)
  have F136 : OA Z h131 b_1 .byte ((bs p1 w).map Value.int) := (F109.ext E131)
  have F137 : Exa Z h131 s_3 "java/lang/String" := (F110.ext E131)
  have F138 : Fld Z h131 s_3 "java/lang/String" "value" "[B" (.ref b_3) := (F111.ext E131)
  have F139 : Fld Z h131 s_3 "java/lang/String" "coder" "B" (.int (0 : Int32)) := (F112.ext E131)
  have F140 : OA Z h131 b_3 .byte ((bs p2 w).map Value.int) := (F113.ext E131)
  have F141 : Exa Z h131 s_9 "java/lang/String" := (F114.ext E131)
  have F142 : Fld Z h131 s_9 "java/lang/String" "value" "[B" (.ref b_9) := (F115.ext E131)
  have F143 : Fld Z h131 s_9 "java/lang/String" "coder" "B" (.int (0 : Int32)) := (F116.ext E131)
  have F144 : OA Z h131 b_9 .byte ((bs p3 w).map Value.int) := (F117.ext E131)
  have F145 : Exa Z h131 s_19 "java/lang/String" := (F118.ext E131)
  have F146 : Fld Z h131 s_19 "java/lang/String" "value" "[B" (.ref b_19) := (F119.ext E131)
  have F147 : Fld Z h131 s_19 "java/lang/String" "coder" "B" (.int (0 : Int32)) := (F120.ext E131)
  have F148 : OA Z h131 b_19 .byte ((bs p4 w).map Value.int) := (F121.ext E131)
  have F149 : Exa Z h131 s_33 "java/lang/String" := (F122.ext E131)
  have F150 : Fld Z h131 s_33 "java/lang/String" "value" "[B" (.ref b_33) := (F123.ext E131)
  have F151 : Fld Z h131 s_33 "java/lang/String" "coder" "B" (.int (0 : Int32)) := (F124.ext E131)
  have F152 : OA Z h131 b_33 .byte ((bs p5 w).map Value.int) := (F125.ext E131)
  have F153 : Exa Z h131 s_51 "java/lang/String" := (F126.ext E131)
  have F154 : Fld Z h131 s_51 "java/lang/String" "value" "[B" (.ref b_51) := (F127.ext E131)
  have F155 : Fld Z h131 s_51 "java/lang/String" "coder" "B" (.int (0 : Int32)) := (F128.ext E131)
  have F156 : OA Z h131 b_51 .byte ((bs p6 w).map Value.int) := (F129.ext E131)
  have F157 : Exa Z h131 o73 "com/example/vestbook/vestbook/Origin" := (P104_0.ext E131)
  have F158 : Fld Z h131 o73 "com/example/vestbook/vestbook/Origin" "command" "Ljava/lang/String;" (.ref s_1) := (P104_1.ext E131)
  have F159 : Fld Z h131 o73 "com/example/vestbook/vestbook/Origin" "file" "Ljava/lang/String;" (.ref s_33) := (P104_2.ext E131)
  have F160 : Fld Z h131 o73 "com/example/vestbook/vestbook/Origin" "sha256" "Ljava/lang/String;" (.ref s_9) := (P104_3.ext E131)
  have K161 : Keep h0 h131 [] := K104.ext E131
  have F162 : Fld Z h131 o131 "com/example/vestbook/vestbook/Origin" "command" "Ljava/lang/String;" .null := D131 (Or.inr (hw _ (List.mem_of_getElem? (i := 42) rfl))) (ty := (.object "java/lang/String")) (by decide)
  have F163 : Fld Z h131 o131 "com/example/vestbook/vestbook/Origin" "file" "Ljava/lang/String;" .null := D131 (Or.inr (hw _ (List.mem_of_getElem? (i := 44) rfl))) (ty := (.object "java/lang/String")) (by decide)
  have F164 : Fld Z h131 o131 "com/example/vestbook/vestbook/Origin" "sha256" "Ljava/lang/String;" .null := D131 (Or.inr (hw _ (List.mem_of_getElem? (i := 46) rfl))) (ty := (.object "java/lang/String")) (by decide)
  show OGS _ _ p e _ s below _ T131 (mkF m 56 #[.val (.int p1), .val (.int p2), .val (.int p3), .val (.int p4), .val (.int p5), .val (.int p6), .val (.ref s_1), .val (.ref s_3), .val (.ref s_9), .val (.ref s_19), .val (.ref s_33), .val (.ref s_51), .val (.ref o73), .unset, .unset] [(.ref o131)])
  have CR165 : CHr Z EL0 s.vm h0 T51.vm h131 := CHr.trans CR130 (CHr.ext E131 CH130)
  have CH165 : CHv Z EL0 T51.vm h131 := CHv.ext E131 CH130
  have hk165 := Nat.le_trans hk130 E131.1
  refine own_stS (fun t k => XS.dup X131.here hx rfl (hb hby at_56) rfl rfl k) ?_
  show OGS _ _ p e _ s below _ T131 (mkF m 57 #[.val (.int p1), .val (.int p2), .val (.int p3), .val (.int p4), .val (.int p5), .val (.int p6), .val (.ref s_1), .val (.ref s_3), .val (.ref s_9), .val (.ref s_19), .val (.ref s_33), .val (.ref s_51), .val (.ref o73), .unset, .unset] [(.ref o131), (.ref o131)])
  refine own_stS (fun t k => XS.aload X131.here hx rfl (hb hby at_57) rfl rfl k) ?_
  show OGS _ _ p e _ s below _ T131 (mkF m 59 #[.val (.int p1), .val (.int p2), .val (.int p3), .val (.int p4), .val (.int p5), .val (.int p6), .val (.ref s_1), .val (.ref s_3), .val (.ref s_9), .val (.ref s_19), .val (.ref s_33), .val (.ref s_51), .val (.ref o73), .unset, .unset] [(.ref s_3), (.ref o131), (.ref o131)])
  refine own_stS (fun t k => XS.aload X131.here hx rfl (hb hby at_59) rfl rfl k) ?_
  show OGS _ _ p e _ s below _ T131 (mkF m 61 #[.val (.int p1), .val (.int p2), .val (.int p3), .val (.int p4), .val (.int p5), .val (.int p6), .val (.ref s_1), .val (.ref s_3), .val (.ref s_9), .val (.ref s_19), .val (.ref s_33), .val (.ref s_51), .val (.ref o73), .unset, .unset] [(.ref s_51), (.ref s_3), (.ref o131), (.ref o131)])
  refine own_stS (fun t k => XS.aload X131.here hx rfl (hb hby at_61) rfl rfl k) ?_
  show OGS _ _ p e _ s below _ T131 (mkF m 63 #[.val (.int p1), .val (.int p2), .val (.int p3), .val (.int p4), .val (.int p5), .val (.int p6), .val (.ref s_1), .val (.ref s_3), .val (.ref s_9), .val (.ref s_19), .val (.ref s_33), .val (.ref s_51), .val (.ref o73), .unset, .unset] [(.ref s_19), (.ref s_51), (.ref s_3), (.ref o131), (.ref o131)])
  obtain ⟨_, _, ⟨T166, L166, k166, n166⟩, -, X166, ⟨Lc166, hQ166, l166, y166, z166⟩, st166⟩ := X131.specialBack hx (y := (⟨"com/example/vestbook/vestbook/Origin", "<init>", "(Ljava/lang/String;Ljava/lang/String;Ljava/lang/String;)V"⟩ : MethodName)) rfl hown51 (mvT hZ51 (hw _ (List.mem_of_getElem? (i := 32) rfl))) (mvT hZ51 (hw _ (List.mem_of_getElem? (i := 33) rfl))) (mvT hZ51 (hw _ (List.mem_of_getElem? (i := 34) rfl))) (by decide) (backOf (W := 1) (rm := ({ frames := 2, cells := 0, slots := 0, locals := 24 } : Room)) (rm6 l Z a0 hw [] o131 s_3 s_51 s_19 h131 n0 A131 F162 F163 F164 ge_o131) hZ51 (hw _ (List.mem_of_getElem? (i := 34) rfl)) (hw _ (List.mem_of_getElem? (i := 31) rfl)) (by decide) (by decide)) (g := (mkF m 63 #[.val (.int p1), .val (.int p2), .val (.int p3), .val (.int p4), .val (.int p5), .val (.int p6), .val (.ref s_1), .val (.ref s_3), .val (.ref s_9), .val (.ref s_19), .val (.ref s_33), .val (.ref s_51), .val (.ref o73), .unset, .unset] [(.ref s_19), (.ref s_51), (.ref s_3), (.ref o131), (.ref o131)])) rfl (by rw [hml]; rfl) (Steps.refl _) (a := o131) (argsL := [(.ref s_3), (.ref s_51), (.ref s_19)]) (rest := [(.ref o131)]) (lenOf pd__Ljava_lang_String_Ljava_lang_String_Ljava_lang_String__V rfl) rfl (by show 2 * 0 + _ ≤ _; exact Nat.le_of_eq rfl) (hb hby at_63) (fun _ _ => ⟨rfl, e131, (by decide : 38 + 0 ≤ _), (by decide : 78 + 0 ≤ _)⟩)
  dsimp only [Pt.U, Pt.locs, Pt.cells, Pt.slots] at X166 l166 y166 z166 st166 hQ166
  subst l166 y166 z166
  obtain ⟨rfl, N166q, K166q, P166_0, P166_1, P166_2, P166_3⟩ := hQ166
  refine own_stS (fun t k => st166.trans k) ?_
  have N166 := Fr.app N104 N166q
  have K166 : Keep h0 T166.heap [] := K161.trans K166q (own_all1 (Or.inr sz_o131))
  have F167 : Sta Z T166.heap "java/lang/String" "COMPACT_STRINGS" "Z" (.int w) := (own_staK F132 K166q (own_all1 (own_plE A131)))
  have F168 : Exa Z T166.heap s_1 "java/lang/String" := (F133.keep K166q)
  have F169 : Fld Z T166.heap s_1 "java/lang/String" "value" "[B" (.ref b_1) := (F134.keep K166q (own_nin1 ne_s_1_o131))
  have F170 : Fld Z T166.heap s_1 "java/lang/String" "coder" "B" (.int (0 : Int32)) := (F135.keep K166q (own_nin1 ne_s_1_o131))
  have F171 : OA Z T166.heap b_1 .byte ((bs p1 w).map Value.int) := (F136.keep K166q (own_nin1 ne_b_1_o131))
  have F172 : Exa Z T166.heap s_3 "java/lang/String" := (F137.keep K166q)
  have F173 : Fld Z T166.heap s_3 "java/lang/String" "value" "[B" (.ref b_3) := (F138.keep K166q (own_nin1 ne_s_3_o131))
  have F174 : Fld Z T166.heap s_3 "java/lang/String" "coder" "B" (.int (0 : Int32)) := (F139.keep K166q (own_nin1 ne_s_3_o131))
  have F175 : OA Z T166.heap b_3 .byte ((bs p2 w).map Value.int) := (F140.keep K166q (own_nin1 ne_b_3_o131))
  have F176 : Exa Z T166.heap s_9 "java/lang/String" := (F141.keep K166q)
  have F177 : Fld Z T166.heap s_9 "java/lang/String" "value" "[B" (.ref b_9) := (F142.keep K166q (own_nin1 ne_s_9_o131))
  have F178 : Fld Z T166.heap s_9 "java/lang/String" "coder" "B" (.int (0 : Int32)) := (F143.keep K166q (own_nin1 ne_s_9_o131))
  have F179 : OA Z T166.heap b_9 .byte ((bs p3 w).map Value.int) := (F144.keep K166q (own_nin1 ne_b_9_o131))
  have F180 : Exa Z T166.heap s_19 "java/lang/String" := (F145.keep K166q)
  have F181 : Fld Z T166.heap s_19 "java/lang/String" "value" "[B" (.ref b_19) := (F146.keep K166q (own_nin1 ne_s_19_o131))
  have F182 : Fld Z T166.heap s_19 "java/lang/String" "coder" "B" (.int (0 : Int32)) := (F147.keep K166q (own_nin1 ne_s_19_o131))
  have F183 : OA Z T166.heap b_19 .byte ((bs p4 w).map Value.int) := (F148.keep K166q (own_nin1 ne_b_19_o131))
  have F184 : Exa Z T166.heap s_33 "java/lang/String" := (F149.keep K166q)
  have F185 : Fld Z T166.heap s_33 "java/lang/String" "value" "[B" (.ref b_33) := (F150.keep K166q (own_nin1 ne_s_33_o131))
  have F186 : Fld Z T166.heap s_33 "java/lang/String" "coder" "B" (.int (0 : Int32)) := (F151.keep K166q (own_nin1 ne_s_33_o131))
  have F187 : OA Z T166.heap b_33 .byte ((bs p5 w).map Value.int) := (F152.keep K166q (own_nin1 ne_b_33_o131))
  have F188 : Exa Z T166.heap s_51 "java/lang/String" := (F153.keep K166q)
  have F189 : Fld Z T166.heap s_51 "java/lang/String" "value" "[B" (.ref b_51) := (F154.keep K166q (own_nin1 ne_s_51_o131))
  have F190 : Fld Z T166.heap s_51 "java/lang/String" "coder" "B" (.int (0 : Int32)) := (F155.keep K166q (own_nin1 ne_s_51_o131))
  have F191 : OA Z T166.heap b_51 .byte ((bs p6 w).map Value.int) := (F156.keep K166q (own_nin1 ne_b_51_o131))
  have F192 : Exa Z T166.heap o73 "com/example/vestbook/vestbook/Origin" := (F157.keep K166q)
  have F193 : Fld Z T166.heap o73 "com/example/vestbook/vestbook/Origin" "command" "Ljava/lang/String;" (.ref s_1) := (F158.keep K166q (own_nin1 ne_o73_o131))
  have F194 : Fld Z T166.heap o73 "com/example/vestbook/vestbook/Origin" "file" "Ljava/lang/String;" (.ref s_33) := (F159.keep K166q (own_nin1 ne_o73_o131))
  have F195 : Fld Z T166.heap o73 "com/example/vestbook/vestbook/Origin" "sha256" "Ljava/lang/String;" (.ref s_9) := (F160.keep K166q (own_nin1 ne_o73_o131))
  show OGS _ _ p e _ s below _ T166 (mkF m 66 #[.val (.int p1), .val (.int p2), .val (.int p3), .val (.int p4), .val (.int p5), .val (.int p6), .val (.ref s_1), .val (.ref s_3), .val (.ref s_9), .val (.ref s_19), .val (.ref s_33), .val (.ref s_51), .val (.ref o73), .unset, .unset] [(.ref o131)])
  have CR196 : CHr Z EL0 s.vm h0 T51.vm T166.heap := CHr.trans CR165 (CHr.keep K166q (own_all1 (Safe.exa hZ51.alike A131 (by decide) (by decide))) CH165)
  have CH196 : CHv Z EL0 T51.vm T166.heap := CHv.keep K166q (own_all1 (Safe.exa hZ51.alike A131 (by decide) (by decide))) CH165
  have hk196 := Nat.le_trans hk165 K166q.1
  refine own_stS (fun t k => XS.astore X166.here hx rfl (hb hby at_66) rfl rfl (l' := #[.val (.int p1), .val (.int p2), .val (.int p3), .val (.int p4), .val (.int p5), .val (.int p6), .val (.ref s_1), .val (.ref s_3), .val (.ref s_9), .val (.ref s_19), .val (.ref s_33), .val (.ref s_51), .val (.ref o73), .val (.ref o131), .unset]) rfl k) ?_
  show OGS _ _ p e _ s below _ T166 (mkF m 68 #[.val (.int p1), .val (.int p2), .val (.int p3), .val (.int p4), .val (.int p5), .val (.int p6), .val (.ref s_1), .val (.ref s_3), .val (.ref s_9), .val (.ref s_19), .val (.ref s_33), .val (.ref s_51), .val (.ref o73), .val (.ref o131), .unset] [])
  refine own_stS (fun t k => XS.iloadN X166.here hx rfl (hb hby at_68) rfl k) ?_
  show OGS _ _ p e _ s below _ T166 (mkF m 69 #[.val (.int p1), .val (.int p2), .val (.int p3), .val (.int p4), .val (.int p5), .val (.int p6), .val (.ref s_1), .val (.ref s_3), .val (.ref s_9), .val (.ref s_19), .val (.ref s_33), .val (.ref s_51), .val (.ref o73), .val (.ref o131), .unset] [(.int p1)])
  refine own_stS (fun t k => XS.iloadN X166.here hx rfl (hb hby at_69) rfl k) ?_
  show OGS _ _ p e _ s below _ T166 (mkF m 70 #[.val (.int p1), .val (.int p2), .val (.int p3), .val (.int p4), .val (.int p5), .val (.int p6), .val (.ref s_1), .val (.ref s_3), .val (.ref s_9), .val (.ref s_19), .val (.ref s_33), .val (.ref s_51), .val (.ref o73), .val (.ref o131), .unset] [(.int p2), (.int p1)])
  obtain ⟨_, _, ⟨T197, L197, k197, n197⟩, -, X197, ⟨Lc197, hQ197, l197, y197, z197⟩, st197⟩ := Jvm.LawKit.callS X166 hx (y := (⟨"com/example/vestbook/vestbook/OriginRepeatsPinLaw", "same", "(II)Z"⟩ : MethodName)) hown51 (mvT hZ51 (hw _ (List.mem_of_getElem? (i := 47) rfl))) (mvT hZ51 (hw _ (List.mem_of_getElem? (i := 48) rfl))) (mvT hZ51 (hw _ (List.mem_of_getElem? (i := 2) rfl))) (mvT hZ51 (hw _ (List.mem_of_getElem? (i := 49) rfl))) (by decide) (backOf (W := 0) (rm := ({ frames := 1, cells := 0, slots := 0, locals := 13 } : Room)) (rm8 l Z a0 hw [] p1 p2 T166.heap) hZ51 (hw _ (List.mem_of_getElem? (i := 49) rfl)) (hw _ (List.mem_of_getElem? (i := 2) rfl)) (by decide) (by decide)) (g := (mkF m 70 #[.val (.int p1), .val (.int p2), .val (.int p3), .val (.int p4), .val (.int p5), .val (.int p6), .val (.ref s_1), .val (.ref s_3), .val (.ref s_9), .val (.ref s_19), .val (.ref s_33), .val (.ref s_51), .val (.ref o73), .val (.ref o131), .unset] [(.int p2), (.int p1)])) rfl (by rw [hml]; rfl) (argsL := [(.int p1), (.int p2)]) (rest := []) (lenOf pd__II_Z rfl) rfl (by show 2 * 0 + _ ≤ _; exact Nat.le_of_eq rfl) (hb hby at_70) (fun _ _ => ⟨rfl, rfl, (by decide : 38 + 0 ≤ _), (by decide : 78 + 0 ≤ _)⟩)
  dsimp only [Pt.U, Pt.locs, Pt.cells, Pt.slots] at X197 l197 y197 z197 st197 hQ197
  subst l197 y197 z197
  obtain ⟨rfl, rfl, e197⟩ := hQ197
  refine own_stS st197 ?_
  have N197 := Fr.app N166 (Fr.nil n0)
  show OGS _ _ p e _ s below _ T197 (mkF m 73 #[.val (.int p1), .val (.int p2), .val (.int p3), .val (.int p4), .val (.int p5), .val (.int p6), .val (.ref s_1), .val (.ref s_3), .val (.ref s_9), .val (.ref s_19), .val (.ref s_33), .val (.ref s_51), .val (.ref o73), .val (.ref o131), .unset] [(.int (f8 p1 p2))])
  by_cases c198 : (f8 p1 p2) = (0 : Int32)
  · refine own_stS (fun t k => XS.ifYes X197.here hx rfl (pc0 := 73) (pc' := 88) rfl (hb hby at_73) rfl (own_if0 (teq c198).1) (by decide) (by decide) k) ?_
    show OGS _ _ p e _ s below _ T197 (mkF m 88 #[.val (.int p1), .val (.int p2), .val (.int p3), .val (.int p4), .val (.int p5), .val (.int p6), .val (.ref s_1), .val (.ref s_3), .val (.ref s_9), .val (.ref s_19), .val (.ref s_33), .val (.ref s_51), .val (.ref o73), .val (.ref o131), .unset] [])
    refine own_stS (fun t k => XS.iconst X197.here hx rfl (hb hby at_88) k) ?_
    show OGS _ _ p e _ s below _ T197 (mkF m 89 #[.val (.int p1), .val (.int p2), .val (.int p3), .val (.int p4), .val (.int p5), .val (.int p6), .val (.ref s_1), .val (.ref s_3), .val (.ref s_9), .val (.ref s_19), .val (.ref s_33), .val (.ref s_51), .val (.ref o73), .val (.ref o131), .unset] [(.int (0 : Int32))])
    refine own_stS (fun t k => XS.istore X197.here hx rfl (hb hby at_89) rfl (l' := #[.val (.int p1), .val (.int p2), .val (.int p3), .val (.int p4), .val (.int p5), .val (.int p6), .val (.ref s_1), .val (.ref s_3), .val (.ref s_9), .val (.ref s_19), .val (.ref s_33), .val (.ref s_51), .val (.ref o73), .val (.ref o131), .val (.int (0 : Int32))]) rfl k) ?_
    show OGS _ _ p e _ s below _ T197 (mkF m 91 #[.val (.int p1), .val (.int p2), .val (.int p3), .val (.int p4), .val (.int p5), .val (.int p6), .val (.ref s_1), .val (.ref s_3), .val (.ref s_9), .val (.ref s_19), .val (.ref s_33), .val (.ref s_51), .val (.ref o73), .val (.ref o131), .val (.int (0 : Int32))] [])
    refine own_stS (fun t k => XS.aload X197.here hx rfl (hb hby at_91) rfl rfl k) ?_
    show OGS _ _ p e _ s below _ T197 (mkF m 93 #[.val (.int p1), .val (.int p2), .val (.int p3), .val (.int p4), .val (.int p5), .val (.int p6), .val (.ref s_1), .val (.ref s_3), .val (.ref s_9), .val (.ref s_19), .val (.ref s_33), .val (.ref s_51), .val (.ref o73), .val (.ref o131), .val (.int (0 : Int32))] [(.ref o73)])
    refine own_stS (fun t k => XS.aload X197.here hx rfl (hb hby at_93) rfl rfl k) ?_
    show OGS _ _ p e _ s below _ T197 (mkF m 95 #[.val (.int p1), .val (.int p2), .val (.int p3), .val (.int p4), .val (.int p5), .val (.int p6), .val (.ref s_1), .val (.ref s_3), .val (.ref s_9), .val (.ref s_19), .val (.ref s_33), .val (.ref s_51), .val (.ref o73), .val (.ref o131), .val (.int (0 : Int32))] [(.ref o131), (.ref o73)])
    obtain ⟨cq199, kq199, q199a, q199b, q199c⟩ := isOf hZ51 e197 F192
    obtain ⟨_, _, ⟨T199, L199, k199, n199⟩, -, X199, ⟨Lc199, hQ199, l199, y199, z199⟩, st199⟩ := X197.virtualBack hx (y := (⟨"com/example/vestbook/vestbook/Origin", "repeats", "(Lcom/example/vestbook/vestbook/Origin;)Z"⟩ : MethodName)) (z := (⟨"com/example/vestbook/vestbook/Origin", "repeats", "(Lcom/example/vestbook/vestbook/Origin;)Z"⟩ : MethodName)) hown51 (mvT hZ51 (hw _ (List.mem_of_getElem? (i := 50) rfl))) (mvT hZ51 (hw _ (List.mem_of_getElem? (i := 51) rfl))) (notFace_of_selects (args := #[]) (mvT hZ51 (hw _ (List.mem_of_getElem? (i := 53) rfl)))) (mvT hZ51 (hw _ (List.mem_of_getElem? (i := 53) rfl))) (mvT hZ51 (hw _ (List.mem_of_getElem? (i := 52) rfl))) (by decide) (backOf (W := 0) (rm := ({ frames := 2, cells := 0, slots := 0, locals := 28 } : Room)) (rm9 l Z a0 hw [] o73 o131 s_1 s_3 s_9 s_19 b_1 b_3 b_9 b_19 (bs p1 w) (bs p2 w) (bs p3 w) (bs p4 w) w T166.heap F193 P166_1 F195 P166_3 F168 F169 F170 F171 F172 F173 F174 F175 F176 F177 F178 F179 F180 F181 F182 F183 F167 ne_s_1_s_3 ne_s_9_s_19 (own_bl p1 w) (own_bl p2 w) (own_bl p3 w) (own_bl p4 w) hw0) hZ51 (hw _ (List.mem_of_getElem? (i := 54) rfl)) (hw _ (List.mem_of_getElem? (i := 31) rfl)) (by decide) (by decide)) q199a q199c (g := (mkF m 95 #[.val (.int p1), .val (.int p2), .val (.int p3), .val (.int p4), .val (.int p5), .val (.int p6), .val (.ref s_1), .val (.ref s_3), .val (.ref s_9), .val (.ref s_19), .val (.ref s_33), .val (.ref s_51), .val (.ref o73), .val (.ref o131), .val (.int (0 : Int32))] [(.ref o131), (.ref o73)])) rfl (by rw [hml]; rfl) (Steps.refl _) (argsL := [(.ref o131)]) (rest := []) (lenOf pd__Lcom_example_vestbook_vestbook_Origin__Z rfl) rfl (by show 2 * 0 + _ ≤ _; exact Nat.le_of_eq rfl) (hb hby at_95) (fun _ _ => ⟨rfl, e197, (by decide : 38 + 0 ≤ _), (by decide : 78 + 0 ≤ _)⟩)
    dsimp only [Pt.U, Pt.locs, Pt.cells, Pt.slots] at X199 l199 y199 z199 st199 hQ199
    subst l199 y199 z199
    obtain ⟨rfl, rfl, e199⟩ := hQ199
    refine own_stS (fun t k => st199.trans k) ?_
    have N199 := Fr.app N197 (Fr.nil n0)
    show OGS _ _ p e _ s below _ T199 (mkF m 98 #[.val (.int p1), .val (.int p2), .val (.int p3), .val (.int p4), .val (.int p5), .val (.int p6), .val (.ref s_1), .val (.ref s_3), .val (.ref s_9), .val (.ref s_19), .val (.ref s_33), .val (.ref s_51), .val (.ref o73), .val (.ref o131), .val (.int (0 : Int32))] [(.int (f9 (bs p1 w) (bs p2 w) (bs p3 w) (bs p4 w) w))])
    refine own_stS (fun t k => XS.iload X199.here hx rfl (hb hby at_98) rfl k) ?_
    show OGS _ _ p e _ s below _ T199 (mkF m 100 #[.val (.int p1), .val (.int p2), .val (.int p3), .val (.int p4), .val (.int p5), .val (.int p6), .val (.ref s_1), .val (.ref s_3), .val (.ref s_9), .val (.ref s_19), .val (.ref s_33), .val (.ref s_51), .val (.ref o73), .val (.ref o131), .val (.int (0 : Int32))] [(.int (0 : Int32)), (.int (f9 (bs p1 w) (bs p2 w) (bs p3 w) (bs p4 w) w))])
    by_cases c200 : (f9 (bs p1 w) (bs p2 w) (bs p3 w) (bs p4 w) w) = (0 : Int32)
    · refine own_stS (fun t k => XS.icmpNo X199.here hx rfl (hb hby at_100) rfl (teq c200).2 k) ?_
      show OGS _ _ p e _ s below _ T199 (mkF m 103 #[.val (.int p1), .val (.int p2), .val (.int p3), .val (.int p4), .val (.int p5), .val (.int p6), .val (.ref s_1), .val (.ref s_3), .val (.ref s_9), .val (.ref s_19), .val (.ref s_33), .val (.ref s_51), .val (.ref o73), .val (.ref o131), .val (.int (0 : Int32))] [])
      refine own_stS (fun t k => XS.iconst X199.here hx rfl (hb hby at_103) k) ?_
      show OGS _ _ p e _ s below _ T199 (mkF m 104 #[.val (.int p1), .val (.int p2), .val (.int p3), .val (.int p4), .val (.int p5), .val (.int p6), .val (.ref s_1), .val (.ref s_3), .val (.ref s_9), .val (.ref s_19), .val (.ref s_33), .val (.ref s_51), .val (.ref o73), .val (.ref o131), .val (.int (0 : Int32))] [(.int (1 : Int32))])
      refine own_stS (fun t k => XS.goto X199.here hx rfl (pc0 := 104) (pc' := 108) rfl (hb hby at_104) (by decide) (by decide) k) ?_
      show OGS _ _ p e _ s below _ T199 (mkF m 108 #[.val (.int p1), .val (.int p2), .val (.int p3), .val (.int p4), .val (.int p5), .val (.int p6), .val (.ref s_1), .val (.ref s_3), .val (.ref s_9), .val (.ref s_19), .val (.ref s_33), .val (.ref s_51), .val (.ref o73), .val (.ref o131), .val (.int (0 : Int32))] [(.int (1 : Int32))])
      refine own_endS X199 hlk hZ51 hEL e199 hs0 hS51 hk196 CH196 CR196 (v := some (.int (nar .boolean (1 : Int32)))) (fun h => by rw [hret] at h; cases h) (by decide) (by decide) ?_ (fun fs hr => retN X199 hx (t := .boolean) hret (by simp) (hb hby at_108) hr)
      exact ⟨congrArg (fun z => some (Value.int z)) (show f0 p1 p2 p3 p4 p5 p6 w = (1 : Int32) from (by rw [f0, if_pos c198, if_pos c200])).symm, N199⟩
    · refine own_stS (fun t k => XS.icmpYes X199.here hx rfl (pc0 := 100) (pc' := 107) rfl (hb hby at_100) rfl (feq c200).2 (by decide) (by decide) k) ?_
      show OGS _ _ p e _ s below _ T199 (mkF m 107 #[.val (.int p1), .val (.int p2), .val (.int p3), .val (.int p4), .val (.int p5), .val (.int p6), .val (.ref s_1), .val (.ref s_3), .val (.ref s_9), .val (.ref s_19), .val (.ref s_33), .val (.ref s_51), .val (.ref o73), .val (.ref o131), .val (.int (0 : Int32))] [])
      refine own_stS (fun t k => XS.iconst X199.here hx rfl (hb hby at_107) k) ?_
      show OGS _ _ p e _ s below _ T199 (mkF m 108 #[.val (.int p1), .val (.int p2), .val (.int p3), .val (.int p4), .val (.int p5), .val (.int p6), .val (.ref s_1), .val (.ref s_3), .val (.ref s_9), .val (.ref s_19), .val (.ref s_33), .val (.ref s_51), .val (.ref o73), .val (.ref o131), .val (.int (0 : Int32))] [(.int (0 : Int32))])
      refine own_endS X199 hlk hZ51 hEL e199 hs0 hS51 hk196 CH196 CR196 (v := some (.int (nar .boolean (0 : Int32)))) (fun h => by rw [hret] at h; cases h) (by decide) (by decide) ?_ (fun fs hr => retN X199 hx (t := .boolean) hret (by simp) (hb hby at_108) hr)
      exact ⟨congrArg (fun z => some (Value.int z)) (show f0 p1 p2 p3 p4 p5 p6 w = (0 : Int32) from (by rw [f0, if_pos c198, if_neg c200])).symm, N199⟩
  · refine own_stS (fun t k => XS.ifNo X197.here hx rfl (hb hby at_73) rfl (own_if0 (feq c198).1) k) ?_
    show OGS _ _ p e _ s below _ T197 (mkF m 76 #[.val (.int p1), .val (.int p2), .val (.int p3), .val (.int p4), .val (.int p5), .val (.int p6), .val (.ref s_1), .val (.ref s_3), .val (.ref s_9), .val (.ref s_19), .val (.ref s_33), .val (.ref s_51), .val (.ref o73), .val (.ref o131), .unset] [])
    refine own_stS (fun t k => XS.iloadN X197.here hx rfl (hb hby at_76) rfl k) ?_
    show OGS _ _ p e _ s below _ T197 (mkF m 77 #[.val (.int p1), .val (.int p2), .val (.int p3), .val (.int p4), .val (.int p5), .val (.int p6), .val (.ref s_1), .val (.ref s_3), .val (.ref s_9), .val (.ref s_19), .val (.ref s_33), .val (.ref s_51), .val (.ref o73), .val (.ref o131), .unset] [(.int p3)])
    refine own_stS (fun t k => XS.iloadN X197.here hx rfl (hb hby at_77) rfl k) ?_
    show OGS _ _ p e _ s below _ T197 (mkF m 78 #[.val (.int p1), .val (.int p2), .val (.int p3), .val (.int p4), .val (.int p5), .val (.int p6), .val (.ref s_1), .val (.ref s_3), .val (.ref s_9), .val (.ref s_19), .val (.ref s_33), .val (.ref s_51), .val (.ref o73), .val (.ref o131), .unset] [(.int p4), (.int p3)])
    obtain ⟨_, _, ⟨T201, L201, k201, n201⟩, -, X201, ⟨Lc201, hQ201, l201, y201, z201⟩, st201⟩ := Jvm.LawKit.callS X197 hx (y := (⟨"com/example/vestbook/vestbook/OriginRepeatsPinLaw", "same", "(II)Z"⟩ : MethodName)) hown51 (mvT hZ51 (hw _ (List.mem_of_getElem? (i := 47) rfl))) (mvT hZ51 (hw _ (List.mem_of_getElem? (i := 48) rfl))) (mvT hZ51 (hw _ (List.mem_of_getElem? (i := 2) rfl))) (mvT hZ51 (hw _ (List.mem_of_getElem? (i := 49) rfl))) (by decide) (backOf (W := 0) (rm := ({ frames := 1, cells := 0, slots := 0, locals := 13 } : Room)) (rm8 l Z a0 hw [] p3 p4 T166.heap) hZ51 (hw _ (List.mem_of_getElem? (i := 49) rfl)) (hw _ (List.mem_of_getElem? (i := 2) rfl)) (by decide) (by decide)) (g := (mkF m 78 #[.val (.int p1), .val (.int p2), .val (.int p3), .val (.int p4), .val (.int p5), .val (.int p6), .val (.ref s_1), .val (.ref s_3), .val (.ref s_9), .val (.ref s_19), .val (.ref s_33), .val (.ref s_51), .val (.ref o73), .val (.ref o131), .unset] [(.int p4), (.int p3)])) rfl (by rw [hml]; rfl) (argsL := [(.int p3), (.int p4)]) (rest := []) (lenOf pd__II_Z rfl) rfl (by show 2 * 0 + _ ≤ _; exact Nat.le_of_eq rfl) (hb hby at_78) (fun _ _ => ⟨rfl, e197, (by decide : 38 + 0 ≤ _), (by decide : 78 + 0 ≤ _)⟩)
    dsimp only [Pt.U, Pt.locs, Pt.cells, Pt.slots] at X201 l201 y201 z201 st201 hQ201
    subst l201 y201 z201
    obtain ⟨rfl, rfl, e201⟩ := hQ201
    refine own_stS st201 ?_
    have N201 := Fr.app N197 (Fr.nil n0)
    show OGS _ _ p e _ s below _ T201 (mkF m 81 #[.val (.int p1), .val (.int p2), .val (.int p3), .val (.int p4), .val (.int p5), .val (.int p6), .val (.ref s_1), .val (.ref s_3), .val (.ref s_9), .val (.ref s_19), .val (.ref s_33), .val (.ref s_51), .val (.ref o73), .val (.ref o131), .unset] [(.int (f8 p3 p4))])
    refine own_stS (T' := T201) (g' := (mkF m 89 #[.val (.int p1), .val (.int p2), .val (.int p3), .val (.int p4), .val (.int p5), .val (.int p6), .val (.ref s_1), .val (.ref s_3), .val (.ref s_9), .val (.ref s_19), .val (.ref s_33), .val (.ref s_51), .val (.ref o73), .val (.ref o131), .unset] [(.int (if (f8 p3 p4) = (0 : Int32) then (0 : Int32) else (1 : Int32)))])) (fun t k => ?_) ?_
    · by_cases c202 : (f8 p3 p4) = (0 : Int32)
      · rw [if_pos c202] at k
        refine XS.ifYes X201.here hx rfl (pc0 := 81) (pc' := 88) rfl (hb hby at_81) rfl (own_if0 (teq c202).1) (by decide) (by decide) ?_
        show Steps p.tables e below (T201.setTop (mkF m 88 #[.val (.int p1), .val (.int p2), .val (.int p3), .val (.int p4), .val (.int p5), .val (.int p6), .val (.ref s_1), .val (.ref s_3), .val (.ref s_9), .val (.ref s_19), .val (.ref s_33), .val (.ref s_51), .val (.ref o73), .val (.ref o131), .unset] [])) _
        refine XS.iconst X201.here hx rfl (hb hby at_88) ?_
        show Steps p.tables e below (T201.setTop (mkF m 89 #[.val (.int p1), .val (.int p2), .val (.int p3), .val (.int p4), .val (.int p5), .val (.int p6), .val (.ref s_1), .val (.ref s_3), .val (.ref s_9), .val (.ref s_19), .val (.ref s_33), .val (.ref s_51), .val (.ref o73), .val (.ref o131), .unset] [(.int (0 : Int32))])) _
        exact k
      · rw [if_neg c202] at k
        refine XS.ifNo X201.here hx rfl (hb hby at_81) rfl (own_if0 (feq c202).1) ?_
        show Steps p.tables e below (T201.setTop (mkF m 84 #[.val (.int p1), .val (.int p2), .val (.int p3), .val (.int p4), .val (.int p5), .val (.int p6), .val (.ref s_1), .val (.ref s_3), .val (.ref s_9), .val (.ref s_19), .val (.ref s_33), .val (.ref s_51), .val (.ref o73), .val (.ref o131), .unset] [])) _
        refine XS.iconst X201.here hx rfl (hb hby at_84) ?_
        show Steps p.tables e below (T201.setTop (mkF m 85 #[.val (.int p1), .val (.int p2), .val (.int p3), .val (.int p4), .val (.int p5), .val (.int p6), .val (.ref s_1), .val (.ref s_3), .val (.ref s_9), .val (.ref s_19), .val (.ref s_33), .val (.ref s_51), .val (.ref o73), .val (.ref o131), .unset] [(.int (1 : Int32))])) _
        refine XS.goto X201.here hx rfl (pc0 := 85) (pc' := 89) rfl (hb hby at_85) (by decide) (by decide) ?_
        exact k
    show OGS _ _ p e _ s below _ T201 (mkF m 89 #[.val (.int p1), .val (.int p2), .val (.int p3), .val (.int p4), .val (.int p5), .val (.int p6), .val (.ref s_1), .val (.ref s_3), .val (.ref s_9), .val (.ref s_19), .val (.ref s_33), .val (.ref s_51), .val (.ref o73), .val (.ref o131), .unset] [(.int (if (f8 p3 p4) = (0 : Int32) then (0 : Int32) else (1 : Int32)))])
    refine own_stS (fun t k => XS.istore X201.here hx rfl (hb hby at_89) rfl (l' := #[.val (.int p1), .val (.int p2), .val (.int p3), .val (.int p4), .val (.int p5), .val (.int p6), .val (.ref s_1), .val (.ref s_3), .val (.ref s_9), .val (.ref s_19), .val (.ref s_33), .val (.ref s_51), .val (.ref o73), .val (.ref o131), .val (.int (g0_1 p1 p2 p3 p4 p5 p6 w))]) rfl k) ?_
    show OGS _ _ p e _ s below _ T201 (mkF m 91 #[.val (.int p1), .val (.int p2), .val (.int p3), .val (.int p4), .val (.int p5), .val (.int p6), .val (.ref s_1), .val (.ref s_3), .val (.ref s_9), .val (.ref s_19), .val (.ref s_33), .val (.ref s_51), .val (.ref o73), .val (.ref o131), .val (.int (g0_1 p1 p2 p3 p4 p5 p6 w))] [])
    refine own_stS (fun t k => XS.aload X201.here hx rfl (hb hby at_91) rfl rfl k) ?_
    show OGS _ _ p e _ s below _ T201 (mkF m 93 #[.val (.int p1), .val (.int p2), .val (.int p3), .val (.int p4), .val (.int p5), .val (.int p6), .val (.ref s_1), .val (.ref s_3), .val (.ref s_9), .val (.ref s_19), .val (.ref s_33), .val (.ref s_51), .val (.ref o73), .val (.ref o131), .val (.int (g0_1 p1 p2 p3 p4 p5 p6 w))] [(.ref o73)])
    refine own_stS (fun t k => XS.aload X201.here hx rfl (hb hby at_93) rfl rfl k) ?_
    show OGS _ _ p e _ s below _ T201 (mkF m 95 #[.val (.int p1), .val (.int p2), .val (.int p3), .val (.int p4), .val (.int p5), .val (.int p6), .val (.ref s_1), .val (.ref s_3), .val (.ref s_9), .val (.ref s_19), .val (.ref s_33), .val (.ref s_51), .val (.ref o73), .val (.ref o131), .val (.int (g0_1 p1 p2 p3 p4 p5 p6 w))] [(.ref o131), (.ref o73)])
    obtain ⟨cq203, kq203, q203a, q203b, q203c⟩ := isOf hZ51 e201 F192
    obtain ⟨_, _, ⟨T203, L203, k203, n203⟩, -, X203, ⟨Lc203, hQ203, l203, y203, z203⟩, st203⟩ := X201.virtualBack hx (y := (⟨"com/example/vestbook/vestbook/Origin", "repeats", "(Lcom/example/vestbook/vestbook/Origin;)Z"⟩ : MethodName)) (z := (⟨"com/example/vestbook/vestbook/Origin", "repeats", "(Lcom/example/vestbook/vestbook/Origin;)Z"⟩ : MethodName)) hown51 (mvT hZ51 (hw _ (List.mem_of_getElem? (i := 50) rfl))) (mvT hZ51 (hw _ (List.mem_of_getElem? (i := 51) rfl))) (notFace_of_selects (args := #[]) (mvT hZ51 (hw _ (List.mem_of_getElem? (i := 53) rfl)))) (mvT hZ51 (hw _ (List.mem_of_getElem? (i := 53) rfl))) (mvT hZ51 (hw _ (List.mem_of_getElem? (i := 52) rfl))) (by decide) (backOf (W := 0) (rm := ({ frames := 2, cells := 0, slots := 0, locals := 28 } : Room)) (rm9 l Z a0 hw [] o73 o131 s_1 s_3 s_9 s_19 b_1 b_3 b_9 b_19 (bs p1 w) (bs p2 w) (bs p3 w) (bs p4 w) w T166.heap F193 P166_1 F195 P166_3 F168 F169 F170 F171 F172 F173 F174 F175 F176 F177 F178 F179 F180 F181 F182 F183 F167 ne_s_1_s_3 ne_s_9_s_19 (own_bl p1 w) (own_bl p2 w) (own_bl p3 w) (own_bl p4 w) hw0) hZ51 (hw _ (List.mem_of_getElem? (i := 54) rfl)) (hw _ (List.mem_of_getElem? (i := 31) rfl)) (by decide) (by decide)) q203a q203c (g := (mkF m 95 #[.val (.int p1), .val (.int p2), .val (.int p3), .val (.int p4), .val (.int p5), .val (.int p6), .val (.ref s_1), .val (.ref s_3), .val (.ref s_9), .val (.ref s_19), .val (.ref s_33), .val (.ref s_51), .val (.ref o73), .val (.ref o131), .val (.int (g0_1 p1 p2 p3 p4 p5 p6 w))] [(.ref o131), (.ref o73)])) rfl (by rw [hml]; rfl) (Steps.refl _) (argsL := [(.ref o131)]) (rest := []) (lenOf pd__Lcom_example_vestbook_vestbook_Origin__Z rfl) rfl (by show 2 * 0 + _ ≤ _; exact Nat.le_of_eq rfl) (hb hby at_95) (fun _ _ => ⟨rfl, e201, (by decide : 38 + 0 ≤ _), (by decide : 78 + 0 ≤ _)⟩)
    dsimp only [Pt.U, Pt.locs, Pt.cells, Pt.slots] at X203 l203 y203 z203 st203 hQ203
    subst l203 y203 z203
    obtain ⟨rfl, rfl, e203⟩ := hQ203
    refine own_stS (fun t k => st203.trans k) ?_
    have N203 := Fr.app N201 (Fr.nil n0)
    show OGS _ _ p e _ s below _ T203 (mkF m 98 #[.val (.int p1), .val (.int p2), .val (.int p3), .val (.int p4), .val (.int p5), .val (.int p6), .val (.ref s_1), .val (.ref s_3), .val (.ref s_9), .val (.ref s_19), .val (.ref s_33), .val (.ref s_51), .val (.ref o73), .val (.ref o131), .val (.int (g0_1 p1 p2 p3 p4 p5 p6 w))] [(.int (f9 (bs p1 w) (bs p2 w) (bs p3 w) (bs p4 w) w))])
    refine own_stS (fun t k => XS.iload X203.here hx rfl (hb hby at_98) rfl k) ?_
    show OGS _ _ p e _ s below _ T203 (mkF m 100 #[.val (.int p1), .val (.int p2), .val (.int p3), .val (.int p4), .val (.int p5), .val (.int p6), .val (.ref s_1), .val (.ref s_3), .val (.ref s_9), .val (.ref s_19), .val (.ref s_33), .val (.ref s_51), .val (.ref o73), .val (.ref o131), .val (.int (g0_1 p1 p2 p3 p4 p5 p6 w))] [(.int (g0_1 p1 p2 p3 p4 p5 p6 w)), (.int (f9 (bs p1 w) (bs p2 w) (bs p3 w) (bs p4 w) w))])
    by_cases c204 : (f9 (bs p1 w) (bs p2 w) (bs p3 w) (bs p4 w) w) = (g0_1 p1 p2 p3 p4 p5 p6 w)
    · refine own_stS (fun t k => XS.icmpNo X203.here hx rfl (hb hby at_100) rfl (teq c204).2 k) ?_
      show OGS _ _ p e _ s below _ T203 (mkF m 103 #[.val (.int p1), .val (.int p2), .val (.int p3), .val (.int p4), .val (.int p5), .val (.int p6), .val (.ref s_1), .val (.ref s_3), .val (.ref s_9), .val (.ref s_19), .val (.ref s_33), .val (.ref s_51), .val (.ref o73), .val (.ref o131), .val (.int (g0_1 p1 p2 p3 p4 p5 p6 w))] [])
      refine own_stS (fun t k => XS.iconst X203.here hx rfl (hb hby at_103) k) ?_
      show OGS _ _ p e _ s below _ T203 (mkF m 104 #[.val (.int p1), .val (.int p2), .val (.int p3), .val (.int p4), .val (.int p5), .val (.int p6), .val (.ref s_1), .val (.ref s_3), .val (.ref s_9), .val (.ref s_19), .val (.ref s_33), .val (.ref s_51), .val (.ref o73), .val (.ref o131), .val (.int (g0_1 p1 p2 p3 p4 p5 p6 w))] [(.int (1 : Int32))])
      refine own_stS (fun t k => XS.goto X203.here hx rfl (pc0 := 104) (pc' := 108) rfl (hb hby at_104) (by decide) (by decide) k) ?_
      show OGS _ _ p e _ s below _ T203 (mkF m 108 #[.val (.int p1), .val (.int p2), .val (.int p3), .val (.int p4), .val (.int p5), .val (.int p6), .val (.ref s_1), .val (.ref s_3), .val (.ref s_9), .val (.ref s_19), .val (.ref s_33), .val (.ref s_51), .val (.ref o73), .val (.ref o131), .val (.int (g0_1 p1 p2 p3 p4 p5 p6 w))] [(.int (1 : Int32))])
      refine own_endS X203 hlk hZ51 hEL e203 hs0 hS51 hk196 CH196 CR196 (v := some (.int (nar .boolean (1 : Int32)))) (fun h => by rw [hret] at h; cases h) (by decide) (by decide) ?_ (fun fs hr => retN X203 hx (t := .boolean) hret (by simp) (hb hby at_108) hr)
      exact ⟨congrArg (fun z => some (Value.int z)) (show f0 p1 p2 p3 p4 p5 p6 w = (1 : Int32) from (by rw [f0, if_neg c198, if_pos c204])).symm, N203⟩
    · refine own_stS (fun t k => XS.icmpYes X203.here hx rfl (pc0 := 100) (pc' := 107) rfl (hb hby at_100) rfl (feq c204).2 (by decide) (by decide) k) ?_
      show OGS _ _ p e _ s below _ T203 (mkF m 107 #[.val (.int p1), .val (.int p2), .val (.int p3), .val (.int p4), .val (.int p5), .val (.int p6), .val (.ref s_1), .val (.ref s_3), .val (.ref s_9), .val (.ref s_19), .val (.ref s_33), .val (.ref s_51), .val (.ref o73), .val (.ref o131), .val (.int (g0_1 p1 p2 p3 p4 p5 p6 w))] [])
      refine own_stS (fun t k => XS.iconst X203.here hx rfl (hb hby at_107) k) ?_
      show OGS _ _ p e _ s below _ T203 (mkF m 108 #[.val (.int p1), .val (.int p2), .val (.int p3), .val (.int p4), .val (.int p5), .val (.int p6), .val (.ref s_1), .val (.ref s_3), .val (.ref s_9), .val (.ref s_19), .val (.ref s_33), .val (.ref s_51), .val (.ref o73), .val (.ref o131), .val (.int (g0_1 p1 p2 p3 p4 p5 p6 w))] [(.int (0 : Int32))])
      refine own_endS X203 hlk hZ51 hEL e203 hs0 hS51 hk196 CH196 CR196 (v := some (.int (nar .boolean (0 : Int32)))) (fun h => by rw [hret] at h; cases h) (by decide) (by decide) ?_ (fun fs hr => retN X203 hx (t := .boolean) hret (by simp) (hb hby at_108) hr)
      exact ⟨congrArg (fun z => some (Value.int z)) (show f0 p1 p2 p3 p4 p5 p6 w = (0 : Int32) from (by rw [f0, if_neg c198, if_neg c204])).symm, N203⟩
/-! the plain law -/
def own_e (c : Int32) : Int32 := nar .byte ((nar .char c).toInt8.toInt32)
theorem own_ec (c : Int32) (h0 : 0 ≤ c.toInt) (h1 : c.toInt ≤ 255) : ((own_e c).toInt - c.toInt) % 256 = 0 := by
  have e : own_e c = c.toInt8.toInt32.toInt8.toInt32 := by
    show (c.toUInt32.toUInt16.toUInt32.toInt32).toInt8.toInt32.toInt8.toInt32 = _
    rw [own_nc c h0 h1]
  rw [e]
  have q1 := c_i2b c
  have q2 := c_i2b c.toInt8.toInt32
  generalize c.toInt8.toInt32.toInt8.toInt32.toInt = z at *
  generalize c.toInt8.toInt32.toInt = y at *
  omega
theorem own_einj (c d : Int32) (h0 : 0 ≤ c.toInt ∧ c.toInt ≤ 255) (h1 : 0 ≤ d.toInt ∧ d.toInt ≤ 255) : own_e c = own_e d ↔ c = d := by
  constructor
  · intro q
    have a := own_ec c h0.1 h0.2
    have b := own_ec d h1.1 h1.2
    rw [q] at a
    apply Int32.toInt_inj.mp
    generalize (own_e d).toInt = z at *
    omega
  · intro q; rw [q]
theorem own_e0 (x y : Int32) : own_e (f12 x) = own_e (f12 y) ↔ f12 x = f12 y := own_einj _ _ (by rw [own_f3]; exact own_m8 _) (by rw [own_f3]; exact own_m8 _)
theorem own_e1 (x y : Int32) : own_e (f13 x) = own_e (f13 y) ↔ f13 x = f13 y := own_einj _ _ (by rw [own_f4]; exact own_m8 _) (by rw [own_f4]; exact own_m8 _)
theorem own_len (x : Int32) : f2 x = 0 ∨ f2 x = 1 ∨ f2 x = 2 := by
  rw [f2]
  have m := c_mask ((x.toUInt32 >>> ((16 : Int32) &&& 31).toUInt32).toInt32) 3 2 (by decide) (by decide)
  generalize (((x.toUInt32 >>> ((16 : Int32) &&& 31).toUInt32).toInt32) &&& 3) = y at *
  have r := (c_irem y 3 3 (by decide)).1 (by omega)
  have k0 : (0 : Int32).toInt = 0 := by decide
  have k1 : (1 : Int32).toInt = 1 := by decide
  have k2 : (2 : Int32).toInt = 2 := by decide
  simp only [← Int32.toInt_inj, k0, k1, k2]
  generalize (y % 3).toInt = z at *
  omega
theorem own_bs (x w : Int32) : bs x w = if f2 x = 0 then [] else if f2 x = 1 then [own_e (f12 x)] else [own_e (f12 x), own_e (f13 x)] := rfl
theorem own_same (x y w : Int32) : f8 x y = own_eqb (bs x w) (bs y w) := by
  rw [own_bs, own_bs, own_eqb, f8]
  have d10 : ¬ (1 : Int32) = 0 := by decide
  have d20 : ¬ (2 : Int32) = 0 := by decide
  have d21 : ¬ (2 : Int32) = 1 := by decide
  have d01 : ¬ (0 : Int32) = 1 := by decide
  have d02 : ¬ (0 : Int32) = 2 := by decide
  have d12 : ¬ (1 : Int32) = 2 := by decide
  have l01 : (0 : Int32) < 1 := by decide
  have l02 : (0 : Int32) < 2 := by decide
  have l12 : (1 : Int32) < 2 := by decide
  have l11 : ¬ (1 : Int32) < 1 := by decide
  have l21 : ¬ (2 : Int32) < 1 := by decide
  have l22 : ¬ (2 : Int32) < 2 := by decide
  rcases own_len x with hx | hx | hx <;> rcases own_len y with hy | hy | hy <;> rw [hx, hy]
  · simp only [if_true, l01, l02]
  · simp only [if_neg d01, if_true, if_neg d10]; simp
  · simp only [if_neg d02, if_true, if_neg d20, if_neg d21]; simp
  · simp only [if_neg d10, if_true]; simp
  · simp only [if_true, if_neg d10, if_neg l11, if_pos l12, List.cons.injEq, and_true, own_e0]
  · simp only [if_neg d12, if_true, if_neg d10, if_neg d20, if_neg d21]; simp
  · simp only [if_neg d20, if_true, if_neg d21]; simp
  · simp only [if_neg d21, if_true, if_neg d20, if_neg d10]; simp
  · simp only [if_true, if_neg d20, if_neg d21, if_neg l21, if_neg l22, List.cons.injEq, and_true, own_e0, own_e1]
    by_cases h1 : f12 x = f12 y <;> by_cases h2 : f13 x = f13 y <;> simp [h1, h2]
theorem own_eqb01 (a b : List Int32) : own_eqb a b = 0 ∨ own_eqb a b = 1 := by rw [own_eqb]; split <;> simp
theorem own_f10 (a b : List Int32) (w : Int32) : f10 a b w = own_eqb a b := by
  rw [f10]
  rcases own_eqb01 a b with h | h
  · rw [if_pos h, h]
  · rw [h]; decide
theorem own_f9 (a b c d : List Int32) (w : Int32) : f9 a b c d w = if own_eqb a b = 0 then 0 else own_eqb c d := by
  rw [f9, own_f10, own_f10]
  rcases own_eqb01 c d with h | h
  · rw [h]; simp
  · rw [h]; simp
theorem own_fin (A B C D : List Int32) (w x y : Int32) (hx : x = own_eqb A B) (hy : y = own_eqb C D) : (if x = (0 : Int32) then (if f9 A B C D w = (0 : Int32) then (1 : Int32) else (0 : Int32)) else (if f9 A B C D w = (if y = (0 : Int32) then (0 : Int32) else (1 : Int32)) then (1 : Int32) else (0 : Int32))) = 1 := by
  rw [own_f9]
  have h1 := own_eqb01 A B
  have h2 := own_eqb01 C D
  rw [← hx] at h1 ⊢
  rw [← hy] at h2 ⊢
  rcases h1 with h1 | h1 <;> rcases h2 with h2 | h2 <;> rw [h1, h2] <;> decide
theorem own_law (p1 p2 p3 p4 p5 p6 w : Int32) : f0 p1 p2 p3 p4 p5 p6 w = 1 :=
  own_fin (bs p1 w) (bs p2 w) (bs p3 w) (bs p4 w) w (f8 p1 p2) (f8 p3 p4) (own_same _ _ w) (own_same _ _ w)

theorem own_met (l : Launch) (Z : State) (a0 : Array Value) (hw : ∀ d ∈ tables_1, d.before a0 Z = true) (ws : List Jvm.Cond) (p1 : Int32) (p2 : Int32) (p3 : Int32) (p4 : Int32) (p5 : Int32) (p6 : Int32) (w : Int32) (h0 : Heap) (R0 : Sta Z h0 "java/lang/String" "COMPACT_STRINGS" "Z" (.int w)) (hw0 : ¬ w = (0 : Int32))  :
    OMetS l Z EL0 x code maxLocals ret ws room_1 #[(.int p1), (.int p2), (.int p3), (.int p4), (.int p5), (.int p6)] h0 (fun v h L => v = some (.int 1) ∧ Fr h0.size L) := by
  intro p e ha hc hk s m args below hf happ hP hK
  obtain ⟨n, o, h1, h2, h3, v, L, ho, ⟨hv, hL⟩, hCR, hq⟩ := rm0 l Z a0 hw ws p1 p2 p3 p4 p5 p6 w h0 h0.size (Nat.le_refl _) R0 hw0  p e ha hc hk s m args below hf happ hP hK
  rw [own_law] at hv
  exact ⟨n, o, h1, h2, h3, v, L, ho, ⟨hv, hL⟩, hCR, hq⟩
set_option maxRecDepth 65536 in
set_option maxHeartbeats 40000000 in
theorem comes_1 {Post : Tables → Env → Array Value → State → Outcome → State → Prop} (hpost : ∀ tb e args s v u, (limb_1_1.after args s (.returned v) u = true ∧ limb_1_2.after args s (.returned v) u = true ∧ True) → ReturnedEndW s (.returned v) u (Jvm.fieldLocs frame_1_writes args s ++ Jvm.arrayLocs frame_1_arrays args s ++ Jvm.staticLocs frame_1_statics s) 48 1216 → Post tb e args s (.returned v) u) :
    ArmFor flags0 classFile x code maxLocals ret World_1 tables_1 room_1 Calls_1 rest_1 Pre_1 Post := by
  intro l hfl _ _ p e ha hc hk s m args below hf hA hF happ hP
  obtain ⟨hcalls, hrest, hpre⟩ := hP
  obtain ⟨-, -, -, hnamed, -, -, -, hat⟩ := (Spec.applies_iff hf).mp happ
  obtain ⟨hg, hn⟩ := and_e (Cond.before_iff.mp (show (Jvm.Cond.and given_1 narrow_1).before args s = true from hpre))
  obtain ⟨h1, g0⟩ := and_e hg
  obtain ⟨w0, w1, w2, w3, w4, w5, rfl⟩ : ∃ w0 w1 w2 w3 w4 w5 : Value, args = #[w0, w1, w2, w3, w4, w5] := by
    have hs : args.size = 6 := by simpa [Cond.value, given_1] using h1
    obtain ⟨L⟩ := args
    match L, hs with
    | [w0, w1, w2, w3, w4, w5], _ => exact ⟨w0, w1, w2, w3, w4, w5, rfl⟩
  have hw := fun d (hd : d ∈ tables_1) => atoms_spec (ws := Jvm.Cond.code x code maxLocals ret :: tables_1) hat d (List.mem_cons_of_mem _ hd)
  obtain ⟨b0, g1⟩ := and_e g0
  obtain ⟨i0, e0⟩ := is_v b0
  obtain rfl : w0 = (.int i0) := Option.some.inj e0
  obtain ⟨b1, g2⟩ := and_e g1
  obtain ⟨i1, e1⟩ := is_v b1
  obtain rfl : w1 = (.int i1) := Option.some.inj e1
  obtain ⟨b2, g3⟩ := and_e g2
  obtain ⟨i2, e2⟩ := is_v b2
  obtain rfl : w2 = (.int i2) := Option.some.inj e2
  obtain ⟨b3, g4⟩ := and_e g3
  obtain ⟨i3, e3⟩ := is_v b3
  obtain rfl : w3 = (.int i3) := Option.some.inj e3
  obtain ⟨b4, g5⟩ := and_e g4
  obtain ⟨i4, e4⟩ := is_v b4
  obtain rfl : w4 = (.int i4) := Option.some.inj e4
  obtain ⟨i5, e5⟩ := is_v g5
  obtain rfl : w5 = (.int i5) := Option.some.inj e5
  obtain ⟨hsets, hown0⟩ := atoms_of _ (rest_1_c_eq ▸ (show rest_1_c.before _ s = true from hrest))
  obtain ⟨iw, ew⟩ := is_v (Cond.before_iff.mp (hsets _ (List.mem_of_getElem? (i := 1) rfl)))
  have S_W : Sta s s.heap "java/lang/String" "COMPACT_STRINGS" "Z" (.int iw) := Sta.start ew (Or.inl (hsets _ (List.mem_of_getElem? (i := 0) rfl)))
  have cw0 : ¬ (iw = (0 : Int32)) := gotF (Cond.eq_ints ew (Term.int_eval (0))) (not_v (Cond.before_iff.mp (hsets _ (List.mem_of_getElem? (i := 2) rfl))))
  have hcw := hsets _ (List.mem_of_getElem? (i := 2) rfl)
  have CH : CHv s EL0 s.vm s.heap := CHv.start (own_EW hw) (fun p hp => hcalls.1 p hp) hcw (hw _ (List.mem_of_getElem? (i := 22) rfl)) (hw _ (List.mem_of_getElem? (i := 8) rfl))
  obtain ⟨n, o, h1, h2, h3, _, L, rfl, ⟨rfl, N⟩, hCR, hq⟩ := own_met l s _ hw tables_1 i0 i1 i2 i3 i4 i5 iw s.heap S_W cw0 p e ha hc hk s m _ below hf ((Spec.applies_iff_loose hf).mp happ).1 ⟨rfl, State.Warmed39.refl s, rfl, CH⟩ trivial
  refine ⟨n, _, h1, h2, h3, hpost _ _ _ _ _ _ ⟨Cond.after_iff.mpr rfl, Cond.after_iff.mpr (eq_i res_at (Term.int_eval (1)) rfl), trivial⟩ ⟨hq.1, hq.2.1, hq.2.2.1, (hq.2.2.2.sift fun y hy => Or.inr (N y hy)).mono (by decide) (by decide)⟩⟩
theorem main_1_1 : Claimed_1_1 := comes_1 fun _ _ _ _ _ _ h hF => ⟨h.1, hF⟩
theorem main_1_2 : Claimed_1_2 := comes_1 fun _ _ _ _ _ _ h hF => ⟨h.2.1, hF⟩
end Jvm.Pilot.@@N@@
namespace Jvm.Pilot.@@N@@
open Jvm Jvm.ClassFile Sem Op Lib Jvm.Free Jvm.Stand Jvm.Pilot.@@N@@.Jvm.D
/-! MADE BY PROGRAM (witnessworld.py) out of the Statement's table words and the real class files: 21 classes; the members and pool entries that the words name. The judged class is class 1, her method 6. -/
namespace start1
open Jvm.ClassFile
def u (s : String) : CpInfo := .utf8 (stringToUtf16 s)
/-- a pool by its gaps: so many unusable entries, then the entry; so many at the end -/
def gap : Nat → List CpInfo → List CpInfo
  | 0, r => r
  | n + 1, r => .unusable :: gap n r
def poolList (es : List (Nat × CpInfo)) (last : Nat) : List CpInfo := es.foldr (fun e r => gap e.1 (e.2 :: r)) (gap last [])
def pool (es : List (Nat × CpInfo)) (last : Nat) : Array CpInfo := ⟨poolList es last⟩
def fileOf (pool : Array CpInfo) (this : Nat) (attrs : Array Attribute := #[]) (ms : Array MethodInfo := #[]) (fl : Nat := 33) (sup : Nat := 0) (ifs : Array Nat := #[]) (fds : Array FieldInfo := #[]) : ClassFile where
  minorVersion := 0
  majorVersion := 65
  constantPool := pool
  accessFlags := fl
  thisClass := this
  superClass := sup
  interfaces := ifs
  fields := fds
  methods := ms
  attributes := attrs
def plain (name : String) (sup : Option ClassId) : Class where
  name := name
  kind := .ordinary
  loader := none
  accessFlags := 33
  super := sup
  interfaces := #[]
  cf := none
  fields := #[]
  methods := #[]
  instanceTypes := #[]
  staticTypes := #[]
  resolved := #[]
  callSites := []
  init := .initialized
  statics := none
  mirror := none

def pool0 : Array CpInfo := pool [(5, u "<init>"), (0, u "()V"), (1, .class_ 10), (1, u "java/lang/Object")] 113

def k0c0 : Code := { maxStack := 0, maxLocals := 1, code := object_method_1_code, exceptionTable := #[], attributes := #[] }
def k0m0 : Method := { name := "<init>", desc := "()V", sig := { parameters := [], returnType := none }, accessFlags := 1, code := some k0c0 }
/-- java/lang/Object -/
def k0 : Class := { plain "java/lang/Object" none with
  accessFlags := 33
  interfaces := #[]
  cf := some (fileOf pool0 8 #[] #[{ accessFlags := 1, nameIndex := 5, descriptorIndex := 6, attributes := #[] }] 33 0 #[] #[])
  fields := #[]
  methods := #[k0m0]
  instanceTypes := #[]
  staticTypes := #[]
  resolved := Array.replicate 124 none
  statics := none }

def pool1 : Array CpInfo := pool [(2, .class_ 4), (1, u "java/lang/Object"), (0, u "<init>"), (0, u "()V"), (0, .methodref 8 9), (0, .class_ 10), (0, .nameAndType 11 12), (0, u "com/example/vestbook/vestbook/OriginRepeatsPinLaw"), (0, u "len"), (0, u "(I)I"), (0, .class_ 14), (0, u "java/lang/String"), (0, .methodref 13 16), (0, .nameAndType 5 17), (0, u "([C)V"), (0, .methodref 8 19), (0, .nameAndType 20 21), (0, u "c0"), (0, u "(I)C"), (0, .methodref 8 23), (0, .nameAndType 24 21), (0, u "c1"), (0, .methodref 8 26), (0, .nameAndType 27 28), (0, u "mk"), (0, u "(I)Ljava/lang/String;"), (0, .class_ 30), (0, u "com/example/vestbook/vestbook/Origin"), (0, .methodref 29 32), (0, .nameAndType 5 33), (0, u "(Ljava/lang/String;Ljava/lang/String;Ljava/lang/String;)V"), (0, .methodref 8 35), (0, .nameAndType 36 37), (0, u "same"), (0, u "(II)Z"), (0, .methodref 29 39), (0, .nameAndType 40 41), (0, u "repeats"), (0, u "(Lcom/example/vestbook/vestbook/Origin;)Z"), (3, u "law"), (0, u "(IIIIII)Z")] 2

def k1m0 : Method := { name := "<init>", desc := "()V", sig := { parameters := [], returnType := none }, accessFlags := 1, code := none }
def k1c1 : Code := { maxStack := 2, maxLocals := 1, code := method_2_code, exceptionTable := #[], attributes := #[] }
def k1m1 : Method := { name := "len", desc := "(I)I", sig := { parameters := [.int], returnType := some .int }, accessFlags := 10, code := some k1c1 }
def k1c2 : Code := { maxStack := 2, maxLocals := 1, code := method_3_code, exceptionTable := #[], attributes := #[] }
def k1m2 : Method := { name := "c0", desc := "(I)C", sig := { parameters := [.int], returnType := some .char }, accessFlags := 10, code := some k1c2 }
def k1c3 : Code := { maxStack := 2, maxLocals := 1, code := method_4_code, exceptionTable := #[], attributes := #[] }
def k1m3 : Method := { name := "c1", desc := "(I)C", sig := { parameters := [.int], returnType := some .char }, accessFlags := 10, code := some k1c3 }
def k1c4 : Code := { maxStack := 4, maxLocals := 3, code := method_5_code, exceptionTable := #[], attributes := #[] }
def k1m4 : Method := { name := "mk", desc := "(I)Ljava/lang/String;", sig := { parameters := [.int], returnType := some (.object "java/lang/String") }, accessFlags := 10, code := some k1c4 }
def k1c5 : Code := { maxStack := 2, maxLocals := 3, code := method_6_code, exceptionTable := #[], attributes := #[] }
def k1m5 : Method := { name := "same", desc := "(II)Z", sig := { parameters := [.int, .int], returnType := some .boolean }, accessFlags := 10, code := some k1c5 }
def k1c6 : Code := { maxStack := 5, maxLocals := 15, code := code, exceptionTable := #[], attributes := #[] }
def k1m6 : Method := { name := "law", desc := "(IIIIII)Z", sig := { parameters := [.int, .int, .int, .int, .int, .int], returnType := some .boolean }, accessFlags := 9, code := some k1c6 }
/-- com/example/vestbook/vestbook/OriginRepeatsPinLaw -/
def k1 : Class := { plain "com/example/vestbook/vestbook/OriginRepeatsPinLaw" (some 0) with
  accessFlags := 49
  interfaces := #[]
  cf := some (fileOf pool1 8 #[] #[{ accessFlags := 1, nameIndex := 5, descriptorIndex := 6, attributes := #[] }, { accessFlags := 10, nameIndex := 11, descriptorIndex := 12, attributes := #[] }, { accessFlags := 10, nameIndex := 20, descriptorIndex := 21, attributes := #[] }, { accessFlags := 10, nameIndex := 24, descriptorIndex := 21, attributes := #[] }, { accessFlags := 10, nameIndex := 27, descriptorIndex := 28, attributes := #[] }, { accessFlags := 10, nameIndex := 36, descriptorIndex := 37, attributes := #[] }, { accessFlags := 9, nameIndex := 45, descriptorIndex := 46, attributes := #[] }] 49 2 #[] #[])
  fields := #[]
  methods := #[k1m0, k1m1, k1m2, k1m3, k1m4, k1m5, k1m6]
  instanceTypes := #[]
  staticTypes := #[]
  resolved := Array.replicate 49 none
  statics := none }

def pool2 : Array CpInfo := pool [(1, .class_ 2), (0, u "java/io/Serializable"), (0, .class_ 4), (0, u "java/lang/Object")] 2

/-- java/io/Serializable -/
def k2 : Class := { plain "java/io/Serializable" (some 0) with
  accessFlags := 1537
  interfaces := #[]
  cf := some (fileOf pool2 1 #[] #[] 1537 3 #[] #[])
  fields := #[]
  methods := #[]
  instanceTypes := #[]
  staticTypes := #[]
  resolved := Array.replicate 7 none
  statics := none }

def pool3 : Array CpInfo := pool [(1, .class_ 2), (0, u "java/lang/Comparable"), (0, .class_ 4), (0, u "java/lang/Object")] 7

/-- java/lang/Comparable -/
def k3 : Class := { plain "java/lang/Comparable" (some 0) with
  accessFlags := 1537
  interfaces := #[]
  cf := some (fileOf pool3 1 #[] #[] 1537 3 #[] #[])
  fields := #[]
  methods := #[]
  instanceTypes := #[]
  staticTypes := #[]
  resolved := Array.replicate 12 none
  statics := none }

def pool4 : Array CpInfo := pool [(2, .class_ 4), (1, u "java/lang/CharSequence"), (42, .class_ 48), (0, u "java/lang/CharSequence$1CodePointIterator"), (10, .class_ 60), (0, u "java/lang/CharSequence$1CharIterator"), (5, .class_ 67), (0, u "java/lang/Object")] 63

/-- java/lang/CharSequence -/
def k4 : Class := { plain "java/lang/CharSequence" (some 0) with
  accessFlags := 1537
  interfaces := #[]
  cf := some (fileOf pool4 2 #[.nestMembers #[47, 59]] #[] 1537 66 #[] #[])
  fields := #[]
  methods := #[]
  instanceTypes := #[]
  staticTypes := #[]
  resolved := Array.replicate 131 none
  statics := none }

def pool5 : Array CpInfo := pool [(1, .class_ 2), (0, u "java/lang/constant/Constable"), (0, .class_ 4), (0, u "java/lang/Object")] 6

/-- java/lang/constant/Constable -/
def k5 : Class := { plain "java/lang/constant/Constable" (some 0) with
  accessFlags := 1537
  interfaces := #[]
  cf := some (fileOf pool5 1 #[] #[] 1537 3 #[] #[])
  fields := #[]
  methods := #[]
  instanceTypes := #[]
  staticTypes := #[]
  resolved := Array.replicate 11 none
  statics := none }

def pool6 : Array CpInfo := pool [(1, .class_ 2), (0, u "java/lang/constant/ConstantDesc"), (0, .class_ 4), (0, u "java/lang/Object")] 32

/-- java/lang/constant/ConstantDesc -/
def k6 : Class := { plain "java/lang/constant/ConstantDesc" (some 0) with
  accessFlags := 1537
  interfaces := #[]
  cf := some (fileOf pool6 1 #[] #[] 1537 3 #[] #[])
  fields := #[]
  methods := #[]
  instanceTypes := #[]
  staticTypes := #[]
  resolved := Array.replicate 37 none
  statics := none }

def pool7 : Array CpInfo := pool [(1, .methodref 2 3), (0, .class_ 4), (0, .nameAndType 5 6), (0, u "java/lang/Object"), (0, u "<init>"), (0, u "()V"), (0, .string 8), (0, u ""), (0, .fieldref 10 11), (0, .class_ 12), (0, .nameAndType 13 14), (0, u "java/lang/String"), (0, u "value"), (0, u "[B"), (0, .fieldref 10 16), (0, .nameAndType 17 18), (0, u "coder"), (0, u "B"), (2, u "hash"), (0, u "I"), (2, u "hashIsZero"), (0, u "Z"), (0, .methodref 10 28), (0, .nameAndType 5 29), (0, u "([CIILjava/lang/Void;)V"), (8, .fieldref 10 39), (0, .nameAndType 40 26), (0, u "COMPACT_STRINGS"), (1, .class_ 44), (1, u "java/lang/StringUTF16"), (0, u "compress"), (1, .methodref 42 48), (0, .nameAndType 49 50), (0, u "coderFromArrayLen"), (0, u "([BI)B"), (56, .class_ 109), (1, u "java/lang/StringLatin1"), (67, .methodref 42 178), (0, .nameAndType 45 179), (0, u "([CII)[B"), (361, .methodref 107 542), (0, .nameAndType 543 544), (0, u "equals"), (0, u "([B[B)Z"), (28, u "(Ljava/lang/Object;)Z"), (1, .class_ 576), (0, u "java/lang/CharSequence"), (22, u "CASE_INSENSITIVE_ORDER"), (0, u "Ljava/util/Comparator;"), (409, u "([C)V"), (90, u "serialPersistentFields"), (0, u "[Ljava/io/ObjectStreamField;"), (0, .class_ 1104), (0, u "java/lang/String$CaseInsensitiveComparator"), (1, .class_ 1107), (0, u "java/io/Serializable"), (0, .class_ 1109), (0, u "java/lang/Comparable"), (0, .class_ 1111), (0, u "java/lang/constant/Constable"), (0, .class_ 1113), (0, u "java/lang/constant/ConstantDesc"), (2, u "serialVersionUID"), (0, u "J"), (3, u "REPL"), (0, u "C"), (2, u "LATIN1"), (1, u "UTF16")] 323

def k7m0 : Method := { name := "<init>", desc := "()V", sig := { parameters := [], returnType := none }, accessFlags := 1, code := none }
def k7c1 : Code := { maxStack := 5, maxLocals := 2, code := jdk_42_method_3_code, exceptionTable := #[], attributes := #[] }
def k7m1 : Method := { name := "<init>", desc := "([C)V", sig := { parameters := [(.array .char)], returnType := none }, accessFlags := 1, code := some k7c1 }
def k7c2 : Code := { maxStack := 2, maxLocals := 3, code := jdk_42_method_66_code, exceptionTable := #[], attributes := #[] }
def k7m2 : Method := { name := "equals", desc := "(Ljava/lang/Object;)Z", sig := { parameters := [(.object "java/lang/Object")], returnType := some .boolean }, accessFlags := 1, code := some k7c2 }
def k7c3 : Code := { maxStack := 4, maxLocals := 6, code := jdk_42_method_149_code, exceptionTable := #[], attributes := #[] }
def k7m3 : Method := { name := "<init>", desc := "([CIILjava/lang/Void;)V", sig := { parameters := [(.array .char), .int, .int, (.object "java/lang/Void")], returnType := none }, accessFlags := 2, code := some k7c3 }
/-- java/lang/String -/
def k7 : Class := { plain "java/lang/String" (some 0) with
  accessFlags := 49
  interfaces := #[2, 3, 4, 5, 6]
  cf := some (fileOf pool7 10 #[.nestMembers #[1103]] #[{ accessFlags := 1, nameIndex := 5, descriptorIndex := 6, attributes := #[] }, { accessFlags := 1, nameIndex := 5, descriptorIndex := 1010, attributes := #[] }, { accessFlags := 1, nameIndex := 543, descriptorIndex := 573, attributes := #[] }, { accessFlags := 2, nameIndex := 5, descriptorIndex := 29, attributes := #[] }] 49 2 #[1106, 1108, 575, 1110, 1112] #[{ accessFlags := 18, nameIndex := 13, descriptorIndex := 14, attributes := #[] }, { accessFlags := 18, nameIndex := 17, descriptorIndex := 18, attributes := #[] }, { accessFlags := 2, nameIndex := 21, descriptorIndex := 22, attributes := #[] }, { accessFlags := 2, nameIndex := 25, descriptorIndex := 26, attributes := #[] }, { accessFlags := 26, nameIndex := 1116, descriptorIndex := 1117, attributes := #[] }, { accessFlags := 24, nameIndex := 40, descriptorIndex := 26, attributes := #[] }, { accessFlags := 26, nameIndex := 1101, descriptorIndex := 1102, attributes := #[] }, { accessFlags := 26, nameIndex := 1121, descriptorIndex := 1122, attributes := #[] }, { accessFlags := 25, nameIndex := 599, descriptorIndex := 600, attributes := #[] }, { accessFlags := 24, nameIndex := 1125, descriptorIndex := 18, attributes := #[] }, { accessFlags := 24, nameIndex := 1127, descriptorIndex := 18, attributes := #[] }])
  fields := #[{ name := "value", type := (.array .byte), accessFlags := 18, slot := 0, constantValue := 0 }, { name := "coder", type := .byte, accessFlags := 18, slot := 1, constantValue := 0 }, { name := "hash", type := .int, accessFlags := 2, slot := 2, constantValue := 0 }, { name := "hashIsZero", type := .boolean, accessFlags := 2, slot := 3, constantValue := 0 }, { name := "serialVersionUID", type := .long, accessFlags := 26, slot := 0, constantValue := 0 }, { name := "COMPACT_STRINGS", type := .boolean, accessFlags := 24, slot := 1, constantValue := 0 }, { name := "serialPersistentFields", type := (.array (.object "java/io/ObjectStreamField")), accessFlags := 26, slot := 2, constantValue := 0 }, { name := "REPL", type := .char, accessFlags := 26, slot := 3, constantValue := 0 }, { name := "CASE_INSENSITIVE_ORDER", type := (.object "java/util/Comparator"), accessFlags := 25, slot := 4, constantValue := 0 }, { name := "LATIN1", type := .byte, accessFlags := 24, slot := 5, constantValue := 0 }, { name := "UTF16", type := .byte, accessFlags := 24, slot := 6, constantValue := 0 }]
  methods := #[k7m0, k7m1, k7m2, k7m3]
  instanceTypes := #[(.array .byte), .byte, .int, .boolean]
  staticTypes := #[.long, .boolean, (.array (.object "java/io/ObjectStreamField")), .char, (.object "java/util/Comparator"), .byte, .byte]
  resolved := Array.replicate 1451 none
  statics := some 0 }

def pool8 : Array CpInfo := pool [(1, .methodref 2 3), (0, .class_ 4), (0, .nameAndType 5 6), (0, u "java/lang/Object"), (0, u "<init>"), (0, u "()V"), (0, .class_ 8), (0, u "java/lang/Record")] 13

def k8c0 : Code := { maxStack := 1, maxLocals := 1, code := jdk_30_method_1_code, exceptionTable := #[], attributes := #[] }
def k8m0 : Method := { name := "<init>", desc := "()V", sig := { parameters := [], returnType := none }, accessFlags := 4, code := some k8c0 }
/-- java/lang/Record -/
def k8 : Class := { plain "java/lang/Record" (some 0) with
  accessFlags := 1057
  interfaces := #[]
  cf := some (fileOf pool8 7 #[] #[{ accessFlags := 4, nameIndex := 5, descriptorIndex := 6, attributes := #[] }] 1057 2 #[] #[])
  fields := #[]
  methods := #[k8m0]
  instanceTypes := #[]
  staticTypes := #[]
  resolved := Array.replicate 22 none
  statics := none }

def pool9 : Array CpInfo := pool [(1, .methodref 2 3), (0, .class_ 4), (0, .nameAndType 5 6), (0, u "java/lang/Record"), (0, u "<init>"), (0, u "()V"), (0, .fieldref 8 9), (0, .class_ 10), (0, .nameAndType 11 12), (0, u "com/example/vestbook/vestbook/Origin"), (0, u "command"), (0, u "Ljava/lang/String;"), (0, .fieldref 8 14), (0, .nameAndType 15 12), (0, u "file"), (0, .fieldref 8 17), (0, .nameAndType 18 12), (0, u "sha256"), (43, u "(Ljava/lang/String;Ljava/lang/String;Ljava/lang/String;)V"), (0, .methodref 64 65), (0, .class_ 66), (0, .nameAndType 67 68), (0, u "java/lang/String"), (0, u "equals"), (0, u "(Ljava/lang/Object;)Z"), (16, u "repeats"), (0, u "(Lcom/example/vestbook/vestbook/Origin;)Z")] 23

def k9c0 : Code := { maxStack := 2, maxLocals := 4, code := prog_34_method_1_code, exceptionTable := #[], attributes := #[] }
def k9m0 : Method := { name := "<init>", desc := "(Ljava/lang/String;Ljava/lang/String;Ljava/lang/String;)V", sig := { parameters := [(.object "java/lang/String"), (.object "java/lang/String"), (.object "java/lang/String")], returnType := none }, accessFlags := 0, code := some k9c0 }
def k9c1 : Code := { maxStack := 2, maxLocals := 2, code := prog_34_method_4_code, exceptionTable := #[], attributes := #[] }
def k9m1 : Method := { name := "repeats", desc := "(Lcom/example/vestbook/vestbook/Origin;)Z", sig := { parameters := [(.object "com/example/vestbook/vestbook/Origin")], returnType := some .boolean }, accessFlags := 0, code := some k9c1 }
/-- com/example/vestbook/vestbook/Origin -/
def k9 : Class := { plain "com/example/vestbook/vestbook/Origin" (some 8) with
  accessFlags := 48
  interfaces := #[]
  cf := some (fileOf pool9 8 #[] #[{ accessFlags := 0, nameIndex := 5, descriptorIndex := 62, attributes := #[] }, { accessFlags := 0, nameIndex := 85, descriptorIndex := 86, attributes := #[] }] 48 2 #[] #[{ accessFlags := 18, nameIndex := 11, descriptorIndex := 12, attributes := #[] }, { accessFlags := 18, nameIndex := 15, descriptorIndex := 12, attributes := #[] }, { accessFlags := 18, nameIndex := 18, descriptorIndex := 12, attributes := #[] }])
  fields := #[{ name := "command", type := (.object "java/lang/String"), accessFlags := 18, slot := 0, constantValue := 0 }, { name := "file", type := (.object "java/lang/String"), accessFlags := 18, slot := 1, constantValue := 0 }, { name := "sha256", type := (.object "java/lang/String"), accessFlags := 18, slot := 2, constantValue := 0 }]
  methods := #[k9m0, k9m1]
  instanceTypes := #[(.object "java/lang/String"), (.object "java/lang/String"), (.object "java/lang/String")]
  staticTypes := #[]
  resolved := Array.replicate 110 none
  statics := none }

def pool10 : Array CpInfo := pool [(4, .class_ 6), (1, u "java/lang/Object"), (0, u "<init>"), (0, u "()V"), (5, .class_ 16), (1, u "java/lang/StringLatin1"), (104, u "$assertionsDisabled"), (0, u "Z"), (98, .class_ 223), (1, u "java/lang/StringLatin1$LinesSpliterator"), (57, u "equals"), (0, u "([B[B)Z"), (107, .class_ 391), (0, u "java/lang/StringLatin1$CharsSpliterator")] 3

def k10m0 : Method := { name := "<init>", desc := "()V", sig := { parameters := [], returnType := none }, accessFlags := 0, code := none }
def k10c1 : Code := { maxStack := 3, maxLocals := 3, code := jdk_43_method_13_code, exceptionTable := #[], attributes := #[] }
def k10m1 : Method := { name := "equals", desc := "([B[B)Z", sig := { parameters := [(.array .byte), (.array .byte)], returnType := some .boolean }, accessFlags := 9, code := some k10c1 }
/-- java/lang/StringLatin1 -/
def k10 : Class := { plain "java/lang/StringLatin1" (some 0) with
  accessFlags := 48
  interfaces := #[]
  cf := some (fileOf pool10 14 #[.nestMembers #[390, 221]] #[{ accessFlags := 0, nameIndex := 7, descriptorIndex := 8, attributes := #[] }, { accessFlags := 9, nameIndex := 281, descriptorIndex := 282, attributes := #[] }] 48 4 #[] #[{ accessFlags := 4120, nameIndex := 121, descriptorIndex := 122, attributes := #[] }])
  fields := #[{ name := "$assertionsDisabled", type := .boolean, accessFlags := 4120, slot := 0, constantValue := 0 }]
  methods := #[k10m0, k10m1]
  instanceTypes := #[]
  staticTypes := #[.boolean]
  resolved := Array.replicate 395 none
  statics := none }

def pool11 : Array CpInfo := pool [(6, .class_ 8), (1, u "java/lang/Object"), (0, u "<init>"), (0, u "()V"), (1, .class_ 14), (1, u "java/lang/StringUTF16"), (31, u "$assertionsDisabled"), (0, u "Z"), (13, u "HI_BYTE_SHIFT"), (0, u "I"), (2, u "LO_BYTE_SHIFT"), (49, .methodref 12 116), (0, .nameAndType 117 118), (0, u "compress"), (0, u "([CI[BII)I"), (3, u "([CII)[B"), (138, u "coderFromArrayLen"), (0, u "([BI)B"), (106, .class_ 371), (1, u "java/lang/StringUTF16$LinesSpliterator"), (58, u "MAX_LENGTH"), (196, .class_ 628), (0, u "java/lang/StringUTF16$CodePointsSpliterator"), (0, .class_ 630), (0, u "java/lang/StringUTF16$CharsSpliterator")] 4

def k11m0 : Method := { name := "<init>", desc := "()V", sig := { parameters := [], returnType := none }, accessFlags := 0, code := none }
def k11c1 : Code := { maxStack := 2, maxLocals := 2, code := jdk_52_method_15_code, exceptionTable := #[], attributes := #[] }
def k11m1 : Method := { name := "coderFromArrayLen", desc := "([BI)B", sig := { parameters := [(.array .byte), .int], returnType := some .byte }, accessFlags := 8, code := some k11c1 }
def k11c2 : Code := { maxStack := 5, maxLocals := 6, code := jdk_52_method_16_code, exceptionTable := #[], attributes := #[] }
def k11m2 : Method := { name := "compress", desc := "([CII)[B", sig := { parameters := [(.array .char), .int, .int], returnType := some (.array .byte) }, accessFlags := 9, code := some k11c2 }
def k11c3 : Code := { maxStack := 3, maxLocals := 7, code := jdk_52_method_21_code, exceptionTable := #[], attributes := #[] }
def k11m3 : Method := { name := "compress", desc := "([CI[BII)I", sig := { parameters := [(.array .char), .int, (.array .byte), .int, .int], returnType := some .int }, accessFlags := 9, code := some k11c3 }
/-- java/lang/StringUTF16 -/
def k11 : Class := { plain "java/lang/StringUTF16" (some 0) with
  accessFlags := 48
  interfaces := #[]
  cf := some (fileOf pool11 12 #[.nestMembers #[627, 629, 369]] #[{ accessFlags := 0, nameIndex := 9, descriptorIndex := 10, attributes := #[] }, { accessFlags := 8, nameIndex := 261, descriptorIndex := 262, attributes := #[] }, { accessFlags := 9, nameIndex := 117, descriptorIndex := 122, attributes := #[] }, { accessFlags := 9, nameIndex := 117, descriptorIndex := 118, attributes := #[] }] 48 6 #[] #[{ accessFlags := 26, nameIndex := 61, descriptorIndex := 62, attributes := #[] }, { accessFlags := 26, nameIndex := 65, descriptorIndex := 62, attributes := #[] }, { accessFlags := 24, nameIndex := 430, descriptorIndex := 62, attributes := #[] }, { accessFlags := 4120, nameIndex := 46, descriptorIndex := 47, attributes := #[] }])
  fields := #[{ name := "HI_BYTE_SHIFT", type := .int, accessFlags := 26, slot := 0, constantValue := 0 }, { name := "LO_BYTE_SHIFT", type := .int, accessFlags := 26, slot := 1, constantValue := 0 }, { name := "MAX_LENGTH", type := .int, accessFlags := 24, slot := 2, constantValue := 0 }, { name := "$assertionsDisabled", type := .boolean, accessFlags := 4120, slot := 3, constantValue := 0 }]
  methods := #[k11m0, k11m1, k11m2, k11m3]
  instanceTypes := #[]
  staticTypes := #[.int, .int, .int, .boolean]
  resolved := Array.replicate 635 none
  statics := none }

def pool12 : Array CpInfo := pool [(2, .class_ 4), (1, u "java/lang/Object"), (0, u "<init>"), (0, u "()V"), (17, .class_ 26), (1, u "jdk/internal/util/Preconditions"), (28, .class_ 56), (0, u "jdk/internal/util/Preconditions$4"), (57, .class_ 115), (0, u "jdk/internal/util/Preconditions$1"), (7, u "SIOOBE_FORMATTER"), (0, u "Ljava/util/function/BiFunction;"), (0, .class_ 126), (0, u "jdk/internal/util/Preconditions$2"), (3, u "AIOOBE_FORMATTER"), (0, .class_ 132), (0, u "jdk/internal/util/Preconditions$3"), (3, u "IOOBE_FORMATTER")] 57

def k12m0 : Method := { name := "<init>", desc := "()V", sig := { parameters := [], returnType := none }, accessFlags := 1, code := none }
/-- jdk/internal/util/Preconditions -/
def k12 : Class := { plain "jdk/internal/util/Preconditions" (some 0) with
  accessFlags := 33
  interfaces := #[]
  cf := some (fileOf pool12 24 #[.nestMembers #[55, 131, 125, 114]] #[{ accessFlags := 1, nameIndex := 5, descriptorIndex := 6, attributes := #[] }] 33 2 #[] #[{ accessFlags := 25, nameIndex := 123, descriptorIndex := 124, attributes := #[] }, { accessFlags := 25, nameIndex := 130, descriptorIndex := 124, attributes := #[] }, { accessFlags := 25, nameIndex := 136, descriptorIndex := 124, attributes := #[] }])
  fields := #[{ name := "SIOOBE_FORMATTER", type := (.object "java/util/function/BiFunction"), accessFlags := 25, slot := 0, constantValue := 0 }, { name := "AIOOBE_FORMATTER", type := (.object "java/util/function/BiFunction"), accessFlags := 25, slot := 1, constantValue := 0 }, { name := "IOOBE_FORMATTER", type := (.object "java/util/function/BiFunction"), accessFlags := 25, slot := 2, constantValue := 0 }]
  methods := #[k12m0]
  instanceTypes := #[]
  staticTypes := #[(.object "java/util/function/BiFunction"), (.object "java/util/function/BiFunction"), (.object "java/util/function/BiFunction")]
  resolved := Array.replicate 194 none
  statics := some 1 }

def pool13 : Array CpInfo := pool [(9, u "<init>"), (6, .class_ 18), (1, u "java/lang/Object"), (0, u "()V"), (1, .class_ 23), (1, u "jdk/internal/util/ArraysSupport"), (0, u "LOG2_ARRAY_LONG_INDEX_SCALE"), (0, u "I"), (2, u "U"), (0, u "Ljdk/internal/misc/Unsafe;"), (8, u "BIG_ENDIAN"), (0, u "Z"), (8, u "LOG2_BYTE_BIT_SIZE"), (4, u "LOG2_ARRAY_INT_INDEX_SCALE"), (54, u "JLA"), (0, u "Ljdk/internal/access/JavaLangAccess;"), (11, u "LOG2_ARRAY_BOOLEAN_INDEX_SCALE"), (9, u "LOG2_ARRAY_BYTE_INDEX_SCALE"), (5, u "LOG2_ARRAY_CHAR_INDEX_SCALE"), (5, u "LOG2_ARRAY_SHORT_INDEX_SCALE"), (18, u "LOG2_ARRAY_FLOAT_INDEX_SCALE"), (24, u "LOG2_ARRAY_DOUBLE_INDEX_SCALE"), (89, u "T_BOOLEAN"), (2, u "T_CHAR"), (1, u "T_FLOAT"), (1, u "T_DOUBLE"), (1, u "T_BYTE"), (1, u "T_SHORT"), (1, u "T_INT"), (1, u "T_LONG"), (1, u "SOFT_MAX_ARRAY_LENGTH")] 83

def k13m0 : Method := { name := "<init>", desc := "()V", sig := { parameters := [], returnType := none }, accessFlags := 2, code := none }
/-- jdk/internal/util/ArraysSupport -/
def k13 : Class := { plain "jdk/internal/util/ArraysSupport" (some 0) with
  accessFlags := 33
  interfaces := #[]
  cf := some (fileOf pool13 21 #[] #[{ accessFlags := 2, nameIndex := 9, descriptorIndex := 19, attributes := #[] }] 33 16 #[] #[{ accessFlags := 24, nameIndex := 28, descriptorIndex := 29, attributes := #[] }, { accessFlags := 26, nameIndex := 38, descriptorIndex := 39, attributes := #[] }, { accessFlags := 25, nameIndex := 121, descriptorIndex := 25, attributes := #[] }, { accessFlags := 25, nameIndex := 131, descriptorIndex := 25, attributes := #[] }, { accessFlags := 25, nameIndex := 137, descriptorIndex := 25, attributes := #[] }, { accessFlags := 25, nameIndex := 143, descriptorIndex := 25, attributes := #[] }, { accessFlags := 25, nameIndex := 53, descriptorIndex := 25, attributes := #[] }, { accessFlags := 25, nameIndex := 24, descriptorIndex := 25, attributes := #[] }, { accessFlags := 25, nameIndex := 162, descriptorIndex := 25, attributes := #[] }, { accessFlags := 25, nameIndex := 187, descriptorIndex := 25, attributes := #[] }, { accessFlags := 26, nameIndex := 48, descriptorIndex := 25, attributes := #[] }, { accessFlags := 25, nameIndex := 277, descriptorIndex := 25, attributes := #[] }, { accessFlags := 25, nameIndex := 280, descriptorIndex := 25, attributes := #[] }, { accessFlags := 25, nameIndex := 282, descriptorIndex := 25, attributes := #[] }, { accessFlags := 25, nameIndex := 284, descriptorIndex := 25, attributes := #[] }, { accessFlags := 25, nameIndex := 286, descriptorIndex := 25, attributes := #[] }, { accessFlags := 25, nameIndex := 288, descriptorIndex := 25, attributes := #[] }, { accessFlags := 25, nameIndex := 290, descriptorIndex := 25, attributes := #[] }, { accessFlags := 25, nameIndex := 292, descriptorIndex := 25, attributes := #[] }, { accessFlags := 26, nameIndex := 108, descriptorIndex := 109, attributes := #[] }, { accessFlags := 25, nameIndex := 294, descriptorIndex := 25, attributes := #[] }])
  fields := #[{ name := "U", type := (.object "jdk/internal/misc/Unsafe"), accessFlags := 24, slot := 0, constantValue := 0 }, { name := "BIG_ENDIAN", type := .boolean, accessFlags := 26, slot := 1, constantValue := 0 }, { name := "LOG2_ARRAY_BOOLEAN_INDEX_SCALE", type := .int, accessFlags := 25, slot := 2, constantValue := 0 }, { name := "LOG2_ARRAY_BYTE_INDEX_SCALE", type := .int, accessFlags := 25, slot := 3, constantValue := 0 }, { name := "LOG2_ARRAY_CHAR_INDEX_SCALE", type := .int, accessFlags := 25, slot := 4, constantValue := 0 }, { name := "LOG2_ARRAY_SHORT_INDEX_SCALE", type := .int, accessFlags := 25, slot := 5, constantValue := 0 }, { name := "LOG2_ARRAY_INT_INDEX_SCALE", type := .int, accessFlags := 25, slot := 6, constantValue := 0 }, { name := "LOG2_ARRAY_LONG_INDEX_SCALE", type := .int, accessFlags := 25, slot := 7, constantValue := 0 }, { name := "LOG2_ARRAY_FLOAT_INDEX_SCALE", type := .int, accessFlags := 25, slot := 8, constantValue := 0 }, { name := "LOG2_ARRAY_DOUBLE_INDEX_SCALE", type := .int, accessFlags := 25, slot := 9, constantValue := 0 }, { name := "LOG2_BYTE_BIT_SIZE", type := .int, accessFlags := 26, slot := 10, constantValue := 0 }, { name := "T_BOOLEAN", type := .int, accessFlags := 25, slot := 11, constantValue := 0 }, { name := "T_CHAR", type := .int, accessFlags := 25, slot := 12, constantValue := 0 }, { name := "T_FLOAT", type := .int, accessFlags := 25, slot := 13, constantValue := 0 }, { name := "T_DOUBLE", type := .int, accessFlags := 25, slot := 14, constantValue := 0 }, { name := "T_BYTE", type := .int, accessFlags := 25, slot := 15, constantValue := 0 }, { name := "T_SHORT", type := .int, accessFlags := 25, slot := 16, constantValue := 0 }, { name := "T_INT", type := .int, accessFlags := 25, slot := 17, constantValue := 0 }, { name := "T_LONG", type := .int, accessFlags := 25, slot := 18, constantValue := 0 }, { name := "JLA", type := (.object "jdk/internal/access/JavaLangAccess"), accessFlags := 26, slot := 19, constantValue := 0 }, { name := "SOFT_MAX_ARRAY_LENGTH", type := .int, accessFlags := 25, slot := 20, constantValue := 0 }]
  methods := #[k13m0]
  instanceTypes := #[]
  staticTypes := #[(.object "jdk/internal/misc/Unsafe"), .boolean, .int, .int, .int, .int, .int, .int, .int, .int, .int, .int, .int, .int, .int, .int, .int, .int, .int, (.object "jdk/internal/access/JavaLangAccess"), .int]
  resolved := Array.replicate 378 none
  statics := none }

def pool14 : Array CpInfo := pool [(1, u "java/lang/Cloneable"), (0, .class_ 1), (0, u "java/lang/Object"), (0, .class_ 3)] 3

/-- java/lang/Cloneable -/
def k14 : Class := { plain "java/lang/Cloneable" (some 0) with
  accessFlags := 1537
  interfaces := #[]
  cf := some (fileOf pool14 2 #[] #[] 1537 4 #[] #[])
  fields := #[]
  methods := #[]
  instanceTypes := #[]
  staticTypes := #[]
  resolved := Array.replicate 8 none
  statics := none }

/-- the primitive byte -/
def k15 : Class := { plain "byte" none with kind := .primitive 'B', accessFlags := 0x411 }
/-- [B -/
def k16 : Class := { plain "[B" (some 0) with kind := .array 15 .byte, interfaces := #[14, 2], accessFlags := 1041 }

/-- the primitive char -/
def k17 : Class := { plain "char" none with kind := .primitive 'C', accessFlags := 0x411 }
/-- [C -/
def k18 : Class := { plain "[C" (some 0) with kind := .array 17 .char, interfaces := #[14, 2], accessFlags := 1041 }

/-- the primitive int -/
def k19 : Class := { plain "int" none with kind := .primitive 'I', accessFlags := 0x411 }
/-- [I -/
def k20 : Class := { plain "[I" (some 0) with kind := .array 19 .int, interfaces := #[14, 2], accessFlags := 1041 }

def heap : Heap := #[{ cls := 7, slots := #[.long 0, .int 1, .null, .int 0, .null, .int 0, .int 0], vm := .statics 7 },
  { cls := 12, slots := #[.null, .null, .null], vm := .statics 12 }]
def classes : Array Class := #[k0, k1, k2, k3, k4, k5, k6, k7, k8, k9, k10, k11, k12, k13, k14, k15, k16, k17, k18, k19, k20]
def interned : List (Array UInt16 × Addr) := []
def slotsUsed : Nat := 10
def theMethod : MethodId := ⟨1, 6⟩
def args0 : Array Value := #[.int 5, .int 5, .int 5, .int 5, .int 5, .int 5]
def aboutOver (below : List Frame) : State where
  vm := { classes := classes, interned := interned.toArray }
  heap := heap
  slotsUsed := slotsUsed
  threads := #[{ frames := .invoking theMethod args0 :: below }]
def below0 : List Frame := [.native { method := ⟨0, 0⟩, args := #[] }]
def about1 : State := aboutOver below0
def p0 : Program := .bare "" "" ""
def e0 : Env := launch0.env 0 0 0
theorem w_frames : about1.frames = Frame.invoking theMethod args0 :: below0 := rfl
set_option maxRecDepth 65536 in
theorem w_args : argsFit about1.vm theMethod args0 = true := by decide +kernel
set_option maxRecDepth 65536 in
theorem w_heap : heapFits about1 = true := by decide +kernel
set_option maxRecDepth 65536 in
theorem w_runnable : about1.curStatus? = some .runnable := by decide +kernel
set_option maxRecDepth 65536 in
theorem w_alone : about1.alone = true := by decide +kernel
set_option maxRecDepth 65536 in
theorem w_named : about1.methodNamed? x = some theMethod := by decide +kernel
set_option maxRecDepth 65536 in
theorem w_hears : about1.hears theMethod below0 = true := by decide +kernel
set_option maxRecDepth 65536 in
theorem w_ripe : about1.ripe theMethod args0 below0 = true := by decide +kernel
theorem w_running : about1.status = .running := rfl
set_option maxRecDepth 65536 in
theorem w_room : about1.hasRoom e0.platform room_1 = true :=
  launch0.hasRoom_least _ room_1 (by decide +kernel) (by decide +kernel) (by decide +kernel) (by decide +kernel) (by decide +kernel) (by decide +kernel)
theorem allAtoms_all (ts : List Jvm.Cond) (a : Array Jvm.Value) (st : Jvm.State) : (allAtoms ts).before a st = ts.all (fun c => c.before a st) := by
  induction ts with
  | nil => rfl
  | cons c t ih =>
    show (Jvm.Cond.and c (allAtoms t)).before a st = _
    rw [Jvm.Cond.before_and, ih, List.all_cons]
def words1 : List Jvm.Cond := Jvm.Cond.code x code maxLocals ret :: tables_1
/-- a 'code' word, met by the world's own term for the bytes: nothing is compared byte by byte -/
theorem code_word {y : MethodName} {bytes : ByteArray} {mx : Nat} {rt : Option FieldType} {a : Array Value} {s : State} {m : MethodId} {meth : Method} {c : Code} (h1 : s.methodNamed? y = some m) (h2 : s.vm.method? m = some meth) (h3 : meth.code = some c) (h4 : c.code = bytes)
    (h5 : (c.maxLocals == mx && c.exceptionTable.isEmpty && decide (c.maxStack ≤ mostOperands) && decide (meth.sig.returnType = rt) && !meth.locks && decide (parseMethodDescriptor y.desc = some meth.sig)) = true) : (Jvm.Cond.code y bytes mx rt).before a s = true := by
  simp only [Bool.and_eq_true, beq_iff_eq, Bool.not_eq_true', decide_eq_true_eq] at h5
  obtain ⟨⟨⟨⟨⟨g1, g2⟩, g3⟩, g4⟩, g5⟩, g6⟩ := h5
  simp [Cond.before, Cond.holds, Cond.value, h1, h2, h3, h4, g1, g2, g3, g4, g5, g6]
def isCode : Jvm.Cond → Bool
  | .code _ _ _ _ => true
  | _ => false
theorem all_split {L : List Jvm.Cond} {P : Jvm.Cond → Bool} (h1 : L.all (fun c => isCode c || P c) = true) (h2 : ∀ c ∈ L.filter isCode, P c = true) : L.all P = true := by
  refine List.all_eq_true.mpr fun c hc => ?_
  have h := List.all_eq_true.mp h1 c hc
  rcases Bool.eq_false_or_eq_true (isCode c) with hi | hi
  · exact h2 c (List.mem_filter.mpr ⟨hc, hi⟩)
  · simpa [hi] using h
set_option maxRecDepth 65536 in
theorem w_c0 : (Jvm.Cond.code x code maxLocals ret).before args0 about1 = true := code_word (m := ⟨1, 6⟩) (meth := k1m6) (c := k1c6) (by decide +kernel) rfl rfl rfl (by decide +kernel)
set_option maxRecDepth 65536 in
theorem w_c1 : (Jvm.Cond.code ({ cls := "com/example/vestbook/vestbook/OriginRepeatsPinLaw", name := "mk", desc := "(I)Ljava/lang/String;" } : Jvm.MethodName) method_5_code (3 : Nat) (Option.some (Jvm.ClassFile.FieldType.object "java/lang/String"))).before args0 about1 = true := code_word (m := ⟨1, 4⟩) (meth := k1m4) (c := k1c4) (by decide +kernel) rfl rfl rfl (by decide +kernel)
set_option maxRecDepth 65536 in
theorem w_c2 : (Jvm.Cond.code ({ cls := "com/example/vestbook/vestbook/OriginRepeatsPinLaw", name := "len", desc := "(I)I" } : Jvm.MethodName) method_2_code (1 : Nat) (Option.some Jvm.ClassFile.FieldType.int)).before args0 about1 = true := code_word (m := ⟨1, 1⟩) (meth := k1m1) (c := k1c1) (by decide +kernel) rfl rfl rfl (by decide +kernel)
set_option maxRecDepth 65536 in
theorem w_c3 : (Jvm.Cond.code ({ cls := "java/lang/String", name := "<init>", desc := "([C)V" } : Jvm.MethodName) jdk_42_method_3_code (2 : Nat) (Option.none : Option Jvm.ClassFile.FieldType)).before args0 about1 = true := code_word (m := ⟨7, 1⟩) (meth := k7m1) (c := k7c1) (by decide +kernel) rfl rfl rfl (by decide +kernel)
set_option maxRecDepth 65536 in
theorem w_c4 : (Jvm.Cond.code ({ cls := "java/lang/String", name := "<init>", desc := "([CIILjava/lang/Void;)V" } : Jvm.MethodName) jdk_42_method_149_code (6 : Nat) (Option.none : Option Jvm.ClassFile.FieldType)).before args0 about1 = true := code_word (m := ⟨7, 3⟩) (meth := k7m3) (c := k7c3) (by decide +kernel) rfl rfl rfl (by decide +kernel)
set_option maxRecDepth 65536 in
theorem w_c5 : (Jvm.Cond.code ({ cls := "java/lang/Object", name := "<init>", desc := "()V" } : Jvm.MethodName) object_method_1_code (1 : Nat) (Option.none : Option Jvm.ClassFile.FieldType)).before args0 about1 = true := code_word (m := ⟨0, 0⟩) (meth := k0m0) (c := k0c0) (by decide +kernel) rfl rfl rfl (by decide +kernel)
set_option maxRecDepth 65536 in
theorem w_c6 : (Jvm.Cond.code ({ cls := "com/example/vestbook/vestbook/Origin", name := "<init>", desc := "(Ljava/lang/String;Ljava/lang/String;Ljava/lang/String;)V" } : Jvm.MethodName) prog_34_method_1_code (4 : Nat) (Option.none : Option Jvm.ClassFile.FieldType)).before args0 about1 = true := code_word (m := ⟨9, 0⟩) (meth := k9m0) (c := k9c0) (by decide +kernel) rfl rfl rfl (by decide +kernel)
set_option maxRecDepth 65536 in
theorem w_c7 : (Jvm.Cond.code ({ cls := "java/lang/Record", name := "<init>", desc := "()V" } : Jvm.MethodName) jdk_30_method_1_code (1 : Nat) (Option.none : Option Jvm.ClassFile.FieldType)).before args0 about1 = true := code_word (m := ⟨8, 0⟩) (meth := k8m0) (c := k8c0) (by decide +kernel) rfl rfl rfl (by decide +kernel)
set_option maxRecDepth 65536 in
theorem w_c8 : (Jvm.Cond.code ({ cls := "com/example/vestbook/vestbook/OriginRepeatsPinLaw", name := "same", desc := "(II)Z" } : Jvm.MethodName) method_6_code (3 : Nat) (Option.some Jvm.ClassFile.FieldType.boolean)).before args0 about1 = true := code_word (m := ⟨1, 5⟩) (meth := k1m5) (c := k1c5) (by decide +kernel) rfl rfl rfl (by decide +kernel)
set_option maxRecDepth 65536 in
theorem w_c9 : (Jvm.Cond.code ({ cls := "com/example/vestbook/vestbook/Origin", name := "repeats", desc := "(Lcom/example/vestbook/vestbook/Origin;)Z" } : Jvm.MethodName) prog_34_method_4_code (2 : Nat) (Option.some Jvm.ClassFile.FieldType.boolean)).before args0 about1 = true := code_word (m := ⟨9, 1⟩) (meth := k9m1) (c := k9c1) (by decide +kernel) rfl rfl rfl (by decide +kernel)
set_option maxRecDepth 65536 in
theorem w_c10 : (Jvm.Cond.code ({ cls := "java/lang/String", name := "equals", desc := "(Ljava/lang/Object;)Z" } : Jvm.MethodName) jdk_42_method_66_code (3 : Nat) (Option.some Jvm.ClassFile.FieldType.boolean)).before args0 about1 = true := code_word (m := ⟨7, 2⟩) (meth := k7m2) (c := k7c2) (by decide +kernel) rfl rfl rfl (by decide +kernel)
set_option maxRecDepth 65536 in
theorem w_c11 : (Jvm.Cond.code ({ cls := "java/lang/StringLatin1", name := "equals", desc := "([B[B)Z" } : Jvm.MethodName) jdk_43_method_13_code (3 : Nat) (Option.some Jvm.ClassFile.FieldType.boolean)).before args0 about1 = true := code_word (m := ⟨10, 1⟩) (meth := k10m1) (c := k10c1) (by decide +kernel) rfl rfl rfl (by decide +kernel)
set_option maxRecDepth 65536 in
theorem w_c12 : (Jvm.Cond.code ({ cls := "com/example/vestbook/vestbook/OriginRepeatsPinLaw", name := "c0", desc := "(I)C" } : Jvm.MethodName) method_3_code (1 : Nat) (Option.some Jvm.ClassFile.FieldType.char)).before args0 about1 = true := code_word (m := ⟨1, 2⟩) (meth := k1m2) (c := k1c2) (by decide +kernel) rfl rfl rfl (by decide +kernel)
set_option maxRecDepth 65536 in
theorem w_c13 : (Jvm.Cond.code ({ cls := "com/example/vestbook/vestbook/OriginRepeatsPinLaw", name := "c1", desc := "(I)C" } : Jvm.MethodName) method_4_code (1 : Nat) (Option.some Jvm.ClassFile.FieldType.char)).before args0 about1 = true := code_word (m := ⟨1, 3⟩) (meth := k1m3) (c := k1c3) (by decide +kernel) rfl rfl rfl (by decide +kernel)
set_option maxRecDepth 65536 in
theorem w_c14 : (Jvm.Cond.code ({ cls := "java/lang/StringUTF16", name := "compress", desc := "([CII)[B" } : Jvm.MethodName) jdk_52_method_16_code (6 : Nat) (Option.some (Jvm.ClassFile.FieldType.array Jvm.ClassFile.FieldType.byte))).before args0 about1 = true := code_word (m := ⟨11, 2⟩) (meth := k11m2) (c := k11c2) (by decide +kernel) rfl rfl rfl (by decide +kernel)
set_option maxRecDepth 65536 in
theorem w_c15 : (Jvm.Cond.code ({ cls := "java/lang/StringUTF16", name := "compress", desc := "([CI[BII)I" } : Jvm.MethodName) jdk_52_method_21_code (7 : Nat) (Option.some Jvm.ClassFile.FieldType.int)).before args0 about1 = true := code_word (m := ⟨11, 3⟩) (meth := k11m3) (c := k11c3) (by decide +kernel) rfl rfl rfl (by decide +kernel)
set_option maxRecDepth 65536 in
theorem w_c16 : (Jvm.Cond.code ({ cls := "java/lang/StringUTF16", name := "coderFromArrayLen", desc := "([BI)B" } : Jvm.MethodName) jdk_52_method_15_code (2 : Nat) (Option.some Jvm.ClassFile.FieldType.byte)).before args0 about1 = true := code_word (m := ⟨11, 1⟩) (meth := k11m1) (c := k11c1) (by decide +kernel) rfl rfl rfl (by decide +kernel)
def codes1 : List Jvm.Cond := [Jvm.Cond.code x code maxLocals ret, Jvm.Cond.code ({ cls := "com/example/vestbook/vestbook/OriginRepeatsPinLaw", name := "mk", desc := "(I)Ljava/lang/String;" } : Jvm.MethodName) method_5_code (3 : Nat) (Option.some (Jvm.ClassFile.FieldType.object "java/lang/String")), Jvm.Cond.code ({ cls := "com/example/vestbook/vestbook/OriginRepeatsPinLaw", name := "len", desc := "(I)I" } : Jvm.MethodName) method_2_code (1 : Nat) (Option.some Jvm.ClassFile.FieldType.int), Jvm.Cond.code ({ cls := "java/lang/String", name := "<init>", desc := "([C)V" } : Jvm.MethodName) jdk_42_method_3_code (2 : Nat) (Option.none : Option Jvm.ClassFile.FieldType), Jvm.Cond.code ({ cls := "java/lang/String", name := "<init>", desc := "([CIILjava/lang/Void;)V" } : Jvm.MethodName) jdk_42_method_149_code (6 : Nat) (Option.none : Option Jvm.ClassFile.FieldType), Jvm.Cond.code ({ cls := "java/lang/Object", name := "<init>", desc := "()V" } : Jvm.MethodName) object_method_1_code (1 : Nat) (Option.none : Option Jvm.ClassFile.FieldType), Jvm.Cond.code ({ cls := "com/example/vestbook/vestbook/Origin", name := "<init>", desc := "(Ljava/lang/String;Ljava/lang/String;Ljava/lang/String;)V" } : Jvm.MethodName) prog_34_method_1_code (4 : Nat) (Option.none : Option Jvm.ClassFile.FieldType), Jvm.Cond.code ({ cls := "java/lang/Record", name := "<init>", desc := "()V" } : Jvm.MethodName) jdk_30_method_1_code (1 : Nat) (Option.none : Option Jvm.ClassFile.FieldType), Jvm.Cond.code ({ cls := "com/example/vestbook/vestbook/OriginRepeatsPinLaw", name := "same", desc := "(II)Z" } : Jvm.MethodName) method_6_code (3 : Nat) (Option.some Jvm.ClassFile.FieldType.boolean), Jvm.Cond.code ({ cls := "com/example/vestbook/vestbook/Origin", name := "repeats", desc := "(Lcom/example/vestbook/vestbook/Origin;)Z" } : Jvm.MethodName) prog_34_method_4_code (2 : Nat) (Option.some Jvm.ClassFile.FieldType.boolean), Jvm.Cond.code ({ cls := "java/lang/String", name := "equals", desc := "(Ljava/lang/Object;)Z" } : Jvm.MethodName) jdk_42_method_66_code (3 : Nat) (Option.some Jvm.ClassFile.FieldType.boolean), Jvm.Cond.code ({ cls := "java/lang/StringLatin1", name := "equals", desc := "([B[B)Z" } : Jvm.MethodName) jdk_43_method_13_code (3 : Nat) (Option.some Jvm.ClassFile.FieldType.boolean), Jvm.Cond.code ({ cls := "com/example/vestbook/vestbook/OriginRepeatsPinLaw", name := "c0", desc := "(I)C" } : Jvm.MethodName) method_3_code (1 : Nat) (Option.some Jvm.ClassFile.FieldType.char), Jvm.Cond.code ({ cls := "com/example/vestbook/vestbook/OriginRepeatsPinLaw", name := "c1", desc := "(I)C" } : Jvm.MethodName) method_4_code (1 : Nat) (Option.some Jvm.ClassFile.FieldType.char), Jvm.Cond.code ({ cls := "java/lang/StringUTF16", name := "compress", desc := "([CII)[B" } : Jvm.MethodName) jdk_52_method_16_code (6 : Nat) (Option.some (Jvm.ClassFile.FieldType.array Jvm.ClassFile.FieldType.byte)), Jvm.Cond.code ({ cls := "java/lang/StringUTF16", name := "compress", desc := "([CI[BII)I" } : Jvm.MethodName) jdk_52_method_21_code (7 : Nat) (Option.some Jvm.ClassFile.FieldType.int), Jvm.Cond.code ({ cls := "java/lang/StringUTF16", name := "coderFromArrayLen", desc := "([BI)B" } : Jvm.MethodName) jdk_52_method_15_code (2 : Nat) (Option.some Jvm.ClassFile.FieldType.byte)]
set_option maxRecDepth 65536 in
theorem codes_eq : words1.filter isCode = codes1 := rfl
theorem w_codes : ∀ c ∈ words1.filter isCode, c.before args0 about1 = true := by
  rw [codes_eq]
  intro c hc
  simp only [codes1, List.mem_cons, List.not_mem_nil, or_false] at hc
  rcases hc with rfl | rfl | rfl | rfl | rfl | rfl | rfl | rfl | rfl | rfl | rfl | rfl | rfl | rfl | rfl | rfl | rfl
  · exact w_c0
  · exact w_c1
  · exact w_c2
  · exact w_c3
  · exact w_c4
  · exact w_c5
  · exact w_c6
  · exact w_c7
  · exact w_c8
  · exact w_c9
  · exact w_c10
  · exact w_c11
  · exact w_c12
  · exact w_c13
  · exact w_c14
  · exact w_c15
  · exact w_c16
set_option maxRecDepth 65536 in
theorem w_t1 : (words1.take 24).all (fun c => isCode c || c.before args0 about1) = true := by decide +kernel
set_option maxRecDepth 65536 in
theorem w_t2 : ((words1.drop 24).take 24).all (fun c => isCode c || c.before args0 about1) = true := by decide +kernel
set_option maxRecDepth 65536 in
theorem w_t3 : (((words1.drop 24).drop 24).take 24).all (fun c => isCode c || c.before args0 about1) = true := by decide +kernel
set_option maxRecDepth 65536 in
theorem w_t4 : (((words1.drop 24).drop 24).drop 24).all (fun c => isCode c || c.before args0 about1) = true := by decide +kernel
theorem w_tables : (allAtoms (Jvm.Cond.code x code maxLocals ret :: tables_1)).before args0 about1 = true := by
  rw [allAtoms_all]
  show words1.all (fun c => c.before args0 about1) = true
  refine all_split ?_ w_codes
  rw [← List.take_append_drop 24 words1, List.all_append, w_t1, ← List.take_append_drop 24 (words1.drop 24), List.all_append, w_t2, ← List.take_append_drop 24 ((words1.drop 24).drop 24), List.all_append, w_t3, w_t4]
  rfl
set_option maxRecDepth 65536 in
theorem w_rest : rest_1_c.before args0 about1 = true := by decide +kernel
set_option maxRecDepth 65536 in
theorem w_case : (Jvm.Cond.and given_1 narrow_1).before args0 about1 = true := by decide +kernel
set_option maxRecDepth 65536 in
theorem w_consts : constsHeld consts_1 about1 := Jvm.Lit.constsHeldB_iff.mp (by decide +kernel)
theorem w_applies : (headSpec (Jvm.Cond.code x code maxLocals ret :: tables_1) room_1).applies x e0.platform about1 = true :=
  (Spec.applies_iff w_frames).mpr ⟨w_running, w_runnable, w_alone, w_named, w_hears, w_ripe, w_room, w_tables⟩
theorem atStart : AtStart classFile x code maxLocals ret World_1 tables_1 room_1 Calls_1 rest_1 Pre_1 launch0 p0 e0 about1 theMethod args0 below0 :=
  ⟨lists_1, trivial, launch0.admits_env _ _ _, launch0.least_env, fairChoices_fair.cas, fairChoices_fair.clock, w_frames, w_args, w_heap, w_applies, ⟨w_consts, trivial⟩, w_rest, w_case⟩
end start1
theorem witness_1 : WitnessClaimed_1 := ⟨start1.p0, start1.e0, start1.about1, start1.theMethod, start1.args0, start1.below0, start1.atStart⟩
end Jvm.Pilot.@@N@@
